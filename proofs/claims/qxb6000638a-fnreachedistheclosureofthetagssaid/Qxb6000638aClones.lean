import Derived.Test.Qxb6000638aBytes
import Derived.Test.Qxb6000638aCall
namespace Go.Proofs.Qxb6000638a.Rch
open Go.RowKit

theorem info37 : (Try.prog.info? 37).map (fun i => (i.zero, i.size, i.bytes)) = some (some (.agg #[.int .i64 0, .string ByteArray.empty]), 2, 24) := by kernel_rfl
theorem info39 : (Try.prog.info? 39).map (fun i => (i.zero, i.size, i.bytes)) = some (some (.agg #[.int .i64 0, .string ByteArray.empty, .string ByteArray.empty]), 3, 40) := by kernel_rfl

def flat3 (Ks : List (K × ByteArray)) : List Value := Ks.flatMap (fun p => [.int .i64 p.1.1, .string p.1.2, .string p.2])
theorem flat3_length (Ks : List (K × ByteArray)) : (flat3 Ks).length = Ks.length * 3 := by
  induction Ks with
  | nil => rfl
  | cons k ks ih => simp [flat3] at ih ⊢; omega
theorem flat_at (T : List K) (j : Nat) (h : j < T.length) : (flat T)[j * 2]? = some (.int .i64 T[j].1) ∧ (flat T)[j * 2 + 1]? = some (.string T[j].2) := by
  induction T generalizing j with
  | nil => simp at h
  | cons k T ih =>
    cases j with
    | zero => simp [flat]
    | succ j =>
      have := ih j (by simpa using h)
      have e : (j + 1) * 2 = j * 2 + 2 := by omega
      rw [e]
      simpa [flat] using this
theorem flat3_at (T : List (K × ByteArray)) (j : Nat) (h : j < T.length) : (flat3 T)[j * 3]? = some (.int .i64 T[j].1.1) ∧ (flat3 T)[j * 3 + 1]? = some (.string T[j].1.2) ∧ (flat3 T)[j * 3 + 2]? = some (.string T[j].2) := by
  induction T generalizing j with
  | nil => simp at h
  | cons k T ih =>
    cases j with
    | zero => simp [flat3]
    | succ j =>
      have := ih j (by simpa using h)
      have e : (j + 1) * 3 = j * 3 + 3 := by omega
      rw [e]
      simpa [flat3] using this
theorem get_of? {l : List Value} {i : Nat} {v : Value} (h : l[i]? = some v) : ∃ hl : i < l.length, l[i] = v := List.getElem?_eq_some_iff.1 h

/-- A row of manifests that is whole: what is read of it. -/
theorem RowTo.mans {g : Nat} {T : List K} {w : World} {t : TypeId} (h : RowTo g t (flat T) (T.length * 2) w) : MansAt (some ⟨g, 0, none⟩) T w := fun j hj => by
  obtain ⟨l1, e1⟩ := get_of? (flat_at T j hj).1
  obtain ⟨l2, e2⟩ := get_of? (flat_at T j hj).2
  exact ⟨g, rfl, h.lt, by rw [h.cell _ (by omega) l1, e1], by rw [h.cell _ (by omega) l2, e2]⟩
theorem RowTo.keeps {g : Nat} {T : List (K × ByteArray)} {w : World} {t : TypeId} (h : RowTo g t (flat3 T) (T.length * 3) w) : KeepsAt (some ⟨g, 0, none⟩) T w := fun j hj => by
  obtain ⟨l1, e1⟩ := get_of? (flat3_at T j hj).1
  obtain ⟨l2, e2⟩ := get_of? (flat3_at T j hj).2.1
  obtain ⟨l3, e3⟩ := get_of? (flat3_at T j hj).2.2
  exact ⟨g, rfl, h.lt, by rw [h.cell _ (by omega) l1, e1], by rw [h.cell _ (by omega) l2, e2], by rw [h.cell _ (by omega) l3, e3]⟩
theorem MansAt.below {a : Option Addr} {T : List K} {w w' : World} (h : MansAt a T w) (hb : Below w.heap.size w w') : MansAt a T w' := fun j hj => by
  obtain ⟨g, h1, h2, h3, h4⟩ := h j hj
  exact ⟨g, h1, Nat.lt_of_lt_of_le h2 hb.size, (hb.cell h2).trans h3, (hb.cell h2).trans h4⟩
theorem KeepsAt.below {a : Option Addr} {Ks : List (K × ByteArray)} {w w' : World} (h : KeepsAt a Ks w) (hb : Below w.heap.size w w') : KeepsAt a Ks w' := fun j hj => by
  obtain ⟨g, h1, h2, h3, h4, h5⟩ := h j hj
  exact ⟨g, h1, Nat.lt_of_lt_of_le h2 hb.size, (hb.cell h2).trans h3, (hb.cell h2).trans h4, (hb.cell h2).trans h5⟩

set_option maxRecDepth 100000 in
set_option maxHeartbeats 2000000 in
/-- b1CloneManifests. -/
theorem clone_mans (T : List K) (ta : Option Addr) (tc : Nat) (w : World) (hT : T.length ≤ 300) (hn : ta = none → T = []) (hTa : MansIn ta T w) :
    Calls Try.prog 10 #[.slice ta T.length tc] w fun e w' => ∃ a c, e = .returned (.slice a T.length c) ∧ MansAt a T w' ∧ Below w.heap.size w w' := by
  have hsn := fun (w : World) (a : Option Addr) (n c : Nat) => Lib.run_eql_slice_nil (P := Try.prog) w 22 37 a n c 0 0 Try.underlying22
  have HT := show Hid _ from hTa
  clear hTa
  cases ta with
  | none =>
    obtain rfl := hn rfl
    clear hn
    simp only [List.length_nil]
    go_enter Try.func10, Try.ntmps10
    go_wp2
    go_ret
    exact ⟨none, 0, rfl, fun j hj => by simp at hj, Below.refl _ _⟩
  | some ad =>
    clear hn
    have mk1 := run_mk Try.underlying22 info37 T.length (by omega) (by omega)
    go_enter Try.func10, Try.ntmps10
    go_wp2_with fail
    clear hsn
    go_loopg [12] T.length (fun k i wr => ∃ j, j ≤ T.length ∧ k = T.length - j ∧ i = .int .i64 (j : Int) ∧ RowTo w.heap.size 37 (flat T) (j * 2) wr ∧ Below w.heap.size w wr)
    case atStart =>
      refine ⟨0, Nat.zero_le _, rfl, rfl, ?_, (Below.refl _ _).alloc (Nat.le_refl _) _⟩
      have := RowTo.made w 37 (.agg #[.int .i64 0, .string ByteArray.empty]) (flat T)
      rw [flat_length] at this
      simpa using this
    case round =>
      obtain ⟨j, hj, hgk, rfl, hr, hbw⟩ := hrel
      by_cases hlt : j < T.length
      · obtain ⟨g, off, e0, hg1, hg2, hg3, hg4⟩ := HT.out j hlt
        cases e0
        have x1 := (hbw.cell (p := ⟨g, off + j * 2, none⟩) hg1).trans hg2
        have x2 := (hbw.cell (p := ⟨g, off + j * 2 + 1, none⟩) hg1).trans hg3
        obtain ⟨l1, e1⟩ := get_of? (flat_at T j hlt).1
        obtain ⟨l2, e2⟩ := get_of? (flat_at T j hlt).2
        obtain ⟨o1, y1⟩ := hr.has (j * 2) l1
        obtain ⟨o2, y2⟩ := hr.has (j * 2 + 1) l2
        have z1 := hr.free (j * 2)
        have z2 := hr.free (j * 2 + 1)
        have c37 : Try.prog.cellsOf 37 = 2 := by kernel_rfl
        have hlti : (j : Int) < (T.length : Int) := by omega
        have hlt0 : (0 : Int) ≤ (j : Int) := by omega
        have HX : Hid (RowTo w.heap.size 37 (flat T) ((j + 1) * 2) ((wr.setCell ⟨w.heap.size, j * 2, none⟩ (.int .i64 T[j].1)).setCell ⟨w.heap.size, j * 2 + 1, none⟩ (.string T[j].2))) := by
          have := (hr.put l1 e1).put l2 e2
          rw [show (j + 1) * 2 = j * 2 + 1 + 1 by omega]; exact this
        have HB : Hid (Below w.heap.size w ((wr.setCell ⟨w.heap.size, j * 2, none⟩ (.int .i64 T[j].1)).setCell ⟨w.heap.size, j * 2 + 1, none⟩ (.string T[j].2))) := (hbw.setCell (by simp) _).setCell (by simp) _
        clear hr e1 e2
        go_wp2
        go_roundg (T.length - (j + 1))
        case measure => omega
        case rel => exact ⟨j + 1, by omega, rfl, by go_num, HX.out, HB.out⟩
      · have hje : j = T.length := by omega
        subst hje
        have HM := show Hid _ from hr.mans
        clear hr
        go_wp2
        go_ret
        exact ⟨_, _, rfl, HM.out, hbw⟩

set_option maxRecDepth 100000 in
set_option maxHeartbeats 2000000 in
/-- b1CloneKeeps. -/
theorem clone_keeps (T : List (K × ByteArray)) (ta : Option Addr) (tc : Nat) (w : World) (hT : T.length ≤ 300) (hn : ta = none → T = []) (hTa : KeepsIn ta T w) :
    Calls Try.prog 11 #[.slice ta T.length tc] w fun e w' => ∃ a c, e = .returned (.slice a T.length c) ∧ KeepsAt a T w' ∧ Below w.heap.size w w' := by
  have hsn := fun (w : World) (a : Option Addr) (n c : Nat) => Lib.run_eql_slice_nil (P := Try.prog) w 23 39 a n c 0 0 Try.underlying23
  have HT := show Hid _ from hTa
  clear hTa
  cases ta with
  | none =>
    obtain rfl := hn rfl
    clear hn
    simp only [List.length_nil]
    go_enter Try.func11, Try.ntmps11
    go_wp2
    go_ret
    exact ⟨none, 0, rfl, fun j hj => by simp at hj, Below.refl _ _⟩
  | some ad =>
    clear hn
    have mk1 := run_mk Try.underlying23 info39 T.length (by omega) (by omega)
    go_enter Try.func11, Try.ntmps11
    go_wp2_with fail
    clear hsn
    go_loopg [12] T.length (fun k i wr => ∃ j, j ≤ T.length ∧ k = T.length - j ∧ i = .int .i64 (j : Int) ∧ RowTo w.heap.size 39 (flat3 T) (j * 3) wr ∧ Below w.heap.size w wr)
    case atStart =>
      refine ⟨0, Nat.zero_le _, rfl, rfl, ?_, (Below.refl _ _).alloc (Nat.le_refl _) _⟩
      have := RowTo.made w 39 (.agg #[.int .i64 0, .string ByteArray.empty, .string ByteArray.empty]) (flat3 T)
      rw [flat3_length] at this
      simpa using this
    case round =>
      obtain ⟨j, hj, hgk, rfl, hr, hbw⟩ := hrel
      by_cases hlt : j < T.length
      · obtain ⟨g, off, e0, hg1, hg2, hg3, hg4, hg5, hg6⟩ := HT.out j hlt
        cases e0
        have x1 := (hbw.cell (p := ⟨g, off + j * 3, none⟩) hg1).trans hg2
        have x2 := (hbw.cell (p := ⟨g, off + j * 3 + 1, none⟩) hg1).trans hg3
        have x3 := (hbw.cell (p := ⟨g, off + j * 3 + 2, none⟩) hg1).trans hg4
        obtain ⟨l1, e1⟩ := get_of? (flat3_at T j hlt).1
        obtain ⟨l2, e2⟩ := get_of? (flat3_at T j hlt).2.1
        obtain ⟨l3, e3⟩ := get_of? (flat3_at T j hlt).2.2
        obtain ⟨o1, y1⟩ := hr.has (j * 3) l1
        obtain ⟨o2, y2⟩ := hr.has (j * 3 + 1) l2
        obtain ⟨o3, y3⟩ := hr.has (j * 3 + 2) l3
        have z1 := hr.free (j * 3)
        have z2 := hr.free (j * 3 + 1)
        have z3 := hr.free (j * 3 + 2)
        have c39 : Try.prog.cellsOf 39 = 3 := by kernel_rfl
        have hlti : (j : Int) < (T.length : Int) := by omega
        have hlt0 : (0 : Int) ≤ (j : Int) := by omega
        have HX : Hid (RowTo w.heap.size 39 (flat3 T) ((j + 1) * 3) (((wr.setCell ⟨w.heap.size, j * 3, none⟩ (.int .i64 T[j].1.1)).setCell ⟨w.heap.size, j * 3 + 1, none⟩ (.string T[j].1.2)).setCell ⟨w.heap.size, j * 3 + 2, none⟩ (.string T[j].2))) := by
          have := ((hr.put l1 e1).put l2 e2).put l3 e3
          rw [show (j + 1) * 3 = j * 3 + 1 + 1 + 1 by omega]; exact this
        have HB : Hid (Below w.heap.size w (((wr.setCell ⟨w.heap.size, j * 3, none⟩ (.int .i64 T[j].1.1)).setCell ⟨w.heap.size, j * 3 + 1, none⟩ (.string T[j].1.2)).setCell ⟨w.heap.size, j * 3 + 2, none⟩ (.string T[j].2))) := ((hbw.setCell (by simp) _).setCell (by simp) _).setCell (by simp) _
        clear hr e1 e2 e3
        go_wp2
        go_roundg (T.length - (j + 1))
        case measure => omega
        case rel => exact ⟨j + 1, by omega, rfl, by go_num, HX.out, HB.out⟩
      · have hje : j = T.length := by omega
        subst hje
        have HM := show Hid _ from hr.keeps
        clear hr
        go_wp2
        go_ret
        exact ⟨_, _, rfl, HM.out, hbw⟩

end Go.Proofs.Qxb6000638a.Rch
