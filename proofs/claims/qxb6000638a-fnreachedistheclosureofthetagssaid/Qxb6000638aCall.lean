import Derived.Test.Qxb6000638aZZ1
import Derived.Test.Qxb6000638aRowTo
namespace Go.Proofs.Qxb6000638a.Rch
open Go.RowKit

theorem info2 : (Try.prog.info? 2).map (fun i => (i.zero, i.size, i.bytes)) = some (some (.int .i64 0), 1, 8) := by kernel_rfl

/-- A slice of manifests: what is read of it. -/
def MansAt (a : Option Addr) (T : List K) (w : World) : Prop :=
  ∀ j (_ : j < T.length), ∃ g, a = some ⟨g, 0, none⟩ ∧ g < w.heap.size ∧ w.cell? ⟨g, j * 2, none⟩ = some (.int .i64 T[j].1) ∧ w.cell? ⟨g, j * 2 + 1, none⟩ = some (.string T[j].2)
/-- A slice of keeps. -/
def KeepsAt (a : Option Addr) (Ks : List (K × ByteArray)) (w : World) : Prop :=
  ∀ j (_ : j < Ks.length), ∃ g, a = some ⟨g, 0, none⟩ ∧ g < w.heap.size ∧ w.cell? ⟨g, j * 3, none⟩ = some (.int .i64 Ks[j].1.1) ∧ w.cell? ⟨g, j * 3 + 1, none⟩ = some (.string Ks[j].1.2) ∧ w.cell? ⟨g, j * 3 + 2, none⟩ = some (.string Ks[j].2)

def c1 (T : List K) : List Value := T.map (fun k => .int .i64 k.1)
def c2 (T : List K) : List Value := T.map (fun k => .string k.2)
def d1 (Ks : List (K × ByteArray)) : List Value := Ks.map (fun p => .int .i64 p.1.1)
def d2 (Ks : List (K × ByteArray)) : List Value := Ks.map (fun p => .string p.1.2)
def d3 (Ks : List (K × ByteArray)) : List Value := Ks.map (fun p => .string p.2)

/-- The first loop: j tags are laid out. -/
def L1 (w : World) (T : List K) (j : Nat) (wr : World) : Prop :=
  RowTo w.heap.size 2 (c1 T) j wr ∧ RowTo (w.heap.size + 1) 9 (c2 T) j wr ∧ Below w.heap.size w wr ∧ wr.heap.size = w.heap.size + 2

/-- The second loop: all tags are laid out, and j keeps. -/
def L2 (w : World) (T : List K) (Ks : List (K × ByteArray)) (j : Nat) (wr : World) : Prop :=
  RowTo w.heap.size 2 (c1 T) T.length wr ∧ RowTo (w.heap.size + 1) 9 (c2 T) T.length wr ∧ RowTo (w.heap.size + 2) 2 (d1 Ks) j wr ∧ RowTo (w.heap.size + 3) 9 (d2 Ks) j wr ∧ RowTo (w.heap.size + 4) 9 (d3 Ks) j wr ∧
    Below w.heap.size w wr ∧ wr.heap.size = w.heap.size + 5

theorem L2.start {w wr : World} {T : List K} (Ks : List (K × ByteArray)) (h : L1 w T T.length wr) : L2 w T Ks 0 (((wr.alloc (mrow 2 (.int .i64 0) Ks.length)).alloc (mrow 9 (.string ByteArray.empty) Ks.length)).alloc (mrow 9 (.string ByteArray.empty) Ks.length)) := by
  obtain ⟨h1, h2, h3, h4⟩ := h
  refine ⟨((h1.alloc _).alloc _).alloc _, ((h2.alloc _).alloc _).alloc _, ?_, ?_, ?_, ((h3.alloc (by omega) _).alloc (by simp; omega) _).alloc (by simp; omega) _, by simp; omega⟩
  · have := ((RowTo.made wr 2 (.int .i64 0) (d1 Ks)).alloc (mrow 9 (.string ByteArray.empty) Ks.length)).alloc (mrow 9 (.string ByteArray.empty) Ks.length)
    rw [h4] at this; simpa [d1] using this
  · have := (RowTo.made (wr.alloc (mrow 2 (.int .i64 0) Ks.length)) 9 (.string ByteArray.empty) (d2 Ks)).alloc (mrow 9 (.string ByteArray.empty) Ks.length)
    rw [World.size_alloc, h4] at this; simpa [d2] using this
  · have := RowTo.made ((wr.alloc (mrow 2 (.int .i64 0) Ks.length)).alloc (mrow 9 (.string ByteArray.empty) Ks.length)) 9 (.string ByteArray.empty) (d3 Ks)
    rw [World.size_alloc, World.size_alloc, h4] at this; simpa [d3] using this

set_option maxRecDepth 100000 in
set_option maxHeartbeats 2000000 in
theorem call_any (T : List K) (Ks : List (K × ByteArray)) (ta ka : Option Addr) (tc kc : Nat) (w : World) (hT : T.length ≤ 300) (hK : Ks.length ≤ 300) (hTa : MansAt ta T w) (hKa : KeepsAt ka Ks w) :
    Calls Try.prog 12 #[.slice ta T.length tc, .slice ka Ks.length kc] w fun e w' => ∃ b R, e = .returned (.map (some b)) ∧ w.heap.size ≤ b ∧
      w'.heap[b]? = some (mobj (st R)) ∧ Closure T (kept Ks) R ∧ Below w.heap.size w w' := by
  have HT := show Hid _ from hTa
  have HK := show Hid _ from hKa
  clear hTa hKa
  have mk1 := run_mk Try.underlying49 info2 T.length (by omega) (by omega)
  have mk2 := run_mk Try.underlying45 info9 T.length (by omega) (by omega)
  have mk3 := run_mk Try.underlying49 info2 Ks.length (by omega) (by omega)
  have mk4 := run_mk Try.underlying45 info9 Ks.length (by omega) (by omega)
  simp only [Nat.mul_one] at mk1 mk2 mk3 mk4
  go_enter Try.func12, Try.ntmps12
  go_wp2_with fail
  go_loopg [20] T.length (fun k i wr => ∃ j, j ≤ T.length ∧ k = T.length - j ∧ i = .int .i64 (j : Int) ∧ L1 w T j wr)
  case atStart =>
    refine ⟨0, Nat.zero_le _, rfl, rfl, ?_, ?_, ((Below.refl _ _).alloc (Nat.le_refl _) _).alloc (by simp) _, by simp⟩
    · have := (RowTo.made w 2 (.int .i64 0) (c1 T)).alloc (mrow 9 (.string ByteArray.empty) T.length)
      simpa [c1] using this
    · have := RowTo.made (w.alloc (mrow 2 (.int .i64 0) T.length)) 9 (.string ByteArray.empty) (c2 T)
      simpa [c2] using this
  case round =>
    obtain ⟨j, hj, hgk, rfl, hr1, hr2, hbw, hsz⟩ := hrel
    by_cases hlt : j < T.length
    · obtain ⟨g, rfl, hg1, hg2, hg3⟩ := HT.out j hlt
      have x1 := (hbw.cell (p := ⟨g, j * 2, none⟩) hg1).trans hg2
      have x2 := (hbw.cell (p := ⟨g, j * 2 + 1, none⟩) hg1).trans hg3
      obtain ⟨o1, y1⟩ := hr1.has j (by simpa [c1] using hlt)
      obtain ⟨o2, y2⟩ := hr2.has j (by simpa [c2] using hlt)
      have z1 := hr1.free j
      have z2 := hr2.free j
      have c37 : Try.prog.cellsOf 37 = 2 := by kernel_rfl
      have hne : g ≠ w.heap.size := by omega
      have hlti : (j : Int) < (T.length : Int) := by omega
      have hlt0 : (0 : Int) ≤ (j : Int) := by omega
      have HX : Hid (L1 w T (j + 1) ((wr.setCell ⟨w.heap.size, j, none⟩ (.int .i64 T[j].1)).setCell ⟨w.heap.size + 1, j, none⟩ (.string T[j].2))) :=
        ⟨(hr1.put (by simpa [c1] using hlt) (by simp [c1])).other (by simp) _, (hr2.other (by simp) _).put (by simpa [c2] using hlt) (by simp [c2]), (hbw.setCell (by simp) _).setCell (by simp) _, by simpa [World.setCell] using hsz⟩
      clear hr1 hr2 hsz
      go_wp2
      go_roundg (T.length - (j + 1))
      case measure => omega
      case rel => exact ⟨j + 1, by omega, rfl, by go_num, HX.out⟩
    · have hje : j = T.length := by omega
      subst hje
      have HS := L2.start Ks ⟨hr1, hr2, hbw, hsz⟩
      clear hr1 hr2 hbw
      go_wp2_with fail
      go_loopg [51] Ks.length (fun k i wq => ∃ j, j ≤ Ks.length ∧ k = Ks.length - j ∧ i = .int .i64 (j : Int) ∧ L2 w T Ks j wq)
      case atStart => exact ⟨0, Nat.zero_le _, rfl, rfl, HS⟩
      case round =>
        rename World => wq
        clear HS
        obtain ⟨j, hj, hgk, rfl, hr1, hr2, hs1, hs2, hs3, hbw, hsz⟩ := hrel
        by_cases hlt : j < Ks.length
        · obtain ⟨g, rfl, hg1, hg2, hg3, hg4⟩ := HK.out j hlt
          have x1 := (hbw.cell (p := ⟨g, j * 3, none⟩) hg1).trans hg2
          have x2 := (hbw.cell (p := ⟨g, j * 3 + 1, none⟩) hg1).trans hg3
          have x3 := (hbw.cell (p := ⟨g, j * 3 + 2, none⟩) hg1).trans hg4
          obtain ⟨o1, y1⟩ := hs1.has j (by simpa [d1] using hlt)
          obtain ⟨o2, y2⟩ := hs2.has j (by simpa [d2] using hlt)
          obtain ⟨o3, y3⟩ := hs3.has j (by simpa [d3] using hlt)
          have z1 := hs1.free j
          have z2 := hs2.free j
          have z3 := hs3.free j
          have c39 : Try.prog.cellsOf 39 = 3 := by kernel_rfl
          have n2 : g ≠ w.heap.size + 2 := by omega
          have n3 : g ≠ w.heap.size + 3 := by omega
          have hlti : (j : Int) < (Ks.length : Int) := by omega
          have hlt0 : (0 : Int) ≤ (j : Int) := by omega
          have HX : Hid (L2 w T Ks (j + 1) (((wq.setCell ⟨w.heap.size + 2, j, none⟩ (.int .i64 Ks[j].1.1)).setCell ⟨w.heap.size + 3, j, none⟩ (.string Ks[j].1.2)).setCell ⟨w.heap.size + 4, j, none⟩ (.string Ks[j].2))) :=
            ⟨((hr1.other (by simp) _).other (by simp) _).other (by simp) _, ((hr2.other (by simp) _).other (by simp) _).other (by simp) _,
              ((hs1.put (by simpa [d1] using hlt) (by simp [d1])).other (by simp) _).other (by simp) _, ((hs2.other (by simp) _).put (by simpa [d2] using hlt) (by simp [d2])).other (by simp) _,
              ((hs3.other (by simp) _).other (by simp) _).put (by simpa [d3] using hlt) (by simp [d3]), ((hbw.setCell (by simp) _).setCell (by simp) _).setCell (by simp) _, by simpa [World.setCell] using hsz⟩
          clear hr1 hr2 hs1 hs2 hs3 hsz
          go_wp2
          go_roundg (Ks.length - (j + 1))
          case measure => omega
          case rel => exact ⟨j + 1, by omega, rfl, by go_num, HX.out⟩
        · have hje : j = Ks.length := by omega
          subst hje
          have hbs := hbw.size
          have HZ := show Hid _ from zz_any T Ks w.heap.size (w.heap.size + 1) (w.heap.size + 2) (w.heap.size + 3) (w.heap.size + 4) wq hT hK (by omega) (by omega) (by omega) (by omega) (by omega)
            (fun i hi => (hr1.cell i hi (by simpa [c1] using hi)).trans (by simp [c1])) (fun i hi => (hr2.cell i hi (by simpa [c2] using hi)).trans (by simp [c2]))
            (fun i hi => (hs1.cell i hi (by simpa [d1] using hi)).trans (by simp [d1])) (fun i hi => (hs2.cell i hi (by simpa [d2] using hi)).trans (by simp [d2])) (fun i hi => (hs3.cell i hi (by simpa [d3] using hi)).trans (by simp [d3]))
          clear hr1 hr2 hs1 hs2 hs3
          go_wp2_with fail
          refine Calls.mono HZ.out ?_
          rintro e w2 ⟨b, R, rfl, hb, hm, hcl, hbel⟩
          go_wp2
          go_ret
          exact ⟨b, R, rfl, by omega, hm, hcl, hbw.trans (hbel.mono hbs)⟩

end Go.Proofs.Qxb6000638a.Rch
