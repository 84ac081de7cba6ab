import Derived.Test.Qxb6000638aBytes
import Derived.Deep.SlicePairs
import Derived.Deep.Strs
import Derived.Lib.SmallJoins
namespace Go.Proofs.Qxb6000638a.Rch
open Go.RowKit Go.Deep Go.ChangeShapes Go.WideShapes Go.Joins

theorem cells37 : Try.prog.cellsOf 37 = 2 := by kernel_rfl
theorem cells39 : Try.prog.cellsOf 39 = 3 := by kernel_rfl
theorem cells2 : Try.prog.cellsOf 2 = 1 := by kernel_rfl
theorem cells9 : Try.prog.cellsOf 9 = 1 := by kernel_rfl

section
variable {H : Type} {enc : TypeId × Value → H} {w : World} {spare : Nat → Bool} {held : Bool}

/-- Where the address of a cell that is there can lie. -/
theorem plain_addr {a : Addr} {v : Value} (h : w.cell? (a.add 0) = some v) : ∃ b off, a = ⟨b, off, none⟩ ∧ b < w.heap.size := by
  obtain ⟨b, off, spot⟩ := a
  have hspot : spot = none := by simpa [Addr.add] using World.cell?_spot h
  subst hspot
  refine ⟨b, off, rfl, ?_⟩
  rw [add_plain] at h
  exact World.block_lt_of_cell? w _ h

/-- A []B1Manifest that came in. -/
theorem open_mans {fuel : Nat} {a : Option Addr} {len cap : Nat} {x : DataW H × List MemPlace} (h : DataW.trod enc Try.prog w 0 spare held fuel 22 [.slice a len cap] = some x) :
    ∃ T : List K, T.length = len ∧ len ≤ maxLen ∧ (a = none → T = []) ∧ MansIn a T w := by
  rcases open_slice_pairs Try.underlying22 Try.underlying37 cells37 rfl rfl cells2 cells9 h with ⟨hcs, _⟩ | ⟨ad, len', cap', m, n, V0, V1, D0, D1, P0, P1, hcs, _, hl, hm, hmm, _, hx⟩
  · simp only [List.cons.injEq, Value.slice.injEq, and_true] at hcs
    obtain ⟨rfl, rfl, rfl⟩ := hcs
    exact ⟨[], rfl, by unfold maxLen; omega, fun _ => rfl, fun j hj => by simp at hj⟩
  · simp only [List.cons.injEq, Value.slice.injEq, and_true] at hcs
    obtain ⟨rfl, rfl, rfl⟩ := hcs
    have hlm : len ≤ m := by rw [hmm]; split <;> omega
    obtain ⟨q, hq⟩ := choose_lt (α := K) (n := len) (p := fun i k => w.cell? (ad.add (i * 2)) = some (.int .i64 k.1) ∧ w.cell? (ad.add (i * 2 + 1)) = some (.string k.2) ∧ k.2.size ≤ maxLen) (fun i hi => by
      obtain ⟨e0, e1, t0, t1⟩ := hx i (by omega)
      obtain ⟨r, hr, _, _⟩ := DataW.trod_int Try.underlying2 t0
      obtain ⟨s, hs, _, hsz⟩ := DataW.trod_string Try.underlying9 t1
      simp only [List.cons.injEq, and_true] at hr hs
      exact ⟨(r, s), by rw [e0, hr], by rw [e1, hs], hsz⟩)
    refine ⟨(List.range len).map q, by simp, by omega, (fun e => by cases e), fun j hj => ?_⟩
    have hj' : j < len := by simpa using hj
    obtain ⟨e0, e1, e2⟩ := hq j hj'
    obtain ⟨b, off, rfl, hb⟩ := plain_addr (by simpa using (hq 0 (by omega)).1)
    rw [add_plain] at e0 e1
    refine ⟨b, off, rfl, hb, ?_, ?_, ?_⟩
    · simpa using e0
    · simpa [Nat.add_assoc] using e1
    · simpa using e2

/-- A []B1Keep that came in. -/
theorem open_keeps {fuel : Nat} {a : Option Addr} {len cap : Nat} {x : DataW H × List MemPlace} (h : DataW.trod enc Try.prog w 0 spare held fuel 23 [.slice a len cap] = some x) :
    ∃ T : List (K × ByteArray), T.length = len ∧ len ≤ maxLen ∧ (a = none → T = []) ∧ KeepsIn a T w := by
  rcases open_slice Try.underlying23 h with ⟨hcs, _⟩ | ⟨ad, len', cap', m, n, D, Pl, hcs, _, hl, hm, hmm, _, hx⟩
  · simp only [List.cons.injEq, Value.slice.injEq, and_true] at hcs
    obtain ⟨rfl, rfl, rfl⟩ := hcs
    exact ⟨[], rfl, by unfold maxLen; omega, fun _ => rfl, fun j hj => by simp at hj⟩
  · simp only [List.cons.injEq, Value.slice.injEq, and_true] at hcs
    obtain ⟨rfl, rfl, rfl⟩ := hcs
    have hlm : len ≤ m := by rw [hmm]; split <;> omega
    obtain ⟨q, hq⟩ := choose_lt (α := K × ByteArray) (n := len) (p := fun i k => w.cell? (ad.add (i * 3)) = some (.int .i64 k.1.1) ∧ w.cell? (ad.add (i * 3 + 1)) = some (.string k.1.2) ∧ w.cell? (ad.add (i * 3 + 2)) = some (.string k.2) ∧ k.1.2.size ≤ maxLen ∧ k.2.size ≤ maxLen) (fun i hi => by
      obtain ⟨cs', e0, t0⟩ := hx i (by omega)
      rw [cells39] at e0
      obtain ⟨_, hlen, hcell⟩ := World.cells?_some e0
      obtain ⟨y0, y1, y2, k, _, _, u0, u1, u2⟩ := trod_struct3 Try.underlying39 t0
      match cs', hlen with
      | [v0, v1, v2], _ =>
        simp [cells2, cells9] at u0 u1 u2
        obtain ⟨r, hr, _, _⟩ := DataW.trod_int Try.underlying2 u0
        obtain ⟨s, hs, _, hsz⟩ := DataW.trod_string Try.underlying9 u1
        obtain ⟨s2, hs2, _, hsz2⟩ := DataW.trod_string Try.underlying9 u2
        simp only [List.cons.injEq, and_true] at hr hs hs2
        have f0 := hcell 0 (by omega)
        have f1 := hcell 1 (by omega)
        have f2 := hcell 2 (by omega)
        rw [add_add] at f0 f1 f2
        exact ⟨((r, s), s2), by simpa [hr] using f0, by simpa [hs] using f1, by simpa [hs2] using f2, hsz, hsz2⟩)
    refine ⟨(List.range len).map q, by simp, by omega, (fun e => by cases e), fun j hj => ?_⟩
    have hj' : j < len := by simpa using hj
    obtain ⟨e0, e1, e2, e3, e4⟩ := hq j hj'
    obtain ⟨b, off, rfl, hb⟩ := plain_addr (by simpa using (hq 0 (by omega)).1)
    rw [add_plain] at e0 e1 e2
    refine ⟨b, off, rfl, hb, ?_, ?_, ?_, ?_, ?_⟩
    · simpa using e0
    · simpa [Nat.add_assoc] using e1
    · simpa [Nat.add_assoc] using e2
    · simpa using e3
    · simpa using e4

/-- A B1Manifest by value. -/
theorem open_man {r : Reach} {b0 : Nat} {v : Value} {d : DataW H} {p : List MemPlace} (hv : Value.okWide Try.prog w r b0 37 v) (h : DataW.Trod enc Try.prog w 0 spare held 37 v d p) :
    ∃ m : K, v = .agg #[.int .i64 m.1, .string m.2] ∧ m.2.size ≤ maxLen := by
  obtain ⟨c0, c1, y0, y1, n, rfl, _, _, h0, h1⟩ := open_agg2 Try.underlying37 (by kernel_rfl) cells37 hv h
  obtain ⟨a, e0, _, _⟩ := DataW.trod_int Try.underlying2 h0
  obtain ⟨s, e1, _, hs⟩ := DataW.trod_string Try.underlying9 h1
  simp only [List.cons.injEq, and_true] at e0 e1
  exact ⟨(a, s), by rw [e0, e1], hs⟩

/-- A B1Keep by value. -/
theorem open_keep {r : Reach} {b0 : Nat} {v : Value} {d : DataW H} {p : List MemPlace} (hv : Value.okWide Try.prog w r b0 39 v) (h : DataW.Trod enc Try.prog w 0 spare held 39 v d p) :
    ∃ (r : Int) (f t : ByteArray), v = .agg #[.int .i64 r, .string f, .string t] ∧ f.size ≤ maxLen ∧ t.size ≤ maxLen := by
  obtain ⟨c0, c1, c2, y0, y1, y2, n, rfl, _, _, h0, h1, h2⟩ := open_agg3 Try.underlying39 (by kernel_rfl) cells39 hv h
  obtain ⟨a, e0, _, _⟩ := DataW.trod_int Try.underlying2 h0
  obtain ⟨s, e1, _, hs⟩ := DataW.trod_string Try.underlying9 h1
  obtain ⟨s2, e2, _, hs2⟩ := DataW.trod_string Try.underlying9 h2
  simp only [List.cons.injEq, and_true] at e0 e1 e2
  exact ⟨a, s, s2, by rw [e0, e1, e2], hs, hs2⟩
end

end Go.Proofs.Qxb6000638a.Rch
