import Derived.Test.Qxb6002466aGenWalks
import Derived.Laws.MakeOwn
namespace Go.Proofs.Qxb6002466a.Gen
open Go.RowKit

theorem info31 : (Try.prog.info? 31).map (fun i => (i.zero, i.size, i.bytes)) = some (some (.int .u64 0), 1, 8) := by kernel_rfl

/-- The block that 'make' lays: N zero cells. -/
def mrow (e : TypeId) (z : Value) (N : Nat) : Obj := .cells (madeCells z.cells N) e

theorem run_mk {t e : TypeId} {z : Value} {size bytes : Nat} (ht : Try.prog.underlying t = some (.slice e)) (hinfo : (Try.prog.info? e).map (fun i => (i.zero, i.size, i.bytes)) = some (some z, size, bytes))
    (n : Nat) (hb : bytes * n ≤ 281474976710656) (h63 : n ≤ 9223372036854775807) (w : World) :
    (Instr.makeSlice t (.int .i64 (n : Int)) (.int .i64 (n : Int))).run Try.prog w = .ok (.slice (some ⟨w.heap.size, 0, none⟩) n n) (w.alloc (mrow e z (n * size))) := by
  obtain ⟨i, hi, hz0, hz1, hz2⟩ := info_parts hinfo
  have hb' : (i.bytes : Int) * (n : Int) ≤ 281474976710656 := by
    have h : ((i.bytes * n : Nat) : Int) ≤ 281474976710656 := by rw [hz2]; omega
    rwa [Int.natCast_mul] at h
  have hr := run_make (P := Try.prog) w t e i z ht hi hz0 .i64 .i64 n n (by omega) (Int.le_refl _) hb' (by omega)
  simp only [Int.toNat_natCast, hz1] at hr
  exact hr

/-- Block g holds a row of as many cells as xs has; the first j are xs's. -/
def RowTo (g : Nat) (t : TypeId) (xs : List Value) (j : Nat) (w : World) : Prop :=
  ∃ cs : Array Value, w.heap[g]? = some (.cells cs t (0, 0)) ∧ cs.size = xs.length ∧ cs.toList.take j = xs.take j

theorem RowTo.made (w : World) (e : TypeId) (z : Value) (xs : List Value) : RowTo w.heap.size e xs 0 (w.alloc (mrow e z xs.length)) :=
  ⟨_, heap_alloc_new w _, size_madeCells _ _, by simp⟩

section
variable {g : Nat} {t : TypeId} {xs : List Value} {j : Nat} {w : World}

theorem RowTo.lt (h : RowTo g t xs j w) : g < w.heap.size := by
  obtain ⟨cs, h1, _⟩ := h; exact lt_of_block h1
theorem RowTo.has (h : RowTo g t xs j w) (i : Nat) (hi : i < xs.length) : ∃ v, w.cell? ⟨g, i, none⟩ = some v := by
  obtain ⟨cs, h1, h2, _⟩ := h
  rw [cell_of_row w g i cs t (0, 0) h1, Array.getElem?_eq_getElem (by omega)]
  exact ⟨_, rfl⟩
theorem RowTo.free (h : RowTo g t xs j w) (i : Nat) : w.frozen? ⟨g, i, none⟩ = false := by
  obtain ⟨cs, h1, _⟩ := h
  exact frozen_of_row w g i cs t h1
theorem RowTo.cell (h : RowTo g t xs j w) (i : Nat) (hi : i < j) (hx : i < xs.length) : w.cell? ⟨g, i, none⟩ = some xs[i] := by
  obtain ⟨cs, h1, h2, h3⟩ := h
  rw [cell_of_row w g i cs t (0, 0) h1]
  have := congrArg (fun l : List Value => l[i]?) h3
  simp only [List.getElem?_take, if_pos hi] at this
  rw [List.getElem?_eq_getElem hx] at this
  simpa using this
theorem RowTo.put (h : RowTo g t xs j w) (hj : j < xs.length) {v : Value} (hv : xs[j] = v) : RowTo g t xs (j + 1) (w.setCell ⟨g, j, none⟩ v) := by
  obtain ⟨cs, h1, h2, h3⟩ := h
  refine ⟨_, heap_setCell_same w g j cs t v h1, by simpa using h2, ?_⟩
  rw [Array.toList_setIfInBounds, List.take_succ_eq_append_getElem (by simp; omega), List.take_succ_eq_append_getElem hj]
  simp [hv]
  rw [List.take_set_of_le (Nat.le_refl _), h3]
theorem RowTo.of_block (h : RowTo g t xs j w) {w' : World} (hb : w'.heap[g]? = w.heap[g]?) : RowTo g t xs j w' := by
  obtain ⟨cs, h1, h2⟩ := h
  exact ⟨cs, hb.trans h1, h2⟩
theorem RowTo.other (h : RowTo g t xs j w) {a : Addr} (ha : g ≠ a.block) (v : Value) : RowTo g t xs j (w.setCell a v) := h.of_block (Below.heap_setCell w a v g ha)
theorem RowTo.alloc (h : RowTo g t xs j w) (o : Obj) : RowTo g t xs j (w.alloc o) := h.of_block (Below.heap_alloc w o g h.lt)
theorem RowTo.drew (h : RowTo g t xs j w) : RowTo g t xs j w.drew := h
theorem RowTo.below (h : RowTo g t xs j w) {B : Nat} {w' : World} (hb : Below B w w') (hg : g < B) : RowTo g t xs j w' := h.of_block (hb.block g hg)
/-- Whole: the slice over it owns xs. -/
theorem RowTo.owns (h : RowTo g t xs xs.length w) {n size base : Nat} (hn : xs.length = n * size) (hm : n ≤ maxLen) (hb : base ≤ g) : w.ownsRow base t size (.slice (some ⟨g, 0, none⟩) n n) n xs := by
  obtain ⟨cs, h1, h2, h3⟩ := h
  refine ⟨hn, .inr ⟨g, n, cs, rfl, hb, h1, Nat.le_refl _, hm, by omega, ?_⟩⟩
  rw [← hn, h3, List.take_length]
end

end Go.Proofs.Qxb6002466a.Gen
