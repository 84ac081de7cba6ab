import Derived.Test.Qxb6000638aIntern
namespace Go.Proofs.Qxb6000638a.Rch
open Go.RowKit

/-- The indices I say where the keys L stand in N. -/
def AtIdx (N : List K) (I : List Nat) (L : List K) : Prop := I.length = L.length ∧ ∀ (i : Nat) (k : K), L[i]? = some k → ∃ x, I[i]? = some x ∧ N[x]? = some k

theorem AtIdx.nil (N : List K) : AtIdx N [] [] := ⟨rfl, by simp⟩
theorem AtIdx.mono {N N' : List K} {I : List Nat} {L : List K} (h : AtIdx N I L) (hp : ∀ (x : Nat) (k : K), N[x]? = some k → N'[x]? = some k) : AtIdx N' I L :=
  ⟨h.1, fun i k hk => by obtain ⟨x, h1, h2⟩ := h.2 i k hk; exact ⟨x, h1, hp x k h2⟩⟩
theorem AtIdx.snoc {N N' : List K} {I : List Nat} {L : List K} {m : K} {i : Nat} (h : AtIdx N I L) (hi : Interned N N' m i) : AtIdx N' (I ++ [i]) (L ++ [m]) := by
  refine ⟨by simp [h.1], fun x k hk => ?_⟩
  by_cases e : x < L.length
  · rw [List.getElem?_append_left e] at hk
    obtain ⟨y, h1, h2⟩ := h.2 x k hk
    exact ⟨y, by rw [List.getElem?_append_left (by rw [h.1]; exact e)]; exact h1, hi.pre y k h2⟩
  · have e2 : x = L.length := by
      have := (List.getElem?_eq_some_iff.1 hk).1
      simp at this; omega
    subst e2
    simp at hk
    subst hk
    exact ⟨i, by rw [← h.1]; simp, hi.here⟩

theorem nodup_inj {N : List K} (hn : N.Nodup) {x y : Nat} {k : K} (hx : N[x]? = some k) (hy : N[y]? = some k) : x = y := by
  obtain ⟨lx, ex⟩ := List.getElem?_eq_some_iff.1 hx
  obtain ⟨ly, ey⟩ := List.getElem?_eq_some_iff.1 hy
  have hp := List.pairwise_iff_getElem.1 hn
  rcases Nat.lt_trichotomy x y with h | h | h
  · exact absurd (ex.trans ey.symm) (hp x y lx ly h)
  · exact h
  · exact absurd (ey.trans ex.symm) (hp y x ly lx h)

def froms (Ks : List (K × ByteArray)) : List K := Ks.map Prod.fst
def tos (Ks : List (K × ByteArray)) : List K := Ks.map (fun p => (p.1.1, p.2))

/-- No more is marked than the tags lead to. -/
def Sound (T : List K) (Ks : List (K × ByteArray)) (N : List K) (S : List Bool) : Prop :=
  ∀ P : K → Prop, (∀ t ∈ T, P t) → (∀ m, P m → ∀ d ∈ kept Ks m, P (m.1, d)) → ∀ (x : Nat) (k : K), S[x]? = some true → N[x]? = some k → P k

theorem kept_mem {Ks : List (K × ByteArray)} {p : K × ByteArray} (h : p ∈ Ks) : p.2 ∈ kept Ks p.1 := by
  unfold kept
  exact List.mem_map.2 ⟨p, List.mem_filter.2 ⟨h, by simp⟩, rfl⟩
theorem of_kept {Ks : List (K × ByteArray)} {k : K} {d : ByteArray} (h : d ∈ kept Ks k) : (k, d) ∈ Ks := by
  unfold kept at h
  obtain ⟨p, hp, rfl⟩ := List.mem_map.1 h
  obtain ⟨h1, h2⟩ := List.mem_filter.1 hp
  simp at h2
  rw [← h2]; exact h1

theorem Sound.none (T : List K) (Ks : List (K × ByteArray)) (N : List K) (n : Nat) : Sound T Ks N (List.replicate n false) := by
  intro P _ _ x k hx
  rw [List.getElem?_replicate] at hx
  split at hx <;> simp at hx

theorem set_get {S : List Bool} {y x : Nat} (h : (S.set y true)[x]? = some true) : S[x]? = some true ∨ x = y := by
  rw [List.getElem?_set] at h
  split at h
  · rename_i e; exact .inr e.symm
  · exact .inl h
theorem set_keep {S : List Bool} {y x : Nat} (h : S[x]? = some true) : (S.set y true)[x]? = some true := by
  rw [List.getElem?_set]
  split
  · rename_i e
    rw [if_pos (by rw [e]; exact (List.getElem?_eq_some_iff.1 h).1)]
  · exact h
theorem set_self {S : List Bool} {y : Nat} (h : y < S.length) : (S.set y true)[y]? = some true := by simp [h]

theorem Sound.tag {T : List K} {Ks : List (K × ByteArray)} {N : List K} {S : List Bool} (h : Sound T Ks N S) {y : Nat} {t : K} (ht : t ∈ T) (hy : N[y]? = some t) : Sound T Ks N (S.set y true) := by
  intro P h1 h2 x k hx hk
  rcases set_get hx with h3 | rfl
  · exact h P h1 h2 x k h3 hk
  · rw [hy] at hk; cases hk; exact h1 t ht
theorem Sound.keep {T : List K} {Ks : List (K × ByteArray)} {N : List K} {S : List Bool} (h : Sound T Ks N S) {p : K × ByteArray} (hp : p ∈ Ks) {z y : Nat} (hz : N[z]? = some p.1) (hs : S[z]? = some true) (hy : N[y]? = some (p.1.1, p.2)) :
    Sound T Ks N (S.set y true) := by
  intro P h1 h2 x k hx hk
  rcases set_get hx with h3 | rfl
  · exact h P h1 h2 x k h3 hk
  · rw [hy] at hk; cases hk
    exact h2 p.1 (h P h1 h2 z p.1 hs hz) p.2 (kept_mem hp)

theorem count_set {S : List Bool} {y : Nat} (h : S[y]? = some false) : (S.set y true).count false + 1 = S.count false := by
  induction S generalizing y with
  | nil => simp at h
  | cons b S ih =>
    cases y with
    | zero => simp at h; subst h; simp
    | succ y =>
      simp at h
      have := ih h
      cases b <;> simp_all

/-- What the model's answer says. -/
structure Mod (T : List K) (Ks : List (K × ByteArray)) (N : List K) (S : List Bool) : Prop where
  nodup : N.Nodup
  len : S.length = N.length
  tags : ∀ t ∈ T, ∃ x : Nat, N[x]? = some t ∧ S[x]? = some true
  closed : ∀ p ∈ Ks, ∀ x : Nat, N[x]? = some p.1 → S[x]? = some true → ∃ y : Nat, N[y]? = some (p.1.1, p.2) ∧ S[y]? = some true
  sound : Sound T Ks N S

theorem Mod.mk' {T : List K} {Ks : List (K × ByteArray)} {N : List K} {S : List Bool} {I F G : List Nat} (hn : N.Nodup) (hl : S.length = N.length) (hI : AtIdx N I T) (hF : AtIdx N F (froms Ks)) (hG : AtIdx N G (tos Ks))
    (ht : ∀ i x : Nat, I[i]? = some x → S[x]? = some true) (hc : ∀ i x y : Nat, F[i]? = some x → G[i]? = some y → S[x]? = some true → S[y]? = some true) (hs : Sound T Ks N S) : Mod T Ks N S := by
  refine ⟨hn, hl, fun t h => ?_, fun p hp x hx hsx => ?_, hs⟩
  · obtain ⟨i, hi, e⟩ := List.mem_iff_getElem.1 h
    obtain ⟨x, h1, h2⟩ := hI.2 i t (by rw [List.getElem?_eq_getElem hi, e])
    exact ⟨x, h2, ht i x h1⟩
  · obtain ⟨i, hi, e⟩ := List.mem_iff_getElem.1 hp
    have e' : Ks[i]? = some p := by rw [List.getElem?_eq_getElem hi, e]
    obtain ⟨x', h1, h2⟩ := hF.2 i p.1 (by simp [froms, e'])
    obtain ⟨y, h3, h4⟩ := hG.2 i (p.1.1, p.2) (by simp [tos, e'])
    have := nodup_inj hn hx h2
    subst this
    exact ⟨y, h4, hc i x y h1 h3 hsx⟩

/-- The marked keys are the closure. -/
theorem Mod.mem {T : List K} {Ks : List (K × ByteArray)} {N : List K} {S : List Bool} {R : List K} (h : Mod T Ks N S) (hR : Closure T (kept Ks) R) (k : K) : k ∈ R ↔ ∃ x : Nat, N[x]? = some k ∧ S[x]? = some true := by
  constructor
  · intro hk
    exact hR.least (fun k => ∃ x : Nat, N[x]? = some k ∧ S[x]? = some true) h.tags (fun m ⟨x, h1, h2⟩ d hd => h.closed (m, d) (of_kept hd) x h1 h2) k hk
  · rintro ⟨x, h1, h2⟩
    exact h.sound (fun k => k ∈ R) hR.tags hR.closed x k h2 h1

def marked : List K → List Bool → List K
  | [], _ => []
  | _, [] => []
  | k :: N, b :: S => if b then k :: marked N S else marked N S

theorem marked_mem (N : List K) (S : List Bool) (k : K) : k ∈ marked N S ↔ ∃ x : Nat, N[x]? = some k ∧ S[x]? = some true := by
  induction N generalizing S with
  | nil => simp [marked]
  | cons n N ih =>
    cases S with
    | nil => simp [marked]
    | cons b S =>
      have key : (∃ x : Nat, (n :: N)[x]? = some k ∧ (b :: S)[x]? = some true) ↔ (n = k ∧ b = true) ∨ k ∈ marked N S := by
        rw [ih]
        constructor
        · rintro ⟨x, h1, h2⟩
          cases x with
          | zero => simp at h1 h2; exact .inl ⟨h1, h2⟩
          | succ x => exact .inr ⟨x, by simpa using h1, by simpa using h2⟩
        · rintro (⟨rfl, rfl⟩ | ⟨x, h1, h2⟩)
          · exact ⟨0, by simp, by simp⟩
          · exact ⟨x + 1, by simpa using h1, by simpa using h2⟩
      rw [key]
      cases b
      · simp [marked]
      · simp [marked, eq_comm]

theorem marked_sub (N : List K) (S : List Bool) : (marked N S).Sublist N := by
  induction N generalizing S with
  | nil => simp [marked]
  | cons n N ih =>
    cases S with
    | nil => simp [marked]
    | cons b S =>
      cases b
      · simp only [marked]; exact (ih S).cons _
      · simp only [marked]; exact (ih S).cons_cons _

theorem marked_len (N : List K) (S : List Bool) (h : S.length = N.length) : (marked N S).length = S.count true := by
  induction N generalizing S with
  | nil =>
    have : S = [] := List.eq_nil_of_length_eq_zero h
    subst this; simp [marked]
  | cons n N ih =>
    cases S with
    | nil => simp at h
    | cons b S =>
      have := ih S (by simpa using h)
      cases b <;> simp_all [marked]

/-- As many are marked as are reached. -/
theorem Mod.count {T : List K} {Ks : List (K × ByteArray)} {N : List K} {S : List Bool} {R : List K} (h : Mod T Ks N S) (hR : Closure T (kept Ks) R) : S.count true = R.length := by
  rw [← marked_len N S h.len]
  have hn : (marked N S).Nodup := List.Nodup.sublist (marked_sub N S) h.nodup
  have e : ∀ k, k ∈ marked N S ↔ k ∈ R := fun k => (marked_mem N S k).trans (h.mem hR k).symm
  exact Nat.le_antisymm (len_of_sub _ _ hn (fun x hx => (e x).1 hx)) (len_of_sub _ _ hR.nodup (fun x hx => (e x).2 hx))

/-! ### A row that is filled from its head; a row of bools -/
def RowPre (g : Nat) (n : Nat) (xs : List Nat) (w : World) : Prop :=
  ∃ cs : Array Value, w.heap[g]? = some (.cells cs 3 (0, 0)) ∧ cs.size = n ∧ cs.toList.take xs.length = xs.map (fun (x : Nat) => Value.int .i64 (x : Int))

section
variable {g n : Nat} {xs : List Nat} {w : World}
theorem RowPre.made (w : World) (z : Value) (n : Nat) : RowPre w.heap.size n [] (w.alloc (mrow 3 z n)) := ⟨_, heap_alloc_new w _, size_madeCells _ _, by simp⟩
theorem RowPre.lt (h : RowPre g n xs w) : g < w.heap.size := by obtain ⟨cs, h1, _⟩ := h; exact lt_of_block h1
theorem RowPre.of_block (h : RowPre g n xs w) {w' : World} (hb : w'.heap[g]? = w.heap[g]?) : RowPre g n xs w' := by
  obtain ⟨cs, h1, h2⟩ := h
  exact ⟨cs, hb.trans h1, h2⟩
theorem RowPre.grown (h : RowPre g n xs w) {w' : World} {r : Option Nat} (hg : w.grownBy w' r) (hr : some g ≠ r) : RowPre g n xs w' := h.of_block (hg.block g h.lt hr)
theorem RowPre.alloc (h : RowPre g n xs w) (o : Obj) : RowPre g n xs (w.alloc o) := h.of_block (Below.heap_alloc w o g h.lt)
theorem RowPre.other (h : RowPre g n xs w) {a : Addr} (ha : g ≠ a.block) (v : Value) : RowPre g n xs (w.setCell a v) := h.of_block (Below.heap_setCell w a v g ha)
theorem RowPre.has (h : RowPre g n xs w) (i : Nat) (hi : i < n) : ∃ v, w.cell? ⟨g, i, none⟩ = some v := by
  obtain ⟨cs, h1, h2, _⟩ := h
  rw [cell_of_row w g i cs 3 (0, 0) h1, Array.getElem?_eq_getElem (by omega)]
  exact ⟨_, rfl⟩
theorem RowPre.free (h : RowPre g n xs w) (i : Nat) : w.frozen? ⟨g, i, none⟩ = false := by
  obtain ⟨cs, h1, _⟩ := h
  exact frozen_of_row w g i cs 3 h1
theorem RowPre.cell (h : RowPre g n xs w) {i x : Nat} (hx : xs[i]? = some x) : w.cell? ⟨g, i, none⟩ = some (.int .i64 (x : Int)) := by
  obtain ⟨cs, h1, h2, h3⟩ := h
  obtain ⟨hl, e⟩ := List.getElem?_eq_some_iff.1 hx
  rw [cell_of_row w g i cs 3 (0, 0) h1]
  have := congrArg (fun l : List Value => l[i]?) h3
  simp only [List.getElem?_take, if_pos hl, List.getElem?_map, hx, Option.map_some] at this
  simpa using this
theorem RowPre.put (h : RowPre g n xs w) (hl : xs.length < n) (x : Nat) : RowPre g n (xs ++ [x]) (w.setCell ⟨g, xs.length, none⟩ (.int .i64 (x : Int))) := by
  obtain ⟨cs, h1, h2, h3⟩ := h
  refine ⟨_, heap_setCell_same w g xs.length cs 3 _ h1, by simpa using h2, ?_⟩
  rw [Array.toList_setIfInBounds, List.length_append, List.length_singleton, List.take_succ_eq_append_getElem (by simp; omega)]
  simp
  rw [List.take_set_of_le (Nat.le_refl _), h3]
end

def BoolRow (g : Nat) (S : List Bool) (w : World) : Prop := w.heap[g]? = some (.cells (S.map Value.bool).toArray 4 (0, 0))
section
variable {g : Nat} {S : List Bool} {w : World}
theorem BoolRow.made (w : World) (n : Nat) : BoolRow w.heap.size (List.replicate n false) (w.alloc (mrow 4 (.bool false) n)) := by
  unfold BoolRow
  rw [heap_alloc_new w (mrow 4 (.bool false) n)]
  unfold mrow
  congr 2
  apply Array.ext'
  simp only [madeCells, Value.cells]
  apply List.ext_getElem?
  intro i
  by_cases hi : i < n
  · simp [hi, Nat.mod_one]
  · simp [hi]
theorem BoolRow.cell (h : BoolRow g S w) {i : Nat} {b : Bool} (hb : S[i]? = some b) : w.cell? ⟨g, i, none⟩ = some (.bool b) := by
  rw [cell_of_row w g i _ 4 (0, 0) h]; simp [hb]
theorem BoolRow.free (h : BoolRow g S w) (i : Nat) : w.frozen? ⟨g, i, none⟩ = false := frozen_of_row w g i _ 4 h
theorem BoolRow.put (h : BoolRow g S w) (i : Nat) (b : Bool) : BoolRow g (S.set i b) (w.setCell ⟨g, i, none⟩ (.bool b)) := by
  unfold BoolRow
  rw [heap_setCell_same w g i _ 4 _ h]
  congr 2
  apply Array.ext'
  simp [List.map_set]
end

end Go.Proofs.Qxb6000638a.Rch
