import Derived.Test.Qxb6000638aReached
namespace Go.Proofs.Qxb6000638a.Rch
open Go.RowKit

/-- A group: its key, the slice value in the map, the digests in it. -/
abbrev Grp := K × Value × List ByteArray
def gmap (L : List Grp) : List (K × Value) := L.map (fun p => (p.1, p.2.1))
def glist (L : List Grp) : List (K × List ByteArray) := L.map (fun p => (p.1, p.2.2))
def kept (Ks : List (K × ByteArray)) (k : K) : List ByteArray := (Ks.filter (fun p => decide (p.1 = k))).map Prod.snd

theorem get_of_mem {gl : List (K × List ByteArray)} (hn : (gl.map Prod.fst).Nodup) {k : K} {ds : List ByteArray} (h : (k, ds) ∈ gl) : get gl k = ds := by
  induction gl with
  | nil => cases h
  | cons p gl ih =>
    simp only [List.map_cons, List.nodup_cons] at hn
    simp only [List.mem_cons] at h
    by_cases e : k = p.1
    · rcases h with h | h
      · subst h; simp [get]
      · exact absurd (List.mem_map.2 ⟨_, h, e⟩) hn.1
    · rcases h with h | h
      · subst h; exact absurd rfl e
      · have := ih hn.2 h
        simpa [get, e] using this

theorem get_of_not {gl : List (K × List ByteArray)} {k : K} (h : k ∉ gl.map Prod.fst) : get gl k = [] := by
  unfold get
  have : gl.find? (fun p => decide (k = p.1)) = none := by
    rw [List.find?_eq_none]
    intro p hp
    simp
    intro e
    exact h (List.mem_map.2 ⟨p, hp, e.symm⟩)
  rw [this]; rfl

theorem glist_keys (L : List Grp) : (glist L).map Prod.fst = L.map Prod.fst := by simp [glist, Function.comp_def]
theorem gmap_keys (L : List Grp) : (gmap L).map Prod.fst = L.map Prod.fst := by simp [gmap, Function.comp_def]
theorem gmap_length (L : List Grp) : (gmap L).length = L.length := by simp [gmap]

theorem kept_snoc (Ks : List (K × ByteArray)) (j : Nat) (h : j < Ks.length) (k : K) : kept (Ks.take (j + 1)) k = if Ks[j].1 = k then kept (Ks.take j) k ++ [Ks[j].2] else kept (Ks.take j) k := by
  unfold kept
  rw [List.take_succ_eq_append_getElem h, List.filter_append, List.map_append]
  by_cases e : Ks[j].1 = k
  · rw [if_pos e]
    congr 1
    simp [e]
  · rw [if_neg e]
    simp [e]

theorem kept_len (Ks : List (K × ByteArray)) (k : K) : (kept Ks k).length ≤ Ks.length := by
  unfold kept; simp; exact List.length_filter_le _ _

/-- The rows of the groups: each is owned from 'base' on, holds something, and no two lie in one block. -/
structure Rows (base : Nat) (L : List Grp) (w : World) : Prop where
  own : ∀ p ∈ L, w.ownsRow base 9 1 p.2.1 p.2.2.length (p.2.2.map .string) ∧ p.2.2 ≠ []
  apart : L.Pairwise (fun p q => p.2.1.ownBlock ≠ q.2.1.ownBlock)
  keys : (L.map Prod.fst).Nodup

theorem Rows.nil (base : Nat) (w : World) : Rows base [] w := ⟨by simp, by simp, by simp⟩

theorem Rows.alloc {base : Nat} {L : List Grp} {w : World} (h : Rows base L w) (o : Obj) : Rows base L (w.alloc o) :=
  ⟨fun p hp => ⟨(h.own p hp).1.alloc _, (h.own p hp).2⟩, h.apart, h.keys⟩
theorem Rows.drew {base : Nat} {L : List Grp} {w : World} (h : Rows base L w) : Rows base L w.drew :=
  ⟨fun p hp => ⟨(h.own p hp).1.drew, (h.own p hp).2⟩, h.apart, h.keys⟩
theorem Rows.setB {base : Nat} {L : List Grp} {w : World} (h : Rows base L w) {b : Nat} (hb : b < base) (o : Obj) : Rows base L (setB w b o) :=
  ⟨fun p hp => ⟨(h.own p hp).1.kept (setB_grown w b o) (.inr (fun e => by have := ((h.own p hp).1.lt _ e).1; omega)), (h.own p hp).2⟩, h.apart, h.keys⟩

/-- Onto the row of a group that is there. -/
theorem Rows.append_old {base : Nat} {L : List Grp} {w : World} (h : Rows base L w) {i : Nat} {k : K} {v : Value} {ds : List ByteArray} (hi : L[i]? = some (k, v, ds)) (d : ByteArray) {g cap : Nat} {w1 : World}
    (hown : w1.ownsRow base 9 1 (.slice (some ⟨g, 0, none⟩) (ds.length + 1) cap) (ds.length + 1) (ds.map .string ++ [.string d])) (hgrow : w.grownBy w1 v.ownBlock) (hat : v.ownBlock = some g ∨ g = w.heap.size) :
    Rows base (L.set i (k, .slice (some ⟨g, 0, none⟩) (ds.length + 1) cap, ds ++ [d])) w1 := by
  have hil : i < L.length := (List.getElem?_eq_some_iff.1 hi).1
  have hie : L[i] = (k, v, ds) := (List.getElem?_eq_some_iff.1 hi).2
  have hap := List.pairwise_iff_getElem.1 h.apart
  have hne : ∀ j (hj : j < L.length), j ≠ i → L[j].2.1.ownBlock ≠ v.ownBlock := by
    intro j hj hji
    rcases Nat.lt_or_gt_of_ne hji with e | e
    · have := hap j i hj hil e; rw [hie] at this; exact this
    · have := hap i j hil hj e; rw [hie] at this; exact Ne.symm this
  refine ⟨?_, ?_, ?_⟩
  · intro p hp
    obtain ⟨j, hj, rfl⟩ := List.mem_iff_getElem.1 hp
    simp only [List.length_set] at hj
    by_cases e : j = i
    · subst e
      simp only [List.getElem_set_self]
      exact ⟨by simpa using hown, by simp⟩
    · rw [List.getElem_set_ne (Ne.symm e)]
      have := h.own _ (List.getElem_mem hj)
      exact ⟨this.1.kept hgrow (.inr (hne j hj e)), this.2⟩
  · rw [List.pairwise_iff_getElem]
    have key : ∀ j (hj : j < L.length), j ≠ i → L[j].2.1.ownBlock ≠ some g := by
      intro j hj hji
      rcases hat with e | e
      · rw [← e]; exact hne j hj hji
      · intro e2
        have := ((h.own _ (List.getElem_mem hj)).1.lt _ e2).2
        omega
    intro a b ha hb hab
    simp only [List.length_set] at ha hb
    by_cases ea : a = i
    · subst ea
      rw [List.getElem_set_self, List.getElem_set_ne (by omega)]
      exact Ne.symm (key b (by simpa using hb) (by omega))
    · rw [List.getElem_set_ne (Ne.symm ea)]
      by_cases eb : b = i
      · subst eb
        rw [List.getElem_set_self]
        exact key a (by simpa using ha) ea
      · rw [List.getElem_set_ne (Ne.symm eb)]
        exact hap a b ha hb hab
  · rw [List.map_set]
    have : (L.map Prod.fst).set i k = L.map Prod.fst := by
      apply List.ext_getElem?
      intro j
      rw [List.getElem?_set]
      split
      · rename_i e
        subst e
        simp [hil, hie]
      · rfl
    rw [this]; exact h.keys

/-- A new group. -/
theorem Rows.append_new {base : Nat} {L : List Grp} {w : World} (h : Rows base L w) {k : K} (hk : k ∉ L.map Prod.fst) (d : ByteArray) {g cap : Nat} {w1 : World}
    (hown : w1.ownsRow base 9 1 (.slice (some ⟨g, 0, none⟩) 1 cap) 1 [.string d]) (hgrow : w.grownBy w1 none) (hat : g = w.heap.size) :
    Rows base (L ++ [(k, .slice (some ⟨g, 0, none⟩) 1 cap, [d])]) w1 := by
  refine ⟨?_, ?_, ?_⟩
  · intro p hp
    simp only [List.mem_append, List.mem_singleton] at hp
    rcases hp with hp | rfl
    · have := h.own p hp
      refine ⟨this.1.kept hgrow ?_, this.2⟩
      cases hv : p.2.1.ownBlock <;> simp
    · exact ⟨hown, by simp⟩
  · rw [List.pairwise_append]
    refine ⟨h.apart, by simp, ?_⟩
    intro p hp q hq
    simp only [List.mem_singleton] at hq
    subst hq
    intro e
    have := ((h.own p hp).1.lt g (by rw [e]; rfl)).2
    omega
  · rw [List.map_append, List.nodup_append]
    exact ⟨h.keys, by simp, fun a ha b hb => by simp at hb; rw [hb]; exact fun e => hk (e ▸ ha)⟩

theorem get_old {L : List Grp} (hn : (L.map Prod.fst).Nodup) {i : Nat} {k : K} {v : Value} {ds : List ByteArray} (hi : L[i]? = some (k, v, ds)) (v' : Value) (d : ByteArray) (k' : K) :
    get (glist (L.set i (k, v', ds ++ [d]))) k' = if k = k' then get (glist L) k' ++ [d] else get (glist L) k' := by
  have hil : i < L.length := (List.getElem?_eq_some_iff.1 hi).1
  have hie : L[i] = (k, v, ds) := (List.getElem?_eq_some_iff.1 hi).2
  have hkeys : (L.set i (k, v', ds ++ [d])).map Prod.fst = L.map Prod.fst := by
    rw [List.map_set]
    apply List.ext_getElem?
    intro j
    rw [List.getElem?_set]
    split
    · rename_i e
      subst e
      simp [hil, hie]
    · rfl
  have hn1 : ((glist L).map Prod.fst).Nodup := by rw [glist_keys]; exact hn
  have hn2 : ((glist (L.set i (k, v', ds ++ [d]))).map Prod.fst).Nodup := by rw [glist_keys, hkeys]; exact hn
  have m1 : (k, ds) ∈ glist L := List.mem_map.2 ⟨_, List.mem_of_getElem? hi, rfl⟩
  have m2 : (k, ds ++ [d]) ∈ glist (L.set i (k, v', ds ++ [d])) := List.mem_map.2 ⟨_, List.mem_set hil _, rfl⟩
  by_cases e : k = k'
  · subst e
    rw [if_pos rfl, get_of_mem hn1 m1, get_of_mem hn2 m2]
  · rw [if_neg e]
    by_cases hk : k' ∈ L.map Prod.fst
    · obtain ⟨p, hp, rfl⟩ := List.mem_map.1 hk
      have hp2 : p ∈ L.set i (k, v', ds ++ [d]) := by
        obtain ⟨j, hj, rfl⟩ := List.mem_iff_getElem.1 hp
        have hji : i ≠ j := by intro e2; subst e2; rw [hie] at e; exact e rfl
        rw [List.mem_iff_getElem]
        exact ⟨j, by simpa using hj, by rw [List.getElem_set_ne hji]⟩
      rw [get_of_mem hn1 (List.mem_map.2 ⟨p, hp, rfl⟩), get_of_mem hn2 (List.mem_map.2 ⟨p, hp2, rfl⟩)]
    · have n1 : k' ∉ (glist L).map Prod.fst := by rw [glist_keys]; exact hk
      have n2 : k' ∉ (glist (L.set i (k, v', ds ++ [d]))).map Prod.fst := by rw [glist_keys, hkeys]; exact hk
      rw [get_of_not n1, get_of_not n2]

theorem get_new {L : List Grp} (hn : (L.map Prod.fst).Nodup) {k : K} (hk : k ∉ L.map Prod.fst) (v' : Value) (d : ByteArray) (k' : K) :
    get (glist (L ++ [(k, v', [d])])) k' = if k = k' then get (glist L) k' ++ [d] else get (glist L) k' := by
  have hn1 : ((glist L).map Prod.fst).Nodup := by rw [glist_keys]; exact hn
  have hn2 : ((glist (L ++ [(k, v', [d])])).map Prod.fst).Nodup := by
    rw [glist_keys, List.map_append, List.nodup_append]
    exact ⟨hn, by simp, fun a ha b hb => by simp at hb; rw [hb]; exact fun e => hk (e ▸ ha)⟩
  by_cases e : k = k'
  · subst e
    have n1 : k ∉ (glist L).map Prod.fst := by rw [glist_keys]; exact hk
    rw [if_pos rfl, get_of_not n1, get_of_mem hn2 (ds := [d]) (by simp [glist])]; rfl
  · rw [if_neg e]
    by_cases hk2 : k' ∈ L.map Prod.fst
    · obtain ⟨p, hp, rfl⟩ := List.mem_map.1 hk2
      rw [get_of_mem hn1 (List.mem_map.2 ⟨p, hp, rfl⟩), get_of_mem hn2 (List.mem_map.2 ⟨p, List.mem_append_left _ hp, rfl⟩)]
    · have n1 : k' ∉ (glist L).map Prod.fst := by rw [glist_keys]; exact hk2
      have n2 : k' ∉ (glist (L ++ [(k, v', [d])])).map Prod.fst := by
        rw [glist_keys]; simp only [List.map_append, List.mem_append, not_or]; exact ⟨hk2, by simp [Ne.symm e]⟩
      rw [get_of_not n1, get_of_not n2]

theorem univ_len (T : List K) (L : List Grp) (C : Nat) (h : ∀ p ∈ L, p.2.2.length ≤ C) : (univ T (glist L)).length ≤ T.length + L.length * C := by
  unfold univ glist
  rw [List.length_append]
  apply Nat.add_le_add_left
  induction L with
  | nil => simp
  | cons p L ih =>
    have h1 := h p (by simp)
    have h2 := ih (fun q hq => h q (by simp [hq]))
    simp only [List.map_cons, List.flatMap_cons, List.length_append, List.length_map, List.length_cons, Nat.add_mul, Nat.one_mul] at h2 ⊢
    omega

/-- What stands behind k in the map. -/
def valAt (L : List Grp) (k : K) : Value := ((fnd k (gmap L) 0).map Prod.snd).getD (.slice none 0 0)
theorem valAt_own {base : Nat} {L : List Grp} {w : World} (h : Rows base L w) (k : K) : w.ownsRow base 9 1 (valAt L k) (get (glist L) k).length ((get (glist L) k).map .string) := by
  unfold valAt
  cases hf : fnd k (gmap L) 0 with
  | none =>
    have := fnd_none.1 hf
    rw [gmap_keys] at this
    rw [get_of_not (by rw [glist_keys]; exact this)]
    exact World.ownsRow_nil _ _ _ _
  | some p =>
    obtain ⟨j, v⟩ := p
    have h2 := List.mem_of_getElem? (fnd_some hf).2
    obtain ⟨q, hq, e⟩ := List.mem_map.1 h2
    simp only [Prod.mk.injEq] at e
    obtain ⟨rfl, rfl⟩ := e
    have n1 : ((glist L).map Prod.fst).Nodup := by rw [glist_keys]; exact h.keys
    have m1 : (q.1, q.2.2) ∈ glist L := List.mem_map.2 ⟨q, hq, rfl⟩
    rw [get_of_mem n1 m1]
    exact (h.own q hq).1

end Go.Proofs.Qxb6000638a.Rch
