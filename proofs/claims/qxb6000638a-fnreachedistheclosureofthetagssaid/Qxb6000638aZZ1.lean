import Derived.Test.Qxb6000638aGroups
import Derived.Deep.RegionHeld3
import Derived.Deep.RegionLaw
import Derived.Deep.DrawnRows
namespace Go.Proofs.Qxb6000638a.Rch
open Go.RowKit
attribute [local go_sem ↓] Go.wp_at_zero Go.wp_at_succ

theorem look_nil55 (w : World) (k : K) : (Instr.lookup 55 (.map none) (.agg #[.int .i64 k.1, .string k.2]) false).run Try.prog w = .ok (.slice none 0 0) w := by
  have h := check34 true k w
  unfold kv at h
  unfold Instr.lookup
  simp [run_underlying Try.underlying55, h, Instr.findKey, run_underlying Try.underlying34, Instr.findNow]

/-- The contents' block: tagged, keeps, and three fields that nothing writes. -/
def cont (tv mv : Value) : Obj := .cells #[tv, mv, .map none, .slice none 0 0, .map none] 57 (0, 0)

/-- ZZReached's first loop: j tags have been laid into c.tagged. -/
def Z1 (w : World) (T : List K) (j : Nat) (wr : World) : Prop :=
  ∃ tv, wr.heap[w.heap.size]? = some (cont tv (.map none)) ∧ wr.ownsRow (w.heap.size + 1) 34 2 tv j (flat (T.take j)) ∧ Below w.heap.size w wr

theorem past_drew {wq : World} {a : Addr} {v : Value} (h : wq.cell? a = some v) (o : Obj) : (wq.alloc o).drew.cell? a = some v :=
  (World.cell?_of_block (w := wq) (Below.heap_alloc wq o a.block (World.block_lt_of_cell? wq a h))).trans h
theorem new_drew (wq : World) (a b : Value) (t : TypeId) : (wq.alloc (.cells #[a, b] t)).drew.cell? ⟨wq.heap.size, 0, none⟩ = some a ∧ (wq.alloc (.cells #[a, b] t)).drew.cell? ⟨wq.heap.size, 1, none⟩ = some b :=
  ⟨show (wq.alloc (.cells #[a, b] t)).cell? ⟨wq.heap.size, 0, none⟩ = some a by rw [cell_of_row _ _ 0 _ t (0, 0) (heap_alloc_new wq _)]; rfl,
   show (wq.alloc (.cells #[a, b] t)).cell? ⟨wq.heap.size, 1, none⟩ = some b by rw [cell_of_row _ _ 1 _ t (0, 0) (heap_alloc_new wq _)]; rfl⟩

theorem info9 : (Try.prog.info? 9).map (fun i => (i.zero, i.size, i.bytes)) = some (some (.string ByteArray.empty), 1, 16) := by kernel_rfl

theorem entry_old {w : World} {b : Nat} {L : List Grp} (hb : w.heap[b]? = some (mobj (gmap L))) (r : Int) (f : ByteArray) (i : Nat) (v : Value) (h : fnd (r, f) (gmap L) 0 = some (i, v)) :
    (Instr.mapEntry 55 (.map (some b)) (.agg #[.int .i64 r, .string f])).run Try.prog w = .ok (.tuple #[v, .int .i64 i]) w := run_entry_old Try.underlying55 hb (r, f) i v h
theorem entry_new {w : World} {b : Nat} {L : List Grp} (hb : w.heap[b]? = some (mobj (gmap L))) (r : Int) (f : ByteArray) (h : fnd (r, f) (gmap L) 0 = none) :
    (Instr.mapEntry 55 (.map (some b)) (.agg #[.int .i64 r, .string f])).run Try.prog w = .ok (.tuple #[.slice none 0 0, .int .i64 L.length]) (setB w b (mobj (gmap L ++ [((r, f), .slice none 0 0)]))) := by
  have := run_entry_new Try.underlying55 (zero45 w) hb (r, f) h
  rw [gmap_length] at this; exact this

theorem grp_at {L : List Grp} (hn : (L.map Prod.fst).Nodup) {k : K} {i : Nat} {v : Value} (hf : fnd k (gmap L) 0 = some (i, v)) : ∃ ds, L[i]? = some (k, v, ds) ∧ get (glist L) k = ds := by
  have hgi := (fnd_some hf).2
  simp only [Nat.sub_zero, gmap, List.getElem?_map, Option.map_eq_some_iff] at hgi
  obtain ⟨q, hq, e⟩ := hgi
  simp only [Prod.mk.injEq] at e
  obtain ⟨rfl, rfl⟩ := e
  have n1 : ((glist L).map Prod.fst).Nodup := by rw [glist_keys]; exact hn
  have m1 : (q.1, q.2.2) ∈ glist L := List.mem_map.2 ⟨q, List.mem_of_getElem? hq, rfl⟩
  exact ⟨q.2.2, hq, get_of_mem n1 m1⟩

theorem setB_alloc (w : World) (b : Nat) (o o' : Obj) (h : b < w.heap.size) : setB (w.alloc o') b o = (setB w b o).alloc o' := by
  unfold setB World.alloc
  congr 1
  apply Array.ext_getElem?
  intro j
  simp only [Array.getElem?_setIfInBounds, Array.getElem?_push, Array.size_push, Array.size_setIfInBounds]
  by_cases e : b = j
  · subst e
    rw [if_pos rfl, if_pos (by omega), if_neg (by omega), if_pos rfl, if_pos h]
  · rw [if_neg e, if_neg e]

theorem owns_below {W0 wq : World} {base e size n Bk : Nat} {v : Value} {xs : List Value} (h : W0.ownsRow base e size v n xs) (hb : Below Bk W0 wq) (hv : ∀ g, v.ownBlock = some g → g < Bk) : wq.ownsRow base e size v n xs := by
  obtain ⟨h1, h2⟩ := h
  refine ⟨h1, ?_⟩
  rcases h2 with h2 | ⟨g, cap, cur, rfl, h4, h5, h6⟩
  · exact .inl h2
  · exact .inr ⟨g, cap, cur, rfl, h4, (hb.block g (hv g rfl)).trans h5, h6⟩

/-- ZZReached's second loop: j keeps have been laid into the map in block Bk. W0: the world as the loop began. -/
def Z2 (W0 : World) (Bk : Nat) (Ks : List (K × ByteArray)) (j : Nat) (wr : World) : Prop :=
  ∃ L : List Grp, wr.heap[Bk]? = some (mobj (gmap L)) ∧ Rows (Bk + 1) L wr ∧ (∀ k, get (glist L) k = kept (Ks.take j) k) ∧ L.length ≤ j ∧ Below Bk W0 wr

theorem Z2.old {W0 W1 : World} {Bk j : Nat} {Ks : List (K × ByteArray)} {L : List Grp} {x : K × ByteArray} (hrows : Rows (Bk + 1) L W1) (hget : ∀ k, get (glist L) k = kept (Ks.take j) k) (hLj : L.length ≤ j) (hb : Below Bk W0 W1)
    (hbl : Bk < W1.heap.size) (hj : j < Ks.length) (hx : Ks[j] = x) {i : Nat} {v : Value} {ds : List ByteArray} (hi : L[i]? = some (x.1, v, ds)) {o : Obj} {g cap : Nat} {w1 : World}
    (hown : w1.ownsRow (Bk + 1) 9 1 (.slice (some ⟨g, 0, none⟩) (ds.length + 1) cap) (ds.length + 1) (ds.map .string ++ [.string x.2])) (hgrow : (W1.alloc o).drew.grownBy w1 v.ownBlock)
    (hat : v.ownBlock = some g ∨ g = W1.heap.size + 1) : Z2 W0 Bk Ks (j + 1) (setB w1 Bk (mobj ((gmap L).set i (x.1, .slice (some ⟨g, 0, none⟩) (ds.length + 1) cap)))) := by
  have hs : (W1.alloc o).drew.heap.size = W1.heap.size + 1 := World.size_alloc W1 o
  have hl1 : Bk < w1.heap.size := by have := hgrow.size; omega
  refine ⟨L.set i (x.1, .slice (some ⟨g, 0, none⟩) (ds.length + 1) cap, ds ++ [x.2]), ?_, ?_, ?_, by simp; omega, ?_⟩
  · rw [setB_same _ _ _ hl1]; simp [gmap]
  · exact (Rows.append_old ((hrows.alloc o).drew) hi x.2 hown hgrow (by rw [hs]; exact hat)).setB (by omega) _
  · intro k
    rw [get_old hrows.keys hi, kept_snoc Ks j hj, hx, hget k]
  · refine setB_below (Below.grown ((hb.alloc (by omega) o).drew) hgrow (by omega) (fun k hk => ?_)) (Nat.le_refl _) _
    have := ((hrows.own _ (List.mem_of_getElem? hi)).1.lt k hk).1
    omega

theorem Z2.new {W0 W1 W2 : World} {Bk j : Nat} {Ks : List (K × ByteArray)} {L : List Grp} {x : K × ByteArray} (hrows : Rows (Bk + 1) L W2) (hget : ∀ k, get (glist L) k = kept (Ks.take j) k) (hLj : L.length ≤ j) (hb : Below Bk W0 W2)
    (hbl : Bk < W2.heap.size) (hs2 : W2.heap.size = W1.heap.size) (hj : j < Ks.length) (hx : Ks[j] = x) (hk : x.1 ∉ L.map Prod.fst) {o : Obj} {g cap : Nat} {w1 : World}
    (hown : w1.ownsRow (Bk + 1) 9 1 (.slice (some ⟨g, 0, none⟩) 1 cap) 1 [.string x.2]) (hgrow : (W2.alloc o).drew.grownBy w1 none)
    (hat : g = W1.heap.size + 1) : Z2 W0 Bk Ks (j + 1) (setB w1 Bk (mobj ((gmap L ++ [(x.1, Value.slice none 0 0)]).set L.length (x.1, Value.slice (some ⟨g, 0, none⟩) 1 cap)))) := by
  have hs : (W2.alloc o).drew.heap.size = W1.heap.size + 1 := by rw [← hs2]; exact World.size_alloc W2 o
  have hl1 : Bk < w1.heap.size := by have := hgrow.size; omega
  refine ⟨L ++ [(x.1, .slice (some ⟨g, 0, none⟩) 1 cap, [x.2])], ?_, ?_, ?_, by simp; omega, ?_⟩
  · rw [setB_same _ _ _ hl1]; simp [gmap]
  · exact (Rows.append_new ((hrows.alloc o).drew) hk x.2 hown hgrow (by rw [hs]; exact hat)).setB (by omega) _
  · intro k
    rw [get_new hrows.keys hk, kept_snoc Ks j hj, hx, hget k]
  · exact setB_below (Below.grown ((hb.alloc (by omega) o).drew) hgrow (by omega) (fun k hk => by cases hk)) (Nat.le_refl _) _

theorem Z1.step {w : World} {T : List K} {j : Nat} {wr : World} {tv : Value} (hbx : wr.heap[w.heap.size]? = some (cont tv (.map none))) (hown : wr.ownsRow (w.heap.size + 1) 34 2 tv j (flat (T.take j))) (hbw : Below w.heap.size w wr)
    (hj : j < T.length) {o : Obj} {g cap : Nat} {w1 : World} (hown1 : w1.ownsRow (w.heap.size + 1) 34 2 (.slice (some ⟨g, 0, none⟩) (j + 1) cap) (j + 1) (flat (T.take j) ++ [.int .i64 T[j].1, .string T[j].2]))
    (hgrow : (wr.alloc o).drew.grownBy w1 tv.ownBlock) : Z1 w T (j + 1) (w1.setCell ⟨w.heap.size, 0, none⟩ (.slice (some ⟨g, 0, none⟩) (j + 1) cap)) := by
  have hl := lt_of_block hbx
  have ag : tv.ownBlock ≠ some w.heap.size := fun e => by have := (hown.lt _ e).1; omega
  have hb1 : w1.heap[w.heap.size]? = some (cont tv (.map none)) := by
    rw [hgrow.block w.heap.size (by simp; omega) (Ne.symm ag)]
    exact (Below.heap_alloc wr _ _ hl).trans hbx
  refine ⟨_, heap_setCell_same w1 w.heap.size 0 _ 57 _ hb1, ?_, ?_⟩
  · rw [List.take_succ_eq_append_getElem hj, flat_append, flat_one]
    exact ownsRow_setCell_below hown1 (by simp) _
  · exact Below.setCell (Below.grown ((hbw.alloc hbw.size _).drew) hgrow (by have := hbw.size; simp; omega) (fun k hk => by have := (hown.lt _ hk).1; omega)) (by simp) _

set_option maxRecDepth 100000 in
set_option maxHeartbeats 2000000 in
theorem zz_any (T : List K) (Ks : List (K × ByteArray)) (g1 g2 g3 g4 g5 : Nat) (w : World) (hT : T.length ≤ 300) (hK : Ks.length ≤ 300)
    (l1 : g1 < w.heap.size) (l2 : g2 < w.heap.size) (l3 : g3 < w.heap.size) (l4 : g4 < w.heap.size) (l5 : g5 < w.heap.size)
    (h1 : ∀ j (h : j < T.length), w.cell? ⟨g1, j, none⟩ = some (.int .i64 T[j].1)) (h2 : ∀ j (h : j < T.length), w.cell? ⟨g2, j, none⟩ = some (.string T[j].2))
    (h3 : ∀ j (h : j < Ks.length), w.cell? ⟨g3, j, none⟩ = some (.int .i64 Ks[j].1.1)) (h4 : ∀ j (h : j < Ks.length), w.cell? ⟨g4, j, none⟩ = some (.string Ks[j].1.2))
    (h5 : ∀ j (h : j < Ks.length), w.cell? ⟨g5, j, none⟩ = some (.string Ks[j].2)) :
    Calls Try.prog 24 #[.slice (some ⟨g1, 0, none⟩) T.length T.length, .slice (some ⟨g2, 0, none⟩) T.length T.length, .slice (some ⟨g3, 0, none⟩) Ks.length Ks.length,
      .slice (some ⟨g4, 0, none⟩) Ks.length Ks.length, .slice (some ⟨g5, 0, none⟩) Ks.length Ks.length] w fun e w' => ∃ b R, e = .returned (.map (some b)) ∧ w.heap.size ≤ b ∧
      w'.heap[b]? = some (mobj (st R)) ∧ Closure T (kept Ks) R ∧ Below w.heap.size w w' := by
  obtain ⟨i0, hi, hz0, hz1, hz2⟩ := info_parts info34
  have H1 := show Hid _ from h1
  have H2 := show Hid _ from h2
  have H3 := show Hid _ from h3
  have H4 := show Hid _ from h4
  have H5 := show Hid _ from h5
  clear h1 h2 h3 h4 h5
  go_enter Try.func24, Try.ntmps24
  go_wp2_with fail
  go_loopg [12] T.length (fun k i wr => ∃ j, j ≤ T.length ∧ k = T.length - j ∧ i = .int .i64 (j : Int) ∧ Z1 w T j wr)
  case atStart => exact ⟨0, Nat.zero_le _, rfl, rfl, _, heap_alloc_new w _, World.ownsRow_nil _ _ _ _, (Below.refl _ _).alloc (Nat.le_refl _) _⟩
  case round =>
    obtain ⟨j, hj, hgk, rfl, tv, hbx, hown, hbw⟩ := hrel
    by_cases hlt : j < T.length
    · have c1 := (hbw.cell (p := ⟨g1, j, none⟩) l1).trans (H1.out j hlt)
      have c2 := (hbw.cell (p := ⟨g2, j, none⟩) l2).trans (H2.out j hlt)
      have c3 : wr.cell? ⟨w.heap.size, 0, none⟩ = some tv := by rw [cell_of_row wr w.heap.size 0 _ 57 (0, 0) hbx]; rfl
      have f3 : wr.frozen? ⟨w.heap.size, 0, none⟩ = false := frozen_of_row wr w.heap.size 0 _ 57 hbx
      have hlti : (j : Int) < (T.length : Int) := by omega
      have hlt0 : (0 : Int) ≤ (j : Int) := by omega
      have hbl := lt_of_block hbx
      have ag : tv.ownBlock ≠ some w.heap.size := fun e => by have := (hown.lt _ e).1; omega
      have ag1 : tv.ownBlock ≠ some g1 := fun e => by have := (hown.lt _ e).1; omega
      have ag2 : tv.ownBlock ≠ some g2 := fun e => by have := (hown.lt _ e).1; omega
      have hle := hbw.size
      have HX := show Hid _ from hbx
      clear hbx
      generalize hx : T[j] = x at *
      go_wp2_with fail
      go_region_law
        ((refine step_append_lies _ (by rfl) _ _ _ (by rfl) (w.heap.size + 1) 34 i0 _ 2 24 Try.underlying54 hi hz0 hz1 hz2 rfl (by omega) tv j (flat (T.take j)) (by rfl) ((hown.alloc _).drew)
            ⟨wr.heap.size, 0, none⟩ 1 1 [.int .i64 x.1, .string x.2] (by rfl) (by rfl) (World.news_of_block (cs := #[.int .i64 x.1, .string x.2]) (t := 34) (fr := (0, 0)) (heap_alloc_new wr _)) (by simp [Value.oneCell'])
            (by omega) (by unfold maxLen; omega) (by omega) (by simp; omega) (wr.heap.size + 1) (by simp) ?_; intro gg cap w1 hown1 hgrow hat hlt1; have hfz : w1.frozen? ⟨w.heap.size, 0, none⟩ = false := (World.frozen?_of_block (w := wr) ((hgrow.block w.heap.size (by simp; omega) (Ne.symm ag)).trans (Below.heap_alloc wr _ _ hbl))).trans f3; have hfc : w1.cell? ⟨w.heap.size, 0, none⟩ = some tv := (World.cell?_of_block (w := wr) ((hgrow.block w.heap.size (by simp; omega) (Ne.symm ag)).trans (Below.heap_alloc wr _ _ hbl))).trans c3))
      all_goals
        have hX : Hid (Z1 w T (j + 1) (w1.setCell ⟨w.heap.size, 0, none⟩ (.slice (some ⟨gg, 0, none⟩) (j + 1) cap))) := Z1.step HX.out hown hbw hlt (by rw [hx]; exact hown1) hgrow
        clear hown1 hgrow hat hlt1 hfz hfc
        go_wp2
        go_roundg (T.length - (j + 1))
        case measure => omega
        case rel => exact ⟨j + 1, by omega, rfl, by go_num, hX.out⟩
    · have hje : j = T.length := by omega
      subst hje
      rw [List.take_length] at hown
      have m0 : wr.cell? ⟨w.heap.size, 0, none⟩ = some tv := by rw [cell_of_row wr w.heap.size 0 _ 57 (0, 0) hbx]; rfl
      have m1 : wr.cell? ⟨w.heap.size, 1, none⟩ = some (.map none) := by rw [cell_of_row wr w.heap.size 1 _ 57 (0, 0) hbx]; rfl
      have m2 : wr.cell? ⟨w.heap.size, 2, none⟩ = some (.map none) := by rw [cell_of_row wr w.heap.size 2 _ 57 (0, 0) hbx]; rfl
      have m3 : wr.cell? ⟨w.heap.size, 3, none⟩ = some (.slice none 0 0) := by rw [cell_of_row wr w.heap.size 3 _ 57 (0, 0) hbx]; rfl
      have m4 : wr.cell? ⟨w.heap.size, 4, none⟩ = some (.map none) := by rw [cell_of_row wr w.heap.size 4 _ 57 (0, 0) hbx]; rfl
      have f1 : wr.frozen? ⟨w.heap.size, 1, none⟩ = false := frozen_of_row wr w.heap.size 1 _ 57 hbx
      rcases Nat.eq_zero_or_pos Ks.length with h0 | h0
      · have hKs : Ks = [] := List.eq_nil_of_length_eq_zero h0
        subst hKs
        clear h0
        simp only [List.length_nil]
        go_wp2_with fail
        refine wp_loop_rounds 1 ?_; rw [rounds_succ]
        go_wp2_with fail
        refine (reached_any T [] (fun _ => .slice none 0 0) tv (.map none) (w.heap.size + 1) 0 wr hown hT (fun wx _ k => look_nil55 wx k) (fun k => World.ownsRow_nil _ _ _ _) (by simp) (by simp [univ]; omega)).mono ?_
        rintro e w2 ⟨b, R, rfl, hb, hm, hcl, hbel⟩
        go_wp2
        go_ret
        exact ⟨b, R, rfl, by have := hbw.size; omega, hm, hcl, hbw.trans (hbel.mono hbw.size)⟩
      · have h0i : (0 : Int) < (Ks.length : Int) := by omega
        have hmm := run_makeMap55
        have hbl := lt_of_block hbx
        have n1 : (wr.alloc (mobj [])).cell? ⟨w.heap.size, 1, none⟩ = some (.map none) := by rw [World.cell?_alloc_past _ _ _ hbl]; exact m1
        have n2 : (wr.alloc (mobj [])).frozen? ⟨w.heap.size, 1, none⟩ = false := by rw [World.frozen?_alloc_past _ _ _ hbl]; exact f1
        have hsc : (wr.setCell ⟨w.heap.size, 1, none⟩ (.map (some wr.heap.size))).heap.size = wr.heap.size := by simp [World.setCell]
        have hbx1 : ((wr.setCell ⟨w.heap.size, 1, none⟩ (.map (some wr.heap.size))).alloc (mobj [])).heap[w.heap.size]? = some (cont tv (.map (some wr.heap.size))) :=
          (Below.heap_alloc _ _ _ (by rw [hsc]; exact hbl)).trans (heap_setCell_same wr w.heap.size 1 _ 57 _ hbx)
        have hmp1 : ((wr.setCell ⟨w.heap.size, 1, none⟩ (.map (some wr.heap.size))).alloc (mobj [])).heap[wr.heap.size]? = some (mobj []) := by
          have := heap_alloc_new (wr.setCell ⟨w.heap.size, 1, none⟩ (.map (some wr.heap.size))) (mobj [])
          rw [hsc] at this; exact this
        have hbw1 : Below w.heap.size w ((wr.setCell ⟨w.heap.size, 1, none⟩ (.map (some wr.heap.size))).alloc (mobj [])) := (hbw.setCell (by simp) _).alloc (by rw [hsc]; exact hbw.size) _
        have how1 : ((wr.setCell ⟨w.heap.size, 1, none⟩ (.map (some wr.heap.size))).alloc (mobj [])).ownsRow (w.heap.size + 1) 34 2 tv T.length (flat T) := (ownsRow_setCell_below hown (by simp) _).alloc _
        clear hsc
        have htv : ∀ g, tv.ownBlock = some g → g < wr.heap.size := fun g e => (hown.lt g e).2
        have HQ := show Hid _ from And.intro hbx1 (And.intro hmp1 (And.intro hbw1 (And.intro how1 htv)))
        clear hbx1 hmp1 hbw1 how1 htv m0 m2 m3 m4 hbx hown hbw
        go_wp2_with fail
        clear n1 n2 m1 f1
        generalize hW0 : (wr.setCell ⟨w.heap.size, 1, none⟩ (.map (some wr.heap.size))).alloc (mobj []) = W0 at *
        generalize hBk : wr.heap.size = Bk at *
        have hbkl := lt_of_block HQ.out.2.1
        clear hW0 hBk
        go_loopg [14] Ks.length (fun k i wq => ∃ j, j ≤ Ks.length ∧ k = Ks.length - j ∧ i = .int .i64 (j : Int) ∧ Z2 W0 Bk Ks j wq)
        case atStart => exact ⟨0, Nat.zero_le _, rfl, rfl, [], HQ.out.2.1, Rows.nil _ _, fun k => by simp [get, glist, kept], by simp, Below.refl _ _⟩
        case round =>
          clear hmm
          rename World => wq
          obtain ⟨j, hj, hgk, rfl, L, hmap, hrows, hget, hLj, hb0⟩ := hrel
          by_cases hlt : j < Ks.length
          · have HK := show Hid _ from And.intro hmap (And.intro hrows hget)
            have hblt := lt_of_block hmap
            clear hmap hrows hget
            have c3 : wq.cell? ⟨g3, j, none⟩ = some (.int .i64 Ks[j].1.1) := by
              rw [hb0.cell (p := ⟨g3, j, none⟩) (by show g3 < Bk; omega), HQ.out.2.2.1.cell (p := ⟨g3, j, none⟩) l3]; exact H3.out j hlt
            have c4 : wq.cell? ⟨g4, j, none⟩ = some (.string Ks[j].1.2) := by
              rw [hb0.cell (p := ⟨g4, j, none⟩) (by show g4 < Bk; omega), HQ.out.2.2.1.cell (p := ⟨g4, j, none⟩) l4]; exact H4.out j hlt
            have c5 : wq.cell? ⟨g5, j, none⟩ = some (.string Ks[j].2) := by
              rw [hb0.cell (p := ⟨g5, j, none⟩) (by show g5 < Bk; omega), HQ.out.2.2.1.cell (p := ⟨g5, j, none⟩) l5]; exact H5.out j hlt
            have c6 : wq.cell? ⟨w.heap.size, 1, none⟩ = some (.map (some Bk)) := by
              rw [hb0.cell (p := ⟨w.heap.size, 1, none⟩) hbl, cell_of_row W0 w.heap.size 1 _ 57 (0, 0) HQ.out.1]; rfl
            have hlti : (j : Int) < (Ks.length : Int) := by omega
            have hlt0 : (0 : Int) ≤ (j : Int) := by omega
            generalize hx : Ks[j] = x at *
            obtain ⟨⟨xr, xf⟩, xt⟩ := x
            simp only at c3 c4 c5
            have e3 := World.new_ne wq _ c3
            have e4 := World.new_ne wq _ c4
            have e5 := World.new_ne wq _ c5
            have e6 := World.new_ne wq _ c6
            go_wp2_with fail
            go_region_held3 (fun w' => w'.cell? ⟨g3, j, none⟩ = some (.int .i64 xr) ∧ w'.cell? ⟨g4, j, none⟩ = some (.string xf)) (go_keep) (fail)
            have hW1m : Hid ((wq.alloc (.cells #[.int .i64 xr, .string xf] 34)).drew.heap[Bk]? = some (mobj (gmap L))) := (Below.heap_alloc wq _ _ hblt).trans HK.out.1
            have hW1r : Hid (Rows (Bk + 1) L (wq.alloc (.cells #[.int .i64 xr, .string xf] 34)).drew) := (HK.out.2.1.alloc _).drew
            have hW1b : Hid (Below Bk W0 (wq.alloc (.cells #[.int .i64 xr, .string xf] 34)).drew) := (hb0.alloc (by omega) _).drew
            have hW1s : Hid ((wq.alloc (.cells #[.int .i64 xr, .string xf] 34)).drew.heap.size = wq.heap.size + 1) := World.size_alloc wq _
            have d0 : Hid ((wq.alloc (.cells #[.int .i64 xr, .string xf] 34)).drew.cell? ⟨wq.heap.size, 0, none⟩ = some (.int .i64 xr)) := (new_drew wq _ _ 34).1
            have d1 : Hid ((wq.alloc (.cells #[.int .i64 xr, .string xf] 34)).drew.cell? ⟨wq.heap.size, 1, none⟩ = some (.string xf)) := (new_drew wq _ _ 34).2
            have d5 : Hid ((wq.alloc (.cells #[.int .i64 xr, .string xf] 34)).drew.cell? ⟨g5, j, none⟩ = some (.string xt)) := past_drew c5 _
            have d6 : Hid ((wq.alloc (.cells #[.int .i64 xr, .string xf] 34)).drew.cell? ⟨w.heap.size, 1, none⟩ = some (.map (some Bk))) := past_drew c6 _
            go_wp2_with fail
            generalize (wq.alloc (.cells #[.int .i64 xr, .string xf] 34)).drew = W1 at *
            obtain ⟨kb, hkb⟩ : ∃ kb, kb = wq.heap.size := ⟨_, rfl⟩
            rw [← hkb] at d0 d1 hW1s hblt ⊢
            have hvk : ∀ p ∈ L, ∀ g, p.2.1.ownBlock = some g → g < kb := fun p hp g e => by rw [hkb]; exact ((HK.out.2.1.own p hp).1.lt g e).2
            clear c3 c4 c5 c6 e3 e4 e5 e6 hkb
            have d0' := d0.out
            have d1' := d1.out
            have d5' := d5.out
            have d6' := d6.out
            obtain ⟨i9, hi9, hy0, hy1, hy2⟩ := info_parts info9
            have hsz1 : kb < W1.heap.size := by have := hW1s.out; omega
            cases hf : fnd (xr, xf) (gmap L) 0 with
            | some p =>
              obtain ⟨i, v⟩ := p
              have hgi := (fnd_some hf).2
              simp only [Nat.sub_zero] at hgi
              obtain ⟨ds, hLi, hge⟩ := grp_at HK.out.2.1.keys hf
              have hmem := List.mem_of_getElem? hLi
              have hov := (hW1r.out.own _ hmem).1
              simp only at hov
              have hdl : ds.length ≤ 300 := by
                have h1 := HK.out.2.2 (xr, xf)
                rw [hge] at h1
                have h2 := kept_len (Ks.take j) (xr, xf)
                rw [← h1, List.length_take] at h2
                omega
              clear hge
              have q1 := entry_old (w := W1.drew) hW1m.out xr xf i v hf
              have q2 := entry_old (w := (W1.alloc (.cells #[.string xt] 9)).drew) ((Below.heap_alloc W1 _ _ (lt_of_block hW1m.out)).trans hW1m.out) xr xf i v hf
              have av : ∀ g, v.ownBlock = some g → Bk + 1 ≤ g ∧ g < kb := fun g e => ⟨(hov.lt g e).1, hvk _ hmem g e⟩
              have a1 : some w.heap.size ≠ v.ownBlock := fun e => by have := av _ e.symm; omega
              have a2 : some kb ≠ v.ownBlock := fun e => by have := av _ e.symm; omega
              have a3 : some g5 ≠ v.ownBlock := fun e => by have := av _ e.symm; omega
              have a4 : some Bk ≠ v.ownBlock := fun e => by have := av _ e.symm; omega
              have HF := show Hid _ from hf
              have HG := show Hid _ from hgi
              have HI := show Hid _ from hLi
              have HM := show Hid _ from hmem
              clear hf hgi hLi hmem av
              go_region_held3 (fun w' => w'.cell? ⟨w.heap.size, 1, none⟩ = some (.map (some Bk)) ∧ w'.cell? ⟨kb, 0, none⟩ = some (.int .i64 xr) ∧ w'.cell? ⟨kb, 1, none⟩ = some (.string xf) ∧ w'.cell? ⟨g5, j, none⟩ = some (.string xt))
                (first
                  | go_keep
                  | (go_split_ands
                     refine ⟨?_, ?_, ?_, ?_⟩
                     · (rw [setB_cell _ _ _ _ (by simp; omega)]; assumption)
                     · (rw [setB_cell _ _ _ _ (by simp; omega)]; assumption)
                     · (rw [setB_cell _ _ _ _ (by simp; omega)]; assumption)
                     · (rw [setB_cell _ _ _ _ (by simp; omega)]; assumption))
                  | (go_split_ands
                     refine ⟨?_, ?_, ?_, ?_⟩
                     · (rw [hgrow.cell_far _ (by simp; omega) a1]; assumption)
                     · (rw [hgrow.cell_far _ (by simp; omega) a2]; assumption)
                     · (rw [hgrow.cell_far _ (by simp; omega) a2]; assumption)
                     · (rw [hgrow.cell_far _ (by simp; omega) a3]; assumption)))
                ((refine step_append_lies _ (by rfl) _ _ _ (by rfl) (Bk + 1) 9 i9 _ 1 16 Try.underlying45 hi9 hy0 hy1 hy2 rfl (by omega) v ds.length (ds.map .string) (by rfl) ((hov.alloc _).drew)
                    ⟨W1.heap.size, 0, none⟩ 1 1 [.string xt] (by rfl) (by rfl) (World.news_of_block (cs := #[.string xt]) (t := 9) (fr := (0, 0)) (heap_alloc_new W1 _)) (by simp [Value.oneCell'])
                    (by omega) (by unfold maxLen; omega) (by omega) (by simp; omega) (W1.heap.size + 1) (by simp) ?_; intro gg cap w1 hown1 hgrow hat hlt1; have hm1 : w1.heap[Bk]? = some (mobj (gmap L)) := ((hgrow.block Bk (by simp; omega) a4).trans (Below.heap_alloc W1 _ _ (lt_of_block hW1m.out))).trans hW1m.out; have hst := run_entry_store (T := 55) hm1 i (xr, xf) v HG.out (.slice (some ⟨gg, 0, none⟩) (ds.length + 1) cap)))
              have hX : Hid (Z2 W0 Bk Ks (j + 1) (setB w1 Bk (mobj ((gmap L).set i ((xr, xf), .slice (some ⟨gg, 0, none⟩) (ds.length + 1) cap))))) :=
                Z2.old hW1r.out HK.out.2.2 hLj hW1b.out (lt_of_block hW1m.out) hlt hx HI.out hown1 hgrow hat
              clear hown1 hgrow hat hlt1 hm1 hst q1 q2
              go_wp2
              go_roundg (Ks.length - (j + 1))
              case measure => omega
              case rel => exact ⟨j + 1, by omega, rfl, by go_num, hX.out⟩
            | none =>
              obtain ⟨W2, hW2⟩ : ∃ W2, W2 = setB W1 Bk (mobj (gmap L ++ [((xr, xf), .slice none 0 0)])) := ⟨_, rfl⟩
              have hbl1 := lt_of_block hW1m.out
              have hs2 : W2.heap.size = W1.heap.size := by rw [hW2]; exact setB_size _ _ _
              have q1 : (Instr.mapEntry 55 (.map (some Bk)) (.agg #[.int .i64 xr, .string xf])).run Try.prog W1.drew = .ok (.tuple #[.slice none 0 0, .int .i64 L.length]) W2.drew := by
                rw [hW2]; exact entry_new (w := W1.drew) hW1m.out xr xf hf
              have q2 : (Instr.mapEntry 55 (.map (some Bk)) (.agg #[.int .i64 xr, .string xf])).run Try.prog (W1.alloc (.cells #[.string xt] 9)).drew = .ok (.tuple #[.slice none 0 0, .int .i64 L.length]) (W2.alloc (.cells #[.string xt] 9)).drew := by
                rw [hW2, ← setB_alloc _ _ _ _ hbl1]; exact entry_new (w := (W1.alloc (.cells #[.string xt] 9)).drew) ((Below.heap_alloc W1 _ _ hbl1).trans hW1m.out) xr xf hf
              have k6 : W2.cell? ⟨w.heap.size, 1, none⟩ = some (.map (some Bk)) := by rw [hW2, setB_cell _ _ _ _ (by simp; omega)]; exact d6'
              have k0 : W2.cell? ⟨kb, 0, none⟩ = some (.int .i64 xr) := by rw [hW2, setB_cell _ _ _ _ (by simp; omega)]; exact d0'
              have k1 : W2.cell? ⟨kb, 1, none⟩ = some (.string xf) := by rw [hW2, setB_cell _ _ _ _ (by simp; omega)]; exact d1'
              have k5 : W2.cell? ⟨g5, j, none⟩ = some (.string xt) := by rw [hW2, setB_cell _ _ _ _ (by simp; omega)]; exact d5'
              have HR2 : Hid (Rows (Bk + 1) L W2) := by rw [hW2]; exact hW1r.out.setB (by omega) _
              have HB2 : Hid (Below Bk W0 W2) := by rw [hW2]; exact setB_below hW1b.out (Nat.le_refl _) _
              have HM2 : Hid (W2.heap[Bk]? = some (mobj (gmap L ++ [((xr, xf), .slice none 0 0)]))) := by rw [hW2]; exact setB_same _ _ _ hbl1
              have HN2 : Hid ((W2.alloc (.cells #[.string xt] 9)).heap[W1.heap.size]? = some (.cells #[.string xt] 9 (0, 0))) := by
                have := heap_alloc_new W2 (.cells #[.string xt] 9); rw [hs2] at this; exact this
              have HS2 : Hid (W2.heap.size = W1.heap.size) := hs2
              have HNK : Hid ((xr, xf) ∉ L.map Prod.fst) := by
                have := fnd_none.1 hf; rw [gmap_keys] at this; exact this
              have HLL : Hid ((gmap L ++ [((xr, xf), Value.slice none 0 0)])[L.length]? = some ((xr, xf), .slice none 0 0)) := by
                show _ = _
                rw [List.getElem?_append_right (by rw [gmap_length]; exact Nat.le_refl _), gmap_length]; simp
              clear hW2 hf
              go_region_held3 (fun w' => w'.cell? ⟨w.heap.size, 1, none⟩ = some (.map (some Bk)) ∧ w'.cell? ⟨kb, 0, none⟩ = some (.int .i64 xr) ∧ w'.cell? ⟨kb, 1, none⟩ = some (.string xf) ∧ w'.cell? ⟨g5, j, none⟩ = some (.string xt))
                (first
                  | go_keep
                  | (go_split_ands
                     refine ⟨?_, ?_, ?_, ?_⟩
                     · (rw [setB_cell _ _ _ _ (by simp; omega)]; assumption)
                     · (rw [setB_cell _ _ _ _ (by simp; omega)]; assumption)
                     · (rw [setB_cell _ _ _ _ (by simp; omega)]; assumption)
                     · (rw [setB_cell _ _ _ _ (by simp; omega)]; assumption))
                  | (go_split_ands
                     refine ⟨?_, ?_, ?_, ?_⟩
                     · (rw [hgrow.cell_far _ (by simp; omega) (by simp [Value.ownBlock])]; assumption)
                     · (rw [hgrow.cell_far _ (by simp; omega) (by simp [Value.ownBlock])]; assumption)
                     · (rw [hgrow.cell_far _ (by simp; omega) (by simp [Value.ownBlock])]; assumption)
                     · (rw [hgrow.cell_far _ (by simp; omega) (by simp [Value.ownBlock])]; assumption)))
                ((refine step_append_lies _ (by rfl) _ _ _ (by rfl) (Bk + 1) 9 i9 _ 1 16 Try.underlying45 hi9 hy0 hy1 hy2 rfl (by omega) (.slice none 0 0) 0 [] (by rfl) (World.ownsRow_nil _ _ _ _)
                    ⟨W1.heap.size, 0, none⟩ 1 1 [.string xt] (by rfl) (by rfl) (World.news_of_block (cs := #[.string xt]) (t := 9) (fr := (0, 0)) HN2.out) (by simp [Value.oneCell'])
                    (by omega) (by unfold maxLen; omega) (by omega) (by simp; omega) (W1.heap.size + 1) (by simp [hs2]) ?_; intro gg cap w1 hown1 hgrow hat hlt1; have hm1 : w1.heap[Bk]? = some (mobj (gmap L ++ [((xr, xf), .slice none 0 0)])) := ((hgrow.block Bk (by simp; omega) (by simp [Value.ownBlock])).trans (Below.heap_alloc W2 _ _ (lt_of_block HM2.out))).trans HM2.out; have hst := run_entry_store (T := 55) hm1 L.length (xr, xf) (.slice none 0 0) HLL.out (.slice (some ⟨gg, 0, none⟩) 1 cap)))
              have hX : Hid (Z2 W0 Bk Ks (j + 1) (setB w1 Bk (mobj ((gmap L ++ [((xr, xf), Value.slice none 0 0)]).set L.length ((xr, xf), Value.slice (some ⟨gg, 0, none⟩) 1 cap))))) :=
                Z2.new (W1 := W1) HR2.out HK.out.2.2 hLj HB2.out (lt_of_block HM2.out) HS2.out hlt hx HNK.out hown1 hgrow (by simpa [Value.ownBlock] using hat)
              clear hown1 hgrow hat hlt1 hm1 hst q1 q2
              go_wp2
              go_roundg (Ks.length - (j + 1))
              case measure => omega
              case rel => exact ⟨j + 1, by omega, rfl, by go_num, hX.out⟩
          · have hje : j = Ks.length := by omega
            subst hje
            have hblt := lt_of_block hmap
            have hbx2 : wq.heap[w.heap.size]? = some (cont tv (.map (some Bk))) := (hb0.block _ hbl).trans HQ.out.1
            have p0 : wq.cell? ⟨w.heap.size, 0, none⟩ = some tv := by rw [cell_of_row wq w.heap.size 0 _ 57 (0, 0) hbx2]; rfl
            have p1 : wq.cell? ⟨w.heap.size, 1, none⟩ = some (.map (some Bk)) := by rw [cell_of_row wq w.heap.size 1 _ 57 (0, 0) hbx2]; rfl
            have p2 : wq.cell? ⟨w.heap.size, 2, none⟩ = some (.map none) := by rw [cell_of_row wq w.heap.size 2 _ 57 (0, 0) hbx2]; rfl
            have p3 : wq.cell? ⟨w.heap.size, 3, none⟩ = some (.slice none 0 0) := by rw [cell_of_row wq w.heap.size 3 _ 57 (0, 0) hbx2]; rfl
            have p4 : wq.cell? ⟨w.heap.size, 4, none⟩ = some (.map none) := by rw [cell_of_row wq w.heap.size 4 _ 57 (0, 0) hbx2]; rfl
            have how : Hid (wq.ownsRow (w.heap.size + 1) 34 2 tv T.length (flat T)) := owns_below HQ.out.2.2.2.1 hb0 HQ.out.2.2.2.2
            have hbq : Hid (Below w.heap.size w wq) := HQ.out.2.2.1.trans (hb0.mono (by omega))
            have HE : Hid (get (glist L) = kept Ks) := by
              show _ = _
              funext k; rw [hget k, List.take_length]
            have HLK : Hid (∀ wx, Below wq.heap.size wq wx → ∀ k : K, (Instr.lookup 55 (.map (some Bk)) (.agg #[.int .i64 k.1, .string k.2]) false).run Try.prog wx = .ok (valAt L k) wx) :=
              fun wx hwx k => run_look Try.underlying55 (zero45 wx) ((hwx.block Bk hblt).trans hmap) k
            have HVL : Hid (∀ k, wq.ownsRow (Bk + 1) 9 1 (valAt L k) (get (glist L) k).length ((get (glist L) k).map .string)) := fun k => valAt_own hrows k
            have HGL : Hid (∀ p ∈ L, p.2.2.length ≤ 300) := by
              intro p hp
              have n1 : ((glist L).map Prod.fst).Nodup := by rw [glist_keys]; exact hrows.keys
              have e1 := get_of_mem n1 (k := p.1) (ds := p.2.2) (List.mem_map.2 ⟨p, hp, rfl⟩)
              have e2 := kept_len Ks p.1
              rw [← HE.out, e1] at e2
              omega
            clear hmap hrows hget hbx2
            go_wp2_with fail
            refine (reached_any T (glist L) (valAt L) tv (.map (some Bk)) (w.heap.size + 1) (Bk + 1) wq how.out hT HLK.out HVL.out (fun p hp => by obtain ⟨q, hq, rfl⟩ := List.mem_map.1 hp; exact HGL.out q hq) (by have := univ_len T L 300 HGL.out; omega)).mono ?_
            rintro e w2 ⟨b, R, rfl, hb, hm, hcl, hbel⟩
            rw [HE.out] at hcl
            go_wp2
            go_ret
            exact ⟨b, R, rfl, by have := hbq.out.size; omega, hm, hcl, hbq.out.trans (hbel.mono hbq.out.size)⟩

end Go.Proofs.Qxb6000638a.Rch
