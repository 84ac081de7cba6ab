import Derived.Test.Qxb6000638aClones
namespace Go.Proofs.Qxb6000638a.Rch
open Go.RowKit
attribute [local go_sem ↓] Go.wp_at_zero Go.wp_at_succ

theorem run_mk0 {t e : TypeId} {z : Value} {size bytes : Nat} (ht : Try.prog.underlying t = some (.slice e)) (hinfo : (Try.prog.info? e).map (fun i => (i.zero, i.size, i.bytes)) = some (some z, size, bytes))
    (n : Int) (h0 : 0 ≤ n) (hb : n ≤ 100000) (hb2 : bytes ≤ 1000) (w : World) :
    (Instr.makeSlice t (.int .i64 0) (.int .i64 n)).run Try.prog w = .ok (.slice (some ⟨w.heap.size, 0, none⟩) 0 n.toNat) (w.alloc (mrow e z (n.toNat * size))) := by
  obtain ⟨i, hi, hz0, hz1, hz2⟩ := info_parts hinfo
  have hb' : (i.bytes : Int) * n ≤ 281474976710656 := by
    have : (i.bytes : Int) ≤ 1000 := by rw [hz2]; omega
    have h3 : (i.bytes : Int) * n ≤ 1000 * n := Int.mul_le_mul_of_nonneg_right this h0
    omega
  have hr := run_make (P := Try.prog) w t e i z ht hi hz0 .i64 .i64 0 n (by omega) h0 hb' (by omega)
  simp only [hz1] at hr
  exact hr

theorem owns_made {w : World} {e : TypeId} {z : Value} {n size : Nat} (hn : n ≤ maxLen) : (w.alloc (mrow e z (n * size))).ownsRow w.heap.size e size (.slice (some ⟨w.heap.size, 0, none⟩) 0 n) 0 [] :=
  World.ownsRow_made w _ n (Nat.le_refl _) hn (size_madeCells _ _)

theorem owns_mans {w : World} {base : Nat} {v : Value} {ks : List K} (h : w.ownsRow base 37 2 v ks.length (flat ks)) : ∃ a c, v = .slice a ks.length c ∧ MansAt a ks w := by
  rcases h.2 with ⟨h1, h2⟩ | ⟨g, cap, cur, h1, h2, h3, h4, h5, h6, h7⟩
  · exact ⟨none, 0, by rw [h1, h2], fun j hj => by omega⟩
  · subst h1
    refine ⟨_, _, rfl, fun j hj => ⟨g, rfl, lt_of_block h3, ?_, ?_⟩⟩
    · rw [h.cellAt _ (by omega)]; exact (flat_at ks j hj).1
    · rw [h.cellAt _ (by omega)]; exact (flat_at ks j hj).2

theorem undrew {w w' : World} {r : Option Nat} (h : w.drew.grownBy w' r) : w.grownBy w' r := ⟨h.os, h.tape, h.output, h.size, h.block⟩

/-- What holds while the candidates are gathered: n of them. -/
def Cd (w : World) (n : Nat) (v : Value) (wr : World) : Prop := ∃ ks : List K, ks.length = n ∧ wr.ownsRow w.heap.size 37 2 v n (flat ks) ∧ Below w.heap.size w wr

theorem Cd.step {w wr w1 : World} {n g cap : Nat} {v : Value} {ks : List K} (hks : ks.length = n) (hown : wr.ownsRow w.heap.size 37 2 v n (flat ks)) (hbw : Below w.heap.size w wr) (k : K) {o : Obj}
    (hown1 : w1.ownsRow w.heap.size 37 2 (.slice (some ⟨g, 0, none⟩) (n + 1) cap) (n + 1) (flat ks ++ [.int .i64 k.1, .string k.2])) (hgrow : (wr.alloc o).grownBy w1 v.ownBlock) :
    Cd w (n + 1) (.slice (some ⟨g, 0, none⟩) (n + 1) cap) w1 :=
  ⟨ks ++ [k], by simp [hks], by rw [flat_append, flat_one]; exact hown1, Below.grown (hbw.alloc hbw.size o) hgrow (by have := hbw.size; simp; omega) (fun j hj => (hown.lt _ hj).1)⟩

set_option maxRecDepth 100000 in
set_option maxHeartbeats 2000000 in
/-- b1Candidates: some list of manifests. -/
theorem cands_any (T : List K) (Ks : List (K × ByteArray)) (ta ka : Option Addr) (tc kc : Nat) (w : World) (hT : T.length ≤ 300) (hK : Ks.length ≤ 300) (hTa : MansAt ta T w) (hKa : KeepsAt ka Ks w) :
    Calls Try.prog 18 #[.slice ta T.length tc, .slice ka Ks.length kc] w fun e w' => ∃ (all : List K) (a : Option Addr) (c : Nat), e = .returned (.slice a all.length c) ∧ all.length ≤ 1000 ∧ MansAt a all w' ∧ Below w.heap.size w w' := by
  obtain ⟨i0, hi, hz0, hz1, hz2⟩ := info_parts info37
  have HT := show Hid _ from hTa
  have HK := show Hid _ from hKa
  clear hTa hKa
  have mk1 := run_mk0 Try.underlying22 info37 ((T.length : Int) + 2 * (Ks.length : Int)) (by omega) (by omega) (by omega)
  go_enter Try.func18, Try.ntmps18
  go_wp2_with fail
  clear mk1
  go_loopg [5, 17] T.length (fun k v i wr => ∃ j, j ≤ T.length ∧ k = T.length - j ∧ i = .int .i64 (j : Int) ∧ Cd w j v wr)
  case atStart => exact ⟨0, Nat.zero_le _, rfl, rfl, [], rfl, owns_made (by unfold maxLen; omega), (Below.refl _ _).alloc (Nat.le_refl _) _⟩
  case round =>
    obtain ⟨j, hj, hgk, rfl, ks, hks, hown, hbw⟩ := hrel
    by_cases hlt : j < T.length
    · obtain ⟨g, rfl, hg1, hg2, hg3⟩ := HT.out j hlt
      have x1 := (hbw.cell (p := ⟨g, j * 2, none⟩) hg1).trans hg2
      have x2 := (hbw.cell (p := ⟨g, j * 2 + 1, none⟩) hg1).trans hg3
      have c37 : Try.prog.cellsOf 37 = 2 := by kernel_rfl
      have hlti : (j : Int) < (T.length : Int) := by omega
      have hlt0 : (0 : Int) ≤ (j : Int) := by omega
      have hbs := hbw.size
      go_wp2_with (at_builtin; refine wpList_append_lies _ rfl _ _ 22 rfl w.heap.size 37 i0 (.agg #[.int .i64 0, .string ByteArray.empty]) 2 24 Try.underlying22 hi hz0 hz1 hz2 rfl (by decide) _ _ _ rfl (hown.alloc _) ⟨wr.heap.size, 0, none⟩ 1 1 [.int .i64 T[j].1, .string T[j].2] rfl rfl ?e1 ?e2 ?e3 ?e4 ?e5 ?e6 (wr.heap.size + 1) ?e7 ?_)
      case e1 => exact cell_two_new _ _ _ _
      case e2 => intro u hu; simp at hu; rcases hu with rfl | rfl <;> rfl
      case e3 => omega
      case e4 => unfold maxLen; omega
      case e5 => omega
      case e6 => simp; omega
      case e7 => simp
      · intro g1 cap1 w3 hown3 hgrow3 hat3 hlt3
        have hX : Hid (Cd w (j + 1) (.slice (some ⟨g1, 0, none⟩) (j + 1) cap1) w3) := Cd.step hks hown hbw T[j] hown3 hgrow3
        clear hown3 hgrow3 hat3 hlt3 hown hbw hks
        go_wp2
        go_roundg (T.length - (j + 1))
        case measure => omega
        case rel => exact ⟨j + 1, by omega, rfl, by go_num, hX.out⟩
    · have hje : j = T.length := by omega
      subst hje
      have HC : Hid (Cd w (T.length + 2 * 0) _ wr) := ⟨ks, hks, hown, hbw⟩
      clear hks hown hbw
      go_wp2_with fail
      go_loopg [5, 30] Ks.length (fun k v i wr => ∃ j, j ≤ Ks.length ∧ k = Ks.length - j ∧ i = .int .i64 (j : Int) ∧ Cd w (T.length + 2 * j) v wr)
      case atStart => exact ⟨0, Nat.zero_le _, rfl, rfl, HC.out⟩
      case round =>
        rename World => wq
        clear HC
        obtain ⟨j, hj, hgk, rfl, ks, hks, hown, hbw⟩ := hrel
        by_cases hlt : j < Ks.length
        · obtain ⟨g, rfl, hg1, hg2, hg3, hg4⟩ := HK.out j hlt
          have x1 := (hbw.cell (p := ⟨g, j * 3, none⟩) hg1).trans hg2
          have x2 := (hbw.cell (p := ⟨g, j * 3 + 1, none⟩) hg1).trans hg3
          have x3 := (hbw.cell (p := ⟨g, j * 3 + 2, none⟩) hg1).trans hg4
          have c39 : Try.prog.cellsOf 39 = 3 := by kernel_rfl
          have hlti : (j : Int) < (Ks.length : Int) := by omega
          have hlt0 : (0 : Int) ≤ (j : Int) := by omega
          have hbs := hbw.size
          generalize hx : Ks[j] = x at *
          obtain ⟨⟨xr, xf⟩, xt⟩ := x
          simp only at x1 x2 x3
          have ag : some g ≠ Value.ownBlock u5 := fun e => by have := (hown.lt _ e.symm).1; omega
          generalize hN : T.length + 2 * j = N at *
          have hN2 : N ≤ 900 := by omega
          go_wp2_with fail
          go_region_held3 (fun w' => w'.cell? ⟨g, j * 3, none⟩ = some (.int .i64 xr) ∧ w'.cell? ⟨g, j * 3 + 1, none⟩ = some (.string xf))
            (first
              | go_keep
              | (go_split_ands
                 refine ⟨?_, ?_⟩
                 · (rw [hgrow.cell_far _ (by simp; omega) ag]; assumption)
                 · (rw [hgrow.cell_far _ (by simp; omega) ag]; assumption)))
            ((refine step_append_lies _ (by rfl) _ _ _ (by rfl) w.heap.size 37 i0 _ 2 24 Try.underlying22 hi hz0 hz1 hz2 rfl (by omega) u5 N (flat ks) (by rfl) ((hown.alloc _).drew)
                ⟨wq.heap.size, 0, none⟩ 1 1 [.int .i64 xr, .string xf] (by rfl) (by rfl) (World.news_of_block (cs := #[.int .i64 xr, .string xf]) (t := 37) (fr := (0, 0)) (heap_alloc_new wq _)) (by simp [Value.oneCell'])
                (by omega) (by unfold maxLen; omega) (by omega) (by simp; omega) (wq.heap.size + 1) (by simp) ?_; intro gg cap w1 hown1 hgrow hat hlt1))
          obtain ⟨ks2, hks2, hown2, hbw2⟩ := Cd.step hks hown hbw (xr, xf) hown1 (undrew hgrow)
          have y1 : w1.cell? ⟨g, j * 3, none⟩ = some (.int .i64 xr) := by rw [hgrow.cell_far (a := ⟨g, j * 3, none⟩) (by show g < (wq.alloc _).heap.size; simp; omega) ag]; exact past_drew x1 _
          have y3 : w1.cell? ⟨g, j * 3 + 2, none⟩ = some (.string xt) := by rw [hgrow.cell_far (a := ⟨g, j * 3 + 2, none⟩) (by show g < (wq.alloc _).heap.size; simp; omega) ag]; exact past_drew x3 _
          have hbs2 := hbw2.size
          have ag2 : some g ≠ Value.ownBlock (.slice (some ⟨gg, 0, none⟩) (N + 1) cap) := fun e => by have := (hown2.lt _ e.symm).1; omega
          clear hown1 hgrow hat hlt1 hks hown hbw x1 x2 x3 ag
          go_wp2_with fail
          go_region_held3 (fun w' => w'.cell? ⟨g, j * 3, none⟩ = some (.int .i64 xr) ∧ w'.cell? ⟨g, j * 3 + 2, none⟩ = some (.string xt))
            (first
              | go_keep
              | (go_split_ands
                 refine ⟨?_, ?_⟩
                 · (rw [hgrow.cell_far _ (by simp; omega) ag2]; assumption)
                 · (rw [hgrow.cell_far _ (by simp; omega) ag2]; assumption)))
            ((refine step_append_lies _ (by rfl) _ _ _ (by rfl) w.heap.size 37 i0 _ 2 24 Try.underlying22 hi hz0 hz1 hz2 rfl (by omega) (.slice (some ⟨gg, 0, none⟩) (N + 1) cap) (N + 1) (flat ks2) (by rfl) ((hown2.alloc _).drew)
                ⟨w1.heap.size, 0, none⟩ 1 1 [.int .i64 xr, .string xt] (by rfl) (by rfl) (World.news_of_block (cs := #[.int .i64 xr, .string xt]) (t := 37) (fr := (0, 0)) (heap_alloc_new w1 _)) (by simp [Value.oneCell'])
                (by omega) (by unfold maxLen; omega) (by omega) (by simp; omega) (w1.heap.size + 1) (by simp) ?_; intro gg2 cap2 w4 hown4 hgrow hat hlt1))
          have hX : Hid (Cd w (N + 1 + 1) (.slice (some ⟨gg2, 0, none⟩) (N + 1 + 1) cap2) w4) := Cd.step hks2 hown2 hbw2 (xr, xt) hown4 (undrew hgrow)
          clear hown4 hgrow hat hlt1
          go_wp2
          go_roundg (Ks.length - (j + 1))
          case measure => omega
          case rel => exact ⟨j + 1, by omega, rfl, by go_num, by rw [show T.length + 2 * (j + 1) = N + 1 + 1 by omega]; exact hX.out⟩
        · obtain ⟨a, c, hv, hm⟩ := owns_mans (ks := ks) (by rw [hks]; exact hown)
          have HM := show Hid _ from And.intro hv (And.intro hm (And.intro hks hbw))
          clear hv hm hks hown hbw
          go_wp2
          go_ret
          exact ⟨ks, a, c, by rw [← HM.out.1]; rfl, by have := HM.out.2.2.1; omega, HM.out.2.1, HM.out.2.2.2⟩

end Go.Proofs.Qxb6000638a.Rch
