import Derived.Test.Qxb6000638aReachSmall
import Derived.Deep.LoopGhost
import Derived.Deep.AppendLies
namespace Go.Proofs.Qxb6000638a.Rch
open Go.RowKit

def st (R : List K) : List (K × Value) := R.map (fun k => (k, .bool true))
theorem st_snoc (R : List K) (k : K) : st (R ++ [k]) = st R ++ [(k, .bool true)] := by simp [st]
theorem st_keys (R : List K) : (st R).map Prod.fst = R := by simp [st, Function.comp_def]

theorem zero4 (w : World) : (zeroValue 4).run Try.prog w = .ok (.bool false) w := by kernel_rfl
theorem zero45 (w : World) : (zeroValue 45).run Try.prog w = .ok (.slice none 0 0) w := by kernel_rfl

theorem look_in {w : World} {b : Nat} {R : List K} (hb : w.heap[b]? = some (mobj (st R))) (k : K) (h : k ∈ R) :
    (Instr.lookup 28 (.map (some b)) (.agg #[.int .i64 k.1, .string k.2]) false).run Try.prog w = .ok (.bool true) w := by
  have h1 := run_look Try.underlying28 (zero4 w) hb k
  cases hf : fnd k (st R) 0 with
  | none => exact absurd (by rw [st_keys]; exact h) (fnd_none.1 hf)
  | some p =>
    obtain ⟨j, v⟩ := p
    have h2 := (fnd_some hf).2
    have h3 : v = .bool true := by
      have h4 := List.mem_of_getElem? h2
      simp only [st, List.mem_map, Prod.mk.injEq] at h4
      obtain ⟨_, _, _, h5⟩ := h4
      exact h5.symm
    rw [hf, h3] at h1
    exact h1
theorem look_out {w : World} {b : Nat} {R : List K} (hb : w.heap[b]? = some (mobj (st R))) (k : K) (h : k ∉ R) :
    (Instr.lookup 28 (.map (some b)) (.agg #[.int .i64 k.1, .string k.2]) false).run Try.prog w = .ok (.bool false) w := by
  have h1 := run_look Try.underlying28 (zero4 w) hb k
  rw [fnd_none.2 (by rw [st_keys]; exact h)] at h1
  exact h1
theorem put_out {w : World} {b : Nat} {R : List K} (hb : w.heap[b]? = some (mobj (st R))) (k : K) (h : k ∉ R) :
    (Instr.mapUpdate 28 (.map (some b)) (.agg #[.int .i64 k.1, .string k.2]) (.bool true)).run Try.prog w = .ok () (setB w b (mobj (st (R ++ [k])))) := by
  rw [st_snoc]
  exact run_put_new Try.underlying28 hb k (fnd_none.2 (by rw [st_keys]; exact h)) _

theorem run_makeMap28 (w : World) (n : Int) : (Instr.makeMap 28 (some (.int .i64 n))).run Try.prog w = .ok (.map (some w.heap.size)) (w.alloc (mobj [])) := by kernel_rfl
theorem run_makeMap55 (w : World) (n : Int) : (Instr.makeMap 55 (some (.int .i64 n))).run Try.prog w = .ok (.map (some w.heap.size)) (w.alloc (mobj [])) := by kernel_rfl

/-- What holds at the head of each round: 'todo' is owned, R is in the map; at most k rounds are to come. -/
def LoopRel (w : World) (T : List K) (gl : List (K × List ByteArray)) (tv mv : Value) (k : Nat) (v : Value) (wr : World) : Prop :=
  ∃ todo R : List K, wr.ownsRow (w.heap.size + 2) 34 2 v todo.length (flat todo) ∧ wr.heap[w.heap.size + 1]? = some (mobj (st R)) ∧
    wr.heap[w.heap.size]? = some (.cells #[tv, mv, .map none, .slice none 0 0, .map none] 57 (0, 0)) ∧ Below w.heap.size w wr ∧
    Inv T (get gl) todo R ∧ todo.length ≤ 300 + 300 * R.length ∧ ((univ T gl).length - R.length) * 1000 + todo.length ≤ k

/-- What holds at the head of each inner round: j of the kept digests have been put on 'todo'. -/
def InRel (w : World) (tv mv : Value) (todo R ds : List K) (m : K) (Bm : Nat) (j : Nat) (v : Value) (wr : World) : Prop :=
  wr.ownsRow (w.heap.size + 2) 34 2 v (todo.length + j) (flat (todo ++ ds.take j)) ∧ v.ownBlock ≠ some Bm ∧ w.heap.size + 1 < Bm ∧ wr.heap[w.heap.size + 1]? = some (mobj (st R)) ∧
    wr.heap[w.heap.size]? = some (.cells #[tv, mv, .map none, .slice none 0 0, .map none] 57 (0, 0)) ∧ wr.heap[Bm]? = some (.cells #[.int .i64 m.1, .string m.2] 34 (0, 0)) ∧ Below w.heap.size w wr

theorem InRel.step {w : World} {tv mv : Value} {todo R ds : List K} {m : K} {Bm j : Nat} {v : Value} {wr : World} (h : InRel w tv mv todo R ds m Bm j v wr) (hj : j < ds.length) {o : Obj} {g cap : Nat} {w1 : World}
    (hown : w1.ownsRow (w.heap.size + 2) 34 2 (.slice (some ⟨g, 0, none⟩) (todo.length + j + 1) cap) (todo.length + j + 1) (flat (todo ++ ds.take j) ++ [.int .i64 ds[j].1, .string ds[j].2]))
    (hgrow : (wr.alloc o).grownBy w1 v.ownBlock) (hat : v.ownBlock = some g ∨ g = wr.heap.size + 1) : InRel w tv mv todo R ds m Bm (j + 1) (.slice (some ⟨g, 0, none⟩) (todo.length + j + 1) cap) w1 := by
  obtain ⟨h1, h2, h3, h4, h5, h6, h7⟩ := h
  have l6 := lt_of_block h6
  have key : ∀ k x, wr.heap[k]? = some x → some k ≠ v.ownBlock → w1.heap[k]? = some x := by
    intro k x hx hne
    have hk := lt_of_block hx
    rw [hgrow.block k (by simp; omega) hne, Below.heap_alloc _ _ _ hk]; exact hx
  refine ⟨?_, ?_, h3, key _ _ h4 ?_, key _ _ h5 ?_, key _ _ h6 (Ne.symm h2), ?_⟩
  · rw [List.take_succ_eq_append_getElem hj, ← List.append_assoc, flat_append, flat_one]
    exact hown
  · simp only [Value.ownBlock]
    rcases hat with hat | hat
    · rw [← hat]; exact h2
    · intro e; simp at e; omega
  · intro e; have := (h1.lt _ e.symm).1; omega
  · intro e; have := (h1.lt _ e.symm).1; omega
  · exact Below.grown (h7.alloc h7.size _) hgrow (by have := h7.size; simp; omega) (fun k hk => by have := (h1.lt _ hk).1; omega)

set_option maxRecDepth 100000 in
set_option maxHeartbeats 2000000 in
theorem reached_any (T : List K) (gl : List (K × List ByteArray)) (vals : K → Value) (tv mv : Value) (base base' : Nat) (w : World)
    (hT : w.ownsRow base 34 2 tv T.length (flat T)) (hTn : T.length ≤ 300)
    (hlook : ∀ wr, Below w.heap.size w wr → ∀ k : K, (Instr.lookup 55 mv (.agg #[.int .i64 k.1, .string k.2]) false).run Try.prog wr = .ok (vals k) wr)
    (hvals : ∀ k, w.ownsRow base' 9 1 (vals k) (get gl k).length ((get gl k).map .string))
    (hgl : ∀ p ∈ gl, p.2.length ≤ 300) (hU : (univ T gl).length ≤ 1000000) :
    Calls Try.prog 27 #[.agg #[tv, mv, .map none, .slice none 0 0, .map none]] w fun e w' => ∃ b R, e = .returned (.map (some b)) ∧ w.heap.size ≤ b ∧
      w'.heap[b]? = some (mobj (st R)) ∧ Closure T (get gl) R ∧ Below w.heap.size w w' := by
  obtain ⟨i0, hi, hz0, hz1, hz2⟩ := info_parts info34
  have HT : Hid (w.ownsRow base 34 2 tv T.length (flat T)) := hT
  have HL := show Hid _ from hlook
  have HV := show Hid _ from hvals
  clear hlook hvals hT
  have hmm := run_makeMap28
  have hlen : ∃ a c, tv = .slice a T.length c := by
    rcases HT.out.2 with ⟨h1, h2⟩ | ⟨g, cap, cur, h1, _⟩
    · exact ⟨none, 0, by rw [h1, h2]⟩
    · exact ⟨_, _, h1⟩
  obtain ⟨ta, tc, rfl⟩ := hlen
  go_enter Try.func27, Try.ntmps27
  go_wp2_with fail
  refine (clone_any _ T.length T base _ ((HT.out.alloc _).alloc _) (by omega)).mono ?_
  rintro e w1 ⟨v1, rfl, hown1, hb1⟩
  have hs1 : (w.heap.size + 1) + 1 = ((w.alloc (.cells #[.slice ta T.length tc, mv, .map none, .slice none 0 0, .map none] 57)).alloc (mobj [])).heap.size := by simp
  have hm1 : w1.heap[w.heap.size + 1]? = some (mobj (st [])) := by
    rw [hb1.block _ (by rw [← hs1]; omega)]
    have := heap_alloc_new (w.alloc (.cells #[.slice ta T.length tc, mv, .map none, .slice none 0 0, .map none] 57)) (mobj [])
    simpa [st] using this
  have hbox : w1.heap[w.heap.size]? = some (.cells #[.slice ta T.length tc, mv, .map none, .slice none 0 0, .map none] 57 (0, 0)) := by
    rw [hb1.block _ (by rw [← hs1]; omega), Below.heap_alloc _ _ _ (by simp)]
    exact heap_alloc_new w _
  have hbw1 : Below w.heap.size w w1 := (((Below.refl w.heap.size w).alloc (Nat.le_refl _) _).alloc (by simp) _).trans (hb1.mono (by rw [← hs1]; omega))
  rw [← hs1] at hown1
  clear hs1 hb1
  go_wp2_with fail
  go_loopg [4] ((univ T gl).length * 1000 + T.length) (fun k v wr => LoopRel w T gl (.slice ta T.length tc) mv k v wr)
  case atStart => exact ⟨T, [], hown1, hm1, hbox, hbw1, Inv.start T _, by omega, by simp⟩
  case round =>
    clear hown1 hm1 hbox hbw1
    rename World => wO
    rename Nat => gO
    obtain ⟨todo, R, hown, hmap, hbox, hbw, hinv, hlen, hk⟩ := hrel
    rcases List.eq_nil_or_concat todo with rfl | ⟨todo, m, rfl⟩
    · have HX : Hid (Closure T (get gl) R) := hinv.done
      clear hinv hlen hk
      rcases hown.2 with ⟨rfl, _⟩ | ⟨g, cap, cur, rfl, _⟩
      · clear hown
        go_wp2
        go_ret
        exact ⟨_, R, rfl, by omega, hmap, HX.out, hbw⟩
      · simp only [List.length_nil]
        clear hown
        go_wp2
        go_ret
        exact ⟨_, R, rfl, by omega, hmap, HX.out, hbw⟩
    · simp only [List.concat_eq_append] at hown hinv hlen hk
      have hll : (todo ++ [m]).length = todo.length + 1 := by simp
      rw [hll] at hown hlen hk
      obtain ⟨g, cap, rfl, hg1, hg2⟩ := hown.form (by omega)
      have hcap : todo.length + 1 ≤ cap ∧ cap ≤ maxLen := by
        rcases hown.2 with ⟨h, _⟩ | ⟨g', cap', cur, h, _, _, h1, h2, _⟩
        · cases h
        · cases h; exact ⟨h1, h2⟩
      obtain ⟨hcap1, hcap2⟩ := hcap
      unfold maxLen at hcap2
      have hR := hinv.within
      have c0 : wO.cell? ⟨g, todo.length * 2, none⟩ = some (.int .i64 m.1) := by
        rw [hown.cellAt _ (by omega), flat_append, List.getElem?_append_right (by rw [flat_length]; omega), flat_length]; simp [flat_one]
      have c1 : wO.cell? ⟨g, todo.length * 2 + 1, none⟩ = some (.string m.2) := by
        rw [hown.cellAt _ (by omega), flat_append, List.getElem?_append_right (by rw [flat_length]; omega), flat_length]; simp [flat_one]
      have hix1 : (todo.length : Int) < (todo.length : Int) + 1 := by omega
      have c34 : Try.prog.cellsOf 34 = 2 := by kernel_rfl
      have hmap1 : (wO.alloc (.cells #[.int .i64 m.1, .string m.2] 34)).heap[w.heap.size + 1]? = some (mobj (st R)) := by
        rw [Below.heap_alloc _ _ _ (lt_of_block hmap)]; exact hmap
      have hpop : wO.ownsRow (w.heap.size + 2) 34 2 (.slice (some ⟨g, 0, none⟩) todo.length cap) todo.length (flat todo) := ownsRow_pop (flat_length todo) (by rw [flat_append] at hown; exact hown)
      have hbw2 := hbw.alloc hbw.size (.cells #[.int .i64 m.1, .string m.2] 34)
      have hbox2 : (wO.alloc (.cells #[.int .i64 m.1, .string m.2] 34)).heap[w.heap.size]? = some (.cells #[.slice ta T.length tc, mv, .map none, .slice none 0 0, .map none] 57 (0, 0)) := by
        rw [Below.heap_alloc _ _ _ (lt_of_block hbox)]; exact hbox
      have HP : Hid (wO.ownsRow (w.heap.size + 2) 34 2 (.slice (some ⟨g, 0, none⟩) todo.length cap) todo.length (flat todo)) := hpop
      have HB2 : Hid ((wO.alloc (.cells #[.int .i64 m.1, .string m.2] 34)).heap[w.heap.size]? = some (.cells #[.slice ta T.length tc, mv, .map none, .slice none 0 0, .map none] 57 (0, 0))) := hbox2
      have HM1 : Hid ((wO.alloc (.cells #[.int .i64 m.1, .string m.2] 34)).heap[w.heap.size + 1]? = some (mobj (st R))) := hmap1
      clear hpop hbox2 hmap1 hown hmap hbox
      by_cases hmem : m ∈ R
      · have hl := look_in HM1.out m hmem
        have HI : Hid (Inv T (get gl) todo R) := hinv.skip hmem
        clear hinv hmem
        go_wp2
        go_roundg (((univ T gl).length - R.length) * 1000 + todo.length)
        case measure => omega
        case rel => exact ⟨todo, R, HP.out.alloc _, HM1.out, HB2.out, hbw2, HI.out, by omega, by omega⟩
      · have hl := look_out HM1.out m hmem
        have hu := put_out HM1.out m hmem
        have HI : Hid (Inv T (get gl) (todo ++ (get gl m).map (fun d => (m.1, d))) (R ++ [m])) := hinv.push hmem
        have hR2 := HI.out.within
        obtain ⟨W2, hW2⟩ : ∃ W2, W2 = setB (wO.alloc (.cells #[.int .i64 m.1, .string m.2] 34)) (w.heap.size + 1) (mobj (st (R ++ [m]))) := ⟨_, rfl⟩
        rw [← hW2] at hu
        have hlt1 : w.heap.size + 1 < (wO.alloc (.cells #[.int .i64 m.1, .string m.2] 34)).heap.size := lt_of_block HM1.out
        have hBm : w.heap.size + 1 < wO.heap.size := by
          have := hbw.size; simp at hlt1; omega
        have hsz2 : wO.heap.size < W2.heap.size := by rw [hW2, setB_size]; simp
        have HM2 : Hid (W2.heap[w.heap.size + 1]? = some (mobj (st (R ++ [m])))) := by rw [hW2]; exact setB_same _ _ _ hlt1
        have HB3 : Hid (W2.heap[w.heap.size]? = some (.cells #[.slice ta T.length tc, mv, .map none, .slice none 0 0, .map none] 57 (0, 0))) := by
          rw [hW2]; exact (setB_other _ _ _ _ (by omega)).trans HB2.out
        have HM3 : Hid (W2.heap[wO.heap.size]? = some (.cells #[.int .i64 m.1, .string m.2] 34 (0, 0))) := by
          rw [hW2]; exact (setB_other _ _ _ _ (by omega)).trans (heap_alloc_new wO _)
        have hk1 : W2.cell? ⟨w.heap.size, 1, none⟩ = some mv := by rw [cell_of_row W2 w.heap.size 1 _ 57 (0, 0) HB3.out]; rfl
        have hk2 : W2.cell? ⟨wO.heap.size, 0, none⟩ = some (.int .i64 m.1) := by rw [cell_of_row W2 wO.heap.size 0 _ 34 (0, 0) HM3.out]; rfl
        have hk3 : W2.cell? ⟨wO.heap.size, 1, none⟩ = some (.string m.2) := by rw [cell_of_row W2 wO.heap.size 1 _ 34 (0, 0) HM3.out]; rfl
        have hbw3 : Below w.heap.size w W2 := by rw [hW2]; exact setB_below hbw2 (by omega) _
        have HO : Hid (W2.ownsRow (w.heap.size + 2) 34 2 (.slice (some ⟨g, 0, none⟩) todo.length cap) todo.length (flat todo)) := by
          rw [hW2]; exact (HP.out.alloc _).kept (setB_grown _ _ _) (.inr (by simp [Value.ownBlock]; omega))
        have hlk := HL.out W2 hbw3 m
        have HV2 := HV.out m
        have hgm := get_len hgl m
        clear hW2 hinv hmem HP HB2 HM1 hbw2 hbw hlt1
        generalize hds : get gl m = ds at *
        generalize hvm : vals m = vm at *
        clear hvm
        rcases HV2.2 with ⟨rfl, hn0⟩ | ⟨gv, capv, curv, rfl, _, hgv, _⟩
        · have hds0 : ds = [] := List.eq_nil_of_length_eq_zero hn0
          clear HV2 hn0
          subst hds0
          go_wp2_with fail
          refine wp_loop_rounds 1 ?_; rw [rounds_succ]
          go_wp2
          go_roundg (((univ T gl).length - (R ++ [m]).length) * 1000 + todo.length)
          case measure => simp only [List.length_append, List.length_singleton] at hR2 ⊢; omega
          case rel => exact ⟨todo, R ++ [m], HO.out, HM2.out, HB3.out, hbw3, by simpa using HI.out, by simp; omega, Nat.le_refl _⟩
        · have hgvl := lt_of_block hgv
          clear hgv
          go_wp2_with fail
          have HA : Hid (InRel w (.slice ta T.length tc) mv todo (R ++ [m]) (ds.map (fun d => (m.1, d))) m wO.heap.size 0 (.slice (some ⟨g, 0, none⟩) todo.length cap) W2) :=
            ⟨by simpa using HO.out, by simp [Value.ownBlock]; omega, hBm, HM2.out, HB3.out, HM3.out, hbw3⟩
          go_loopg [4, 39] ds.length (fun k v i wr2 => ∃ j, j ≤ ds.length ∧ k = ds.length - j ∧ i = .int .i64 (j : Int) ∧ InRel w (.slice ta T.length tc) mv todo (R ++ [m]) (ds.map (fun d => (m.1, d))) m wO.heap.size j v wr2)
          case atStart => exact ⟨0, Nat.zero_le _, rfl, rfl, HA.out⟩
          case round =>
            obtain ⟨j, hj, hgk, rfl, hR2⟩ := hrel
            by_cases hlt : j < ds.length
            · have HR : Hid _ := hR2
              have hil : j < (ds.map (fun d => (m.1, d))).length := by simpa using hlt
              have hown := hR2.1
              have hbb := hR2.2.2.2.2.2.2
              have hcm : wr.cell? ⟨wO.heap.size, 0, none⟩ = some (.int .i64 m.1) := by rw [cell_of_row wr wO.heap.size 0 _ 34 (0, 0) hR2.2.2.2.2.2.1]; rfl
              have hcv : wr.cell? ⟨gv, j, none⟩ = some (.string ds[j]) := by
                rw [hbb.cell (p := ⟨gv, j, none⟩) hgvl, HV2.cellAt j (by omega)]; simp [hlt]
              have hbs := hbb.size
              have hBs := lt_of_block hR2.2.2.2.2.2.1
              clear hR2
              go_wp2_with (at_builtin; refine wpList_append_lies _ rfl _ _ 54 rfl (w.heap.size + 2) 34 i0 (.agg #[.int .i64 0, .string ByteArray.empty]) 2 24 Try.underlying54 hi hz0 hz1 hz2 rfl (by decide) _ _ _ rfl (hown.alloc _) ⟨wr.heap.size, 0, none⟩ 1 1 [.int .i64 m.1, .string ds[j]] rfl rfl ?e1 ?e2 ?e3 ?e4 ?e5 ?e6 (wr.heap.size + 1) ?e7 ?_)
              case e1 => exact cell_two_new _ _ _ _
              case e2 => intro u hu; simp at hu; rcases hu with rfl | rfl <;> rfl
              case e3 => omega
              case e4 => unfold maxLen; omega
              case e5 => omega
              case e6 => simp; omega
              case e7 => simp
              · intro g1 cap1 w3 hown3 hgrow3 hat3 hlt3
                have hX : Hid (InRel w (.slice ta T.length tc) mv todo (R ++ [m]) (ds.map (fun d => (m.1, d))) m wO.heap.size (j + 1) (.slice (some ⟨g1, 0, none⟩) (todo.length + j + 1) cap1) w3) :=
                  InRel.step HR.out hil (by simpa using hown3) hgrow3 hat3
                clear hown3 hgrow3 hat3 hlt3 hown hbb hcm hcv
                go_wp2
                go_roundg (ds.length - (j + 1))
                case measure => omega
                case rel => exact ⟨j + 1, by omega, rfl, by go_num, hX.out⟩
            · have hje : j = ds.length := by omega
              subst hje
              obtain ⟨r1, r2, r3, r4, r5, r6, r7⟩ := hR2
              have HY : Hid (wr.ownsRow (w.heap.size + 2) 34 2 u4 (todo ++ ds.map (fun d => (m.1, d))).length (flat (todo ++ ds.map (fun d => (m.1, d))))) := by
                show World.ownsRow _ _ _ _ _ _ _
                rw [List.take_of_length_le (by simp)] at r1
                simpa using r1
              clear r1
              go_wp2
              go_roundg (((univ T gl).length - (R ++ [m]).length) * 1000 + (todo ++ ds.map (fun d => (m.1, d))).length)
              case measure => simp only [List.length_append, List.length_singleton, List.length_map] at hR2 ⊢; omega
              case rel => exact ⟨todo ++ ds.map (fun d => (m.1, d)), R ++ [m], HY.out, r4, r5, r7, HI.out, by simp; omega, Nat.le_refl _⟩

end Go.Proofs.Qxb6000638a.Rch
