import Derived.Test.Qxb6000638aCands
namespace Go.Proofs.Qxb6000638a.Rch
open Go.RowKit
attribute [local go_sem ↓] Go.wp_at_zero Go.wp_at_succ

/-- What b1IndexOf answers. -/
def IdxOf (N : List K) (m : K) (e : Ending) : Prop := (e = .returned (.int .i64 (-1)) ∧ m ∉ N) ∨ ∃ i : Nat, e = .returned (.int .i64 (i : Int)) ∧ N[i]? = some m

theorem grown_none {w w' : World} (h : Below w.heap.size w w') : w.grownBy w' none := ⟨h.os, h.tape, h.output, h.size, fun k hk _ => h.block k hk⟩

set_option maxRecDepth 100000 in
set_option maxHeartbeats 2000000 in
/-- b1IndexOf. -/
theorem index_any (N : List K) (a : Option Addr) (c : Nat) (m : K) (w : World) (hN : N.length ≤ 10000) (hNa : MansAt a N w) :
    Calls Try.prog 28 #[.slice a N.length c, .agg #[.int .i64 m.1, .string m.2]] w fun e w' => IdxOf N m e ∧ Below w.heap.size w w' := by
  have HN : Hid (MansAt a N w) := hNa
  clear hNa
  go_enter Try.func28, Try.ntmps28
  go_wp2_with fail
  go_loopg [8] N.length (fun k i wr => ∃ j, j ≤ N.length ∧ k = N.length - j ∧ i = .int .i64 (j : Int) ∧ (∀ x, x < j → N[x]? ≠ some m) ∧ ∃ nq, (w.alloc (.cells #[.int .i64 m.1, .string m.2] 37)).drewN nq = wr)
  case atStart => exact ⟨0, Nat.zero_le _, rfl, rfl, fun x hx => by omega, 0, rfl⟩
  case round =>
    obtain ⟨j, hj, hgk, rfl, hno, nq, hwr⟩ := hrel
    have hbw : Below w.heap.size w wr := by rw [← hwr]; exact below_drewN ((Below.refl _ _).alloc (Nat.le_refl _) _) _
    by_cases hlt : j < N.length
    · obtain ⟨g, rfl, hg1, hg2, hg3⟩ := HN.out j hlt
      have x1 := (hbw.cell (p := ⟨g, j * 2, none⟩) hg1).trans hg2
      have x2 := (hbw.cell (p := ⟨g, j * 2 + 1, none⟩) hg1).trans hg3
      have m1 : wr.cell? ⟨w.heap.size, 0, none⟩ = some (.int .i64 m.1) := by rw [← hwr]; exact (new_drew w (.int .i64 m.1) (.string m.2) 37).1
      have m2 : wr.cell? ⟨w.heap.size, 1, none⟩ = some (.string m.2) := by rw [← hwr]; exact (new_drew w (.int .i64 m.1) (.string m.2) 37).2
      have HW := show Hid _ from hwr
      have HNO := show Hid _ from hno
      clear hwr hno
      have c37 : Try.prog.cellsOf 37 = 2 := by kernel_rfl
      have hlti : (j : Int) < (N.length : Int) := by omega
      have hlt0 : (0 : Int) ≤ (j : Int) := by omega
      have hNj : N[j]? = some N[j] := List.getElem?_eq_getElem hlt
      generalize N[j] = y at *
      have HNj := show Hid _ from hNj
      clear hNj
      by_cases h1 : y.1 = m.1
      · have b1 : (y.1 == m.1) = true := by rw [h1]; simp
        by_cases h2 : y.2 = m.2
        · have b2 : (y.2.toList == m.2.toList) = true := by rw [h2]; simp
          go_wp2_with fail
          go_quiet (fail)
          go_wp2
          go_ret
          exact ⟨.inr ⟨j, rfl, by rw [HNj.out]; exact congrArg some (Prod.ext h1 h2)⟩, below_drewN hbw _⟩
        · have b2 : (y.2.toList == m.2.toList) = false := by
            apply beq_eq_false_iff_ne.2
            rw [ByteArray.toList_eq, ByteArray.toList_eq]
            exact fun h => h2 (ByteArray.ext (Array.toList_inj.mp h))
          clear h1
          go_wp2_with fail
          go_quiet (fail)
          rename Nat => nq1
          go_wp2
          go_roundg (N.length - (j + 1))
          case measure => omega
          case rel =>
            refine ⟨j + 1, by omega, rfl, by go_num, fun x hx => ?_, nq + nq1, by rw [← HW.out, World.drewN_drewN]⟩
            by_cases e : x = j
            · rw [e, HNj.out]
              intro h
              obtain rfl := Option.some.inj h
              exact h2 rfl
            · exact HNO.out x (by omega)
      · have b1 : (y.1 == m.1) = false := by simp [h1]
        go_wp2_with fail
        go_quiet (fail)
        rename Nat => nq1
        go_wp2
        go_roundg (N.length - (j + 1))
        case measure => omega
        case rel =>
          refine ⟨j + 1, by omega, rfl, by go_num, fun x hx => ?_, nq + nq1, by rw [← HW.out, World.drewN_drewN]⟩
          by_cases e : x = j
          · rw [e, HNj.out]
            intro h
            obtain rfl := Option.some.inj h
            exact h1 rfl
          · exact HNO.out x (by omega)
    · go_wp2
      go_ret
      refine ⟨.inl ⟨rfl, fun hm => ?_⟩, hbw⟩
      obtain ⟨x, hx, e⟩ := List.mem_iff_getElem.1 hm
      exact hno x (by omega) (by rw [List.getElem?_eq_getElem hx, e])

/-- N' is N, or N with m behind it; m stands at i. -/
structure Interned (N N' : List K) (m : K) (i : Nat) : Prop where
  pre : ∀ (x : Nat) (k : K), N[x]? = some k → N'[x]? = some k
  here : N'[i]? = some m
  nodup : N.Nodup → N'.Nodup
  len : N'.length ≤ N.length + 1

theorem Interned.old {N : List K} {m : K} {i : Nat} (h : N[i]? = some m) : Interned N N m i := ⟨fun _ _ h => h, h, fun h => h, by omega⟩
theorem Interned.new {N : List K} {m : K} (h : m ∉ N) : Interned N (N ++ [m]) m N.length :=
  ⟨fun x k hx => by rw [List.getElem?_append_left (List.getElem?_eq_some_iff.1 hx).1]; exact hx, by simp, fun hn => by
    rw [List.nodup_append]
    exact ⟨hn, by simp, fun a ha b hb => by simp at hb; rw [hb]; exact fun e => h (e ▸ ha)⟩, by simp⟩

set_option maxRecDepth 100000 in
set_option maxHeartbeats 2000000 in
/-- b1Intern. -/
theorem intern_any (N : List K) (v : Value) (base : Nat) (m : K) (w : World) (hN : N.length ≤ 5000) (hown : w.ownsRow base 37 2 v N.length (flat N)) (hbase : base ≤ w.heap.size) :
    Calls Try.prog 25 #[v, .agg #[.int .i64 m.1, .string m.2]] w fun e w' => ∃ (N' : List K) (v' : Value) (i : Nat), e = .returned (.tuple #[v', .int .i64 (i : Int)]) ∧ Interned N N' m i ∧
      w'.ownsRow base 37 2 v' N'.length (flat N') ∧ w.grownBy w' v.ownBlock ∧ (v'.ownBlock = v.ownBlock ∨ ∃ g, v'.ownBlock = some g ∧ w.heap.size ≤ g) := by
  obtain ⟨i0, hi, hz0, hz1, hz2⟩ := info_parts info37
  obtain ⟨a, c, rfl, hma⟩ := owns_mans hown
  have hB0 := (Below.refl w.heap.size w).alloc (Nat.le_refl _) (.cells #[.int .i64 m.1, .string m.2] 37)
  have hX := heap_alloc_new w (.cells #[.int .i64 m.1, .string m.2] 37)
  have hma0 := hma.below hB0
  go_enter Try.func25, Try.ntmps25
  go_wp2_with fail
  generalize hw0 : w.alloc (.cells #[.int .i64 m.1, .string m.2] 37) = w0 at *
  have hs0 : w0.heap.size = w.heap.size + 1 := by rw [← hw0]; simp
  clear hw0
  refine (index_any N a c m w0 (by omega) hma0).mono ?_
  rintro e w1 ⟨hidx, hB1⟩
  have hX1 : w1.heap[w.heap.size]? = some (.cells #[.int .i64 m.1, .string m.2] 37 (0, 0)) := (hB1.block w.heap.size (by omega)).trans hX
  have hgr : w.grownBy w1 none := ⟨hB1.os.trans hB0.os, hB1.tape.trans hB0.tape, hB1.output.trans hB0.output, by have := hB1.size; omega, fun k hk _ => (hB1.block k (by omega)).trans (hB0.block k hk)⟩
  have hown1 := hown.kept hgr (by cases hv : (Value.slice a N.length c).ownBlock <;> simp)
  have m1 : w1.cell? ⟨w.heap.size, 0, none⟩ = some (.int .i64 m.1) := by rw [cell_of_row w1 _ 0 _ 37 (0, 0) hX1]; rfl
  have m2 : w1.cell? ⟨w.heap.size, 1, none⟩ = some (.string m.2) := by rw [cell_of_row w1 _ 1 _ 37 (0, 0) hX1]; rfl
  have hs1 := hgr.size
  have hs1' : w.heap.size < w1.heap.size := by have := hB1.size; omega
  clear hX hX1 hB0 hB1 hma hma0 hs0
  rcases hidx with ⟨rfl, hno⟩ | ⟨i, rfl, hat⟩
  · go_wp2_with (at_builtin; refine wpList_append_lies _ rfl _ _ 22 rfl base 37 i0 (.agg #[.int .i64 0, .string ByteArray.empty]) 2 24 Try.underlying22 hi hz0 hz1 hz2 rfl (by decide) _ _ _ rfl (hown1.alloc _) ⟨w1.heap.size, 0, none⟩ 1 1 [.int .i64 m.1, .string m.2] rfl rfl ?e1 ?e2 ?e3 ?e4 ?e5 ?e6 (w1.heap.size + 1) ?e7 ?_)
    case e1 => exact cell_two_new _ _ _ _
    case e2 => intro u hu; simp at hu; rcases hu with rfl | rfl <;> rfl
    case e3 => omega
    case e4 => unfold maxLen; omega
    case e5 => omega
    case e6 => simp; omega
    case e7 => simp
    · intro g1 cap1 w3 hown3 hgrow3 hat3 hlt3
      have HG : Hid (w.grownBy w3 (Value.slice a N.length c).ownBlock) := ⟨hgrow3.os.trans hgr.os, hgrow3.tape.trans hgr.tape, hgrow3.output.trans hgr.output, by have := hgrow3.size; simp at this; omega, fun k hk hne => by
        rw [hgrow3.block k (by simp; omega) hne, Below.heap_alloc _ _ _ (by omega)]; exact hgr.block k hk (by simp)⟩
      have HO : Hid (w3.ownsRow base 37 2 (.slice (some ⟨g1, 0, none⟩) (N.length + 1) cap1) (N ++ [m]).length (flat (N ++ [m]))) := by
        show World.ownsRow _ _ _ _ _ _ _
        rw [flat_append, flat_one, List.length_append, List.length_singleton]; exact hown3
      have HA : Hid ((Value.slice (some ⟨g1, 0, none⟩) (N.length + 1) cap1).ownBlock = (Value.slice a N.length c).ownBlock ∨ ∃ g, (Value.slice (some ⟨g1, 0, none⟩) (N.length + 1) cap1).ownBlock = some g ∧ w.heap.size ≤ g) := by
        rcases hat3 with h | h
        · exact .inl (by rw [h]; rfl)
        · exact .inr ⟨g1, rfl, by omega⟩
      clear hown3 hgrow3 hat3 hlt3 hown1 hgr hown
      go_wp2
      go_ret2
      exact ⟨N ++ [m], _, N.length, rfl, Interned.new hno, HO.out, HG.out, HA.out⟩
  · have HG : Hid (w.grownBy w1 (Value.slice a N.length c).ownBlock) := ⟨hgr.os, hgr.tape, hgr.output, hgr.size, fun k hk _ => hgr.block k hk (by simp)⟩
    have HA := show Hid _ from hat
    clear hat
    go_wp2
    go_ret2
    exact ⟨N, _, i, rfl, Interned.old HA.out, hown1, HG.out, .inl rfl⟩

end Go.Proofs.Qxb6000638a.Rch
