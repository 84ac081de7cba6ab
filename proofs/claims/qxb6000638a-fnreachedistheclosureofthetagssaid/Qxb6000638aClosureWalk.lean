import Derived.Test.Qxb6000638aModel
import Derived.Test.Qxb6000638aGrowsWalk
namespace Go.Proofs.Qxb6000638a.Rch
open Go.RowKit

set_option maxRecDepth 100000 in
set_option maxHeartbeats 4000000 in
theorem closure_walk (T : List K) (Ks : List (K × ByteArray)) (ta ka : Option Addr) (tc kc : Nat) (w : World) (hT : T.length ≤ maxLen) (hK : Ks.length ≤ maxLen)
    (hTn : ta = none → T = []) (hKn : ka = none → Ks = []) (hTa : MansIn ta T w) (hKa : KeepsIn ka Ks w) :
    Calls Try.prog 3 #[.slice ta T.length tc, .slice ka Ks.length kc] w fun e w' => e = .returned (.bool true) ∧ Below w.heap.size w w' := by
  have HTn := show Hid _ from hTn
  have HKn := show Hid _ from hKn
  clear hTn hKn
  go_enter Try.func3, Try.ntmps3
  go_wp2_with fail
  refine (zz8_any T Ks ta ka tc kc w hT hK hTa hKa).mono ?_
  rintro e w1 ⟨⟨b, rfl⟩, rfl⟩
  cases b with
  | false =>
    go_wp2
    go_ret
    exact ⟨rfl, Below.refl _ _⟩
  | true =>
    go_wp2_with fail
    refine (bytes_any T Ks ta ka tc kc w hT hK hTa hKa).mono ?_
    rintro e w2 ⟨n1, rfl, hn1, hn2, nq, hw2⟩
    have hB2 : Below w.heap.size w w2 := by rw [← hw2]; exact below_drewN (Below.refl _ _) _
    clear hw2
    have hm2 := hTa.below hB2
    have hk2 := hKa.below hB2
    unfold maxLen at hT hK
    by_cases hbig : (1048576 : Int) < n1
    · go_wp2
      go_ret
      exact ⟨rfl, hB2⟩
    by_cases hl1 : (256 : Int) < (T.length : Int)
    · go_wp2
      go_ret
      exact ⟨rfl, hB2⟩
    by_cases hl2 : (256 : Int) < (Ks.length : Int)
    · go_wp2
      go_ret
      exact ⟨rfl, hB2⟩
    clear hTa hKa hn1 hn2
    go_wp2_with fail
    refine (clone_mans T ta tc w2 (by omega) HTn.out hm2).mono ?_
    rintro e w5 ⟨a5, c5, rfl, hma5, hB5⟩
    have hb5 : Below w.heap.size w w5 := hB2.trans (hB5.mono hB2.size)
    have hk5 := hk2.below hB5
    clear hB2 hk2 hm2 hB5
    go_wp2_with fail
    refine (clone_keeps Ks ka kc w5 (by omega) HKn.out hk5).mono ?_
    rintro e w6 ⟨a6, c6, rfl, hka6, hB6⟩
    have hb6 : Below w.heap.size w w6 := hb5.trans (hB6.mono hb5.size)
    have hma6 := hma5.below hB6
    clear hb5 hk5 hma5 hB6
    go_wp2_with fail
    refine (call_any T Ks a5 a6 c5 c6 w6 (by omega) (by omega) hma6 hka6).mono ?_
    rintro e w7 ⟨b7, R, rfl, hg7, hR, hC, hB7⟩
    have hb7 : Below w.heap.size w w7 := hb6.trans (hB7.mono hb6.size)
    have hma7 := hma6.below hB7
    have hka7 := hka6.below hB7
    clear hb6 hma6 hka6 hB7
    go_wp2_with fail
    refine (model_any T Ks a5 a6 c5 c6 w7 (by omega) (by omega) hma7 hka7).mono ?_
    rintro e w8 ⟨N, S, a8, c8, g8, rfl, hNl, hMod, hma8, hrow8, hB8⟩
    have hb8 : Below w.heap.size w w8 := hb7.trans (hB8.mono hb7.size)
    have hR8 : w8.heap[b7]? = some (mobj (st R)) := (hB8.block b7 (lt_of_block hR)).trans hR
    have hcnt := hMod.count hC
    have hmem := hMod.mem hC
    have hSl := hMod.len
    clear hb7 hma7 hka7 hR hB8
    have HC := show Hid _ from hcnt
    have HM := show Hid _ from hmem
    have HS := show Hid _ from hSl
    clear hcnt hmem hSl hMod hC
    go_wp2_with fail
    go_loopg [8, 41] N.length (fun k n i wr => ∃ j, j ≤ N.length ∧ k = N.length - j ∧ i = .int .i64 (j : Int) ∧ n = .int .i64 (((S.take j).count true : Nat) : Int) ∧ Below w8.heap.size w8 wr)
    case atStart => exact ⟨0, Nat.zero_le _, rfl, rfl, by simp, Below.refl _ _⟩
    case round =>
      obtain ⟨j, hj, hgk, rfl, rfl, hbw⟩ := hrel
      have hcl : (S.take j).count true ≤ N.length := by
        have h1 := List.count_le_length (a := true) (l := S.take j)
        have h2 := HS.out
        simp at h1; omega
      by_cases hlt : j < N.length
      · obtain ⟨g, rfl, hg1, hg2, hg3⟩ := hma8 j hlt
        have x1 := (hbw.cell (p := ⟨g, j * 2, none⟩) hg1).trans hg2
        have x2 := (hbw.cell (p := ⟨g, j * 2 + 1, none⟩) hg1).trans hg3
        have c37 : Try.prog.cellsOf 37 = 2 := by kernel_rfl
        have hSj : j < S.length := by have := HS.out; omega
        have r1 : S[j]? = some S[j] := List.getElem?_eq_getElem hSj
        have x3 := (hbw.cell (p := ⟨g8, j, none⟩) (lt_of_block hrow8)).trans (hrow8.cell r1)
        have HNj : Hid (N[j]? = some N[j]) := List.getElem?_eq_getElem hlt
        have HTk : Hid (S.take (j + 1) = S.take j ++ [S[j]]) := List.take_succ_eq_append_getElem hSj
        have hR9 : wr.heap[b7]? = some (mobj (st R)) := (hbw.block b7 (lt_of_block hR8)).trans hR8
        have hlti : (j : Int) < (N.length : Int) := by omega
        have hlt0 : (0 : Int) ≤ (j : Int) := by omega
        have HSj := show Hid _ from r1
        clear r1
        generalize N[j] = y at *
        generalize S[j] = b at *
        cases b with
        | false =>
          go_wp2
          go_roundg (N.length - (j + 1))
          case measure => omega
          case rel => exact ⟨j + 1, by omega, rfl, by go_num, by rw [HTk.out]; simp, hbw⟩
        | true =>
          have hin : y ∈ R := (HM.out y).2 ⟨j, HNj.out, HSj.out⟩
          go_wp2_with fail
          refine (b1key' y wr).mono ?_
          rintro e w9 ⟨rfl, hB9⟩
          have hb9 := hbw.trans (hB9.mono hbw.size)
          have L := look_in ((hB9.block b7 (lt_of_block hR9)).trans hR9) y hin
          clear hB9 hbw x1 x2 x3 hin
          go_wp2
          go_roundg (N.length - (j + 1))
          case measure => omega
          case rel => exact ⟨j + 1, by omega, rfl, by go_num, by rw [HTk.out]; simp, hb9⟩
      · have hje : j = N.length := by omega
        subst hje
        have hR9 : wr.heap[b7]? = some (mobj (st R)) := (hbw.block b7 (lt_of_block hR8)).trans hR8
        have G1 := run_len_st hR9
        have heq : ((R.length : Int) == (((S.take N.length).count true : Nat) : Int)) = true := by
          rw [← HS.out, List.take_length, HC.out]; simp
        go_wp2
        go_ret
        exact ⟨rfl, hb8.trans (hbw.mono hb8.size)⟩

end Go.Proofs.Qxb6000638a.Rch
