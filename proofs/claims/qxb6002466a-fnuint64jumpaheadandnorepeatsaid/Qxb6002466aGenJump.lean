import Derived.Test.Qxb6002466aGenRow
import Derived.Deep.RegionHeld3
import Derived.Deep.QuietTactic
import Derived.BigQuiet
import Derived.Deep.DrawnRows
import Derived.Outline
namespace Go.Proofs.Qxb6002466a.Gen
open Go.RowKit
attribute [local go_sem ↓] Go.wp_at_zero Go.wp_at_succ

theorem below_drewN {B : Nat} {w w' : World} (h : Below B w w') : ∀ n, Below B w (w'.drewN n)
  | 0 => h
  | n + 1 => (below_drewN h n).drew

/-- The outputs of the first n calls. -/
def outs (v : V) (n : Nat) : List Value := (List.range n).map fun i => .int .u64 (num (mix (st v (i + 1))))
theorem outs_length (v : V) (n : Nat) : (outs v n).length = n := by simp [outs]
theorem outs_get (v : V) (n i : Nat) (h : i < (outs v n).length) : (outs v n)[i] = .int .u64 (num (mix (st v (i + 1)))) := by simp [outs]

theorem times_gamma (k : Nat) (h : k < 65536) : IntKind.u64.wrap ((k : Int) * 11400714819323198485) = num (BitVec.ofNat 64 k * gamma) := by
  rw [← num_gamma, ← num_mul, show num (BitVec.ofNat 64 k) = (k : Int) from by unfold num; rw [BitVec.toNat_ofNat]; omega]

theorem st_zero (v : V) : st v 0 = v := by unfold st; simp

set_option maxRecDepth 100000 in
set_option maxHeartbeats 2000000 in
/-- STATEMENT 8's walk. -/
theorem jumps (v : V) (k : Nat) (hk : k < 65536) (w : World) :
    Calls Try.prog 12 #[.int .u64 (num v), .int .u16 (k : Int)] w fun e w' => e = .returned (.bool true) ∧ Below w.heap.size w w' := by
  by_cases h256 : (256 : Int) < (k : Int)
  · go_enter Try.func12, Try.ntmps12
    go_wp2_with fail
    go_ret
    exact ⟨rfl, Below.refl _ _⟩
  have mk1 := run_mk Try.underlying38 info31 (k + 1) (by omega) (by omega)
  simp only [Int.natCast_add, Int.natCast_one, Nat.mul_one] at mk1
  have hk1 : IntKind.i64.wrap ((k : Int) + 1) = (k : Int) + 1 := by rw [IntKind.wrap_i64]; omega
  go_enter Try.func12, Try.ntmps12
  go_wp2_with fail
  refine (made v w).mono ?_
  rintro e w1 ⟨rfl, h1, h2, h3, h4⟩
  go_wp2_with fail
  clear mk1
  have a1 : (w1.alloc (mrow 31 (Value.int .u64 0) (k + 1))).cell? ⟨w.heap.size + 1, 0, none⟩ = some (Value.int .u64 (num (st v 0))) := by
    rw [st_zero, ← h1]; exact ((Below.refl w1.heap.size w1).alloc (Nat.le_refl _) _).cell (by rw [h4]; simp)
  have a2 : (w1.alloc (mrow 31 (Value.int .u64 0) (k + 1))).frozen? ⟨w.heap.size + 1, 0, none⟩ = false := by
    rw [← h2]; exact ((Below.refl w1.heap.size w1).alloc (Nat.le_refl _) _).frozen (by rw [h4]; simp)
  have a3 : RowTo (w.heap.size + 2) 31 (outs v (k + 1)) 0 (w1.alloc (mrow 31 (Value.int .u64 0) (k + 1))) := by
    have := RowTo.made w1 31 (.int .u64 0) (outs v (k + 1))
    rw [outs_length, h4] at this
    exact this
  have a4 : Below w.heap.size w (w1.alloc (mrow 31 (Value.int .u64 0) (k + 1))) := h3.alloc h3.size _
  have a5 : (w1.alloc (mrow 31 (Value.int .u64 0) (k + 1))).heap.size = w.heap.size + 3 := by simp [h4]
  clear h1 h2 h3
  go_loopg [8] (k + 1) (fun gk i wr => ∃ j, j ≤ k + 1 ∧ gk = k + 1 - j ∧ i = .int .i64 (j : Int) ∧ RowTo (w.heap.size + 2) 31 (outs v (k + 1)) j wr ∧ wr.cell? ⟨w.heap.size + 1, 0, none⟩ = some (.int .u64 (num (st v j))) ∧
    wr.frozen? ⟨w.heap.size + 1, 0, none⟩ = false ∧ Below w.heap.size w wr ∧ wr.heap.size = w.heap.size + 3)
  case atStart => exact ⟨0, by omega, rfl, rfl, a3, a1, a2, a4, a5⟩
  case round =>
    clear a1 a2 a3 a4 a5 h4
    obtain ⟨j, hj, hgk, rfl, hr, hc, hf, hb, hz⟩ := hrel
    by_cases hlt : (j : Int) < (k : Int) + 1
    · have hlen : j < (outs v (k + 1)).length := by rw [outs_length]; omega
      obtain ⟨o1, y1⟩ := hr.has j hlen
      have y2 := hr.free j
      have hlt0 : (0 : Int) ≤ (j : Int) := by omega
      go_wp2_with fail
      refine (draw (st v j) _ wr hc hf).mono ?_
      rintro e w2 ⟨rfl, rfl⟩
      rw [st_succ]
      go_wp2_with fail
      go_roundg (k + 1 - (j + 1))
      case measure => omega
      case rel =>
        refine ⟨j + 1, by omega, rfl, by go_num, (hr.other (by simp) _).put hlen (outs_get v _ j hlen), ?_, ?_, (hb.setCell (by simp) _).setCell (by simp) _, by simp [hz]⟩
        · refine (((Below.refl (w.heap.size + 2) _).setCell (by simp) _).cell (p := ⟨w.heap.size + 1, 0, none⟩) (by simp)).trans ?_
          exact World.cell?_setCell_same' _ _ _ (by rw [hc]; rfl)
        · simpa using hf
    · obtain rfl : j = k + 1 := by omega
      have hk2 : (k : Int) + 1 - 1 = (k : Int) := by omega
      have hk3 : (0 : Int) ≤ (k : Int) := by omega
      have hk4 : (k : Int) < (k : Int) + 1 := by omega
      have hk6 : IntKind.i64.wrap (k : Int) = (k : Int) := by rw [IntKind.wrap_i64]; omega
      have hk5 : IntKind.i64.wrap ((k : Int) + 1 - 1) = (k : Int) := by rw [IntKind.wrap_i64]; omega
      go_wp2_with fail
      rw [times_gamma k hk, num_add]
      refine (made (st v k) wr).mono ?_
      rintro e w3 ⟨rfl, c1, c2, c3, c4⟩
      have r3 := hr.below c3 (by omega)
      have b3 := hb.trans (c3.mono (by omega))
      have hlen : k < (outs v (k + 1)).length := by rw [outs_length]; omega
      have x1 := r3.cell k (by omega) hlen
      rw [outs_get] at x1
      rw [hz] at c1 c2 c4 ⊢
      clear hr hc hf hb hz c3
      have HR : Hid (RowTo (w.heap.size + 2) 31 (outs v (k + 1)) (k + 1) w3) := r3
      clear r3
      go_wp2_with fail
      go_region_held3 (fun w' => w'.cell? ⟨w.heap.size + 2, k, none⟩ = some (.int .u64 (num (mix (st v (k + 1))))))
        (go_keep)
        (first
          | (go_at_call 31; refine (draw (st v k) _ _ ?_ ?_).mono ?_; exact c1; exact c2; rintro e w4 ⟨rfl, rfl⟩))
      rw [st_succ, show (num (mix (st v (k + 1))) != num (mix (st v (k + 1)))) = false from by simp]
      obtain ⟨W4, hW4⟩ : ∃ W4, W4 = (w3.setCell ⟨w.heap.size + 3 + 1, 0, none⟩ (.int .u64 (num (st v (k + 1))))).drew := ⟨_, rfl⟩
      rw [← hW4]
      have r4 : RowTo (w.heap.size + 2) 31 (outs v (k + 1)) (k + 1) W4 := by rw [hW4]; exact (RowTo.other HR.out (by simp) _).drew
      have b4 : Below w.heap.size w W4 := by rw [hW4]; exact (b3.setCell (by simp; omega) _).drew
      clear hW4 HR b3 c1 c2 c4 x1 hlen
      have H4 : Hid (RowTo (w.heap.size + 2) 31 (outs v (k + 1)) (k + 1) W4) := r4
      clear r4
      go_wp2_with fail
      go_loopg [10] (k + 1) (fun gk i wr => ∃ j, j ≤ k + 1 ∧ gk = k + 1 - j ∧ i = .int .i64 (j : Int) ∧ RowTo (w.heap.size + 2) 31 (outs v (k + 1)) (k + 1) wr ∧ Below w.heap.size w wr)
      case atStart => exact ⟨0, by omega, rfl, rfl, H4.out, b4⟩
      case round =>
        clear H4 b4
        obtain ⟨j, hj, hgk, rfl, r5, b5⟩ := hrel
        rename_i w5
        have H5 : Hid (RowTo (w.heap.size + 2) 31 (outs v (k + 1)) (k + 1) _) := r5
        clear r5
        by_cases hlt : (j : Int) < (k : Int) + 1
        · go_wp2_with fail
          go_loopg [11] (k - j) (fun gk i wr => ∃ m, j < m ∧ m ≤ k + 1 ∧ gk = k + 1 - m ∧ i = .int .i64 (m : Int) ∧ RowTo (w.heap.size + 2) 31 (outs v (k + 1)) (k + 1) wr ∧ Below w.heap.size w wr)
          case atStart => exact ⟨j + 1, by omega, by omega, by omega, by go_num, H5.out, b5⟩
          case round =>
            clear H5 b5
            obtain ⟨m, hm0, hm, hgk2, rfl, r6, b6⟩ := hrel
            by_cases hlt2 : (m : Int) < (k : Int) + 1
            · have l1 : j < (outs v (k + 1)).length := by rw [outs_length]; omega
              have l2 : m < (outs v (k + 1)).length := by rw [outs_length]; omega
              have x1 := RowTo.cell r6 j (by omega) l1
              have x2 := RowTo.cell r6 m (by omega) l2
              rw [outs_get] at x1 x2
              have hne : (num (mix (st v (j + 1))) == num (mix (st v (m + 1)))) = false := by
                apply beq_eq_false_iff_ne.2
                intro e
                have := st_inj v (by omega) (by omega) (mix_inj (num_inj.1 e))
                omega
              have q1 : (0 : Int) ≤ (j : Int) := by omega
              have q2 : (0 : Int) ≤ (m : Int) := by omega
              have H6 : Hid (RowTo (w.heap.size + 2) 31 (outs v (k + 1)) (k + 1) _) := r6
              clear r6 l1 l2
              go_wp2_with fail
              go_quiet (fail)
              go_wp2_with fail
              go_roundg (k + 1 - (m + 1))
              case measure => omega
              case rel => exact ⟨m + 1, by omega, by omega, rfl, by go_num, RowTo.of_block H6.out rfl, below_drewN b6 _⟩
            · have H6 : Hid (RowTo (w.heap.size + 2) 31 (outs v (k + 1)) (k + 1) _) := r6
              clear r6
              go_wp2_with fail
              go_roundg (k + 1 - (j + 1))
              case measure => omega
              case rel => exact ⟨j + 1, by omega, rfl, by go_num, H6.out, b6⟩
        · go_wp2_with fail
          go_ret
          exact ⟨rfl, b5⟩
end Go.Proofs.Qxb6002466a.Gen
