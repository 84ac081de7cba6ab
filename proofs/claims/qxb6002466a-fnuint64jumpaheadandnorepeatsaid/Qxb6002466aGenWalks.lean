import Derived.Test.Qxb6002466aChecked
import Derived.Test.Qxb6002466aGenPlain
import Derived.WalkKit
import Derived.WalkSpells
import Derived.Deep.LoopGhost
namespace Go.Proofs.Qxb6002466a.Gen
open Go.RowKit

/-- (*Generator).uint64 in the model's own spelling. -/
theorem draw_raw (z : Int) (b : Nat) (w : World) (hc : w.cell? ⟨b, 0, none⟩ = some (.int .u64 z)) (hf : w.frozen? ⟨b, 0, none⟩ = false) :
    Calls Try.prog 39 #[.pointer (some ⟨b, 0, none⟩)] w fun e w' => ∃ s p q r, s = IntKind.u64.wrap (z + 11400714819323198485) ∧ p = IntKind.u64.wrap (bits .xor .u64 s (s / 1073741824) * 13787848793156543929) ∧
      q = IntKind.u64.wrap (bits .xor .u64 p (p / 134217728) * 10723151780598845931) ∧ r = bits .xor .u64 q (q / 2147483648) ∧
      e = .returned (.int .u64 r) ∧ w' = w.setCell ⟨b, 0, none⟩ (.int .u64 s) := by
  go_enter Try.func39, Try.ntmps39
  go_wp2_with fail
  go_ret
  exact ⟨_, _, _, _, rfl, rfl, rfl, rfl, rfl, rfl⟩

theorem draw39 (v : V) (b : Nat) (w : World) (hc : w.cell? ⟨b, 0, none⟩ = some (.int .u64 (num v))) (hf : w.frozen? ⟨b, 0, none⟩ = false) :
    Calls Try.prog 39 #[.pointer (some ⟨b, 0, none⟩)] w fun e w' => e = .returned (.int .u64 (num (mix (v + gamma)))) ∧ w' = w.setCell ⟨b, 0, none⟩ (.int .u64 (num (v + gamma))) := by
  refine (draw_raw _ b w hc hf).mono ?_
  rintro e w' ⟨s, p, q, r, hs, hp, hq, hr, rfl, rfl⟩
  rw [← num_gamma, num_add] at hs
  subst hs
  rw [show (1073741824 : Int) = ((2 ^ 30 : Nat) : Int) from by decide, num_shr, num_xor, ← num_c1, num_mul] at hp
  subst hp
  rw [show (134217728 : Int) = ((2 ^ 27 : Nat) : Int) from by decide, num_shr, num_xor, ← num_c2, num_mul] at hq
  subst hq
  rw [show (2147483648 : Int) = ((2 ^ 31 : Nat) : Int) from by decide, num_shr, num_xor] at hr
  subst hr
  exact ⟨rfl, rfl⟩

theorem draw (v : V) (b : Nat) (w : World) (hc : w.cell? ⟨b, 0, none⟩ = some (.int .u64 (num v))) (hf : w.frozen? ⟨b, 0, none⟩ = false) :
    Calls Try.prog 31 #[.pointer (some ⟨b, 0, none⟩)] w fun e w' => e = .returned (.int .u64 (num (mix (v + gamma)))) ∧ w' = w.setCell ⟨b, 0, none⟩ (.int .u64 (num (v + gamma))) := by
  go_enter Try.func31, Try.ntmps31
  go_wp2_with fail
  refine (draw39 v b w hc hf).mono ?_
  rintro e w1 ⟨rfl, rfl⟩
  go_wp2_with fail
  go_ret
  exact ⟨rfl, rfl⟩

theorem state (v : V) (b : Nat) (w : World) (hc : w.cell? ⟨b, 0, none⟩ = some (.int .u64 (num v))) :
    Calls Try.prog 33 #[.pointer (some ⟨b, 0, none⟩)] w fun e w' => e = .returned (.int .u64 (num v)) ∧ w' = w := by
  go_enter Try.func33, Try.ntmps33
  go_wp2_with fail
  go_ret
  exact ⟨rfl, rfl⟩

theorem made38 (v : V) (w : World) :
    Calls Try.prog 38 #[.int .u64 (num v)] w fun e w' => e = .returned (.pointer (some ⟨w.heap.size + 1, 0, none⟩)) ∧ w'.cell? ⟨w.heap.size + 1, 0, none⟩ = some (.int .u64 (num v)) ∧
      w'.frozen? ⟨w.heap.size + 1, 0, none⟩ = false ∧ Below w.heap.size w w' ∧ w'.heap.size = w.heap.size + 2 := by
  have hmm := @run_makeMap Try.prog
  go_enter Try.func38, Try.ntmps38
  go_wp2_with fail
  go_ret
  have hh := heap_alloc_new (w.alloc (Obj.map #[] 0)) (Obj.cells #[Value.int .u64 (num v), Value.int .i64 0, Value.map (some w.heap.size), Value.string { data := #[] }, Value.bool false] 47)
  have hsz : (w.alloc (Obj.map #[] 0)).heap.size = w.heap.size + 1 := by simp
  rw [hsz] at hh
  refine ⟨rfl, ?_, frozen_of_row _ _ _ _ _ hh, ((Below.refl _ _).alloc (Nat.le_refl _) _).alloc (by simp) _, by simp⟩
  rw [cell_of_row _ _ _ _ _ _ hh]
  rfl

theorem made (v : V) (w : World) :
    Calls Try.prog 30 #[.int .u64 (num v)] w fun e w' => e = .returned (.pointer (some ⟨w.heap.size + 1, 0, none⟩)) ∧ w'.cell? ⟨w.heap.size + 1, 0, none⟩ = some (.int .u64 (num v)) ∧
      w'.frozen? ⟨w.heap.size + 1, 0, none⟩ = false ∧ Below w.heap.size w w' ∧ w'.heap.size = w.heap.size + 2 := by
  go_enter Try.func30, Try.ntmps30
  go_wp2_with fail
  refine (made38 v w).mono ?_
  rintro e w1 ⟨rfl, h1, h2, h3, h4⟩
  go_wp2_with fail
  go_ret
  exact ⟨rfl, h1, h2, h3, h4⟩

theorem us_step (s : Nat) (v : V) (j : Nat) : bits .xor .u64 (num v) (num (us s v j) / (2 : Int) ^ s) = num (us s v (j + 1)) := by
  rw [show (2 : Int) ^ s = ((2 ^ s : Nat) : Int) from by simp, num_shr, num_xor]; rfl

set_option maxRecDepth 100000 in
theorem unshift (v : V) (s : Nat) (hs : s < 64) (w : World) :
    Calls Try.prog 40 #[.int .u64 (num v), .int .u64 (s : Int)] w fun e w' => e = .returned (.int .u64 (num (us s v 3))) ∧ w' = w := by
  have hs0 : (0 : Int) ≤ (s : Int) := by omega
  have hs1 : (s : Int) < 64 := by omega
  go_enter Try.func40, Try.ntmps40
  go_wp2_with fail
  go_loopg [5, 6] 3 (fun k x i wr => ∃ j, j ≤ 3 ∧ k = 3 - j ∧ i = .int .i64 (j : Int) ∧ x = .int .u64 (num (us s v j)) ∧ wr = w)
  case atStart => exact ⟨0, by omega, rfl, rfl, rfl, rfl⟩
  case round =>
    obtain ⟨j, hj, hgk, rfl, rfl, rfl⟩ := hrel
    by_cases h : (j : Int) < 3
    · go_wp2_with fail
      go_roundg (3 - (j + 1))
      case measure => omega
      case rel => exact ⟨j + 1, by omega, rfl, by go_num, by rw [us_step], rfl⟩
    · obtain rfl : j = 3 := by omega
      go_wp2_with fail
      go_ret
      exact ⟨rfl, rfl⟩

theorem inv_step (a : V) (j : Nat) : IntKind.u64.wrap (num (inv a j) * IntKind.u64.wrap (2 - IntKind.u64.wrap (num a * num (inv a j)))) = num (inv a (j + 1)) := by
  rw [num_mul, ← num_two, num_sub, num_mul]; rfl

set_option maxRecDepth 100000 in
theorem invOdd (v : V) (w : World) :
    Calls Try.prog 41 #[.int .u64 (num v)] w fun e w' => e = .returned (.int .u64 (num (inv v 6))) ∧ w' = w := by
  go_enter Try.func41, Try.ntmps41
  go_wp2_with fail
  go_loopg [3, 4] 6 (fun k x i wr => ∃ j, j ≤ 6 ∧ k = 6 - j ∧ i = .int .i64 (j : Int) ∧ x = .int .u64 (num (inv v j)) ∧ wr = w)
  case atStart => exact ⟨0, by omega, rfl, rfl, rfl, rfl⟩
  case round =>
    obtain ⟨j, hj, hgk, rfl, rfl, rfl⟩ := hrel
    by_cases h : (j : Int) < 6
    · go_wp2_with fail
      go_roundg (6 - (j + 1))
      case measure => omega
      case rel => exact ⟨j + 1, by omega, rfl, by go_num, by rw [inv_step], rfl⟩
    · obtain rfl : j = 6 := by omega
      go_wp2_with fail
      go_ret
      exact ⟨rfl, rfl⟩

theorem invOdd_c1 (w : World) : Calls Try.prog 41 #[.int .u64 13787848793156543929] w fun e w' => e = .returned (.int .u64 (num (inv c1 6))) ∧ w' = w := by
  rw [← num_c1]; exact invOdd c1 w
theorem invOdd_c2 (w : World) : Calls Try.prog 41 #[.int .u64 10723151780598845931] w fun e w' => e = .returned (.int .u64 (num (inv c2 6))) ∧ w' = w := by
  rw [← num_c2]; exact invOdd c2 w

theorem unmixed (v : V) (w : World) :
    Calls Try.prog 32 #[.int .u64 (num v)] w fun e w' => e = .returned (.int .u64 (num (unmix v))) ∧ w' = w := by
  go_enter Try.func32, Try.ntmps32
  go_wp2_with fail
  refine (unshift v 31 (by omega) w).mono ?_
  rintro e w1 ⟨rfl, rfl⟩
  go_wp2_with fail
  refine (invOdd_c2 _).mono ?_
  rintro e w1 ⟨rfl, rfl⟩
  go_wp2_with fail
  rw [num_mul]
  refine (unshift _ 27 (by omega) _).mono ?_
  rintro e w1 ⟨rfl, rfl⟩
  go_wp2_with fail
  refine (invOdd_c1 _).mono ?_
  rintro e w1 ⟨rfl, rfl⟩
  go_wp2_with fail
  rw [num_mul]
  refine (unshift _ 30 (by omega) _).mono ?_
  rintro e w1 ⟨rfl, rfl⟩
  go_wp2_with fail
  go_ret
  exact ⟨rfl, rfl⟩

theorem plus_gamma (v : V) : IntKind.u64.wrap (num v + 11400714819323198485) = num (v + gamma) := by
  rw [← num_gamma, num_add]

/-- STATEMENT 7's walk. -/
theorem undoes (v : V) (w : World) :
    Calls Try.prog 11 #[.int .u64 (num v)] w fun e w' => e = .returned (.bool true) ∧ Below w.heap.size w w' := by
  have hp := plus_gamma v
  go_enter Try.func11, Try.ntmps11
  go_wp2_with fail
  refine (made v w).mono ?_
  rintro e w1 ⟨rfl, h1, h2, h3, h4⟩
  go_wp2_with fail
  refine (draw v _ w1 h1 h2).mono ?_
  rintro e w2 ⟨rfl, rfl⟩
  go_wp2_with fail
  refine (unmixed _ _).mono ?_
  rintro e w2 ⟨rfl, rfl⟩
  rw [unmix_mix]
  go_wp2_with fail
  refine (state (v + gamma) _ _ (World.cell?_setCell_same' _ _ _ (by rw [h1]; rfl))).mono ?_
  rintro e w2 ⟨rfl, rfl⟩
  go_wp2_with fail
  go_ret
  exact ⟨rfl, h3.setCell (by simp) _⟩

end Go.Proofs.Qxb6002466a.Gen
