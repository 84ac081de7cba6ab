import Derived.Laws.BitsAllLaws
import Derived.Laws.Bits64
namespace Go.Proofs.Qxb6002466a.Gen

/-! The generator over 64 bits, with no Go in sight. -/
abbrev V := BitVec 64

/-- A 64-bit word as the model's integer. -/
def num (v : V) : Int := (v.toNat : Int)

def gamma : V := 11400714819323198485#64
def c1 : V := 13787848793156543929#64
def c2 : V := 10723151780598845931#64
def xs (s : Nat) (v : V) : V := v ^^^ (v >>> s)
def mix (v : V) : V := xs 31 (xs 27 (xs 30 v * c1) * c2)
/-- unshift's loop. -/
def us (s : Nat) (y : V) : Nat → V
  | 0 => y
  | k + 1 => y ^^^ (us s y k >>> s)
/-- invOdd's loop. -/
def inv (a : V) : Nat → V
  | 0 => a
  | k + 1 => inv a k * (2#64 - a * inv a k)
def unmix (v : V) : V := us 30 (us 27 (us 31 v 3 * inv c2 6) 3 * inv c1 6) 3

theorem xor_cancel (a b : V) : (a ^^^ b) ^^^ b = a := by
  rw [BitVec.xor_assoc, BitVec.xor_self, BitVec.xor_zero]

theorem us_xs (s : Nat) (v : V) (k : Nat) : us s (xs s v) k = v ^^^ (v >>> ((k + 1) * s)) := by
  induction k with
  | zero => simp [us, xs]
  | succ k ih =>
    unfold us
    rw [ih]
    unfold xs
    rw [BitVec.ushiftRight_xor_distrib, ← BitVec.shiftRight_add, BitVec.xor_assoc, ← BitVec.xor_assoc (v >>> s), BitVec.xor_self, BitVec.zero_xor, show (k + 1 + 1) * s = (k + 1) * s + s from by rw [Nat.succ_mul]]

theorem us_undo (s : Nat) (h : 16 ≤ s) (v : V) : us s (xs s v) 3 = v := by
  rw [us_xs, BitVec.ushiftRight_eq_zero (by omega), BitVec.xor_zero]

theorem inv_c1 : c1 * inv c1 6 = 1#64 := by decide
theorem inv_c2 : c2 * inv c2 6 = 1#64 := by decide

theorem unmix_mix (v : V) : unmix (mix v) = v := by
  unfold unmix mix
  rw [us_undo 31 (by omega), BitVec.mul_assoc, inv_c2, BitVec.mul_one, us_undo 27 (by omega), BitVec.mul_assoc, inv_c1, BitVec.mul_one, us_undo 30 (by omega)]

theorem mix_inj {a b : V} (h : mix a = mix b) : a = b := by
  rw [← unmix_mix a, h, unmix_mix]

/-- The state after k calls. -/
def st (seed : V) (k : Nat) : V := seed + BitVec.ofNat 64 k * gamma

/-- Odd gamma: the states do not come round before 2^64 calls. -/
theorem st_inj (seed : V) {i j : Nat} (hi : i < 1000) (hj : j < 1000) (h : st seed i = st seed j) : i = j := by
  unfold st at h
  have h1 : BitVec.ofNat 64 i * gamma = BitVec.ofNat 64 j * gamma := by
    have := congrArg (fun x => x - seed) h
    simpa [BitVec.add_comm seed, BitVec.add_sub_cancel] using this
  have h2 := congrArg (fun x => x * inv gamma 6) h1
  simp only [BitVec.mul_assoc] at h2
  rw [show gamma * inv gamma 6 = 1#64 from by decide, BitVec.mul_one, BitVec.mul_one] at h2
  have h3 := congrArg BitVec.toNat h2
  simp only [BitVec.toNat_ofNat] at h3
  omega

theorem st_succ (seed : V) (k : Nat) : st seed k + gamma = st seed (k + 1) := by
  unfold st
  rw [BitVec.add_assoc, BitVec.ofNat_add, BitVec.add_mul, BitVec.one_mul]

theorem st_jump (seed : V) (k : Nat) : seed + BitVec.ofNat 64 k * gamma + gamma = st seed (k + 1) := st_succ seed k

/-! The model's spellings. -/
theorem num_of (z : Int) (h0 : 0 ≤ z) (h1 : z < 18446744073709551616) : ∃ v : V, z = num v :=
  ⟨BitVec.ofNat 64 z.toNat, by unfold num; rw [BitVec.toNat_ofNat]; omega⟩

theorem num_inj {a b : V} : num a = num b ↔ a = b :=
  ⟨fun h => BitVec.eq_of_toNat_eq (by unfold num at h; omega), fun h => by rw [h]⟩

theorem num_add (a b : V) : IntKind.u64.wrap (num a + num b) = num (a + b) := by
  rw [IntKind.wrap_u64]; unfold num; rw [BitVec.toNat_add]; omega
theorem num_mul (a b : V) : IntKind.u64.wrap (num a * num b) = num (a * b) := by
  rw [IntKind.wrap_u64]; unfold num; rw [BitVec.toNat_mul, Int.natCast_emod, Int.natCast_mul]; rfl
theorem num_sub (a b : V) : IntKind.u64.wrap (num a - num b) = num (a - b) := by
  rw [IntKind.wrap_u64]; unfold num; rw [BitVec.toNat_sub]; have := b.isLt; omega
theorem num_shr (a : V) (s : Nat) : num a / ((2 ^ s : Nat) : Int) = num (a >>> s) := by
  unfold num; rw [BitVec.toNat_ushiftRight, Nat.shiftRight_eq_div_pow, Int.natCast_ediv]
theorem num_xor (a b : V) : bits .xor .u64 (num a) (num b) = num (a ^^^ b) := by
  unfold num; rw [u64_xor_nat _ _ a.isLt b.isLt, BitVec.toNat_xor]
theorem num_gamma : num gamma = 11400714819323198485 := by decide
theorem num_c1 : num c1 = 13787848793156543929 := by decide
theorem num_c2 : num c2 = 10723151780598845931 := by decide
theorem num_two : num 2#64 = 2 := by decide

end Go.Proofs.Qxb6002466a.Gen
