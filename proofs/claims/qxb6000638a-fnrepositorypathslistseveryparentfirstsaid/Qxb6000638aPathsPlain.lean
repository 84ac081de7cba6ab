import Derived.Laws.RangeAny
import Derived.Lib.DecodeN
namespace Go.Proofs.Qxb6000638a.Pth

/-- The places below k at which a slash stands. -/
def sl (s : ByteArray) : Nat → List Nat
  | 0 => []
  | k + 1 => if s.get! k = 47 then sl s k ++ [k] else sl s k

theorem sl_hit (s : ByteArray) (k : Nat) (h : s.get! k = 47) : sl s (k + 1) = sl s k ++ [k] := by simp [sl, h]
theorem sl_miss (s : ByteArray) (k : Nat) (h : s.get! k ≠ 47) : sl s (k + 1) = sl s k := by simp [sl, h]

theorem sl_len (s : ByteArray) (k : Nat) : (sl s k).length ≤ k := by
  induction k with
  | zero => simp [sl]
  | succ k ih =>
    by_cases h : s.get! k = 47
    · rw [sl_hit s k h]; simp; exact ih
    · rw [sl_miss s k h]; omega

theorem sl_mem (s : ByteArray) (k : Nat) : ∀ i ∈ sl s k, i < k ∧ s.get! i = 47 := by
  induction k with
  | zero => simp [sl]
  | succ k ih =>
    intro i hi
    by_cases h : s.get! k = 47
    · rw [sl_hit s k h] at hi
      simp only [List.mem_append, List.mem_singleton] at hi
      rcases hi with hi | rfl
      · exact ⟨by have := (ih i hi).1; omega, (ih i hi).2⟩
      · exact ⟨by omega, h⟩
    · rw [sl_miss s k h] at hi
      exact ⟨by have := (ih i hi).1; omega, (ih i hi).2⟩

theorem sl_pw (s : ByteArray) (k : Nat) : (sl s k).Pairwise (· < ·) := by
  induction k with
  | zero => simp [sl]
  | succ k ih =>
    by_cases h : s.get! k = 47
    · rw [sl_hit s k h, List.pairwise_append]
      exact ⟨ih, by simp, fun a ha b hb => by simp at hb; rw [hb]; exact (sl_mem s k a ha).1⟩
    · rw [sl_miss s k h]; exact ih

theorem sl_lt (s : ByteArray) (k i j : Nat) (hj : j < (sl s k).length) (h : i < j) : (sl s k)[i] < (sl s k)[j] :=
  List.pairwise_iff_getElem.1 (sl_pw s k) i j (by omega) hj h

theorem sl_skip (s : ByteArray) (k n : Nat) (h : ∀ j, j < n → s.get! (k + j) ≠ 47) : sl s (k + n) = sl s k := by
  induction n with
  | zero => rfl
  | succ n ih =>
    rw [← Nat.add_assoc, sl_miss s (k + n) (h n (by omega))]
    exact ih (fun j hj => h j (by omega))

theorem ne47 {b : UInt8} (h : b.toNat ≠ 47) : b ≠ 47 := fun e => h (by rw [e]; rfl)

theorem size_get (s : ByteArray) (k : Nat) (h : k < s.size) : s.get! k = s[k]'h := get_at s k h

theorem dec_hit (s : ByteArray) (p : Nat) (h : p < s.size) (hr : (Utf8.decode s p).1 = 47) : s.get! p = 47 ∧ (Utf8.decode s p).2 = 1 := by
  by_cases ha : (s[p]'h).toNat < 128
  · rw [decode_ascii s p h ha] at hr ⊢
    refine ⟨?_, rfl⟩
    rw [size_get s p h]
    apply UInt8.toNat_inj.1
    exact hr
  · have := (decode_high s p h (by omega)).1
    omega

theorem dec_in (s : ByteArray) (p : Nat) (h : p < s.size) : 1 ≤ (Utf8.decode s p).2 ∧ p + (Utf8.decode s p).2 ≤ s.size := by
  rw [Lib.decode_at]
  unfold Lib.decodeN
  repeat' split
  all_goals simp only
  all_goals omega

theorem dec_miss (s : ByteArray) (p : Nat) (h : p < s.size) (hr : (Utf8.decode s p).1 ≠ 47) : sl s (p + (Utf8.decode s p).2) = sl s p := by
  apply sl_skip
  intro j hj
  apply ne47
  by_cases ha : (s[p]'h).toNat < 128
  · rw [decode_ascii s p h ha] at hr hj
    have : j = 0 := by simp at hj; omega
    subst this
    rw [Nat.add_zero, size_get s p h]
    exact hr
  · have ha' : ¬ (s.get! p).toNat < 128 := by rw [size_get s p h]; exact ha
    rw [Lib.decode_at] at hj
    unfold Lib.decodeN at hj
    rw [if_neg ha'] at hj
    have key : ∀ m, j < m → m ≤ 4 → (1 < m → (s.get! (p + 1)).toNat / 64 = 2) → (2 < m → (s.get! (p + 2)).toNat / 64 = 2) → (3 < m → (s.get! (p + 3)).toNat / 64 = 2) → (s.get! (p + j)).toNat ≠ 47 := by
      intro m h1 h2 h3 h4 h5
      have : j = 0 ∨ j = 1 ∨ j = 2 ∨ j = 3 := by omega
      rcases this with rfl | rfl | rfl | rfl
      · rw [Nat.add_zero]; omega
      · have := h3 (by omega); omega
      · have := h4 (by omega); omega
      · have := h5 (by omega); omega
    repeat' split at hj
    all_goals simp only at hj
    all_goals exact key _ hj (by omega) (by omega) (by omega) (by omega)

end Go.Proofs.Qxb6000638a.Pth
