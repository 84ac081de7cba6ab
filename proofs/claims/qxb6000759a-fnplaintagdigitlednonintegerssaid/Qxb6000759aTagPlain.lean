namespace Go.Proofs.Qxb6000759a.Tag

/-! ### decimal digits -/
/-- The digits of n, at most f of them; none of 0. -/
def decF : Nat → Nat → List UInt8
  | 0, _ => []
  | f + 1, n => if n = 0 then [] else decF f (n / 10) ++ [UInt8.ofNat (48 + n % 10)]
/-- n in plain decimal. -/
def dec (n : Nat) : List UInt8 := if n = 0 then [48] else decF 20 n

theorem decF_zero (f : Nat) : decF f 0 = [] := by cases f <;> simp [decF]
theorem decF_step (f n : Nat) (h : n ≠ 0) : decF (f + 1) n = decF f (n / 10) ++ [UInt8.ofNat (48 + n % 10)] := by simp [decF, h]

def isD (c : UInt8) : Prop := 48 ≤ c.toNat ∧ c.toNat ≤ 57
theorem digit_toNat (n : Nat) : (UInt8.ofNat (48 + n % 10)).toNat = 48 + n % 10 := by
  rw [UInt8.toNat_ofNat']
  have : n % 10 < 10 := Nat.mod_lt _ (by omega)
  exact Nat.mod_eq_of_lt (by omega)
theorem isD_digit (n : Nat) : isD (UInt8.ofNat (48 + n % 10)) := by
  unfold isD; rw [digit_toNat]; omega

theorem decF_digits (f n : Nat) : ∀ c ∈ decF f n, isD c := by
  induction f generalizing n with
  | zero => simp [decF]
  | succ f ih =>
    intro c hc
    by_cases h : n = 0
    · rw [h, decF_zero] at hc; cases hc
    · rw [decF_step f n h, List.mem_append] at hc
      rcases hc with hc | hc
      · exact ih _ c hc
      · rw [List.mem_singleton] at hc; rw [hc]; exact isD_digit n
theorem dec_digits (n : Nat) : ∀ c ∈ dec n, isD c := by
  unfold dec
  split
  · intro c hc; simp at hc; rw [hc]; exact ⟨by decide, by decide⟩
  · exact decF_digits 20 n

theorem decF_len_le (f k n : Nat) (h : n < 10 ^ k) : (decF f n).length ≤ k := by
  induction f generalizing n k with
  | zero => simp [decF]
  | succ f ih =>
    by_cases h0 : n = 0
    · rw [h0, decF_zero]; simp
    · cases k with
      | zero => simp at h; omega
      | succ k =>
        rw [decF_step f n h0]
        have := ih k (n / 10) (by rw [Nat.pow_succ] at h; omega)
        simp; exact this
theorem decF_len_ge (f k n : Nat) (h : 10 ^ k ≤ n) (hf : k < f) : k < (decF f n).length := by
  induction f generalizing n k with
  | zero => omega
  | succ f ih =>
    have h0 : n ≠ 0 := by have := Nat.pow_pos (n := k) (show 0 < 10 by omega); omega
    rw [decF_step f n h0]
    cases k with
    | zero => simp
    | succ k =>
      have := ih k (n / 10) (by rw [Nat.pow_succ] at h; omega) (by omega)
      simp; exact this
/-- The first digit of a positive number is not 0. -/
theorem decF_head (f n : Nat) (h : n ≠ 0) (hf : n < 10 ^ f) : ∃ d t, decF f n = d :: t ∧ d ≠ 48 := by
  induction f generalizing n with
  | zero => simp at hf; omega
  | succ f ih =>
    rw [decF_step f n h]
    by_cases h1 : n / 10 = 0
    · refine ⟨UInt8.ofNat (48 + n % 10), [], by rw [h1, decF_zero]; rfl, fun e => ?_⟩
      have := congrArg UInt8.toNat e
      rw [digit_toNat] at this
      have e2 : (48 : UInt8).toNat = 48 := rfl
      omega
    · obtain ⟨d, t, e, hd⟩ := ih (n / 10) h1 (by rw [Nat.pow_succ] at hf; omega)
      exact ⟨d, t ++ [UInt8.ofNat (48 + n % 10)], by rw [e]; rfl, hd⟩

theorem dec_ne (n : Nat) (hn : n < 18446744073709551616) : dec n ≠ [] := by
  unfold dec
  split
  · simp
  · rename_i h
    obtain ⟨d, t, e, _⟩ := decF_head 20 n h (by omega)
    rw [e]; simp
theorem dec_len (n : Nat) (hn : n < 18446744073709551616) : (dec n).length ≤ 20 := by
  unfold dec
  split
  · simp
  · exact decF_len_le 20 20 n (by omega)
theorem dec_short (n : Nat) (h : n < 1000000000000000000) : (dec n).length ≤ 18 := by
  unfold dec
  split
  · simp
  · exact decF_len_le 20 18 n (by omega)
theorem dec_long (n : Nat) (h : 1000000000000000000 ≤ n) : 18 < (dec n).length := by
  unfold dec
  rw [if_neg (by omega)]
  exact decF_len_ge 20 18 n (by omega) (by omega)
theorem dec_lead (n : Nat) (hn : n < 18446744073709551616) : n ≠ 0 → (dec n).head? ≠ some 48 := by
  intro h
  unfold dec
  rw [if_neg h]
  obtain ⟨d, t, e, hd⟩ := decF_head 20 n h (by omega)
  rw [e]; simp; exact hd

/-! ### reading digits -/
def val (l : List UInt8) : Nat := l.foldl (fun v c => v * 10 + (c.toNat - 48)) 0
theorem val_snoc (l : List UInt8) (c : UInt8) : val (l ++ [c]) = val l * 10 + (c.toNat - 48) := by simp [val]
theorem snoc_ind {P : List UInt8 → Prop} (h0 : P []) (hs : ∀ l c, P l → P (l ++ [c])) : ∀ (n : Nat) (l : List UInt8), l.length = n → P l := by
  intro n
  induction n with
  | zero => intro l hl; rw [List.eq_nil_of_length_eq_zero hl]; exact h0
  | succ n ih =>
    intro l hl
    rcases List.eq_nil_or_concat l with rfl | ⟨l', c, rfl⟩
    · simp at hl
    · rw [List.concat_eq_append] at hl ⊢
      exact hs l' c (ih l' (by simpa using hl))
theorem val_lt (l : List UInt8) (h : ∀ c ∈ l, isD c) : val l < 10 ^ l.length := by
  refine snoc_ind (P := fun l => (∀ c ∈ l, isD c) → val l < 10 ^ l.length) (fun _ => by simp [val]) (fun l c ih h => ?_) l.length l rfl h
  have h1 := ih (fun c hc => h c (by simp [hc]))
  have h2 : isD c := h c (by simp)
  unfold isD at h2
  rw [val_snoc, List.length_append, List.length_singleton, Nat.pow_succ]
  omega
theorem val_pos (l : List UInt8) (hl : l ≠ []) (hh : l.head? ≠ some 48) (h : ∀ c ∈ l, isD c) : val l ≠ 0 := by
  refine snoc_ind (P := fun l => l ≠ [] → l.head? ≠ some 48 → (∀ c ∈ l, isD c) → val l ≠ 0) (fun h => absurd rfl h) (fun l c ih _ hh h => ?_) l.length l rfl hl hh h
  rw [val_snoc]
  by_cases e : l = []
  · subst e
    have h2 : isD c := h c (by simp)
    unfold isD at h2
    simp at hh
    have h3 : c.toNat ≠ 48 := fun e => hh (UInt8.toNat_inj.1 e)
    simp [val]; omega
  · have := ih e (by cases l with | nil => exact absurd rfl e | cons a l => simpa using hh) (fun c hc => h c (by simp [hc]))
    omega
/-- Digits that do not begin with 0 are their number's own. -/
theorem decF_val (l : List UInt8) (hl : l ≠ []) (hh : l.head? ≠ some 48) (h : ∀ c ∈ l, isD c) (f : Nat) (hf : l.length ≤ f) : decF f (val l) = l := by
  refine snoc_ind (P := fun l => l ≠ [] → l.head? ≠ some 48 → (∀ c ∈ l, isD c) → ∀ f, l.length ≤ f → decF f (val l) = l) (fun h => absurd rfl h) (fun l c ih _ hh h f hf => ?_) l.length l rfl hl hh h f hf
  have hv := val_pos (l ++ [c]) (by simp) hh h
  have h2 : isD c := h c (by simp)
  unfold isD at h2
  rw [List.length_append, List.length_singleton] at hf
  obtain ⟨f, rfl⟩ : ∃ f', f = f' + 1 := ⟨f - 1, by omega⟩
  rw [decF_step f _ hv, val_snoc]
  have e1 : (val l * 10 + (c.toNat - 48)) / 10 = val l := by omega
  have e2 : (val l * 10 + (c.toNat - 48)) % 10 = c.toNat - 48 := by omega
  rw [e1, e2, show 48 + (c.toNat - 48) = c.toNat by omega]
  have e3 : UInt8.ofNat c.toNat = c := by simp
  rw [e3]
  congr 1
  by_cases e : l = []
  · subst e; simp [val, decF_zero]
  · exact ih e (by cases l with | nil => exact absurd rfl e | cons a l => simpa using hh) (fun c hc => h c (by simp [hc])) f (by omega)
theorem dec_val (l : List UInt8) (hl : l ≠ []) (hh : l.head? ≠ some 48 ∨ l = [48]) (h : ∀ c ∈ l, isD c) (hlen : l.length ≤ 18) : dec (val l) = l := by
  rcases hh with hh | rfl
  · unfold dec
    rw [if_neg (val_pos l hl hh h)]
    exact decF_val l hl hh h 20 (by omega)
  · rfl

/-! ### plainTag at a text that begins with a digit -/
def okc (c : UInt8) : Bool := (decide (48 ≤ c.toNat) && decide (c.toNat ≤ 57)) || c == 46
def tStr : ByteArray := ⟨#[33, 33, 115, 116, 114]⟩
def tInt : ByteArray := ⟨#[33, 33, 105, 110, 116]⟩
def tNull : ByteArray := ⟨#[33, 33, 110, 117, 108, 108]⟩
def tBool : ByteArray := ⟨#[33, 33, 98, 111, 111, 108]⟩
def tNo : ByteArray := ⟨#[]⟩
def ptag (l : List UInt8) : ByteArray × Bool :=
  if l.all okc then (if 2 ≤ l.count 46 then (tStr, true) else if 0 < l.count 46 ∨ 18 < l.length ∨ (l.head? = some 48 ∧ 1 < l.length) then (tNo, false) else (tInt, true)) else (tNo, false)

theorem okc_digit {c : UInt8} (h : isD c) : okc c = true := by unfold isD at h; simp [okc, h.1, h.2]
theorem digit_ne {c : UInt8} (h : isD c) : c ≠ 46 := by
  intro e; subst e; exact absurd h.1 (by decide)
theorem count_digits (l : List UInt8) (h : ∀ c ∈ l, isD c) : l.count 46 = 0 := List.count_eq_zero.2 (fun hm => digit_ne (h _ hm) rfl)
theorem all_digits (l : List UInt8) (h : ∀ c ∈ l, isD c) : l.all okc = true := List.all_eq_true.2 (fun c hc => okc_digit (h c hc))

theorem tag_int (l : List UInt8) (h : ∀ c ∈ l, isD c) (hlen : l.length ≤ 18) (hh : l.head? ≠ some 48 ∨ l.length ≤ 1) : ptag l = (tInt, true) := by
  unfold ptag
  rw [if_pos (all_digits l h), count_digits l h, if_neg (by omega), if_neg]
  rintro (h1 | h1 | ⟨h1, h2⟩)
  · omega
  · omega
  · rcases hh with hh | hh
    · exact hh h1
    · omega
theorem tag_no (l : List UInt8) (hc : l.count 46 ≤ 1) (h : 0 < l.count 46 ∨ 18 < l.length ∨ (l.head? = some 48 ∧ 1 < l.length)) : ptag l = (tNo, false) := by
  unfold ptag
  by_cases ha : l.all okc = true
  · rw [if_pos ha, if_neg (show ¬ 2 ≤ l.count 46 by omega), if_pos h]
  · rw [if_neg ha]
theorem tag_str (l : List UInt8) (ha : l.all okc = true) (h : 2 ≤ l.count 46) : ptag l = (tStr, true) := by
  unfold ptag
  rw [if_pos ha, if_pos h]
/-- '!!int' is answered for digits alone. -/
theorem of_int (l : List UInt8) (h : ptag l = (tInt, true)) : (∀ c ∈ l, isD c) ∧ l.length ≤ 18 ∧ (l.head? ≠ some 48 ∨ l.length ≤ 1) := by
  unfold ptag at h
  split at h
  · rename_i ha
    split at h
    · exact absurd (congrArg Prod.fst h) (by decide)
    · split at h
      · exact absurd (congrArg Prod.snd h) (by decide)
      · rename_i h1 h2
        have hz : l.count 46 = 0 := by omega
        have hno := List.count_eq_zero.1 hz
        refine ⟨fun c hc => ?_, by omega, ?_⟩
        · have := List.all_eq_true.1 ha c hc
          simp only [okc, Bool.or_eq_true, Bool.and_eq_true, decide_eq_true_eq, beq_iff_eq] at this
          rcases this with this | this
          · exact this
          · rw [this] at hc; exact absurd hc hno
        · by_cases e : l.head? = some 48
          · exact .inr (Nat.le_of_not_lt (fun h3 => h2 (.inr (.inr ⟨e, h3⟩))))
          · exact .inl e
  · exact absurd (congrArg Prod.snd h) (by decide)
theorem ptag_cases (l : List UInt8) : ptag l = (tStr, true) ∨ ptag l = (tNo, false) ∨ ptag l = (tInt, true) := by
  unfold ptag
  split
  · split
    · exact .inl rfl
    · split
      · exact .inr (.inl rfl)
      · exact .inr (.inr rfl)
  · exact .inr (.inl rfl)

end Go.Proofs.Qxb6000759a.Tag
