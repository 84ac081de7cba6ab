import Derived.Test.Qxb6000759aTagLaw4
namespace Go.Proofs.Qxb6000759a.Tag
open Go.RowKit

theorem cat_list (a b : ByteArray) : (a ++ b).data.toList = a.data.toList ++ b.data.toList := by simp [ByteArray.data_append]

/-- ZZPlainTag at a text that is given by its list. -/
theorem zz_at (s : ByteArray) (l : List UInt8) (t : ByteArray) (b : Bool) (w : World) (h : s.data.toList = l) (hl : l ≠ []) (hd : ∀ c ∈ l.head?, isD c) (hp : ptag l = (t, b)) (hlen : l.length ≤ 1000) :
    Calls Try.prog 16 #[.string s] w fun e w' => e = .returned (.tuple #[.string t, .bool b]) ∧ w = w' := by
  obtain ⟨h0, h1⟩ := first_of h hl hd
  have hs : s.size = l.length := by rw [← h, Array.length_toList]; rfl
  refine (zz_digit s w (by rw [hs]; unfold maxLen; omega) h0 h1).mono ?_
  rintro e w' ⟨rfl, rfl⟩
  rw [h, hp]
  exact ⟨rfl, rfl⟩

theorem head_app (a b : List UInt8) (h : a ≠ []) (hd : ∀ c ∈ a.head?, isD c) : ∀ c ∈ (a ++ b).head?, isD c := by
  cases a with
  | nil => exact absurd rfl h
  | cons x a => simpa using hd

theorem list1 (n m : Nat) : (ds n ++ ⟨#[46]⟩ ++ ds m).data.toList = dec n ++ [46] ++ dec m := by rw [cat_list, cat_list, ds_list, ds_list]
theorem list2 (n : Nat) : ((⟨#[48]⟩ : ByteArray) ++ ds n).data.toList = [48] ++ dec n := by rw [cat_list, ds_list]
theorem list5 (n m : Nat) : (ds n ++ ds m).data.toList = dec n ++ dec m := by rw [cat_list, ds_list, ds_list]
theorem list4 (a b c d : Nat) : (ds a ++ ⟨#[46]⟩ ++ ds b ++ ⟨#[46]⟩ ++ ds c ++ ⟨#[46]⟩ ++ ds d).data.toList = dec a ++ [46] ++ dec b ++ [46] ++ dec c ++ [46] ++ dec d := by
  rw [cat_list, cat_list, cat_list, cat_list, cat_list, cat_list, ds_list, ds_list, ds_list, ds_list]

theorem tag1 (n m : Nat) : ptag (dec n ++ [46] ++ dec m) = (tNo, false) := by
  have e : (dec n ++ [46] ++ dec m).count 46 = 1 := by
    rw [List.count_append, List.count_append, count_digits _ (dec_digits n), count_digits _ (dec_digits m)]; rfl
  exact tag_no _ (by omega) (.inl (by omega))
theorem tag2 (n : Nat) (hn : n < 18446744073709551616) : ptag ([48] ++ dec n) = (tNo, false) := by
  have e : ([48] ++ dec n).count 46 = 0 := by
    rw [List.count_append, count_digits _ (dec_digits n)]; rfl
  have := List.length_pos_iff.2 (dec_ne n hn)
  exact tag_no _ (by omega) (.inr (.inr ⟨rfl, by simp; omega⟩))
theorem tag5 (n m : Nat) (h : 18 < (dec n ++ dec m).length) : ptag (dec n ++ dec m) = (tNo, false) := by
  have e : (dec n ++ dec m).count 46 = 0 := by
    rw [List.count_append, count_digits _ (dec_digits n), count_digits _ (dec_digits m)]
  exact tag_no _ (by omega) (.inr (.inl h))
theorem tag3 (n : Nat) (h : 1000000000000000000 ≤ n) : ptag (dec n) = (tNo, false) :=
  tag_no _ (by rw [count_digits _ (dec_digits n)]; omega) (.inr (.inl (dec_long n h)))
theorem tag4 (a b c d : Nat) : ptag (dec a ++ [46] ++ dec b ++ [46] ++ dec c ++ [46] ++ dec d) = (tStr, true) := by
  apply tag_str
  · simp only [List.all_append, all_digits _ (dec_digits a), all_digits _ (dec_digits b), all_digits _ (dec_digits c), all_digits _ (dec_digits d)]; rfl
  · simp only [List.count_append, count_digits _ (dec_digits a), count_digits _ (dec_digits b), count_digits _ (dec_digits c), count_digits _ (dec_digits d)]; decide
theorem eq_no : (tNo.toList == []) = true := by rw [ByteArray.toList_eq]; rfl

set_option maxRecDepth 100000 in
set_option maxHeartbeats 2000000 in
theorem law5 (n m a b c d : Nat) (hn : n < 18446744073709551616) (hm : m < 18446744073709551616) (ha : a < 256) (hb : b < 256) (hc : c < 256) (hd : d < 256) (w : World) :
    Calls Try.prog 8 #[.int .u64 (n : Int), .int .u64 (m : Int), .int .u8 (a : Int), .int .u8 (b : Int), .int .u8 (c : Int), .int .u8 (d : Int)] w fun e w' => e = .returned (.bool true) ∧ Below w.heap.size w w' := by
  have zn := ds_size n
  have zm := ds_size m
  have ln := dec_len n hn
  have lm := dec_len m hm
  have nn := dec_ne n hn
  have hno := eq_no
  have za := ds_size a
  have zb := ds_size b
  have zc := ds_size c
  have zd := ds_size d
  have la := dec_len a (by omega)
  have lb := dec_len b (by omega)
  have lc := dec_len c (by omega)
  have ld := dec_len d (by omega)
  have na := dec_ne a (by omega)
  have hst := eq_str
  have HNA := show Hid _ from na
  have HNN := show Hid _ from nn
  clear na nn
  go_enter Try.func8, Try.ntmps8
  go_wp2_with fail
  refine (dec_any n w hn).mono ?_
  rintro e w1 ⟨rfl, hB1⟩
  go_wp2_with fail
  refine (dec_any m w1 hm).mono ?_
  rintro e w2 ⟨rfl, hB2⟩
  have hb2 : Below w.heap.size w w2 := hB1.trans (hB2.mono hB1.size)
  clear hB1 hB2
  go_wp2_with fail
  refine (zz_at _ _ _ _ w2 (list1 n m) (by simp) (head_app _ _ (by simp) (head_app _ _ HNN.out (dec_first n))) (tag1 n m) (by simp; omega)).mono ?_
  rintro e w3 ⟨rfl, rfl⟩
  go_wp2_with fail
  refine (dec_any n w2 hn).mono ?_
  rintro e w4 ⟨rfl, hB4⟩
  have hb4 : Below w.heap.size w w4 := hb2.trans (hB4.mono hb2.size)
  clear hb2 hB4
  go_wp2_with fail
  refine (zz_at _ _ _ _ w4 (list2 n) (by simp) (by intro c hc; simp at hc; subst hc; exact ⟨by decide, by decide⟩) (tag2 n hn) (by simp; omega)).mono ?_
  rintro e w5 ⟨rfl, rfl⟩
  by_cases hbig : (1000000000000000000 : Int) ≤ (n : Int)
  · go_wp2_with fail
    refine (dec_any n w4 hn).mono ?_
    rintro e w6 ⟨rfl, hB6⟩
    have hb6 : Below w.heap.size w w6 := hb4.trans (hB6.mono hb4.size)
    clear hb4 hB6
    go_wp2_with fail
    refine (zz_at _ _ _ _ w6 (ds_list n) HNN.out (dec_first n) (tag3 n (by omega)) (by omega)).mono ?_
    rintro e w7 ⟨rfl, rfl⟩
    have HB := show Hid _ from hbig
    clear hbig
    go_wp2_with fail
    refine (dec_any n w6 hn).mono ?_
    rintro e w7 ⟨rfl, hB7⟩
    have hb7 : Below w.heap.size w w7 := hb6.trans (hB7.mono hb6.size)
    clear hb6 hB7
    go_wp2_with fail
    refine (dec_any m w7 hm).mono ?_
    rintro e w8 ⟨rfl, hB8⟩
    have hb8 : Below w.heap.size w w8 := hb7.trans (hB8.mono hb7.size)
    clear hb7 hB8
    by_cases h1 : (1 : Int) ≤ (n : Int)
    · by_cases h18 : (18 : Int) < ((dec n).length : Int) + ((dec m).length : Int)
      · go_wp2_with fail
        refine (zz_at _ _ _ _ w8 (list5 n m) (by simp; intro h; exact absurd h HNN.out) (head_app _ _ HNN.out (dec_first n)) (tag5 n m (by simp; omega)) (by simp; omega)).mono ?_
        rintro e w9 ⟨rfl, rfl⟩
        go_wp2_with fail
        refine (dec_any a w8 (by omega)).mono ?_
        rintro e wa ⟨rfl, hBa⟩
        have hba : Below w.heap.size w wa := hb8.trans (hBa.mono hb8.size)
        clear hb8 hBa
        go_wp2_with fail
        refine (dec_any b wa (by omega)).mono ?_
        rintro e wb ⟨rfl, hBb⟩
        have hbb : Below w.heap.size w wb := hba.trans (hBb.mono hba.size)
        clear hba hBb
        go_wp2_with fail
        refine (dec_any c wb (by omega)).mono ?_
        rintro e wc ⟨rfl, hBc⟩
        have hbc : Below w.heap.size w wc := hbb.trans (hBc.mono hbb.size)
        clear hbb hBc
        go_wp2_with fail
        refine (dec_any d wc (by omega)).mono ?_
        rintro e wd ⟨rfl, hBd⟩
        have hbd' : Below w.heap.size w wd := hbc.trans (hBd.mono hbc.size)
        clear hbc hBd
        go_wp2_with fail
        refine (zz_at _ _ _ _ wd (list4 a b c d) (by simp) (head_app _ _ (by simp) (head_app _ _ (by simp) (head_app _ _ (by simp) (head_app _ _ (by simp) (head_app _ _ (by simp) (head_app _ _ HNA.out (dec_first a))))))) (tag4 a b c d) (by simp; omega)).mono ?_
        rintro e we ⟨rfl, rfl⟩
        go_wp2
        go_ret
        exact ⟨rfl, hbd'⟩
      · go_wp2_with fail
        refine (dec_any a w8 (by omega)).mono ?_
        rintro e wa ⟨rfl, hBa⟩
        have hba : Below w.heap.size w wa := hb8.trans (hBa.mono hb8.size)
        clear hb8 hBa
        go_wp2_with fail
        refine (dec_any b wa (by omega)).mono ?_
        rintro e wb ⟨rfl, hBb⟩
        have hbb : Below w.heap.size w wb := hba.trans (hBb.mono hba.size)
        clear hba hBb
        go_wp2_with fail
        refine (dec_any c wb (by omega)).mono ?_
        rintro e wc ⟨rfl, hBc⟩
        have hbc : Below w.heap.size w wc := hbb.trans (hBc.mono hbb.size)
        clear hbb hBc
        go_wp2_with fail
        refine (dec_any d wc (by omega)).mono ?_
        rintro e wd ⟨rfl, hBd⟩
        have hbd' : Below w.heap.size w wd := hbc.trans (hBd.mono hbc.size)
        clear hbc hBd
        go_wp2_with fail
        refine (zz_at _ _ _ _ wd (list4 a b c d) (by simp) (head_app _ _ (by simp) (head_app _ _ (by simp) (head_app _ _ (by simp) (head_app _ _ (by simp) (head_app _ _ (by simp) (head_app _ _ HNA.out (dec_first a))))))) (tag4 a b c d) (by simp; omega)).mono ?_
        rintro e we ⟨rfl, rfl⟩
        go_wp2
        go_ret
        exact ⟨rfl, hbd'⟩
    · go_wp2_with fail
      refine (dec_any a w8 (by omega)).mono ?_
      rintro e wa ⟨rfl, hBa⟩
      have hba : Below w.heap.size w wa := hb8.trans (hBa.mono hb8.size)
      clear hb8 hBa
      go_wp2_with fail
      refine (dec_any b wa (by omega)).mono ?_
      rintro e wb ⟨rfl, hBb⟩
      have hbb : Below w.heap.size w wb := hba.trans (hBb.mono hba.size)
      clear hba hBb
      go_wp2_with fail
      refine (dec_any c wb (by omega)).mono ?_
      rintro e wc ⟨rfl, hBc⟩
      have hbc : Below w.heap.size w wc := hbb.trans (hBc.mono hbb.size)
      clear hbb hBc
      go_wp2_with fail
      refine (dec_any d wc (by omega)).mono ?_
      rintro e wd ⟨rfl, hBd⟩
      have hbd' : Below w.heap.size w wd := hbc.trans (hBd.mono hbc.size)
      clear hbc hBd
      go_wp2_with fail
      refine (zz_at _ _ _ _ wd (list4 a b c d) (by simp) (head_app _ _ (by simp) (head_app _ _ (by simp) (head_app _ _ (by simp) (head_app _ _ (by simp) (head_app _ _ (by simp) (head_app _ _ HNA.out (dec_first a))))))) (tag4 a b c d) (by simp; omega)).mono ?_
      rintro e we ⟨rfl, rfl⟩
      go_wp2
      go_ret
      exact ⟨rfl, hbd'⟩
  · have hbd : decide ((1000000000000000000 : Int) ≤ (n : Int)) = false := by simpa using hbig
    clear hbig
    go_wp2_with fail
    have hb6 := hb4
    clear hb4 hbd
    generalize w4 = w6 at *
    refine (dec_any n w6 hn).mono ?_
    rintro e w7 ⟨rfl, hB7⟩
    have hb7 : Below w.heap.size w w7 := hb6.trans (hB7.mono hb6.size)
    clear hb6 hB7
    go_wp2_with fail
    refine (dec_any m w7 hm).mono ?_
    rintro e w8 ⟨rfl, hB8⟩
    have hb8 : Below w.heap.size w w8 := hb7.trans (hB8.mono hb7.size)
    clear hb7 hB8
    by_cases h1 : (1 : Int) ≤ (n : Int)
    · by_cases h18 : (18 : Int) < ((dec n).length : Int) + ((dec m).length : Int)
      · go_wp2_with fail
        refine (zz_at _ _ _ _ w8 (list5 n m) (by simp; intro h; exact absurd h HNN.out) (head_app _ _ HNN.out (dec_first n)) (tag5 n m (by simp; omega)) (by simp; omega)).mono ?_
        rintro e w9 ⟨rfl, rfl⟩
        go_wp2_with fail
        refine (dec_any a w8 (by omega)).mono ?_
        rintro e wa ⟨rfl, hBa⟩
        have hba : Below w.heap.size w wa := hb8.trans (hBa.mono hb8.size)
        clear hb8 hBa
        go_wp2_with fail
        refine (dec_any b wa (by omega)).mono ?_
        rintro e wb ⟨rfl, hBb⟩
        have hbb : Below w.heap.size w wb := hba.trans (hBb.mono hba.size)
        clear hba hBb
        go_wp2_with fail
        refine (dec_any c wb (by omega)).mono ?_
        rintro e wc ⟨rfl, hBc⟩
        have hbc : Below w.heap.size w wc := hbb.trans (hBc.mono hbb.size)
        clear hbb hBc
        go_wp2_with fail
        refine (dec_any d wc (by omega)).mono ?_
        rintro e wd ⟨rfl, hBd⟩
        have hbd' : Below w.heap.size w wd := hbc.trans (hBd.mono hbc.size)
        clear hbc hBd
        go_wp2_with fail
        refine (zz_at _ _ _ _ wd (list4 a b c d) (by simp) (head_app _ _ (by simp) (head_app _ _ (by simp) (head_app _ _ (by simp) (head_app _ _ (by simp) (head_app _ _ (by simp) (head_app _ _ HNA.out (dec_first a))))))) (tag4 a b c d) (by simp; omega)).mono ?_
        rintro e we ⟨rfl, rfl⟩
        go_wp2
        go_ret
        exact ⟨rfl, hbd'⟩
      · go_wp2_with fail
        refine (dec_any a w8 (by omega)).mono ?_
        rintro e wa ⟨rfl, hBa⟩
        have hba : Below w.heap.size w wa := hb8.trans (hBa.mono hb8.size)
        clear hb8 hBa
        go_wp2_with fail
        refine (dec_any b wa (by omega)).mono ?_
        rintro e wb ⟨rfl, hBb⟩
        have hbb : Below w.heap.size w wb := hba.trans (hBb.mono hba.size)
        clear hba hBb
        go_wp2_with fail
        refine (dec_any c wb (by omega)).mono ?_
        rintro e wc ⟨rfl, hBc⟩
        have hbc : Below w.heap.size w wc := hbb.trans (hBc.mono hbb.size)
        clear hbb hBc
        go_wp2_with fail
        refine (dec_any d wc (by omega)).mono ?_
        rintro e wd ⟨rfl, hBd⟩
        have hbd' : Below w.heap.size w wd := hbc.trans (hBd.mono hbc.size)
        clear hbc hBd
        go_wp2_with fail
        refine (zz_at _ _ _ _ wd (list4 a b c d) (by simp) (head_app _ _ (by simp) (head_app _ _ (by simp) (head_app _ _ (by simp) (head_app _ _ (by simp) (head_app _ _ (by simp) (head_app _ _ HNA.out (dec_first a))))))) (tag4 a b c d) (by simp; omega)).mono ?_
        rintro e we ⟨rfl, rfl⟩
        go_wp2
        go_ret
        exact ⟨rfl, hbd'⟩
    · go_wp2_with fail
      refine (dec_any a w8 (by omega)).mono ?_
      rintro e wa ⟨rfl, hBa⟩
      have hba : Below w.heap.size w wa := hb8.trans (hBa.mono hb8.size)
      clear hb8 hBa
      go_wp2_with fail
      refine (dec_any b wa (by omega)).mono ?_
      rintro e wb ⟨rfl, hBb⟩
      have hbb : Below w.heap.size w wb := hba.trans (hBb.mono hba.size)
      clear hba hBb
      go_wp2_with fail
      refine (dec_any c wb (by omega)).mono ?_
      rintro e wc ⟨rfl, hBc⟩
      have hbc : Below w.heap.size w wc := hbb.trans (hBc.mono hbb.size)
      clear hbb hBc
      go_wp2_with fail
      refine (dec_any d wc (by omega)).mono ?_
      rintro e wd ⟨rfl, hBd⟩
      have hbd' : Below w.heap.size w wd := hbc.trans (hBd.mono hbc.size)
      clear hbc hBd
      go_wp2_with fail
      refine (zz_at _ _ _ _ wd (list4 a b c d) (by simp) (head_app _ _ (by simp) (head_app _ _ (by simp) (head_app _ _ (by simp) (head_app _ _ (by simp) (head_app _ _ (by simp) (head_app _ _ HNA.out (dec_first a))))))) (tag4 a b c d) (by simp; omega)).mono ?_
      rintro e we ⟨rfl, rfl⟩
      go_wp2
      go_ret
      exact ⟨rfl, hbd'⟩

end Go.Proofs.Qxb6000759a.Tag
