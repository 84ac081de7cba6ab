import Derived.Test.Qxb6000759aTagLaw5
namespace Go.Proofs.Qxb6000759a.Tag
open Go.RowKit

theorem fits_any (s : ByteArray) (w : World) (hs : s.size ≤ 1048576) : Calls Try.prog 18 #[.string s] w fun e w' => e = .returned (.bool true) ∧ w = w' := by
  have h1 : ¬ (1048576 : Int) < (s.size : Int) := by omega
  go_enter Try.func18, Try.ntmps18
  go_wp2
  go_ret
  exact ⟨rfl, rfl⟩
theorem fits_not (s : ByteArray) (w : World) (hs : 1048576 < s.size) : Calls Try.prog 18 #[.string s] w fun e w' => e = .returned (.bool false) ∧ w = w' := by
  have h1 : (1048576 : Int) < (s.size : Int) := by omega
  go_enter Try.func18, Try.ntmps18
  go_wp2
  go_ret
  exact ⟨rfl, rfl⟩

theorem eq_null : (tNull.toList == [33, 33, 110, 117, 108, 108]) = true := by rw [ByteArray.toList_eq]; rfl
theorem eq_bool : (tBool.toList == [33, 33, 98, 111, 111, 108]) = true := by rw [ByteArray.toList_eq]; rfl
theorem nu_bool : (tBool.toList == [33, 33, 110, 117, 108, 108]) = false := by rw [ByteArray.toList_eq]; rfl
theorem nu_str : (tStr.toList == [33, 33, 110, 117, 108, 108]) = false := by rw [ByteArray.toList_eq]; rfl
theorem bo_str : (tStr.toList == [33, 33, 98, 111, 111, 108]) = false := by rw [ByteArray.toList_eq]; rfl
theorem nu_int : (tInt.toList == [33, 33, 110, 117, 108, 108]) = false := by rw [ByteArray.toList_eq]; rfl
theorem bo_int : (tInt.toList == [33, 33, 98, 111, 111, 108]) = false := by rw [ByteArray.toList_eq]; rfl
theorem st_int : (tInt.toList == [33, 33, 115, 116, 114]) = false := by rw [ByteArray.toList_eq]; rfl

set_option maxRecDepth 100000 in
set_option maxHeartbeats 2000000 in
theorem law7 (s : ByteArray) (hs : s.size ≤ maxLen) (w : World) : Calls Try.prog 7 #[.string s] w fun e w' => e = .returned (.bool true) ∧ Below w.heap.size w w' := by
  by_cases hbig : 1048576 < s.size
  · go_enter Try.func7, Try.ntmps7
    go_wp2_with (go_at_call 18; refine (fits_not _ _ hbig).mono ?_; rintro e w' ⟨rfl, rfl⟩)
    go_ret
    exact ⟨rfl, Below.refl _ _⟩
  have hbi : ¬ (1048576 : Int) < (s.size : Int) := by omega
  by_cases h0 : 0 < s.size
  · have hne : s.toList.isEmpty = false := by
      rw [ByteArray.toList_eq]
      cases h : s.data.toList with
      | nil =>
        have : s.data.toList.length = 0 := by rw [h]; rfl
        rw [Array.length_toList] at this
        have e : s.size = s.data.size := rfl
        omega
      | cons a l => rfl
    have hne2 : (s.toList == []) = false := by
      cases h : s.toList with
      | nil => rw [h] at hne; cases hne
      | cons a l => rfl
    by_cases hd : isD s[0]
    · have hd1 : (48 : Int) ≤ (s[0].toNat : Int) := by have := hd.1; omega
      have hd2 : (s[0].toNat : Int) ≤ 57 := by have := hd.2; omega
      have h0i : (0 : Int) < (s.size : Int) := by omega
      have HD : Hid (isD s[0]) := hd
      clear hd
      rcases ptag_cases s.data.toList with hp | hp | hp
      · have HP := show Hid _ from hp
        clear hp
        have e1 := nu_str
        have e2 := bo_str
        have e3 := eq_str
        go_enter Try.func7, Try.ntmps7
        go_wp2_with fail
        refine (fits_any s w (by omega)).mono ?_
        rintro e w' ⟨rfl, rfl⟩
        go_wp2_with fail
        refine (zz_digit s w hs h0 HD.out).mono ?_
        rintro e w' ⟨rfl, rfl⟩
        rw [HP.out]
        go_wp2
        go_ret
        exact ⟨rfl, Below.refl _ _⟩
      · have HP := show Hid _ from hp
        clear hp
        have e1 := eq_no
        go_enter Try.func7, Try.ntmps7
        go_wp2_with fail
        refine (fits_any s w (by omega)).mono ?_
        rintro e w' ⟨rfl, rfl⟩
        go_wp2_with fail
        refine (zz_digit s w hs h0 HD.out).mono ?_
        rintro e w' ⟨rfl, rfl⟩
        rw [HP.out]
        go_wp2
        go_ret
        exact ⟨rfl, Below.refl _ _⟩
      · obtain ⟨hdig, hl18, hhead⟩ := of_int _ hp
        have HP := show Hid _ from hp
        clear hp
        have hsz : s.data.toList.length = s.size := by rw [Array.length_toList]; rfl
        have hl18' : s.size ≤ 18 := by omega
        have h18i : ¬ (18 : Int) < (s.size : Int) := by omega
        have HN : Hid (s.data.toList ≠ []) := fun e => by rw [e] at hsz; simp at hsz; omega
        have HF : Hid (dec (val s.data.toList) = s.data.toList) := by
          refine dec_val _ HN.out ?_ hdig hl18
          rcases hhead with h | h
          · exact .inl h
          · by_cases e : s.data.toList.head? = some 48
            · right
              cases hl : s.data.toList with
              | nil => exact absurd hl HN.out
              | cons x l =>
                rw [hl] at h e
                simp at h e
                rw [h, e]
            · exact .inl e
        have HDg := show Hid _ from hdig
        have HSz := show Hid _ from hsz
        clear hdig hl18 hhead hsz
        have e1 := nu_int
        have e2 := bo_int
        have e3 := st_int
        have e4 := eq_int
        go_enter Try.func7, Try.ntmps7
        go_wp2_with fail
        refine (fits_any s w (by omega)).mono ?_
        rintro e w' ⟨rfl, rfl⟩
        go_wp2_with fail
        refine (zz_digit s w hs h0 HD.out).mono ?_
        rintro e w' ⟨rfl, rfl⟩
        rw [HP.out]
        go_wp2_with fail
        go_loopg [5, 6] s.size (fun g v i wr => ∃ k, k ≤ s.size ∧ g = s.size - k ∧ i = .int .i64 (k : Int) ∧ v = .int .u64 ((val (s.data.toList.take k) : Nat) : Int) ∧ w = wr)
        case atStart => exact ⟨0, Nat.zero_le _, rfl, rfl, rfl, rfl⟩
        case round =>
          obtain ⟨k, hk, hgk, rfl, rfl, rfl⟩ := hrel
          by_cases hlt : k < s.size
          · have hv : val (s.data.toList.take k) ≤ 100000000000000000 := by
              have h1 := val_lt (s.data.toList.take k) (fun c hc => HDg.out c (List.mem_of_mem_take hc))
              have h2 : (s.data.toList.take k).length ≤ 17 := by simp; omega
              have h3 := Nat.pow_le_pow_right (show 1 ≤ 10 by omega) h2
              have h4 : 10 ^ 17 = 100000000000000000 := by decide
              omega
            have hdk : isD s[k] := by
              apply HDg.out
              have : s.data.toList[k]'(by simpa using hlt) = s[k] := rfl
              rw [← this]; exact List.getElem_mem _
            have hk1 : (48 : Int) ≤ (s[k].toNat : Int) := by have := hdk.1; omega
            have hk2 : (s[k].toNat : Int) ≤ 57 := by have := hdk.2; omega
            have HV : Hid (val (s.data.toList.take (k + 1)) = val (s.data.toList.take k) * 10 + (s[k].toNat - 48)) := by
              show _ = _
              rw [take_snoc s k hlt, val_snoc]
            have hlti : (k : Int) < (s.size : Int) := by omega
            have hlt0 : (0 : Int) ≤ (k : Int) := by omega
            clear hdk
            generalize val (s.data.toList.take k) = v at *
            have hvi : (v : Int) ≤ 100000000000000000 := by omega
            go_wp2
            go_roundg (s.size - (k + 1))
            case measure => omega
            case rel => exact ⟨k + 1, by omega, rfl, by go_num, by rw [HV.out]; exact congrArg (Value.int .u64) (by omega), rfl⟩
          · have hke : k = s.size := by omega
            subst hke
            have hfull : s.data.toList.take s.size = s.data.toList := List.take_of_length_le (by rw [HSz.out]; exact Nat.le_refl _)
            rw [hfull]
            have hvl : val s.data.toList < 18446744073709551616 := by
              have h1 := val_lt s.data.toList HDg.out
              have h2 : s.data.toList.length ≤ 18 := by rw [HSz.out]; exact hl18'
              have h3 := Nat.pow_le_pow_right (show 1 ≤ 10 by omega) h2
              have h4 : 10 ^ 18 = 1000000000000000000 := by decide
              omega
            have HVL := show Hid _ from hvl
            clear hvl
            go_wp2_with fail
            refine (dec_any _ w HVL.out).mono ?_
            rintro e w2 ⟨rfl, hB⟩
            have heq : ((ds (val s.data.toList)).toList == s.toList) = true := by
              rw [ByteArray.toList_eq, ByteArray.toList_eq, ds_list, HF.out]; simp
            go_wp2
            go_ret
            exact ⟨rfl, hB⟩
    · go_enter Try.func7, Try.ntmps7
      go_wp2_with fail
      refine (fits_any s w (by omega)).mono ?_
      rintro e w' ⟨rfl, rfl⟩
      go_wp2_with fail
      refine (zz_other s w h0 hd).mono ?_
      rintro e w' ⟨⟨t, rfl, ht⟩, rfl⟩
      rcases ht with ht | ht | ht
      · rw [ht]
        have e1 := eq_null
        clear ht hd
        go_wp2
        go_ret
        exact ⟨rfl, Below.refl _ _⟩
      · rw [ht]
        have e1 := nu_bool
        have e2 := eq_bool
        clear ht hd
        go_wp2
        go_ret
        exact ⟨rfl, Below.refl _ _⟩
      · rw [ht]
        have e1 := nu_str
        have e2 := bo_str
        have e3 := eq_str
        clear ht hd
        go_wp2
        go_ret
        exact ⟨rfl, Below.refl _ _⟩
  · have he : s.toList.isEmpty = true := by
      rw [ByteArray.toList_eq]
      cases h : s.data.toList with
      | nil => rfl
      | cons a l =>
        have : s.data.toList.length = l.length + 1 := by rw [h]; rfl
        rw [Array.length_toList] at this
        have e : s.size = s.data.size := rfl
        omega
    go_enter Try.func7, Try.ntmps7
    go_wp2_with (go_at_call 18; refine (fits_any _ _ (by omega)).mono ?_; rintro e w' ⟨rfl, rfl⟩)
    go_ret
    exact ⟨rfl, Below.refl _ _⟩

end Go.Proofs.Qxb6000759a.Tag
