import Derived.Test.Qxb6000759aTagWalks
namespace Go.Proofs.Qxb6000759a.Tag
open Go.RowKit

theorem ds_list (n : Nat) : (ds n).data.toList = dec n := by simp [ds]
theorem ds_size (n : Nat) : (ds n).size = (dec n).length := by simp [ds, ByteArray.size]
/-- The first byte of a text that is given by its list. -/
theorem first_of {s : ByteArray} {l : List UInt8} (h : s.data.toList = l) (hl : l ≠ []) (hd : ∀ c ∈ l.head?, isD c) : ∃ h0 : 0 < s.size, isD s[0] := by
  have hs : s.size = l.length := by rw [← h, Array.length_toList]; rfl
  have h0 : 0 < s.size := by rw [hs]; exact List.length_pos_iff.2 hl
  refine ⟨h0, hd _ ?_⟩
  rw [← h, List.head?_eq_getElem?, List.getElem?_eq_getElem (by simpa using h0)]
  rfl
theorem eq_int : (tInt.toList == [33, 33, 105, 110, 116]) = true := by rw [ByteArray.toList_eq]; rfl
theorem eq_str : (tStr.toList == [33, 33, 115, 116, 114]) = true := by rw [ByteArray.toList_eq]; rfl
theorem dec_first (n : Nat) : ∀ c ∈ (dec n).head?, isD c := fun c hc => dec_digits n c (List.mem_of_mem_head? hc)

set_option maxRecDepth 100000 in
set_option maxHeartbeats 2000000 in
theorem law4 (n : Nat) (hn : n < 18446744073709551616) (w : World) : Calls Try.prog 6 #[.int .u64 (n : Int)] w fun e w' => e = .returned (.bool true) ∧ Below w.heap.size w w' := by
  by_cases hbig : (1000000000000000000 : Int) ≤ (n : Int)
  · go_enter Try.func6, Try.ntmps6
    go_wp2
    go_ret
    exact ⟨rfl, Below.refl _ _⟩
  have hne := dec_ne n hn
  have hlen := dec_len n hn
  obtain ⟨h0, hd⟩ := first_of (ds_list n) hne (dec_first n)
  have HP : Hid (ptag (ds n).data.toList = (tInt, true)) := by
    show _ = _
    rw [ds_list]
    refine tag_int _ (dec_digits n) (dec_short n (by omega)) ?_
    by_cases hz : n = 0
    · exact .inr (by rw [hz]; decide)
    · exact .inl (dec_lead n hn hz)
  go_enter Try.func6, Try.ntmps6
  go_wp2_with fail
  refine (dec_any n w hn).mono ?_
  rintro e w1 ⟨rfl, hB⟩
  go_wp2_with fail
  refine (zz_digit (ds n) w1 (by rw [ds_size]; unfold maxLen; omega) h0 hd).mono ?_
  rintro e w2 ⟨rfl, rfl⟩
  rw [HP.out]
  have e1 := eq_int
  go_wp2
  go_ret
  exact ⟨rfl, hB⟩

end Go.Proofs.Qxb6000759a.Tag
