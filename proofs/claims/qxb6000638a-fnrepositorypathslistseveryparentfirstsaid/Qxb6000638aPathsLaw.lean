import Derived.Test.Qxb6000638aPathsWalks
namespace Go.Proofs.Qxb6000638a.Pth
open Go.RowKit

theorem size_ext (s : ByteArray) (i : Nat) (h : i ≤ s.size) : (s.extract 0 i).size = i := by simp; omega

theorem zz_paths2 (s : ByteArray) (w : World) (hs : s.size ≤ 4096) :
    Calls Try.prog 21 #[.string s] w fun e w' => ∃ g cap, e = .returned (.slice (some ⟨g, 0, none⟩) ((sl s s.size).length + 1) cap) ∧
      w'.cell? ⟨g, (sl s s.size).length, none⟩ = some (.string s) ∧
      Hid (∀ k (h : k < (sl s s.size).length), w'.cell? ⟨g, k, none⟩ = some (.string (s.extract 0 (sl s s.size)[k]))) ∧ Below w.heap.size w w' := by
  refine (zz_paths s w hs).mono ?_
  rintro e w1 ⟨v, rfl, hown, hbw⟩
  have hex : ∃ g cap, v = .slice (some ⟨g, 0, none⟩) ((sl s s.size).length + 1) cap := by
    rcases hown.2 with ⟨_, hn⟩ | ⟨g, cap, cur, rfl, _⟩
    · omega
    · exact ⟨g, cap, rfl⟩
  obtain ⟨g, cap, rfl⟩ := hex
  refine ⟨g, cap, rfl, ?_, ?_, hbw⟩
  · rw [hown.cellAt (sl s s.size).length (by omega)]
    rw [List.getElem?_append_right (by simp)]
    simp
  · intro k h
    rw [hown.cellAt k (by omega)]
    rw [List.getElem?_append_left (by simpa using h)]
    simp [h, pv]

set_option maxRecDepth 100000 in
set_option maxHeartbeats 1000000 in
theorem law (s : ByteArray) (w : World) :
    Calls Try.prog 6 #[.string s] w fun e w' => e = .returned (.bool true) ∧ Below w.heap.size w w' := by
  by_cases hbig : 1048576 < s.size
  · go_enter Try.func6, Try.ntmps6
    go_wp2_with (go_at_call 20; refine (fits_not _ _ hbig).mono ?_; rintro e w' ⟨rfl, rfl⟩)
    go_ret
    exact ⟨rfl, Below.refl _ _⟩
  by_cases hmid : 4096 < s.size
  · have hm : (4096 : Int) < (s.size : Int) := by omega
    go_enter Try.func6, Try.ntmps6
    go_wp2_with (go_at_call 20; refine (fits_any _ _ (by omega)).mono ?_; rintro e w' ⟨rfl, rfl⟩)
    go_ret
    exact ⟨rfl, Below.refl _ _⟩
  have hm : ¬ (4096 : Int) < (s.size : Int) := by omega
  have hl := sl_len s s.size
  go_enter Try.func6, Try.ntmps6
  go_wp2_with (first
    | (go_at_call 20; refine (fits_any _ _ (by omega)).mono ?_; rintro e w' ⟨rfl, rfl⟩)
    | (go_at_call 21; refine (zz_paths2 _ _ (by omega)).mono ?_; rintro e w1 ⟨g, cap, rfl, hlast, HC, hbw⟩)
    | (go_at_call 22; refine (count_any _ _ (by omega)).mono ?_; rintro e w' ⟨rfl, rfl⟩))
  go_loop [5] (fun i => ∃ k : Nat, k ≤ (sl s s.size).length ∧ i = .int .i64 k) (fun i => (sl s s.size).length - (intOf i).toNat)
  case atStart => exact ⟨0, Nat.zero_le _, rfl⟩
  case round =>
    obtain ⟨k, hk, rfl⟩ := hrel
    by_cases hlt : k < (sl s s.size).length
    · have hm2 := sl_mem s s.size _ (List.getElem_mem hlt)
      have hcell := HC.out k hlt
      have hsz := size_ext s _ (Nat.le_of_lt hm2.1)
      have hprev : 0 < k → ∃ q : ByteArray, w1.cell? ⟨g, k - 1, none⟩ = some (.string q) ∧ q.size < (sl s s.size)[k] := by
        intro h0
        refine ⟨_, HC.out (k - 1) (by omega), ?_⟩
        have h1 := sl_mem s s.size _ (List.getElem_mem (show k - 1 < (sl s s.size).length by omega))
        rw [size_ext s _ (Nat.le_of_lt h1.1)]
        exact sl_lt s s.size (k - 1) k hlt (by omega)
      generalize hx : (sl s s.size)[k] = x at *
      have hq : (!(s.extract 0 x).toList == (s.extract 0 x).toList) = false := by simp
      obtain ⟨p, hp⟩ : ∃ p, p = s.extract 0 x := ⟨_, rfl⟩
      rw [← hp] at hcell hsz
      have hps : p.size < s.size := by omega
      have hq : (!(s.extract 0 p.size).toList == p.toList) = false := by rw [hsz, hp]; simp
      have h47 : ((s[p.size].toNat : Int) != 47) = false := by
        have e1 := hm2.2
        rw [← hsz, size_get s p.size hps] at e1
        rw [e1]; rfl
      rw [← hsz] at hprev
      clear hp hsz hm2 hx
      by_cases h0 : 0 < k
      · obtain ⟨q, hq1, hq2⟩ := hprev h0
        have hi0 : (0 : Int) < (k : Int) := by omega
        go_wp2
        go_round
        case rel => exact ⟨k + 1, by omega, by go_num⟩
        case measure => simp [intOf]; omega
      · have hi0 : ¬ (0 : Int) < (k : Int) := by omega
        clear hprev
        go_wp2
        go_round
        case rel => exact ⟨k + 1, by omega, by go_num⟩
        case measure => simp [intOf]; omega
    · go_wp2
      go_ret
      exact ⟨rfl, hbw⟩

end Go.Proofs.Qxb6000638a.Pth
