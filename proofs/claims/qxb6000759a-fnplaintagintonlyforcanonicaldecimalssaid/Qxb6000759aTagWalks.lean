import Derived.Test.Qxb6000759aChecked
import Derived.Test.Qxb6000759aTagPlain
import Derived.WalkKit
import Derived.WalkSpells
import Derived.WalkSmall
import Derived.Outline
import Derived.Deep.LoopGhost
import Derived.Laws.IdiomStrings
namespace Go.Proofs.Qxb6000759a.Tag
open Go.RowKit

/-- isDigit. -/
theorem digit_yes (c : UInt8) (w : World) (h : isD c) : Calls Try.prog 42 #[.int .u8 (c.toNat : Int)] w fun e w' => e = .returned (.bool true) ∧ w = w' := by
  obtain ⟨h1, h2⟩ := h
  have a1 : (48 : Int) ≤ (c.toNat : Int) := by omega
  have a2 : (c.toNat : Int) ≤ 57 := by omega
  go_enter Try.func42, Try.ntmps42
  go_wp2
  go_ret
  exact ⟨rfl, rfl⟩
theorem digit_no (c : UInt8) (w : World) (h : ¬ isD c) : Calls Try.prog 42 #[.int .u8 (c.toNat : Int)] w fun e w' => e = .returned (.bool false) ∧ w = w' := by
  unfold isD at h
  by_cases a1 : (48 : Int) ≤ (c.toNat : Int)
  · have a2 : ¬ (c.toNat : Int) ≤ 57 := by omega
    go_enter Try.func42, Try.ntmps42
    go_wp2
    go_ret
    exact ⟨rfl, rfl⟩
  · go_enter Try.func42, Try.ntmps42
    go_wp2
    go_ret
    exact ⟨rfl, rfl⟩

theorem take_snoc (s : ByteArray) (k : Nat) (h : k < s.size) : s.data.toList.take (k + 1) = s.data.toList.take k ++ [s[k]] := by
  rw [List.take_succ_eq_append_getElem (by simpa using h)]; rfl

/-- A text that begins with another byte than c is not the text that begins with c. -/
theorem str_ne (s : ByteArray) (h0 : 0 < s.size) (c : UInt8) (l : List UInt8) (hc : s[0] ≠ c) : (s.toList == c :: l) = false := by
  apply beq_eq_false_iff_ne.2
  intro e
  apply hc
  have := congrArg (fun x : List UInt8 => x[0]?) e
  rw [ByteArray.toList_eq] at this
  simp at this
  have h1 : s.data[0]? = some s[0] := by rw [Array.getElem?_eq_getElem (by simpa using h0)]; rfl
  simp_all

set_option maxRecDepth 100000 in
set_option maxHeartbeats 2000000 in
/-- plainTag at a text that begins with a digit. -/
theorem tag_digit (s : ByteArray) (w : World) (hs : s.size ≤ maxLen) (h0 : 0 < s.size) (hd : isD s[0]) :
    Calls Try.prog 31 #[.string s] w fun e w' => e = .returned (.tuple #[.string (ptag s.data.toList).1, .bool (ptag s.data.toList).2]) ∧ w = w' := by
  unfold maxLen at hs
  have n1 := str_ne s h0 126 [] (fun e => by rw [e] at hd; exact absurd hd.2 (by decide))
  have n2 := str_ne s h0 110 [117, 108, 108] (fun e => by rw [e] at hd; exact absurd hd.2 (by decide))
  have n3 := str_ne s h0 78 [117, 108, 108] (fun e => by rw [e] at hd; exact absurd hd.2 (by decide))
  have n4 := str_ne s h0 78 [85, 76, 76] (fun e => by rw [e] at hd; exact absurd hd.2 (by decide))
  have n5 := str_ne s h0 116 [114, 117, 101] (fun e => by rw [e] at hd; exact absurd hd.2 (by decide))
  have n6 := str_ne s h0 84 [114, 117, 101] (fun e => by rw [e] at hd; exact absurd hd.2 (by decide))
  have n7 := str_ne s h0 84 [82, 85, 69] (fun e => by rw [e] at hd; exact absurd hd.2 (by decide))
  have n8 := str_ne s h0 102 [97, 108, 115, 101] (fun e => by rw [e] at hd; exact absurd hd.2 (by decide))
  have n9 := str_ne s h0 70 [97, 108, 115, 101] (fun e => by rw [e] at hd; exact absurd hd.2 (by decide))
  have n10 := str_ne s h0 70 [65, 76, 83, 69] (fun e => by rw [e] at hd; exact absurd hd.2 (by decide))
  have h0i : (0 : Int) < (s.size : Int) := by omega
  have HD : Hid (isD s[0]) := hd
  clear hd
  go_enter Try.func31, Try.ntmps31
  go_wp2_with (go_at_call 42; refine (digit_yes _ _ HD.out).mono ?_; rintro e w' ⟨rfl, rfl⟩)
  clear n1 n2 n3 n4 n5 n6 n7 n8 n9 n10
  go_loopg [4, 25] s.size (fun g n i wr => ∃ k, k ≤ s.size ∧ g = s.size - k ∧ i = .int .i64 (k : Int) ∧ n = .int .i64 (((s.data.toList.take k).count 46 : Nat) : Int) ∧ (s.data.toList.take k).all okc = true ∧ w = wr)
  case atStart => exact ⟨0, Nat.zero_le _, rfl, rfl, by simp, by simp, rfl⟩
  case round =>
    obtain ⟨k, hk, hgk, rfl, rfl, hall, rfl⟩ := hrel
    have hcl : (s.data.toList.take k).count 46 ≤ k := by
      have h1 := List.count_le_length (a := (46 : UInt8)) (l := s.data.toList.take k)
      simp at h1; omega
    have HA := show Hid _ from hall
    clear hall
    by_cases hlt : k < s.size
    · have HT : Hid (s.data.toList.take (k + 1) = s.data.toList.take k ++ [s[k]]) := take_snoc s k hlt
      have hmem : Hid (s[k] ∈ s.data.toList) := by
        show _ ∈ _
        have : s.data.toList[k]'(by simpa using hlt) = s[k] := rfl
        rw [← this]; exact List.getElem_mem _
      have hlti : (k : Int) < (s.size : Int) := by omega
      have hlt0 : (0 : Int) ≤ (k : Int) := by omega
      by_cases h46 : s[k] = 46
      · have b1 : ((s[k].toNat : Int) == 46) = true := by rw [h46]; rfl
        have H46 := show Hid _ from h46
        clear h46
        go_wp2
        go_roundg (s.size - (k + 1))
        case measure => omega
        case rel => exact ⟨k + 1, by omega, rfl, by go_num, by rw [HT.out, H46.out]; simp, by rw [HT.out, H46.out, List.all_append, HA.out]; rfl, rfl⟩
      · have b1 : ((s[k].toNat : Int) == 46) = false := by
          apply beq_eq_false_iff_ne.2
          intro e
          exact h46 (UInt8.toNat_inj.1 (show s[k].toNat = 46 by omega))
        have H46 := show Hid _ from h46
        clear h46
        by_cases hdig : isD s[k]
        · have HDk := show Hid (isD s[k]) from hdig
          clear hdig
          go_wp2_with (go_at_call 42; refine (digit_yes _ _ HDk.out).mono ?_; rintro e w' ⟨rfl, rfl⟩)
          go_roundg (s.size - (k + 1))
          case measure => omega
          case rel => exact ⟨k + 1, by omega, rfl, by go_num, by rw [HT.out, List.count_append, List.count_singleton, if_neg (by simpa using H46.out)]; simp, by rw [HT.out, List.all_append, HA.out]; simp [okc_digit HDk.out], rfl⟩
        · have HDk := show Hid (¬ isD s[k]) from hdig
          clear hdig
          have HP : Hid (ptag s.data.toList = (tNo, false)) := by
            show _ = _
            unfold ptag
            rw [if_neg]
            intro h
            have h1 := List.all_eq_true.1 h _ hmem.out
            simp only [okc, Bool.or_eq_true, Bool.and_eq_true, decide_eq_true_eq, beq_iff_eq] at h1
            rcases h1 with h1 | h1
            · exact HDk.out h1
            · exact H46.out h1
          go_wp2_with (go_at_call 42; refine (digit_no _ _ HDk.out).mono ?_; rintro e w' ⟨rfl, rfl⟩)
          go_ret2
          exact ⟨by rw [HP.out]; rfl, rfl⟩
    · have hke : k = s.size := by omega
      subst hke
      have hfull : s.data.toList.take s.size = s.data.toList := List.take_of_length_le (by simp)
      rw [hfull] at HA hcl ⊢
      have HL : Hid (s.data.toList.length = s.size) := by show _ = _; simp
      have HH : Hid (s.data.toList.head? = some s[0]) := by
        show _ = _
        rw [List.head?_eq_getElem?, List.getElem?_eq_getElem (by simpa using h0)]; rfl
      clear hfull
      generalize hc : s.data.toList.count 46 = d at *
      have HC := show Hid _ from hc
      clear hc
      by_cases d2 : 2 ≤ d
      · have d2i : (2 : Int) ≤ (d : Int) := by omega
        have HP : Hid (ptag s.data.toList = (tStr, true)) := tag_str _ HA.out (by rw [HC.out]; exact d2)
        go_wp2
        go_ret2
        exact ⟨by rw [HP.out]; rfl, rfl⟩
      · have d2i : ¬ (2 : Int) ≤ (d : Int) := by omega
        by_cases d1 : 0 < d
        · have d1i : (0 : Int) < (d : Int) := by omega
          have HP : Hid (ptag s.data.toList = (tNo, false)) := tag_no _ (by rw [HC.out]; omega) (.inl (by rw [HC.out]; exact d1))
          go_wp2
          go_ret2
          exact ⟨by rw [HP.out]; rfl, rfl⟩
        · have d1i : ¬ (0 : Int) < (d : Int) := by omega
          by_cases l18 : 18 < s.size
          · have l18i : (18 : Int) < (s.size : Int) := by omega
            have HP : Hid (ptag s.data.toList = (tNo, false)) := tag_no _ (by rw [HC.out]; omega) (.inr (.inl (by rw [HL.out]; exact l18)))
            go_wp2
            go_ret2
            exact ⟨by rw [HP.out]; rfl, rfl⟩
          · have l18i : ¬ (18 : Int) < (s.size : Int) := by omega
            by_cases hz : s[0] = 48
            · have bz : ((s[0].toNat : Int) == 48) = true := by rw [hz]; rfl
              have HZ := show Hid _ from hz
              clear hz
              by_cases l1 : 1 < s.size
              · have l1i : (1 : Int) < (s.size : Int) := by omega
                have HP : Hid (ptag s.data.toList = (tNo, false)) := tag_no _ (by rw [HC.out]; omega) (.inr (.inr ⟨by rw [HH.out, HZ.out], by rw [HL.out]; exact l1⟩))
                go_wp2
                go_ret2
                exact ⟨by rw [HP.out]; rfl, rfl⟩
              · have l1i : ¬ (1 : Int) < (s.size : Int) := by omega
                have HP : Hid (ptag s.data.toList = (tInt, true)) := by
                  show _ = _
                  unfold ptag
                  rw [if_pos HA.out, HC.out, HL.out, if_neg d2, if_neg]
                  rintro (h | h | ⟨_, h⟩) <;> omega
                go_wp2
                go_ret2
                exact ⟨by rw [HP.out]; rfl, rfl⟩
            · have bz : ((s[0].toNat : Int) == 48) = false := by
                apply beq_eq_false_iff_ne.2
                intro e
                exact hz (UInt8.toNat_inj.1 (show s[0].toNat = 48 by omega))
              have HZ := show Hid _ from hz
              clear hz
              have HP : Hid (ptag s.data.toList = (tInt, true)) := by
                show _ = _
                unfold ptag
                rw [if_pos HA.out, HC.out, HL.out, if_neg d2, if_neg]
                rintro (h | h | ⟨h, _⟩)
                · omega
                · omega
                · rw [HH.out] at h; exact HZ.out (Option.some.inj h)
              go_wp2
              go_ret2
              exact ⟨by rw [HP.out]; rfl, rfl⟩

/-- One of the three tags that are no number's. -/
def Other (e : Ending) : Prop := ∃ t, e = .returned (.tuple #[.string t, .bool true]) ∧ (t = tNull ∨ t = tBool ∨ t = tStr)

set_option maxRecDepth 100000 in
set_option maxHeartbeats 2000000 in
/-- plainTag at any other text. -/
theorem tag_other (s : ByteArray) (w : World) (h0 : 0 < s.size) (hd : ¬ isD s[0]) :
    Calls Try.prog 31 #[.string s] w fun e w' => Other e ∧ w = w' := by
  have h0i : (0 : Int) < (s.size : Int) := by omega
  have HD : Hid (¬ isD s[0]) := hd
  clear hd
  go_enter Try.func31, Try.ntmps31
  go_wp2_with (go_at_call 42; refine (digit_no _ _ HD.out).mono ?_; rintro e w' ⟨rfl, rfl⟩)
  all_goals go_ret2
  all_goals first
    | exact ⟨⟨tNull, rfl, .inl rfl⟩, rfl⟩
    | exact ⟨⟨tBool, rfl, .inr (.inl rfl)⟩, rfl⟩
    | exact ⟨⟨tStr, rfl, .inr (.inr rfl)⟩, rfl⟩

/-- ZZPlainTag. -/
theorem zz_digit (s : ByteArray) (w : World) (hs : s.size ≤ maxLen) (h0 : 0 < s.size) (hd : isD s[0]) :
    Calls Try.prog 16 #[.string s] w fun e w' => e = .returned (.tuple #[.string (ptag s.data.toList).1, .bool (ptag s.data.toList).2]) ∧ w = w' := by
  go_enter Try.func16, Try.ntmps16
  go_wp2_with (go_at_call 31; refine (tag_digit s w hs h0 hd).mono ?_; rintro e w' ⟨rfl, rfl⟩)
  go_ret2
  exact ⟨rfl, rfl⟩
theorem zz_other (s : ByteArray) (w : World) (h0 : 0 < s.size) (hd : ¬ isD s[0]) :
    Calls Try.prog 16 #[.string s] w fun e w' => Other e ∧ w = w' := by
  go_enter Try.func16, Try.ntmps16
  go_wp2_with (go_at_call 31; refine (tag_other s w h0 hd).mono ?_; rintro e w' ⟨⟨t, rfl, ht⟩, rfl⟩)
  go_ret2
  exact ⟨⟨t, rfl, ht⟩, rfl⟩

/-- n's decimal text. -/
def ds (n : Nat) : ByteArray := ⟨(dec n).toArray⟩

/-- The block of twenty bytes: from i on it holds the digits l. -/
def Buf (b i : Nat) (l : List UInt8) (w : World) : Prop :=
  ∃ cs : Array Value, w.heap[b]? = some (.cells cs 46 (0, 0)) ∧ cs.size = 20 ∧ i + l.length = 20 ∧ cs.toList.drop i = l.map (fun c => Value.int .u8 (c.toNat : Int))

theorem Buf.put {b i : Nat} {l : List UInt8} {w : World} (h : Buf b (i + 1) l w) (c : UInt8) : Buf b i (c :: l) (w.setCell ⟨b, i, none⟩ (.int .u8 (c.toNat : Int))) := by
  obtain ⟨cs, h1, h2, h3, h4⟩ := h
  refine ⟨_, heap_setCell_same w b i cs 46 _ h1, by simpa using h2, by simp; omega, ?_⟩
  rw [Array.toList_setIfInBounds, List.drop_eq_getElem_cons (by simp; omega)]
  simp
  rw [List.drop_set_of_lt (by omega), h4]
theorem Buf.has {b i : Nat} {l : List UInt8} {w : World} (h : Buf b i l w) (j : Nat) (hj : j < 20) : ∃ v, w.cell? ⟨b, j, none⟩ = some v := by
  obtain ⟨cs, h1, h2, _⟩ := h
  rw [cell_of_row w b j cs 46 (0, 0) h1, Array.getElem?_eq_getElem (by omega)]
  exact ⟨_, rfl⟩
theorem Buf.free {b i : Nat} {l : List UInt8} {w : World} (h : Buf b i l w) (j : Nat) : w.frozen? ⟨b, j, none⟩ = false := by
  obtain ⟨cs, h1, _⟩ := h
  exact frozen_of_row w b j cs 46 h1
theorem Buf.cell {b i : Nat} {l : List UInt8} {w : World} (h : Buf b i l w) (j : Nat) (hj : j < l.length) : w.cell? ⟨b, i + j, none⟩ = some (.int .u8 (l[j].toNat : Int)) := by
  obtain ⟨cs, h1, h2, h3, h4⟩ := h
  rw [cell_of_row w b (i + j) cs 46 (0, 0) h1]
  have := congrArg (fun x : List Value => x[j]?) h4
  simp [hj] at this
  simpa using this

theorem slice_buf (w : World) (b i k : Nat) (h : i + k = 20) (hk : 0 < k) :
    (Instr.sliceAt 46 (.pointer (some ⟨b, 0, none⟩)) (some (.int .i64 (i : Int))) none none).run Try.prog w = .ok (.slice (some ⟨b, i, none⟩) k k) w := by
  have hl : Try.prog.arrayLen 46 = 20 := by kernel_rfl
  have he : Try.prog.elem 46 = 5 := by kernel_rfl
  have hs : ∀ w, (sizeOf 5).run Try.prog w = .ok 1 w := fun w => by kernel_rfl
  have hr := run_sliceAt_array_l (P := Try.prog) w 46 ⟨b, 0, none⟩ (by rw [hl, he]; exact Try.underlying46) .i64 (i : Int) (by omega) (by rw [hl]; omega)
  rw [hr, he, hs, hl]
  have hk2 : 20 - i = k := by omega
  have hne : ¬ (20 = i) := by omega
  simp only [slicedAt, Result.andThen_ok, Int.toNat_natCast, if_neg hne, Nat.mul_one, hk2]
  rw [WideShapes.add_plain, Nat.zero_add]

set_option maxRecDepth 100000 in
set_option maxHeartbeats 2000000 in
/-- decimalCfgB1. -/
theorem dec_any (n : Nat) (w : World) (hn : n < 18446744073709551616) :
    Calls Try.prog 17 #[.int .u64 (n : Int)] w fun e w' => e = .returned (.string (ds n)) ∧ Below w.heap.size w w' := by
  by_cases hz : n = 0
  · subst hz
    go_enter Try.func17, Try.ntmps17
    go_wp2
    go_ret
    exact ⟨rfl, Below.refl _ _⟩
  have hzb : ((n : Int) == 0) = false := by simp; omega
  go_enter Try.func17, Try.ntmps17
  go_wp2_with fail
  go_loopg [0, 4] 20 (fun k v x wr => ∃ (m i : Nat) (l : List UInt8), k = i ∧ v = .int .u64 (m : Int) ∧ x = .int .i64 (i : Int) ∧ Buf w.heap.size i l wr ∧ decF 20 n = decF i m ++ l ∧ m < 10 ^ i ∧ m ≤ n ∧ Below w.heap.size w wr)
  case atStart => exact ⟨n, 20, [], rfl, rfl, rfl, ⟨_, heap_alloc_new w _, rfl, rfl, rfl⟩, by simp, by omega, Nat.le_refl _, (Below.refl _ _).alloc (Nat.le_refl _) _⟩
  case round =>
    obtain ⟨m, i, l, hgk, rfl, rfl, hbuf, hdec, hlt, hle, hbw⟩ := hrel
    have hi20 : i ≤ 20 := by obtain ⟨_, _, _, h, _⟩ := hbuf; omega
    have HD := show Hid _ from hdec
    have HL := show Hid _ from hlt
    clear hdec hlt
    by_cases hm : m = 0
    · subst hm
      have HE : Hid (dec n = l) := by
        show _ = _
        unfold dec
        rw [if_neg hz, HD.out, decF_zero]; rfl
      have hcl : i + l.length = 20 := by obtain ⟨_, _, _, h, _⟩ := hbuf; exact h
      have hmi : ¬ (0 : Int) < ((0 : Nat) : Int) := by omega
      have hl0 : 0 < l.length := by
        have := dec_ne n hn
        rw [HE.out] at this
        exact List.length_pos_iff.2 this
      have hsl := slice_buf wr w.heap.size i l.length hcl hl0
      have hcv := run_convert_bytes_back (P := Try.prog) wr 24 9 5 ⟨w.heap.size, i, none⟩ l.length l Try.underlying24 Try.underlying5 Try.underlying9 (fun j hj => by rw [WideShapes.add_plain]; exact hbuf.cell j hj)
      go_wp2
      go_ret
      exact ⟨by unfold ds; rw [HE.out]; rfl, hbw⟩
    · obtain ⟨i, rfl⟩ : ∃ i', i = i' + 1 := ⟨i - 1, by have := HL.out; cases i with | zero => simp at this; omega | succ i => omega⟩
      have hmi : (0 : Int) < (m : Int) := by omega
      obtain ⟨o1, y1⟩ := hbuf.has i (by omega)
      have z1 := hbuf.free i
      have HX : Hid (Buf w.heap.size i (UInt8.ofNat (48 + m % 10) :: l) (wr.setCell ⟨w.heap.size, i, none⟩ (.int .u8 (48 + (m : Int) % 10)))) := by
        have := hbuf.put (UInt8.ofNat (48 + m % 10))
        rw [digit_toNat] at this
        exact this
      have HY : Hid (decF 20 n = decF i (m / 10) ++ UInt8.ofNat (48 + m % 10) :: l) := by
        show _ = _
        rw [HD.out, decF_step i m hm]; simp
      have HZ : Hid (m / 10 < 10 ^ i) := by
        have := HL.out
        rw [Nat.pow_succ] at this
        show _ < _
        omega
      have HB : Hid (Below w.heap.size w (wr.setCell ⟨w.heap.size, i, none⟩ (.int .u8 (48 + (m : Int) % 10)))) := hbw.setCell (by simp) _
      clear hbuf hbw
      go_wp2
      go_roundg i
      case measure => omega
      case rel => exact ⟨m / 10, i, _, rfl, by go_num, rfl, HX.out, HY.out, HZ.out, by omega, HB.out⟩

end Go.Proofs.Qxb6000759a.Tag
