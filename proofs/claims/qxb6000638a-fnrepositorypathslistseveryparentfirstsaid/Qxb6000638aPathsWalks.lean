import Derived.Test.Qxb6000638aChecked
import Derived.Test.Qxb6000638aPathsPlain
import Derived.WalkKit
import Derived.WalkSpells
import Derived.WalkSmall
import Derived.Outline
namespace Go.Proofs.Qxb6000638a.Pth
open Go.RowKit

theorem info9 : (Try.prog.info? 9).map (fun i => (i.zero, i.size, i.bytes)) = some (some (.string ByteArray.empty), 1, 16) := by kernel_rfl

theorem ret_int {k : IntKind} {a b : Int} (h : a = b) : Ending.returned (.int k a) = .returned (.int k b) := by rw [h]

/-- zzBytes_..: within the bound the answer is yes. -/
theorem fits_any (s : ByteArray) (w : World) (hs : s.size ≤ 1048576) :
    Calls Try.prog 20 #[.string s] w fun e w' => e = .returned (.bool true) ∧ w = w' := by
  have h1 : ¬ (1048576 : Int) < (s.size : Int) := by omega
  go_enter Try.func20, Try.ntmps20
  go_wp2
  go_ret
  exact ⟨rfl, rfl⟩

theorem fits_not (s : ByteArray) (w : World) (hs : 1048576 < s.size) :
    Calls Try.prog 20 #[.string s] w fun e w' => e = .returned (.bool false) ∧ w = w' := by
  have h1 : (1048576 : Int) < (s.size : Int) := by omega
  go_enter Try.func20, Try.ntmps20
  go_wp2
  go_ret
  exact ⟨rfl, rfl⟩

set_option maxHeartbeats 400000 in
/-- b1CountSlashes. -/
theorem count_any (s : ByteArray) (w : World) (hs : s.size ≤ 4096) :
    Calls Try.prog 22 #[.string s] w fun e w' => e = .returned (.int .i64 (sl s s.size).length) ∧ w = w' := by
  go_enter Try.func22, Try.ntmps22
  go_wp2
  go_loop [3, 4] (fun n i => ∃ k : Nat, k ≤ s.size ∧ i = .int .i64 k ∧ n = .int .i64 (sl s k).length) (fun _ i => s.size - (intOf i).toNat)
  case atStart => exact ⟨0, Nat.zero_le _, rfl, rfl⟩
  case round =>
    obtain ⟨k, hk, rfl, rfl⟩ := hrel
    have hl := sl_len s k
    by_cases hlt : k < s.size
    · have hg := size_get s k hlt
      by_cases h47 : s.get! k = 47
      · have HS : Hid (sl s (k + 1) = sl s k ++ [k]) := sl_hit s k h47
        have hb : ((s[k].toNat : Int) == 47) = true := by rw [← hg, h47]; rfl
        clear hg h47
        go_wp2
        go_round
        case rel => exact ⟨k + 1, by omega, by go_num, by rw [HS.out]; simp⟩
        case measure => simp [intOf]; omega
      · have HS : Hid (sl s (k + 1) = sl s k) := sl_miss s k h47
        have hb : ((s[k].toNat : Int) == 47) = false := by
          rw [← hg]
          apply beq_eq_false_iff_ne.2
          intro e
          apply h47
          apply UInt8.toNat_inj.1
          show (s.get! k).toNat = 47
          omega
        clear hg h47
        go_wp2
        go_round
        case rel => exact ⟨k + 1, by omega, by go_num, by rw [HS.out]⟩
        case measure => simp [intOf]; omega
    · have : k = s.size := by omega
      subst this
      go_wp2
      go_ret
      exact ⟨rfl, rfl⟩

def pv (s : ByteArray) (i : Nat) : Value := .string (s.extract 0 i)

set_option maxRecDepth 100000 in
set_option maxHeartbeats 1000000 in
/-- repositoryPaths: the prefixes that end at a slash, then the whole. -/
theorem paths_any (s : ByteArray) (w : World) (hs : s.size ≤ 4096) :
    Calls Try.prog 26 #[.string s] w fun e w' => ∃ v, e = .returned v ∧ w'.ownsRow w.heap.size 9 1 v ((sl s s.size).length + 1) ((sl s s.size).map (pv s) ++ [.string s]) ∧ Below w.heap.size w w' := by
  obtain ⟨i0, hi, hz0, hz1, hz2⟩ := info_parts info9
  go_enter Try.func26, Try.ntmps26
  go_wp2
  go_loopw [3] (fun v wr => ∃ pos : Nat, pos ≤ s.size ∧ wr.heap[w.heap.size]? = some (.stringIter s pos) ∧ wr.ownsRow (w.heap.size + 1) 9 1 v (sl s pos).length ((sl s pos).map (pv s)) ∧ Below w.heap.size w wr) (fun _ wr => s.size - wr.iterPos w.heap.size)
  case atStart => exact ⟨0, Nat.zero_le _, World.iter_heap w s 0, World.ownsRow_nil _ _ _ _, (Below.refl _ _).alloc (Nat.le_refl _) _⟩
  case round =>
    obtain ⟨pos, hle, hit, hown, hbw⟩ := hrel
    have hl := sl_len s pos
    have hpos0 := iterPos_of hit
    by_cases hp : pos < s.size
    · have hnx : ∀ ty, (Instr.next (.pointer (some ⟨w.heap.size, 0, none⟩)) true ty).run Try.prog wr = _ := fun ty => Lib.run_next_any_at wr w.heap.size s pos ty hit hp
      have hwd := dec_in s pos hp
      have hit2 := Lib.iterAt_heap wr w.heap.size s pos (pos + (Utf8.decode s pos).2) hit
      have hbw2 := Lib.below_iterAt hbw (k := w.heap.size) (Nat.le_refl _) s (pos + (Utf8.decode s pos).2)
      have hown2 := ownsRow_iterAt hown (k := w.heap.size) (by omega) s (pos + (Utf8.decode s pos).2)
      obtain ⟨W1, hW1⟩ : ∃ W1, W1 = wr.iterAt w.heap.size s (pos + (Utf8.decode s pos).2) := ⟨_, rfl⟩
      rw [← hW1] at hnx hit2 hbw2 hown2
      have hBlt := lt_of_block hit2
      clear hW1 hit hown hbw
      by_cases hc : (Utf8.decode s pos).1 = 47
      · have HM : Hid (s.get! pos = 47 ∧ (Utf8.decode s pos).2 = 1) := dec_hit s pos hp hc
        have hcb : (((Utf8.decode s pos).1 : Int) == 47) = true := by rw [hc]; rfl
        clear hc
        go_wp2_with (at_builtin; refine wpList_append_own _ rfl _ _ 45 rfl (w.heap.size + 1) 9 i0 (.string ByteArray.empty) 1 16 Try.underlying45 hi hz0 hz1 hz2 rfl (by decide) _ _ _ rfl (hown2.alloc _) ⟨W1.heap.size, 0, none⟩ 1 1 [pv s pos] rfl rfl ?c1 ?c2 ?c3 ?c4 ?c5 ?_)
        case c1 => exact cell_one_new _ _ _
        case c2 => intro u hu; simp at hu; subst hu; rfl
        case c3 => unfold maxLen; omega
        case c4 => omega
        case c5 => simp; omega
        · intro v' w3 hown' hgrow3 hnil3
          have hit3 : w3.heap[w.heap.size]? = some (.stringIter s (pos + (Utf8.decode s pos).2)) := by
            rw [hgrow3.block w.heap.size (by simp; omega) (fun h => by have := (hown2.lt _ h.symm).1; omega), Below.heap_alloc _ _ _ hBlt]; exact hit2
          have hbw3 : Below w.heap.size w w3 := Below.grown (hbw2.alloc (by omega) _) hgrow3 (by simp; omega) (fun j hj => by have := (hown2.lt _ hj).1; omega)
          have X : Hid (w3.ownsRow (w.heap.size + 1) 9 1 v' (sl s (pos + (Utf8.decode s pos).2)).length ((sl s (pos + (Utf8.decode s pos).2)).map (pv s))) := by
            show w3.ownsRow _ _ _ _ _ _
            rw [HM.out.2, sl_hit s pos HM.out.1]
            simpa using hown'
          clear hown' hgrow3 hnil3
          go_wp2
          go_roundw
          case rel => exact ⟨_, hwd.2, hit3, X.out, hbw3⟩
          case measure => rw [iterPos_of hit3, hpos0]; omega
      · have HM : Hid (sl s (pos + (Utf8.decode s pos).2) = sl s pos) := dec_miss s pos hp hc
        have hcb : (((Utf8.decode s pos).1 : Int) == 47) = false := beq_eq_false_iff_ne.2 (by omega)
        clear hc
        go_wp2
        go_roundw
        case rel => exact ⟨_, hwd.2, hit2, by rw [HM.out]; exact hown2, hbw2⟩
        case measure => rw [iterPos_of hit2, hpos0]; omega
    · have hnx : ∀ ty, (Instr.next (.pointer (some ⟨w.heap.size, 0, none⟩)) true ty).run Try.prog wr = _ := fun ty => Lib.run_next_end_at wr w.heap.size s pos ty hit hp
      have : pos = s.size := by omega
      subst this
      go_wp2_with (at_builtin; refine wpList_append_own _ rfl _ _ 45 rfl (w.heap.size + 1) 9 i0 (.string ByteArray.empty) 1 16 Try.underlying45 hi hz0 hz1 hz2 rfl (by decide) _ _ _ rfl (hown.alloc _) ⟨wr.heap.size, 0, none⟩ 1 1 [.string s] rfl rfl ?d1 ?d2 ?d3 ?d4 ?d5 ?_)
      case d1 => exact cell_one_new _ _ _
      case d2 => intro u hu; simp at hu; subst hu; rfl
      case d3 => unfold maxLen; omega
      case d4 => omega
      case d5 => have := lt_of_block hit; simp; omega
      · intro v' w3 hown' hgrow3 hnil3
        have hbw3 : Below w.heap.size w w3 := Below.grown (hbw.alloc (by have := hbw.size; omega) _) hgrow3 (by have := hbw.size; simp; omega) (fun j hj => by have := (hown.lt _ hj).1; omega)
        have X : Hid (w3.ownsRow w.heap.size 9 1 v' ((sl s s.size).length + 1) ((sl s s.size).map (pv s) ++ [.string s])) := by
          obtain ⟨a, b⟩ := hown'
          refine ⟨a, ?_⟩
          rcases b with b | ⟨g, cap, cur, h1, h2, h3⟩
          · exact .inl b
          · exact .inr ⟨g, cap, cur, h1, by omega, h3⟩
        clear hown' hgrow3 hnil3
        go_wp2
        go_ret
        exact ⟨_, rfl, X.out, hbw3⟩

/-- ZZRepositoryPaths. -/
theorem zz_paths (s : ByteArray) (w : World) (hs : s.size ≤ 4096) :
    Calls Try.prog 21 #[.string s] w fun e w' => ∃ v, e = .returned v ∧ w'.ownsRow w.heap.size 9 1 v ((sl s s.size).length + 1) ((sl s s.size).map (pv s) ++ [.string s]) ∧ Below w.heap.size w w' := by
  go_enter Try.func21, Try.ntmps21
  go_wp2_with (go_at_call 26; refine (paths_any _ _ hs).mono ?_; rintro e w' ⟨v, rfl, hown, hbw⟩)
  go_ret
  exact ⟨_, rfl, hown, hbw⟩

end Go.Proofs.Qxb6000638a.Pth
