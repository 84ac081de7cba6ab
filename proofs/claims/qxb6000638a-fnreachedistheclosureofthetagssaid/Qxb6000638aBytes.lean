import Derived.Test.Qxb6000638aReachSmall
import Derived.Deep.QuietTactic
import Derived.BigQuiet
import Derived.Deep.LoopGhost
namespace Go.Proofs.Qxb6000638a.Rch
open Go.RowKit

/-- A slice of manifests that came in: what is read of it. -/
def MansIn (a : Option Addr) (T : List K) (w : World) : Prop :=
  ∀ j (_ : j < T.length), ∃ g off, a = some ⟨g, off, none⟩ ∧ g < w.heap.size ∧ w.cell? ⟨g, off + j * 2, none⟩ = some (.int .i64 T[j].1) ∧ w.cell? ⟨g, off + j * 2 + 1, none⟩ = some (.string T[j].2) ∧ T[j].2.size ≤ maxLen
/-- A slice of keeps that came in. -/
def KeepsIn (a : Option Addr) (Ks : List (K × ByteArray)) (w : World) : Prop :=
  ∀ j (_ : j < Ks.length), ∃ g off, a = some ⟨g, off, none⟩ ∧ g < w.heap.size ∧ w.cell? ⟨g, off + j * 3, none⟩ = some (.int .i64 Ks[j].1.1) ∧ w.cell? ⟨g, off + j * 3 + 1, none⟩ = some (.string Ks[j].1.2) ∧ w.cell? ⟨g, off + j * 3 + 2, none⟩ = some (.string Ks[j].2) ∧ Ks[j].1.2.size ≤ maxLen ∧ Ks[j].2.size ≤ maxLen

theorem MansIn.below {a : Option Addr} {T : List K} {w w' : World} (h : MansIn a T w) (hb : Below w.heap.size w w') : MansIn a T w' := fun j hj => by
  obtain ⟨g, off, h1, h2, h3, h4, h5⟩ := h j hj
  exact ⟨g, off, h1, Nat.lt_of_lt_of_le h2 hb.size, (hb.cell h2).trans h3, (hb.cell h2).trans h4, h5⟩
theorem KeepsIn.below {a : Option Addr} {Ks : List (K × ByteArray)} {w w' : World} (h : KeepsIn a Ks w) (hb : Below w.heap.size w w') : KeepsIn a Ks w' := fun j hj => by
  obtain ⟨g, off, h1, h2, h3, h4, h5, h6⟩ := h j hj
  exact ⟨g, off, h1, Nat.lt_of_lt_of_le h2 hb.size, (hb.cell h2).trans h3, (hb.cell h2).trans h4, (hb.cell h2).trans h5, h6⟩

/-- Some bool is answered. -/
def Ans (e : Ending) : Prop := ∃ b : Bool, e = .returned (.bool b)

/-- b1MoreBytes: a number within bounds. -/
theorem more_any (m : K) (r : Int) (f t : ByteArray) (w : World) (h1 : m.2.size ≤ maxLen) (h2 : f.size ≤ maxLen) (h3 : t.size ≤ maxLen) :
    Calls Try.prog 16 #[.agg #[.int .i64 m.1, .string m.2], .agg #[.int .i64 r, .string f, .string t]] w fun e w' => ∃ n : Int, e = .returned (.int .i64 n) ∧ 0 ≤ n ∧ n ≤ 10000000 ∧
      (w.alloc (.cells #[.int .i64 m.1, .string m.2] 37)).alloc (.cells #[.int .i64 r, .string f, .string t] 39) = w' := by
  unfold maxLen at h1 h2 h3
  by_cases c1 : (1048576 : Int) < (m.2.size : Int)
  · go_enter Try.func16, Try.ntmps16
    go_wp2
    go_ret
    exact ⟨1048577, rfl, by omega, by omega, rfl⟩
  · by_cases c2 : (1048576 : Int) < (f.size : Int)
    · go_enter Try.func16, Try.ntmps16
      go_wp2
      go_ret
      exact ⟨1048577, rfl, by omega, by omega, rfl⟩
    · by_cases c3 : (1048576 : Int) < (t.size : Int)
      · go_enter Try.func16, Try.ntmps16
        go_wp2
        go_ret
        exact ⟨1048577, rfl, by omega, by omega, rfl⟩
      · go_enter Try.func16, Try.ntmps16
        go_wp2
        go_ret
        exact ⟨_, rfl, by omega, by omega, rfl⟩

set_option maxRecDepth 100000 in
set_option maxHeartbeats 2000000 in
/-- b1ReachBytes: a number within bounds; nothing is written. -/
theorem bytes_any (T : List K) (Ks : List (K × ByteArray)) (ta ka : Option Addr) (tc kc : Nat) (w : World) (hT : T.length ≤ maxLen) (hK : Ks.length ≤ maxLen) (hTa : MansIn ta T w) (hKa : KeepsIn ka Ks w) :
    Calls Try.prog 9 #[.slice ta T.length tc, .slice ka Ks.length kc] w fun e w' => ∃ n : Int, e = .returned (.int .i64 n) ∧ 0 ≤ n ∧ n ≤ 1048577 ∧ ∃ nq, w.drewN nq = w' := by
  unfold maxLen at hT hK
  have HT := show Hid _ from hTa
  have HK := show Hid _ from hKa
  clear hTa hKa
  go_enter Try.func9, Try.ntmps9
  go_wp2_with fail
  go_loopg [5, 10] T.length (fun k n i wr => ∃ (j : Nat) (q : Int), j ≤ T.length ∧ k = T.length - j ∧ i = .int .i64 (j : Int) ∧ n = .int .i64 q ∧ 0 ≤ q ∧ q ≤ 1048576 ∧ wr = w)
  case atStart => exact ⟨0, 0, Nat.zero_le _, rfl, rfl, rfl, by omega, by omega, rfl⟩
  case round =>
    obtain ⟨j, q, hj, hgk, rfl, rfl, hq0, hq1, rfl⟩ := hrel
    by_cases hlt : j < T.length
    · obtain ⟨g, off, rfl, hg1, hg2, hg3, hg4⟩ := HT.out j hlt
      unfold maxLen at hg4
      have c37 : Try.prog.cellsOf 37 = 2 := by kernel_rfl
      have hlti : (j : Int) < (T.length : Int) := by omega
      have hlt0 : (0 : Int) ≤ (j : Int) := by omega
      go_wp2
      · go_ret
        exact ⟨1048577, rfl, by omega, by omega, 0, rfl⟩
      · go_ret
        exact ⟨1048577, rfl, by omega, by omega, 0, rfl⟩
      · go_roundg (T.length - (j + 1))
        case measure => omega
        case rel => exact ⟨j + 1, _, by omega, rfl, by go_num, rfl, by omega, by omega, rfl⟩
    · have hje : j = T.length := by omega
      subst hje
      go_wp2_with fail
      rename World => wO
      go_loopg [5, 34] Ks.length (fun k n i wr => ∃ (j : Nat) (q : Int) (m : Nat), j ≤ Ks.length ∧ k = Ks.length - j ∧ i = .int .i64 (j : Int) ∧ n = .int .i64 q ∧ 0 ≤ q ∧ q ≤ 1048576 ∧ wO.drewN m = wr)
      case atStart => exact ⟨0, q, 0, Nat.zero_le _, rfl, rfl, rfl, by omega, by omega, rfl⟩
      case round =>
        obtain ⟨j, q, m, hj, hgk, rfl, rfl, hq0, hq1, hwr⟩ := hrel
        by_cases hlt : j < Ks.length
        · obtain ⟨g, off, rfl, hg1, hg2, hg3, hg4, hg5, hg6⟩ := HK.out j hlt
          unfold maxLen at hg5 hg6
          have c39 : Try.prog.cellsOf 39 = 3 := by kernel_rfl
          have hlti : (j : Int) < (Ks.length : Int) := by omega
          have hlt0 : (0 : Int) ≤ (j : Int) := by omega
          have k3 : wr.cell? ⟨g, off + j * 3 + 1, none⟩ = some (.string Ks[j].1.2) := by rw [← hwr]; exact hg3
          have k4 : wr.cell? ⟨g, off + j * 3 + 2, none⟩ = some (.string Ks[j].2) := by rw [← hwr]; exact hg4
          have HW := show Hid _ from hwr
          clear hwr hg2 hg3 hg4
          by_cases b1 : (1048576 : Int) < (Ks[j].1.2.size : Int)
          · go_wp2
            go_ret
            exact ⟨1048577, rfl, by omega, by omega, m, HW.out⟩
          by_cases b2 : (1048576 : Int) < (Ks[j].2.size : Int)
          · go_wp2
            go_ret
            exact ⟨1048577, rfl, by omega, by omega, m, HW.out⟩
          go_wp2
          go_quiet (fail)
          go_wp2
          · go_ret
            exact ⟨1048577, rfl, by omega, by omega, m + nq, by rw [← HW.out, World.drewN_drewN]⟩
          · go_roundg (Ks.length - (j + 1))
            case measure => omega
            case rel => exact ⟨j + 1, _, m + nq, by omega, rfl, by go_num, rfl, by omega, by omega, by rw [← HW.out, World.drewN_drewN]⟩
        · go_wp2
          go_ret
          exact ⟨q, rfl, by omega, by omega, m, hwr⟩

set_option maxRecDepth 100000 in
set_option maxHeartbeats 2000000 in
/-- zzBytes_FnReachedIsTheClosureOfTheTags: some answer; nothing is written. -/
theorem zz8_any (T : List K) (Ks : List (K × ByteArray)) (ta ka : Option Addr) (tc kc : Nat) (w : World) (hT : T.length ≤ maxLen) (hK : Ks.length ≤ maxLen) (hTa : MansIn ta T w) (hKa : KeepsIn ka Ks w) :
    Calls Try.prog 8 #[.slice ta T.length tc, .slice ka Ks.length kc] w fun e w' => Ans e ∧ w = w' := by
  unfold maxLen at hT hK
  have HT := show Hid _ from hTa
  have HK := show Hid _ from hKa
  clear hTa hKa
  by_cases b0 : (1048576 : Int) < (T.length : Int)
  · go_enter Try.func8, Try.ntmps8
    go_wp2
    go_ret
    exact ⟨⟨false, rfl⟩, rfl⟩
  go_enter Try.func8, Try.ntmps8
  go_wp2_with fail
  go_loopg [5, 6] T.length (fun k n i wr => ∃ (j : Nat) (q : Int), j ≤ T.length ∧ k = T.length - j ∧ i = .int .i64 (j : Int) ∧ n = .int .i64 q ∧ 0 ≤ q ∧ q ≤ 1048576 ∧ w = wr)
  case atStart => exact ⟨0, _, Nat.zero_le _, rfl, rfl, rfl, by omega, by omega, rfl⟩
  case round =>
    obtain ⟨j, q, hj, hgk, rfl, rfl, hq0, hq1, rfl⟩ := hrel
    by_cases hlt : j < T.length
    · obtain ⟨g, off, rfl, hg1, hg2, hg3, hg4⟩ := HT.out j hlt
      unfold maxLen at hg4
      have c37 : Try.prog.cellsOf 37 = 2 := by kernel_rfl
      have hlti : (j : Int) < (T.length : Int) := by omega
      have hlt0 : (0 : Int) ≤ (j : Int) := by omega
      go_wp2
      · go_ret
        exact ⟨⟨false, rfl⟩, rfl⟩
      · go_ret
        exact ⟨⟨false, rfl⟩, rfl⟩
      · go_roundg (T.length - (j + 1))
        case measure => omega
        case rel => exact ⟨j + 1, _, by omega, rfl, by go_num, rfl, by omega, by omega, rfl⟩
    · by_cases b1 : (1048576 : Int) < (Ks.length : Int)
      · go_wp2
        go_ret
        exact ⟨⟨false, rfl⟩, rfl⟩
      by_cases b2 : (1048576 : Int) < q + (Ks.length : Int)
      · go_wp2
        go_ret
        exact ⟨⟨false, rfl⟩, rfl⟩
      go_wp2_with fail
      go_loopg [5, 7] Ks.length (fun k n i wr => ∃ (j : Nat) (q : Int), j ≤ Ks.length ∧ k = Ks.length - j ∧ i = .int .i64 (j : Int) ∧ n = .int .i64 q ∧ 0 ≤ q ∧ q ≤ 1048576 ∧ w = wr)
      case atStart => exact ⟨0, _, Nat.zero_le _, rfl, rfl, rfl, by omega, by omega, rfl⟩
      case round =>
        obtain ⟨j, q, hj, hgk, rfl, rfl, hq0, hq1, rfl⟩ := hrel
        by_cases hlt : j < Ks.length
        · obtain ⟨g, off, rfl, hg1, hg2, hg3, hg4, hg5, hg6⟩ := HK.out j hlt
          unfold maxLen at hg5 hg6
          have c39 : Try.prog.cellsOf 39 = 3 := by kernel_rfl
          have hlti : (j : Int) < (Ks.length : Int) := by omega
          have hlt0 : (0 : Int) ≤ (j : Int) := by omega
          go_wp2
          all_goals first
            | (go_ret; exact ⟨⟨false, rfl⟩, rfl⟩)
            | (go_roundg (Ks.length - (j + 1))
               case measure => omega
               case rel => exact ⟨j + 1, _, by omega, rfl, by go_num, rfl, by omega, by omega, rfl⟩)
        · go_wp2
          go_ret
          exact ⟨⟨true, rfl⟩, rfl⟩

set_option maxRecDepth 100000 in
set_option maxHeartbeats 2000000 in
/-- zzBytes_FnReachedGrowsWithMoreTagsAndKeeps: some answer; the two structs are boxed. -/
theorem zz15_any (T : List K) (Ks : List (K × ByteArray)) (ta ka : Option Addr) (tc kc : Nat) (w : World) (hT : T.length ≤ maxLen) (hK : Ks.length ≤ maxLen) (hTa : MansIn ta T w) (hKa : KeepsIn ka Ks w) (m : K) (r : Int) (f t : ByteArray) (s1 : m.2.size ≤ maxLen) (s2 : f.size ≤ maxLen) (s3 : t.size ≤ maxLen) :
    Calls Try.prog 15 #[.slice ta T.length tc, .slice ka Ks.length kc, .agg #[.int .i64 m.1, .string m.2], .agg #[.int .i64 r, .string f, .string t]] w fun e w' => Ans e ∧
      (w.alloc (.cells #[.int .i64 m.1, .string m.2] 37)).alloc (.cells #[.int .i64 r, .string f, .string t] 39) = w' := by
  unfold maxLen at hT hK s1 s2 s3
  have HT := show Hid _ from hTa
  have HK := show Hid _ from hKa
  clear hTa hKa
  by_cases b0 : (1048576 : Int) < (T.length : Int)
  · go_enter Try.func15, Try.ntmps15
    go_wp2
    go_ret
    exact ⟨⟨false, rfl⟩, rfl⟩
  go_enter Try.func15, Try.ntmps15
  go_wp2_with fail
  go_loopg [9, 10] T.length (fun k n i wr => ∃ (j : Nat) (q : Int), j ≤ T.length ∧ k = T.length - j ∧ i = .int .i64 (j : Int) ∧ n = .int .i64 q ∧ 0 ≤ q ∧ q ≤ 1048576 ∧ (w.alloc (.cells #[.int .i64 m.1, .string m.2] 37)).alloc (.cells #[.int .i64 r, .string f, .string t] 39) = wr)
  case atStart => exact ⟨0, _, Nat.zero_le _, rfl, rfl, rfl, by omega, by omega, rfl⟩
  case round =>
    obtain ⟨j, q, hj, hgk, rfl, rfl, hq0, hq1, rfl⟩ := hrel
    by_cases hlt : j < T.length
    · obtain ⟨g, off, rfl, hg1, hg2, hg3, hg4⟩ := HT.out j hlt
      have e1 : g ≠ w.heap.size := by omega
      have e2 : g ≠ w.heap.size + 1 := by omega
      unfold maxLen at hg4
      have c37 : Try.prog.cellsOf 37 = 2 := by kernel_rfl
      have hlti : (j : Int) < (T.length : Int) := by omega
      have hlt0 : (0 : Int) ≤ (j : Int) := by omega
      go_wp2
      · go_ret
        exact ⟨⟨false, rfl⟩, rfl⟩
      · go_ret
        exact ⟨⟨false, rfl⟩, rfl⟩
      · go_roundg (T.length - (j + 1))
        case measure => omega
        case rel => exact ⟨j + 1, _, by omega, rfl, by go_num, rfl, by omega, by omega, rfl⟩
    · by_cases b1 : (1048576 : Int) < (Ks.length : Int)
      · go_wp2
        go_ret
        exact ⟨⟨false, rfl⟩, rfl⟩
      by_cases b2 : (1048576 : Int) < q + (Ks.length : Int)
      · go_wp2
        go_ret
        exact ⟨⟨false, rfl⟩, rfl⟩
      go_wp2_with fail
      go_loopg [9, 11] Ks.length (fun k n i wr => ∃ (j : Nat) (q : Int), j ≤ Ks.length ∧ k = Ks.length - j ∧ i = .int .i64 (j : Int) ∧ n = .int .i64 q ∧ 0 ≤ q ∧ q ≤ 1048576 ∧ (w.alloc (.cells #[.int .i64 m.1, .string m.2] 37)).alloc (.cells #[.int .i64 r, .string f, .string t] 39) = wr)
      case atStart => exact ⟨0, _, Nat.zero_le _, rfl, rfl, rfl, by omega, by omega, rfl⟩
      case round =>
        obtain ⟨j, q, hj, hgk, rfl, rfl, hq0, hq1, rfl⟩ := hrel
        by_cases hlt : j < Ks.length
        · obtain ⟨g, off, rfl, hg1, hg2, hg3, hg4, hg5, hg6⟩ := HK.out j hlt
          have e1 : g ≠ w.heap.size := by omega
          have e2 : g ≠ w.heap.size + 1 := by omega
          unfold maxLen at hg5 hg6
          have c39 : Try.prog.cellsOf 39 = 3 := by kernel_rfl
          have hlti : (j : Int) < (Ks.length : Int) := by omega
          have hlt0 : (0 : Int) ≤ (j : Int) := by omega
          go_wp2
          all_goals first
            | (go_ret; exact ⟨⟨false, rfl⟩, rfl⟩)
            | (go_roundg (Ks.length - (j + 1))
               case measure => omega
               case rel => exact ⟨j + 1, _, by omega, rfl, by go_num, rfl, by omega, by omega, rfl⟩)
        · go_wp2
          all_goals first
            | (go_ret; exact ⟨⟨false, rfl⟩, rfl⟩)
            | (go_ret; exact ⟨⟨true, rfl⟩, rfl⟩)

end Go.Proofs.Qxb6000638a.Rch
