import Derived.Test.Qxb6000638aCands
namespace Go.Proofs.Qxb6000638a.Rch
open Go.RowKit
attribute [local go_sem ↓] Go.wp_at_zero Go.wp_at_succ

/-- The two boxes: the extra tag and the extra keep. -/
structure Boxes (b : Nat) (m : K) (r : Int) (f t : ByteArray) (w : World) : Prop where
  x : w.heap[b]? = some (.cells #[.int .i64 m.1, .string m.2] 37 (0, 0))
  y : w.heap[b + 1]? = some (.cells #[.int .i64 r, .string f, .string t] 39 (0, 0))

theorem Boxes.made (w : World) (m : K) (r : Int) (f t : ByteArray) : Boxes w.heap.size m r f t ((w.alloc (.cells #[.int .i64 m.1, .string m.2] 37)).alloc (.cells #[.int .i64 r, .string f, .string t] 39)) :=
  ⟨(Below.heap_alloc _ _ _ (by simp)).trans (heap_alloc_new w _), by have := heap_alloc_new (w.alloc (.cells #[.int .i64 m.1, .string m.2] 37)) (.cells #[.int .i64 r, .string f, .string t] 39); rw [World.size_alloc] at this; exact this⟩
theorem Boxes.cells {b : Nat} {m : K} {r : Int} {f t : ByteArray} {w : World} (h : Boxes b m r f t w) : w.cell? ⟨b, 0, none⟩ = some (.int .i64 m.1) ∧ w.cell? ⟨b, 1, none⟩ = some (.string m.2) ∧
    w.cell? ⟨b + 1, 0, none⟩ = some (.int .i64 r) ∧ w.cell? ⟨b + 1, 1, none⟩ = some (.string f) ∧ w.cell? ⟨b + 1, 2, none⟩ = some (.string t) := by
  refine ⟨?_, ?_, ?_, ?_, ?_⟩
  · rw [cell_of_row w b 0 _ 37 (0, 0) h.x]; rfl
  · rw [cell_of_row w b 1 _ 37 (0, 0) h.x]; rfl
  · rw [cell_of_row w (b + 1) 0 _ 39 (0, 0) h.y]; rfl
  · rw [cell_of_row w (b + 1) 1 _ 39 (0, 0) h.y]; rfl
  · rw [cell_of_row w (b + 1) 2 _ 39 (0, 0) h.y]; rfl
theorem Boxes.below {b : Nat} {m : K} {r : Int} {f t : ByteArray} {w w' : World} (h : Boxes b m r f t w) (hb : Below w.heap.size w w') : Boxes b m r f t w' :=
  ⟨(hb.block b (lt_of_block h.x)).trans h.x, (hb.block (b + 1) (lt_of_block h.y)).trans h.y⟩

theorem run_len_st {w : World} {b : Nat} {R : List K} (hb : w.heap[b]? = some (mobj (st R))) : (Builtin.len_ #[28] 3 #[.map (some b)]).run Try.prog w = .ok (.int .i64 R.length) w := by
  have hg : (getObj b).run Try.prog w = .ok (mobj (st R)) w := MapKept.run_getObj_map hb
  unfold Builtin.len_
  simp [run_underlying Try.underlying28, hg, mobj, ents_length, st, goInt]

theorem b1key' (k : K) (w : World) : Calls Try.prog 14 #[.agg #[.int .i64 k.1, .string k.2]] w fun e w' => e = .returned (.agg #[.int .i64 k.1, .string k.2]) ∧ Below w.heap.size w w' := b1key_any k w
theorem zzkey' (r : Int) (d : ByteArray) (w : World) : Calls Try.prog 17 #[.int .i64 r, .string d] w fun e w' => e = .returned (.agg #[.int .i64 r, .string d]) ∧ Below w.heap.size w w' := by
  refine (zzkey_any r d w).mono ?_
  rintro e w' ⟨he, hw⟩
  exact ⟨he, by rw [← hw]; exact (Below.refl _ _).alloc (Nat.le_refl _) _⟩
theorem look_in' {w : World} {b : Nat} {R : List K} (hb : w.heap[b]? = some (mobj (st R))) (r : Int) (d : ByteArray) (h : (r, d) ∈ R) :
    (Instr.lookup 28 (.map (some b)) (.agg #[.int .i64 r, .string d]) false).run Try.prog w = .ok (.bool true) w := look_in hb (r, d) h
theorem look_out' {w : World} {b : Nat} {R : List K} (hb : w.heap[b]? = some (mobj (st R))) (r : Int) (d : ByteArray) (h : (r, d) ∉ R) :
    (Instr.lookup 28 (.map (some b)) (.agg #[.int .i64 r, .string d]) false).run Try.prog w = .ok (.bool false) w := look_out hb (r, d) h

theorem flat_at' (T : List K) (x : K) (j : Nat) (h : j < T.length) : (flat (T ++ [x]))[j * 2]? = some (.int .i64 T[j].1) ∧ (flat (T ++ [x]))[j * 2 + 1]? = some (.string T[j].2) := by
  have := flat_at (T ++ [x]) j (by simp; omega)
  rwa [List.getElem_append_left h] at this
theorem flat_last (T : List K) (x : K) : (flat (T ++ [x]))[T.length * 2]? = some (.int .i64 x.1) ∧ (flat (T ++ [x]))[T.length * 2 + 1]? = some (.string x.2) := by
  have := flat_at (T ++ [x]) T.length (by simp)
  simpa using this
theorem flat3_at' (T : List (K × ByteArray)) (x : K × ByteArray) (j : Nat) (h : j < T.length) : (flat3 (T ++ [x]))[j * 3]? = some (.int .i64 T[j].1.1) ∧ (flat3 (T ++ [x]))[j * 3 + 1]? = some (.string T[j].1.2) ∧ (flat3 (T ++ [x]))[j * 3 + 2]? = some (.string T[j].2) := by
  have := flat3_at (T ++ [x]) j (by simp; omega)
  rwa [List.getElem_append_left h] at this
theorem flat3_last (T : List (K × ByteArray)) (x : K × ByteArray) : (flat3 (T ++ [x]))[T.length * 3]? = some (.int .i64 x.1.1) ∧ (flat3 (T ++ [x]))[T.length * 3 + 1]? = some (.string x.1.2) ∧ (flat3 (T ++ [x]))[T.length * 3 + 2]? = some (.string x.2) := by
  have := flat3_at (T ++ [x]) T.length (by simp)
  simpa using this

set_option maxRecDepth 100000 in
set_option maxHeartbeats 4000000 in
theorem grows_walk (T : List K) (Ks : List (K × ByteArray)) (ta ka : Option Addr) (tc kc : Nat) (m : K) (r : Int) (f t : ByteArray) (w : World) (hT : T.length ≤ maxLen) (hK : Ks.length ≤ maxLen)
    (hTn : ta = none → T = []) (hKn : ka = none → Ks = []) (hTa : MansIn ta T w) (hKa : KeepsIn ka Ks w) (s1 : m.2.size ≤ maxLen) (s2 : f.size ≤ maxLen) (s3 : t.size ≤ maxLen) :
    Calls Try.prog 4 #[.slice ta T.length tc, .slice ka Ks.length kc, .agg #[.int .i64 m.1, .string m.2], .agg #[.int .i64 r, .string f, .string t]] w fun e w' => e = .returned (.bool true) ∧ Below w.heap.size w w' := by
  have HT : Hid (MansIn ta T w) := hTa
  have HK : Hid (KeepsIn ka Ks w) := hKa
  have HTn := show Hid _ from hTn
  have HKn := show Hid _ from hKn
  clear hTa hKa hTn hKn
  go_enter Try.func4, Try.ntmps4
  go_wp2_with fail
  obtain ⟨W0, hW0⟩ : ∃ W0, W0 = (w.alloc (.cells #[.int .i64 m.1, .string m.2] 37)).alloc (.cells #[.int .i64 r, .string f, .string t] 39) := ⟨_, rfl⟩
  rw [← hW0]
  have hB0 : Below w.heap.size w W0 := by rw [hW0]; exact ((Below.refl _ _).alloc (Nat.le_refl _) _).alloc (by simp) _
  have hX0 : Boxes w.heap.size m r f t W0 := by rw [hW0]; exact Boxes.made w m r f t
  clear hW0
  refine (zz15_any T Ks ta ka tc kc W0 hT hK (HT.out.below hB0) (HK.out.below hB0) m r f t s1 s2 s3).mono ?_
  rintro e w1 ⟨⟨b, rfl⟩, hw1⟩
  have hB1 : Below W0.heap.size W0 w1 := by rw [← hw1]; exact ((Below.refl _ _).alloc (Nat.le_refl _) _).alloc (by simp) _
  clear hw1
  have hX1 := hX0.below hB1
  have hb1 : Below w.heap.size w w1 := hB0.trans (hB1.mono hB0.size)
  clear hX0 hB0 hB1
  cases b with
  | false =>
    go_wp2
    go_ret
    exact ⟨rfl, hb1⟩
  | true =>
    obtain ⟨q0, q1, q2, q3, q4⟩ := hX1.cells
    have hm1 := HT.out.below hb1
    have hk1 := HK.out.below hb1
    go_wp2_with fail
    go_region_held3 (fun w' => w'.cell? ⟨w.heap.size, 0, none⟩ = some (.int .i64 m.1) ∧ w'.cell? ⟨w.heap.size, 1, none⟩ = some (.string m.2) ∧ w'.cell? ⟨w.heap.size + 1, 0, none⟩ = some (.int .i64 r) ∧
        w'.cell? ⟨w.heap.size + 1, 1, none⟩ = some (.string f) ∧ w'.cell? ⟨w.heap.size + 1, 2, none⟩ = some (.string t))
      (go_keep)
      (first
        | (go_at_call 9; refine (bytes_any T Ks ta ka tc kc _ hT hK ?_ ?_).mono ?_; exact hm1; exact hk1; rintro e w2 ⟨n1, rfl, hn1, hn2, nq, rfl⟩)
        | (go_at_call 16; refine (more_any m r f t _ s1 s2 s3).mono ?_; rintro e w3 ⟨n2, rfl, hn3, hn4, rfl⟩))
    obtain ⟨W4, hW4⟩ : ∃ W4, W4 = ((w1.drewN (1 + nq)).alloc (.cells #[.int .i64 m.1, .string m.2] 37)).alloc (.cells #[.int .i64 r, .string f, .string t] 39) := ⟨_, rfl⟩
    have hB4 : Below w1.heap.size w1 W4 := by rw [hW4]; exact ((below_drewN (Below.refl _ _) _).alloc (Nat.le_refl _) _).alloc (by simp) _
    rw [← hW4]
    clear hW4 q0 q1 q2 q3 q4
    have hX4 := hX1.below hB4
    have hb4 : Below w.heap.size w W4 := hb1.trans (hB4.mono hb1.size)
    have hm4 := hm1.below hB4
    have hk4 := hk1.below hB4
    clear hX1 hb1 hm1 hk1 hB4
    have hwr : IntKind.i64.wrap (n1 + n2) = n1 + n2 := by rw [IntKind.wrap_i64]; omega
    by_cases hbig : (1048576 : Int) < n1 + n2
    · go_wp2
      go_ret
      exact ⟨rfl, hb4⟩
    unfold maxLen at hT hK
    by_cases hl1 : (256 : Int) < (T.length : Int)
    · go_wp2
      go_ret
      exact ⟨rfl, hb4⟩
    by_cases hl2 : (256 : Int) < (Ks.length : Int)
    · go_wp2
      go_ret
      exact ⟨rfl, hb4⟩
    clear hn1 hn2 hn3 hn4
    go_wp2_with fail
    refine (clone_mans T ta tc W4 (by omega) HTn.out hm4).mono ?_
    rintro e w5 ⟨a5, c5, rfl, hma5, hB5⟩
    have hX5 := hX4.below hB5
    have hb5 : Below w.heap.size w w5 := hb4.trans (hB5.mono hb4.size)
    have hk5 := hk4.below hB5
    clear hX4 hb4 hk4 hm4 hB5
    go_wp2_with fail
    refine (clone_keeps Ks ka kc w5 (by omega) HKn.out hk5).mono ?_
    rintro e w6 ⟨a6, c6, rfl, hka6, hB6⟩
    have hX6 := hX5.below hB6
    have hb6 : Below w.heap.size w w6 := hb5.trans (hB6.mono hb5.size)
    have hma6 := hma5.below hB6
    clear hX5 hb5 hk5 hma5 hB6
    have mk1 := run_mk Try.underlying22 info37 (T.length + 1) (by omega) (by omega)
    rw [show ((T.length + 1 : Nat) : Int) = (T.length : Int) + 1 by omega] at mk1
    go_wp2_with fail
    clear mk1
    go_loopg [50] T.length (fun k i wr => ∃ j, j ≤ T.length ∧ k = T.length - j ∧ i = .int .i64 (j : Int) ∧ RowTo w6.heap.size 37 (flat (T ++ [m])) (j * 2) wr ∧ Below w6.heap.size w6 wr)
    case atStart =>
      refine ⟨0, Nat.zero_le _, rfl, rfl, ?_, (Below.refl _ _).alloc (Nat.le_refl _) _⟩
      have := RowTo.made w6 37 (.agg #[.int .i64 0, .string ByteArray.empty]) (flat (T ++ [m]))
      rw [flat_length] at this
      simpa using this
    case round =>
      obtain ⟨j, hj, hgk, rfl, hr, hbw⟩ := hrel
      by_cases hlt : j < T.length
      · obtain ⟨g, rfl, hg1, hg2, hg3⟩ := hma6 j hlt
        have x1 := (hbw.cell (p := ⟨g, j * 2, none⟩) hg1).trans hg2
        have x2 := (hbw.cell (p := ⟨g, j * 2 + 1, none⟩) hg1).trans hg3
        obtain ⟨l1, e1⟩ := get_of? (flat_at' T m j hlt).1
        obtain ⟨l2, e2⟩ := get_of? (flat_at' T m j hlt).2
        obtain ⟨o1, y1⟩ := hr.has (j * 2) l1
        obtain ⟨o2, y2⟩ := hr.has (j * 2 + 1) l2
        have z1 := hr.free (j * 2)
        have z2 := hr.free (j * 2 + 1)
        have c37 : Try.prog.cellsOf 37 = 2 := by kernel_rfl
        have hlti : (j : Int) < (T.length : Int) := by omega
        have hlti1 : (j : Int) < (T.length : Int) + 1 := by omega
        have hlt1 : j < T.length + 1 := by omega
        have hlt0 : (0 : Int) ≤ (j : Int) := by omega
        have HX : Hid (RowTo w6.heap.size 37 (flat (T ++ [m])) ((j + 1) * 2) ((wr.setCell ⟨w6.heap.size, j * 2, none⟩ (.int .i64 T[j].1)).setCell ⟨w6.heap.size, j * 2 + 1, none⟩ (.string T[j].2))) := by
          have := (hr.put l1 e1).put l2 e2
          rw [show (j + 1) * 2 = j * 2 + 1 + 1 by omega]; exact this
        have HB : Hid (Below w6.heap.size w6 ((wr.setCell ⟨w6.heap.size, j * 2, none⟩ (.int .i64 T[j].1)).setCell ⟨w6.heap.size, j * 2 + 1, none⟩ (.string T[j].2))) := (hbw.setCell (by simp) _).setCell (by simp) _
        clear hr e1 e2
        go_wp2
        go_roundg (T.length - (j + 1))
        case measure => omega
        case rel => exact ⟨j + 1, by omega, rfl, by go_num, HX.out, HB.out⟩
      · have hje : j = T.length := by omega
        subst hje
        obtain ⟨l1, e1⟩ := get_of? (flat_last T m).1
        obtain ⟨l2, e2⟩ := get_of? (flat_last T m).2
        obtain ⟨o1, y1⟩ := hr.has (T.length * 2) l1
        obtain ⟨o2, y2⟩ := hr.has (T.length * 2 + 1) l2
        have z1 := hr.free (T.length * 2)
        have z2 := hr.free (T.length * 2 + 1)
        have c37 : Try.prog.cellsOf 37 = 2 := by kernel_rfl
        obtain ⟨q0, q1, q2, q3, q4⟩ := (hX6.below hbw).cells
        have HX : Hid (RowTo w6.heap.size 37 (flat (T ++ [m])) ((T ++ [m]).length * 2) ((wr.setCell ⟨w6.heap.size, T.length * 2, none⟩ (.int .i64 m.1)).setCell ⟨w6.heap.size, T.length * 2 + 1, none⟩ (.string m.2))) := by
          have := (hr.put l1 e1).put l2 e2
          rw [show (T ++ [m]).length * 2 = T.length * 2 + 1 + 1 by simp; omega]; exact this
        have HB : Hid (Below w6.heap.size w6 ((wr.setCell ⟨w6.heap.size, T.length * 2, none⟩ (.int .i64 m.1)).setCell ⟨w6.heap.size, T.length * 2 + 1, none⟩ (.string m.2))) := (hbw.setCell (by simp) _).setCell (by simp) _
        have hlt1 : T.length < T.length + 1 := by omega
        have hlti1 : (T.length : Int) < (T.length : Int) + 1 := by omega
        have mk2 := run_mk Try.underlying23 info39 (Ks.length + 1) (by omega) (by omega)
        rw [show ((Ks.length + 1 : Nat) : Int) = (Ks.length : Int) + 1 by omega] at mk2
        have hwl := hr.lt
        clear hr e1 e2
        go_wp2_with fail
        clear mk2 y1 y2 z1 z2 q0 q1 q2 q3 q4 hlt1 hlti1
        have hs7 : ((wr.setCell ⟨w6.heap.size, T.length * 2, none⟩ (.int .i64 m.1)).setCell ⟨w6.heap.size, T.length * 2 + 1, none⟩ (.string m.2)).heap.size = wr.heap.size := by simp [World.setCell]
        generalize (wr.setCell ⟨w6.heap.size, T.length * 2, none⟩ (.int .i64 m.1)).setCell ⟨w6.heap.size, T.length * 2 + 1, none⟩ (.string m.2) = w7 at *
        rw [← hs7]
        have hwl7 : w6.heap.size < w7.heap.size := by omega
        clear hs7 hwl hbw
        have hX7 := hX6.below HB.out
        have hb7 : Below w.heap.size w w7 := hb6.trans (HB.out.mono hb6.size)
        have hma7 := hma6.below HB.out
        have hka7 := hka6.below HB.out
        have hT2 := HX.out.mans
        clear hX6 hb6 hma6 hka6 HB
        go_loopg [72] Ks.length (fun k i wq => ∃ j, j ≤ Ks.length ∧ k = Ks.length - j ∧ i = .int .i64 (j : Int) ∧ RowTo w7.heap.size 39 (flat3 (Ks ++ [((r, f), t)])) (j * 3) wq ∧ Below w7.heap.size w7 wq)
        case atStart =>
          refine ⟨0, Nat.zero_le _, rfl, rfl, ?_, (Below.refl _ _).alloc (Nat.le_refl _) _⟩
          have := RowTo.made w7 39 (.agg #[.int .i64 0, .string ByteArray.empty, .string ByteArray.empty]) (flat3 (Ks ++ [((r, f), t)]))
          rw [flat3_length] at this
          simpa using this
        case round =>
          rename World => wq
          obtain ⟨j, hj, hgk, rfl, hr, hbw⟩ := hrel
          by_cases hlt : j < Ks.length
          · obtain ⟨g, rfl, hg1, hg2, hg3, hg4⟩ := hka7 j hlt
            have x1 := (hbw.cell (p := ⟨g, j * 3, none⟩) hg1).trans hg2
            have x2 := (hbw.cell (p := ⟨g, j * 3 + 1, none⟩) hg1).trans hg3
            have x3 := (hbw.cell (p := ⟨g, j * 3 + 2, none⟩) hg1).trans hg4
            obtain ⟨l1, e1⟩ := get_of? (flat3_at' Ks ((r, f), t) j hlt).1
            obtain ⟨l2, e2⟩ := get_of? (flat3_at' Ks ((r, f), t) j hlt).2.1
            obtain ⟨l3, e3⟩ := get_of? (flat3_at' Ks ((r, f), t) j hlt).2.2
            obtain ⟨o1, y1⟩ := hr.has (j * 3) l1
            obtain ⟨o2, y2⟩ := hr.has (j * 3 + 1) l2
            obtain ⟨o3, y3⟩ := hr.has (j * 3 + 2) l3
            have z1 := hr.free (j * 3)
            have z2 := hr.free (j * 3 + 1)
            have z3 := hr.free (j * 3 + 2)
            have c39 : Try.prog.cellsOf 39 = 3 := by kernel_rfl
            have hlti : (j : Int) < (Ks.length : Int) := by omega
            have hlti1 : (j : Int) < (Ks.length : Int) + 1 := by omega
            have hlt1 : j < Ks.length + 1 := by omega
            have hlt0 : (0 : Int) ≤ (j : Int) := by omega
            have HX : Hid (RowTo w7.heap.size 39 (flat3 (Ks ++ [((r, f), t)])) ((j + 1) * 3) (((wq.setCell ⟨w7.heap.size, j * 3, none⟩ (.int .i64 Ks[j].1.1)).setCell ⟨w7.heap.size, j * 3 + 1, none⟩ (.string Ks[j].1.2)).setCell ⟨w7.heap.size, j * 3 + 2, none⟩ (.string Ks[j].2))) := by
              have := ((hr.put l1 e1).put l2 e2).put l3 e3
              rw [show (j + 1) * 3 = j * 3 + 1 + 1 + 1 by omega]; exact this
            have HB : Hid (Below w7.heap.size w7 (((wq.setCell ⟨w7.heap.size, j * 3, none⟩ (.int .i64 Ks[j].1.1)).setCell ⟨w7.heap.size, j * 3 + 1, none⟩ (.string Ks[j].1.2)).setCell ⟨w7.heap.size, j * 3 + 2, none⟩ (.string Ks[j].2))) := ((hbw.setCell (by simp) _).setCell (by simp) _).setCell (by simp) _
            clear hr e1 e2 e3
            go_wp2
            go_roundg (Ks.length - (j + 1))
            case measure => omega
            case rel => exact ⟨j + 1, by omega, rfl, by go_num, HX.out, HB.out⟩
          · have hje : j = Ks.length := by omega
            subst hje
            obtain ⟨l1, e1⟩ := get_of? (flat3_last Ks ((r, f), t)).1
            obtain ⟨l2, e2⟩ := get_of? (flat3_last Ks ((r, f), t)).2.1
            obtain ⟨l3, e3⟩ := get_of? (flat3_last Ks ((r, f), t)).2.2
            obtain ⟨o1, y1⟩ := hr.has (Ks.length * 3) l1
            obtain ⟨o2, y2⟩ := hr.has (Ks.length * 3 + 1) l2
            obtain ⟨o3, y3⟩ := hr.has (Ks.length * 3 + 2) l3
            have z1 := hr.free (Ks.length * 3)
            have z2 := hr.free (Ks.length * 3 + 1)
            have z3 := hr.free (Ks.length * 3 + 2)
            have c39 : Try.prog.cellsOf 39 = 3 := by kernel_rfl
            obtain ⟨q0, q1, q2, q3, q4⟩ := (hX7.below hbw).cells
            have HX2 : Hid (RowTo w7.heap.size 39 (flat3 (Ks ++ [((r, f), t)])) ((Ks ++ [((r, f), t)]).length * 3) (((wq.setCell ⟨w7.heap.size, Ks.length * 3, none⟩ (.int .i64 r)).setCell ⟨w7.heap.size, Ks.length * 3 + 1, none⟩ (.string f)).setCell ⟨w7.heap.size, Ks.length * 3 + 2, none⟩ (.string t))) := by
              have := ((hr.put l1 e1).put l2 e2).put l3 e3
              rw [show (Ks ++ [((r, f), t)]).length * 3 = Ks.length * 3 + 1 + 1 + 1 by simp; omega]; exact this
            have HB : Hid (Below w7.heap.size w7 (((wq.setCell ⟨w7.heap.size, Ks.length * 3, none⟩ (.int .i64 r)).setCell ⟨w7.heap.size, Ks.length * 3 + 1, none⟩ (.string f)).setCell ⟨w7.heap.size, Ks.length * 3 + 2, none⟩ (.string t))) := ((hbw.setCell (by simp) _).setCell (by simp) _).setCell (by simp) _
            have hlt1 : Ks.length < Ks.length + 1 := by omega
            have hlti1 : (Ks.length : Int) < (Ks.length : Int) + 1 := by omega
            clear hr e1 e2 e3
            go_wp2_with fail
            clear y1 y2 y3 z1 z2 z3 q0 q1 q2 q3 q4 hlt1 hlti1 hbw
            generalize ((wq.setCell ⟨w7.heap.size, Ks.length * 3, none⟩ (.int .i64 r)).setCell ⟨w7.heap.size, Ks.length * 3 + 1, none⟩ (.string f)).setCell ⟨w7.heap.size, Ks.length * 3 + 2, none⟩ (.string t) = w8 at *
            have hX8 := hX7.below HB.out
            have hb8 : Below w.heap.size w w8 := hb7.trans (HB.out.mono hb7.size)
            have hma8 := hma7.below HB.out
            have hka8 := hka7.below HB.out
            have hT8 := hT2.below HB.out
            have hK8 := HX2.out.keeps
            clear hX7 hb7 hma7 hka7 hT2 HB HX HX2
            generalize w7.heap.size = B7 at *
            generalize w6.heap.size = B6 at *
            refine (call_any T Ks a5 a6 c5 c6 w8 (by omega) (by omega) hma8 hka8).mono ?_
            rintro e w9 ⟨b9, R1, rfl, hg9, hR1, hC1, hB9⟩
            have hX9 := hX8.below hB9
            have hb9 : Below w.heap.size w w9 := hb8.trans (hB9.mono hb8.size)
            have hT9 := hT8.below hB9
            have hK9 := hK8.below hB9
            clear hX8 hb8 hma8 hka8 hT8 hK8 hB9
            go_wp2_with fail
            have C2 := call_any (T ++ [m]) (Ks ++ [((r, f), t)]) (some ⟨B6, 0, none⟩) (some ⟨B7, 0, none⟩) (T.length + 1) (Ks.length + 1) w9 (by simp; omega) (by simp; omega) hT9 hK9
            simp only [List.length_append, List.length_singleton] at C2
            refine Calls.mono C2 ?_
            clear C2
            rintro e wA ⟨bA, R2, rfl, hgA, hR2, hC2, hBA⟩
            have hXA := hX9.below hBA
            have hbA : Below w.heap.size w wA := hb9.trans (hBA.mono hb9.size)
            have hTA := hT9.below hBA
            have hKA := hK9.below hBA
            have hR1A : wA.heap[b9]? = some (mobj (st R1)) := (hBA.block b9 (lt_of_block hR1)).trans hR1
            clear hX9 hb9 hT9 hK9 hR1 hBA
            have hsub := hC1.sub hC2 (fun x hx => by simp [hx]) (fun x d hd => by simp only [kept, List.filter_append, List.map_append, List.mem_append]; exact .inl hd)
            have hlen := hC1.len hC2 (fun x hx => by simp [hx]) (fun x d hd => by simp only [kept, List.filter_append, List.map_append, List.mem_append]; exact .inl hd)
            have hmR : m ∈ R2 := hC2.tags m (by simp)
            have hkR : (r, f) ∈ R2 → (r, t) ∈ R2 := fun h => hC2.closed (r, f) h t (by simp [kept])
            have G1 := run_len_st hR1A
            have G2 := run_len_st hR2
            obtain ⟨q0, q1, q2, q3, q4⟩ := hXA.cells
            have hlen' : ¬ (R2.length : Int) < (R1.length : Int) := by omega
            go_wp2_with fail
            clear G1 G2 q0 q1 q2 q3 q4
            refine (b1key' m wA).mono ?_
            rintro e wB ⟨rfl, hBB⟩
            have hXB := hXA.below hBB
            have hbB : Below w.heap.size w wB := hbA.trans (hBB.mono hbA.size)
            have hTB := hTA.below hBB
            have hKB := hKA.below hBB
            have hR1B : wB.heap[b9]? = some (mobj (st R1)) := (hBB.block b9 (lt_of_block hR1A)).trans hR1A
            have hR2B : wB.heap[bA]? = some (mobj (st R2)) := (hBB.block bA (lt_of_block hR2)).trans hR2
            clear hXA hbA hTA hKA hR1A hR2 hBB
            have G3 := look_in hR2B m hmR
            obtain ⟨q0, q1, q2, q3, q4⟩ := hXB.cells
            go_wp2_with fail
            clear G3 q0 q1 q2 q3 q4
            refine (zzkey' r f wB).mono ?_
            rintro e wC ⟨rfl, hBC⟩
            have hXC := hXB.below hBC
            have hbC : Below w.heap.size w wC := hbB.trans (hBC.mono hbB.size)
            have hTC := hTB.below hBC
            have hKC := hKB.below hBC
            have hR1C : wC.heap[b9]? = some (mobj (st R1)) := (hBC.block b9 (lt_of_block hR1B)).trans hR1B
            have hR2C : wC.heap[bA]? = some (mobj (st R2)) := (hBC.block bA (lt_of_block hR2B)).trans hR2B
            clear hXB hbB hTB hKB hR1B hR2B hBC
            obtain ⟨q0, q1, q2, q3, q4⟩ := hXC.cells
            have C3 := cands_any (T ++ [m]) (Ks ++ [((r, f), t)]) (some ⟨B6, 0, none⟩) (some ⟨B7, 0, none⟩) (T.length + 1) (Ks.length + 1)
            simp only [List.length_append, List.length_singleton] at C3
            have HC3 := show Hid _ from C3
            clear C3
            by_cases hin : (r, f) ∈ R2
            · have G4 := look_in' hR2C r f hin
              go_wp2_with fail
              refine (zzkey' r t wC).mono ?_
              rintro e wD ⟨rfl, hBD⟩
              have hbD : Below w.heap.size w wD := hbC.trans (hBD.mono hbC.size)
              have hTD := hTC.below hBD
              have hKD := hKC.below hBD
              have hR1D : wD.heap[b9]? = some (mobj (st R1)) := (hBD.block b9 (lt_of_block hR1C)).trans hR1C
              have hR2D : wD.heap[bA]? = some (mobj (st R2)) := (hBD.block bA (lt_of_block hR2C)).trans hR2C
              clear hXC hbC hTC hKC hR1C hR2C hBD G4 q0 q1 q2 q3 q4
              have G5 := look_in' hR2D r t (hkR hin)
              go_wp2_with fail
              clear G5 hin
              refine Calls.mono (HC3.out wD (by omega) (by omega) hTD hKD) ?_
              rintro e wE ⟨all, aa, cc, rfl, hal, hma, hBE⟩
              have hbE : Below w.heap.size w wE := hbD.trans (hBE.mono hbD.size)
              have hR1E : wE.heap[b9]? = some (mobj (st R1)) := (hBE.block b9 (lt_of_block hR1D)).trans hR1D
              have hR2E : wE.heap[bA]? = some (mobj (st R2)) := (hBE.block bA (lt_of_block hR2D)).trans hR2D
              have HR := show Hid _ from And.intro hR1E hR2E
              clear hbD hTD hKD hR1D hR2D hBE HC3 hR1E hR2E
              go_wp2_with fail
              go_loopg [126] all.length (fun k i wr => ∃ j, j ≤ all.length ∧ k = all.length - j ∧ i = .int .i64 (j : Int) ∧ Below wE.heap.size wE wr)
              case atStart => exact ⟨0, Nat.zero_le _, rfl, rfl, Below.refl _ _⟩
              case round =>
                rename World => wx
                obtain ⟨j, hj, hgk, rfl, hbx⟩ := hrel
                by_cases hlt : j < all.length
                · obtain ⟨g, rfl, hg1, hg2, hg3⟩ := hma j hlt
                  have x1 := (hbx.cell (p := ⟨g, j * 2, none⟩) hg1).trans hg2
                  have x2 := (hbx.cell (p := ⟨g, j * 2 + 1, none⟩) hg1).trans hg3
                  have c37 : Try.prog.cellsOf 37 = 2 := by kernel_rfl
                  have hlti : (j : Int) < (all.length : Int) := by omega
                  have hlt0 : (0 : Int) ≤ (j : Int) := by omega
                  generalize hxk : all[j] = xk at *
                  go_wp2_with fail
                  refine (b1key' xk wx).mono ?_
                  rintro e wF ⟨rfl, hBF⟩
                  have hbF : Below wE.heap.size wE wF := hbx.trans (hBF.mono hbx.size)
                  have hbG := hbF.alloc hbF.size (.cells #[.int .i64 xk.1, .string xk.2] 34)
                  have hr1 := (hbG.block b9 (lt_of_block HR.out.1)).trans HR.out.1
                  have hr2 := (hbG.block bA (lt_of_block HR.out.2)).trans HR.out.2
                  clear x1 x2 hBF hbF hbx
                  by_cases hin : xk ∈ R1
                  · have L1' := look_in hr1 xk hin
                    have L2' := look_in hr2 xk (hsub xk hin)
                    clear hr1 hr2 hin
                    go_wp2
                    go_roundg (all.length - (j + 1))
                    case measure => omega
                    case rel => exact ⟨j + 1, by omega, rfl, by go_num, hbG⟩
                  · have L1' := look_out hr1 xk hin
                    clear hr1 hr2 hin
                    go_wp2
                    go_roundg (all.length - (j + 1))
                    case measure => omega
                    case rel => exact ⟨j + 1, by omega, rfl, by go_num, hbG⟩
                · go_wp2
                  go_ret
                  exact ⟨rfl, hbE.trans (hbx.mono hbE.size)⟩
            · have G4 := look_out' hR2C r f hin
              go_wp2_with fail
              clear G4 hXC q0 q1 q2 q3 q4 hin
              have hbD := hbC
              have hTD := hTC
              have hKD := hKC
              have hR1D := hR1C
              have hR2D := hR2C
              clear hbC hTC hKC hR1C hR2C
              generalize wC = wD at *
              refine Calls.mono (HC3.out wD (by omega) (by omega) hTD hKD) ?_
              rintro e wE ⟨all, aa, cc, rfl, hal, hma, hBE⟩
              have hbE : Below w.heap.size w wE := hbD.trans (hBE.mono hbD.size)
              have hR1E : wE.heap[b9]? = some (mobj (st R1)) := (hBE.block b9 (lt_of_block hR1D)).trans hR1D
              have hR2E : wE.heap[bA]? = some (mobj (st R2)) := (hBE.block bA (lt_of_block hR2D)).trans hR2D
              have HR := show Hid _ from And.intro hR1E hR2E
              clear hbD hTD hKD hR1D hR2D hBE HC3 hR1E hR2E
              go_wp2_with fail
              go_loopg [126] all.length (fun k i wr => ∃ j, j ≤ all.length ∧ k = all.length - j ∧ i = .int .i64 (j : Int) ∧ Below wE.heap.size wE wr)
              case atStart => exact ⟨0, Nat.zero_le _, rfl, rfl, Below.refl _ _⟩
              case round =>
                rename World => wx
                obtain ⟨j, hj, hgk, rfl, hbx⟩ := hrel
                by_cases hlt : j < all.length
                · obtain ⟨g, rfl, hg1, hg2, hg3⟩ := hma j hlt
                  have x1 := (hbx.cell (p := ⟨g, j * 2, none⟩) hg1).trans hg2
                  have x2 := (hbx.cell (p := ⟨g, j * 2 + 1, none⟩) hg1).trans hg3
                  have c37 : Try.prog.cellsOf 37 = 2 := by kernel_rfl
                  have hlti : (j : Int) < (all.length : Int) := by omega
                  have hlt0 : (0 : Int) ≤ (j : Int) := by omega
                  generalize hxk : all[j] = xk at *
                  go_wp2_with fail
                  refine (b1key' xk wx).mono ?_
                  rintro e wF ⟨rfl, hBF⟩
                  have hbF : Below wE.heap.size wE wF := hbx.trans (hBF.mono hbx.size)
                  have hbG := hbF.alloc hbF.size (.cells #[.int .i64 xk.1, .string xk.2] 34)
                  have hr1 := (hbG.block b9 (lt_of_block HR.out.1)).trans HR.out.1
                  have hr2 := (hbG.block bA (lt_of_block HR.out.2)).trans HR.out.2
                  clear x1 x2 hBF hbF hbx
                  by_cases hin : xk ∈ R1
                  · have L1' := look_in hr1 xk hin
                    have L2' := look_in hr2 xk (hsub xk hin)
                    clear hr1 hr2 hin
                    go_wp2
                    go_roundg (all.length - (j + 1))
                    case measure => omega
                    case rel => exact ⟨j + 1, by omega, rfl, by go_num, hbG⟩
                  · have L1' := look_out hr1 xk hin
                    clear hr1 hr2 hin
                    go_wp2
                    go_roundg (all.length - (j + 1))
                    case measure => omega
                    case rel => exact ⟨j + 1, by omega, rfl, by go_num, hbG⟩
                · go_wp2
                  go_ret
                  exact ⟨rfl, hbE.trans (hbx.mono hbE.size)⟩

end Go.Proofs.Qxb6000638a.Rch
