import Derived.Test.Qxb6000638aModelPlain
namespace Go.Proofs.Qxb6000638a.Rch
open Go.RowKit
attribute [local go_sem ↓] Go.wp_at_zero Go.wp_at_succ

theorem info3 : (Try.prog.info? 3).map (fun i => (i.zero, i.size, i.bytes)) = some (some (.int .i64 0), 1, 8) := by kernel_rfl
theorem info4 : (Try.prog.info? 4).map (fun i => (i.zero, i.size, i.bytes)) = some (some (.bool false), 1, 1) := by kernel_rfl

/-- The first loop: the first j tags are interned. -/
def M1 (w : World) (T : List K) (j : Nat) (v : Value) (wr : World) : Prop :=
  ∃ (N : List K) (I : List Nat), N.Nodup ∧ N.length ≤ j ∧ AtIdx N I (T.take j) ∧ wr.ownsRow (w.heap.size + 1) 37 2 v N.length (flat N) ∧ RowPre w.heap.size T.length I wr ∧ Below w.heap.size w wr

theorem M1.step {w wr w1 : World} {T : List K} {j : Nat} {v v' : Value} {N N' : List K} {I : List Nat} {i : Nat} (hn : N.Nodup) (hl : N.length ≤ j) (hI : AtIdx N I (T.take j)) (hown : wr.ownsRow (w.heap.size + 1) 37 2 v N.length (flat N))
    (hrow : RowPre w.heap.size T.length I wr) (hbw : Below w.heap.size w wr) (hj : j < T.length) (hi : Interned N N' T[j] i) (hown1 : w1.ownsRow (w.heap.size + 1) 37 2 v' N'.length (flat N')) (hgrow : wr.grownBy w1 v.ownBlock) :
    M1 w T (j + 1) v' (w1.setCell ⟨w.heap.size, j, none⟩ (.int .i64 (i : Int))) ∧ RowPre w.heap.size T.length I w1 := by
  have hne : some w.heap.size ≠ v.ownBlock := fun e => by have := (hown.lt _ e.symm).1; omega
  have hr1 := hrow.grown hgrow hne
  have hIl : I.length = j := by rw [hI.1]; simp; omega
  refine ⟨⟨N', I ++ [i], hi.nodup hn, by have := hi.len; omega, ?_, ownsRow_setCell_below hown1 (by simp) _, ?_, ?_⟩, hr1⟩
  · rw [List.take_succ_eq_append_getElem hj]; exact hI.snoc hi
  · have := hr1.put (by omega) i
    rw [hIl] at this; exact this
  · exact (Below.grown hbw hgrow hbw.size (fun k hk => by have := (hown.lt _ hk).1; omega)).setCell (by simp) _

/-- The second loop: of the keeps jf sources and jg targets are interned. -/
structure M2 (w : World) (T : List K) (Ks : List (K × ByteArray)) (b2 jf jg : Nat) (N : List K) (I F G : List Nat) (v : Value) (wr : World) : Prop where
  nodup : N.Nodup
  len : N.length ≤ T.length + jf + jg
  atI : AtIdx N I T
  atF : AtIdx N F (froms (Ks.take jf))
  atG : AtIdx N G (tos (Ks.take jg))
  own : wr.ownsRow (w.heap.size + 1) 37 2 v N.length (flat N)
  n2 : v.ownBlock ≠ some b2
  n3 : v.ownBlock ≠ some (b2 + 1)
  rowI : RowPre w.heap.size T.length I wr
  rowF : RowPre b2 Ks.length F wr
  rowG : RowPre (b2 + 1) Ks.length G wr
  below : Below w.heap.size w wr
  lt : w.heap.size < b2

theorem M2.grow {w wr w1 : World} {T : List K} {Ks : List (K × ByteArray)} {b2 jf jg : Nat} {N N' : List K} {I F G : List Nat} {v v' : Value} {m : K} {i : Nat} (h : M2 w T Ks b2 jf jg N I F G v wr) (hi : Interned N N' m i)
    (hgrow : wr.grownBy w1 v.ownBlock) (hat : v'.ownBlock = v.ownBlock ∨ ∃ g, v'.ownBlock = some g ∧ wr.heap.size ≤ g) :
    RowPre w.heap.size T.length I w1 ∧ RowPre b2 Ks.length F w1 ∧ RowPre (b2 + 1) Ks.length G w1 ∧ Below w.heap.size w w1 ∧ v'.ownBlock ≠ some b2 ∧ v'.ownBlock ≠ some (b2 + 1) ∧ N'.Nodup ∧ N'.length ≤ N.length + 1 := by
  have l3 := h.rowG.lt
  refine ⟨h.rowI.grown hgrow (fun e => by have := (h.own.lt _ e.symm).1; omega), h.rowF.grown hgrow (Ne.symm h.n2), h.rowG.grown hgrow (Ne.symm h.n3), Below.grown h.below hgrow h.below.size (fun k hk => by have := (h.own.lt _ hk).1; omega), ?_, ?_, hi.nodup h.nodup, hi.len⟩
  · rcases hat with e | ⟨g, e, hg⟩
    · rw [e]; exact h.n2
    · rw [e]; intro e2; simp at e2; omega
  · rcases hat with e | ⟨g, e, hg⟩
    · rw [e]; exact h.n3
    · rw [e]; intro e2; simp at e2; omega

theorem froms_len (Ks : List (K × ByteArray)) (j : Nat) (h : j ≤ Ks.length) : (froms (Ks.take j)).length = j := by simp [froms]; omega
theorem tos_len (Ks : List (K × ByteArray)) (j : Nat) (h : j ≤ Ks.length) : (tos (Ks.take j)).length = j := by simp [tos]; omega

theorem owns_store {w : World} {base e size n : Nat} {v : Value} {xs : List Value} (h : w.ownsRow base e size v n xs) {a : Addr} (ha : v.ownBlock ≠ some a.block) (u : Value) : (w.setCell a u).ownsRow base e size v n xs := by
  obtain ⟨h1, h2⟩ := h
  refine ⟨h1, ?_⟩
  rcases h2 with h2 | ⟨g, cap, cur, rfl, h4, h5, h6⟩
  · exact .inl h2
  · exact .inr ⟨g, cap, cur, rfl, h4, (Below.heap_setCell w a u g (fun e => ha (by simp [Value.ownBlock, e]))).trans h5, h6⟩

theorem M2.stepF {w wr w1 : World} {T : List K} {Ks : List (K × ByteArray)} {b2 jf jg : Nat} {N N' : List K} {I F G : List Nat} {v v' : Value} {i : Nat} (h : M2 w T Ks b2 jf jg N I F G v wr) (hj : jf < Ks.length) (hi : Interned N N' Ks[jf].1 i)
    (hown1 : w1.ownsRow (w.heap.size + 1) 37 2 v' N'.length (flat N')) (hgrow : wr.grownBy w1 v.ownBlock) (hat : v'.ownBlock = v.ownBlock ∨ ∃ g, v'.ownBlock = some g ∧ wr.heap.size ≤ g) :
    M2 w T Ks b2 (jf + 1) jg N' I (F ++ [i]) G v' (w1.setCell ⟨b2, jf, none⟩ (.int .i64 (i : Int))) ∧ RowPre b2 Ks.length F w1 := by
  obtain ⟨r1, r2, r3, r4, r5, r6, r7, r8⟩ := h.grow hi hgrow hat
  have hFl : F.length = jf := by rw [h.atF.1]; exact froms_len Ks jf (by omega)
  have hlt := h.lt
  have hlen := h.len
  refine ⟨⟨r7, by omega, h.atI.mono hi.pre, ?_, h.atG.mono hi.pre, owns_store hown1 r5 _, r5, r6, r1.other (by simp; omega) _, ?_, r3.other (by simp) _, r4.setCell (by simp; omega) _, hlt⟩, r2⟩
  · rw [List.take_succ_eq_append_getElem hj, froms, List.map_append]
    exact h.atF.snoc hi
  · have := r2.put (by omega) i
    rw [hFl] at this; exact this

theorem M2.stepG {w wr w1 : World} {T : List K} {Ks : List (K × ByteArray)} {b2 jf jg : Nat} {N N' : List K} {I F G : List Nat} {v v' : Value} {i : Nat} (h : M2 w T Ks b2 jf jg N I F G v wr) (hj : jg < Ks.length) (hi : Interned N N' (Ks[jg].1.1, Ks[jg].2) i)
    (hown1 : w1.ownsRow (w.heap.size + 1) 37 2 v' N'.length (flat N')) (hgrow : wr.grownBy w1 v.ownBlock) (hat : v'.ownBlock = v.ownBlock ∨ ∃ g, v'.ownBlock = some g ∧ wr.heap.size ≤ g) :
    M2 w T Ks b2 jf (jg + 1) N' I F (G ++ [i]) v' (w1.setCell ⟨b2 + 1, jg, none⟩ (.int .i64 (i : Int))) ∧ RowPre (b2 + 1) Ks.length G w1 := by
  obtain ⟨r1, r2, r3, r4, r5, r6, r7, r8⟩ := h.grow hi hgrow hat
  have hGl : G.length = jg := by rw [h.atG.1]; exact tos_len Ks jg (by omega)
  have hlt := h.lt
  have hlen := h.len
  refine ⟨⟨r7, by omega, h.atI.mono hi.pre, h.atF.mono hi.pre, ?_, owns_store hown1 r6 _, r5, r6, r1.other (by simp; omega) _, r2.other (by simp) _, ?_, r4.setCell (by simp; omega) _, hlt⟩, r3⟩
  · rw [List.take_succ_eq_append_getElem hj, tos, List.map_append]
    exact h.atG.snoc hi
  · have := r3.put (by omega) i
    rw [hGl] at this; exact this

/-- The marks: S; nothing but their row has turned since W5. -/
structure St (W5 : World) (b4 : Nat) (T : List K) (Ks : List (K × ByteArray)) (N : List K) (S : List Bool) (wr : World) : Prop where
  row : BoolRow b4 S wr
  len : S.length = N.length
  sound : Sound T Ks N S
  grown : W5.grownBy wr (some b4)

theorem St.put {W5 wr : World} {b4 : Nat} {T : List K} {Ks : List (K × ByteArray)} {N : List K} {S : List Bool} (h : St W5 b4 T Ks N S wr) {x : Nat} (hs : Sound T Ks N (S.set x true)) : St W5 b4 T Ks N (S.set x true) (wr.setCell ⟨b4, x, none⟩ (.bool true)) :=
  ⟨h.row.put x true, by simpa using h.len, hs, ⟨h.grown.os, h.grown.tape, h.grown.output, by have := h.grown.size; simpa [World.setCell] using this, fun k hk hne => (Below.heap_setCell _ _ _ _ (fun e => hne (by rw [e]))).trans (h.grown.block k hk hne)⟩⟩

/-- What the loops over the marks read. -/
structure Base (W5 : World) (bt b2 b4 : Nat) (T : List K) (Ks : List (K × ByteArray)) (N : List K) (I F G : List Nat) : Prop where
  nodup : N.Nodup
  atI : AtIdx N I T
  atF : AtIdx N F (froms Ks)
  atG : AtIdx N G (tos Ks)
  rowI : RowPre bt T.length I W5
  rowF : RowPre b2 Ks.length F W5
  rowG : RowPre (b2 + 1) Ks.length G W5
  lt : bt < b2
  lt4 : b2 + 1 < b4

/-- All closed among the first j keeps. -/
def ClosedTo (F G : List Nat) (S : List Bool) (j : Nat) : Prop := ∀ i x y : Nat, i < j → F[i]? = some x → G[i]? = some y → S[x]? = some true → S[y]? = some true
def TagsTo (I : List Nat) (S : List Bool) (j : Nat) : Prop := ∀ i x : Nat, i < j → I[i]? = some x → S[x]? = some true

theorem TagsTo.set {I : List Nat} {S : List Bool} {j : Nat} (h : TagsTo I S j) (x : Nat) : TagsTo I (S.set x true) j := fun i y hi hy => set_keep (h i y hi hy)

/-- The inner loop: j keeps have been looked at; c: has anything turned since S0? -/
def Pass (S0 : List Bool) (F G : List Nat) (c : Bool) (S : List Bool) (j : Nat) : Prop := if c then S.count false < S0.count false else S = S0 ∧ ClosedTo F G S j

theorem mans_grown {na : Option Addr} {N : List K} {W5 wy : World} {b4 : Nat} (h : MansAt na N W5) (hna : ∀ (k : Nat) (_ : k < N.length), ∃ g, na = some ⟨g, 0, none⟩ ∧ g < b4) (hg : W5.grownBy wy (some b4)) : MansAt na N wy := fun j hj => by
  obtain ⟨g, h1, h2, h3, h4⟩ := h j hj
  obtain ⟨g', e1, e2⟩ := hna j hj
  rw [h1] at e1
  cases e1
  have hb := hg.block g h2 (by simp; omega)
  exact ⟨g, h1, Nat.lt_of_lt_of_le h2 hg.size, (World.cell?_of_block hb).trans h3, (World.cell?_of_block hb).trans h4⟩

set_option maxRecDepth 100000 in
set_option maxHeartbeats 4000000 in
/-- b1ModelReached. -/
theorem model_any (T : List K) (Ks : List (K × ByteArray)) (ta ka : Option Addr) (tc kc : Nat) (w : World) (hT : T.length ≤ 300) (hK : Ks.length ≤ 300) (hTa : MansAt ta T w) (hKa : KeepsAt ka Ks w) :
    Calls Try.prog 13 #[.slice ta T.length tc, .slice ka Ks.length kc] w fun e w' => ∃ (N : List K) (S : List Bool) (a : Option Addr) (c g : Nat), e = .returned (.tuple #[.slice a N.length c, .slice (some ⟨g, 0, none⟩) N.length N.length]) ∧
      N.length ≤ 1000 ∧ Mod T Ks N S ∧ MansAt a N w' ∧ BoolRow g S w' ∧ Below w.heap.size w w' := by
  have HT : Hid (MansAt ta T w) := hTa
  have HK : Hid (KeepsAt ka Ks w) := hKa
  clear hTa hKa
  have mk1 := run_mk Try.underlying51 info3 T.length (by omega) (by omega)
  simp only [Nat.mul_one] at mk1
  go_enter Try.func13, Try.ntmps13
  go_wp2_with fail
  clear mk1
  go_loopg [6, 23] T.length (fun k v i wr => ∃ j, j ≤ T.length ∧ k = T.length - j ∧ i = .int .i64 (j : Int) ∧ M1 w T j v wr)
  case atStart => exact ⟨0, Nat.zero_le _, rfl, rfl, [], [], by simp, by simp, AtIdx.nil _, World.ownsRow_nil _ _ _ _, RowPre.made _ _ _, (Below.refl _ _).alloc (Nat.le_refl _) _⟩
  case round =>
    obtain ⟨j, hj, hgk, rfl, N, I, hn, hl, hI, hown, hrow, hbw⟩ := hrel
    by_cases hlt : j < T.length
    · obtain ⟨g, rfl, hg1, hg2, hg3⟩ := HT.out j hlt
      have x1 := (hbw.cell (p := ⟨g, j * 2, none⟩) hg1).trans hg2
      have x2 := (hbw.cell (p := ⟨g, j * 2 + 1, none⟩) hg1).trans hg3
      have c37 : Try.prog.cellsOf 37 = 2 := by kernel_rfl
      have hlti : (j : Int) < (T.length : Int) := by omega
      have hlt0 : (0 : Int) ≤ (j : Int) := by omega
      have hrl := hrow.lt
      go_wp2_with fail
      refine (intern_any N _ (w.heap.size + 1) T[j] wr (by omega) hown (by omega)).mono ?_
      rintro e w1 ⟨N', v', i, rfl, hint, hown1, hgrow, _⟩
      obtain ⟨hstep, hr1⟩ := M1.step hn hl hI hown hrow hbw hlt hint hown1 hgrow
      obtain ⟨o1, y1⟩ := hr1.has j hlt
      have z1 := hr1.free j
      have HS := show Hid (M1 w T (j + 1) v' (w1.setCell ⟨w.heap.size, j, none⟩ (.int .i64 (i : Int)))) from hstep
      clear hstep hr1 hown1 hgrow hint hn hl hI hown hrow hbw x1 x2
      go_wp2
      go_roundg (T.length - (j + 1))
      case measure => omega
      case rel => exact ⟨j + 1, by omega, rfl, by go_num, HS.out⟩
    · have hje : j = T.length := by omega
      subst hje
      rw [List.take_length] at hI
      have mk2 := run_mk Try.underlying51 info3 Ks.length (by omega) (by omega)
      simp only [Nat.mul_one] at mk2
      go_wp2_with fail
      clear mk2
      have hI1 := hrow.lt
      have HM : Hid (M2 w T Ks wr.heap.size 0 0 N I [] [] _ ((wr.alloc (mrow 3 (.int .i64 0) Ks.length)).alloc (mrow 3 (.int .i64 0) Ks.length))) :=
        ⟨hn, by omega, hI, AtIdx.nil _, AtIdx.nil _, (hown.alloc _).alloc _, fun e => by have := (hown.lt _ e).2; omega, fun e => by have := (hown.lt _ e).2; omega, (hrow.alloc _).alloc _, (RowPre.made wr _ _).alloc _,
          by have := RowPre.made (wr.alloc (mrow 3 (.int .i64 0) Ks.length)) (.int .i64 0) Ks.length; rw [World.size_alloc] at this; exact this, (hbw.alloc hbw.size _).alloc (by have := hbw.size; simp; omega) _, hI1⟩
      clear hn hl hI hown hrow hbw hI1
      generalize (wr.alloc (mrow 3 (.int .i64 0) Ks.length)).alloc (mrow 3 (.int .i64 0) Ks.length) = w2 at *
      generalize wr.heap.size = b2 at *
      go_loopg [6, 48] Ks.length (fun k v i wq => ∃ j, j ≤ Ks.length ∧ k = Ks.length - j ∧ i = .int .i64 (j : Int) ∧ ∃ N I F G, M2 w T Ks b2 j j N I F G v wq)
      case atStart => exact ⟨0, Nat.zero_le _, rfl, rfl, N, I, [], [], HM.out⟩
      case round =>
        rename World => wq
        clear HM
        obtain ⟨j, hj, hgk, rfl, N, I, F, G, hM⟩ := hrel
        by_cases hlt : j < Ks.length
        · obtain ⟨g, rfl, hg1, hg2, hg3, hg4⟩ := HK.out j hlt
          have x1 := (hM.below.cell (p := ⟨g, j * 3, none⟩) hg1).trans hg2
          have x2 := (hM.below.cell (p := ⟨g, j * 3 + 1, none⟩) hg1).trans hg3
          have x3 := (hM.below.cell (p := ⟨g, j * 3 + 2, none⟩) hg1).trans hg4
          have c39 : Try.prog.cellsOf 39 = 3 := by kernel_rfl
          have hlti : (j : Int) < (Ks.length : Int) := by omega
          have hlt0 : (0 : Int) ≤ (j : Int) := by omega
          have ag : some g ≠ Value.ownBlock u6 := fun e => by have := (hM.own.lt _ e.symm).1; omega
          have hbs := hM.below.size
          have hrl := hM.rowI.lt
          have hgw : g < wq.heap.size := by omega
          have hNl := hM.len
          go_wp2_with fail
          go_region_held3 (fun w' => w'.cell? ⟨g, j * 3, none⟩ = some (.int .i64 Ks[j].1.1) ∧ w'.cell? ⟨g, j * 3 + 1, none⟩ = some (.string Ks[j].1.2))
            (first
              | go_keep
              | (go_split_ands
                 refine ⟨?_, ?_⟩
                 · (rw [hgrow.cell_far _ (by simp; omega) ag]; assumption)
                 · (rw [hgrow.cell_far _ (by simp; omega) ag]; assumption)))
            (first
              | (go_at_call 25; refine (intern_any N u6 (w.heap.size + 1) Ks[j].1 wq.drew (by omega) hM.own.drew (by exact hrl)).mono ?_; rintro e w1 ⟨N', v', i, rfl, hint, hown1, hgrow, hat⟩))
          obtain ⟨hM1, hrF⟩ := hM.stepF hlt hint hown1 (undrew hgrow) hat
          obtain ⟨o1, y1⟩ := hrF.has j hlt
          have z1 := hrF.free j
          have y4 := (hM1.below.cell (p := ⟨g, j * 3, none⟩) hg1).trans hg2
          have y5 := (hM1.below.cell (p := ⟨g, j * 3 + 2, none⟩) hg1).trans hg4
          clear hM hint hown1 hgrow hat hrF x1 x2 x3 ag hNl hgw
          have HM1 := show Hid (M2 w T Ks b2 (j + 1) j N' I (F ++ [i]) G v' (w1.setCell ⟨b2, j, none⟩ (.int .i64 (i : Int)))) from hM1
          clear hM1
          go_wp2_with fail
          clear y1 z1
          generalize w1.setCell ⟨b2, j, none⟩ (.int .i64 (i : Int)) = w4 at *
          have hM1 : M2 w T Ks b2 (j + 1) j N' I (F ++ [i]) G v' w4 := HM1.out
          clear HM1
          have ag2 : some g ≠ Value.ownBlock v' := fun e => by have := (hM1.own.lt _ e.symm).1; omega
          have hbs2 := hM1.below.size
          have hrl2 := hM1.rowI.lt
          have hgw2 : g < w4.heap.size := by omega
          have hNl2 := hM1.len
          go_region_held3 (fun w' => w'.cell? ⟨g, j * 3, none⟩ = some (.int .i64 Ks[j].1.1) ∧ w'.cell? ⟨g, j * 3 + 2, none⟩ = some (.string Ks[j].2))
            (first
              | go_keep
              | (go_split_ands
                 refine ⟨?_, ?_⟩
                 · (rw [hgrow.cell_far _ (by simp; omega) ag2]; assumption)
                 · (rw [hgrow.cell_far _ (by simp; omega) ag2]; assumption)))
            (first
              | (go_at_call 25; refine (intern_any N' v' (w.heap.size + 1) (Ks[j].1.1, Ks[j].2) w4.drew (by omega) hM1.own.drew (by exact hrl2)).mono ?_; rintro e w5 ⟨N5, v5, i5, rfl, hint, hown1, hgrow, hat⟩))
          obtain ⟨hM5, hrG⟩ := hM1.stepG hlt hint hown1 (undrew hgrow) hat
          obtain ⟨o5, y7⟩ := hrG.has j hlt
          have z7 := hrG.free j
          clear hM1 hint hown1 hgrow hat hrG y4 y5 ag2 hNl2 hgw2
          have HM5 := show Hid (M2 w T Ks b2 (j + 1) (j + 1) N5 I (F ++ [i]) (G ++ [i5]) v5 (w5.setCell ⟨b2 + 1, j, none⟩ (.int .i64 (i5 : Int)))) from hM5
          clear hM5
          go_wp2
          go_roundg (Ks.length - (j + 1))
          case measure => omega
          case rel => exact ⟨j + 1, by omega, rfl, by go_num, N5, I, F ++ [i], G ++ [i5], HM5.out⟩
        · have hje : j = Ks.length := by omega
          subst hje
          obtain ⟨na, nc, hv, hma⟩ := owns_mans hM.own
          rw [hv]
          have hM' := hM
          rw [hv] at hM'
          clear hM hv
          have hNl := hM'.len
          have mk3 := run_mk Try.underlying30 info4 N.length (by omega) (by omega)
          simp only [Nat.mul_one] at mk3
          go_wp2_with fail
          clear mk3
          have hBs : Base (wq.alloc (mrow 4 (.bool false) N.length)) w.heap.size b2 wq.heap.size T Ks N I F G := by
            have hf := hM'.atF
            have hg := hM'.atG
            rw [List.take_length] at hf hg
            exact ⟨hM'.nodup, hM'.atI, hf, hg, hM'.rowI.alloc _, hM'.rowF.alloc _, hM'.rowG.alloc _, hM'.lt, hM'.rowG.lt⟩
          have hSt : St (wq.alloc (mrow 4 (.bool false) N.length)) wq.heap.size T Ks N (List.replicate N.length false) (wq.alloc (mrow 4 (.bool false) N.length)) :=
            ⟨BoolRow.made wq N.length, by simp, Sound.none _ _ _ _, ⟨rfl, rfl, rfl, Nat.le_refl _, fun _ _ _ => rfl⟩⟩
          have hbW : Below w.heap.size w (wq.alloc (mrow 4 (.bool false) N.length)) := hM'.below.alloc hM'.below.size _
          have hmW := hma.below ((Below.refl wq.heap.size wq).alloc (Nat.le_refl _) (mrow 4 (.bool false) N.length))
          have hw4 : w.heap.size ≤ wq.heap.size := hM'.below.size
          have hna : ∀ k hk, ∃ g, na = some ⟨g, 0, none⟩ ∧ g < wq.heap.size := fun (k : Nat) (hk : k < N.length) => by obtain ⟨g, h1, h2, _⟩ := hma k hk; exact ⟨g, h1, h2⟩
          clear hM' hma
          generalize wq.alloc (mrow 4 (.bool false) N.length) = W5 at *
          generalize wq.heap.size = b4 at *
          generalize hbt : w.heap.size = bt at *
          have HQ := show Hid _ from And.intro hBs (And.intro hbW (And.intro hmW (And.intro hw4 hna)))
          have HS0 := show Hid _ from hSt
          have HBT := show Hid _ from hbt
          clear hBs hSt hbW hmW hw4 hna hbt
          go_loopg [97] T.length (fun k i wr => ∃ j, j ≤ T.length ∧ k = T.length - j ∧ i = .int .i64 (j : Int) ∧ ∃ S, St W5 b4 T Ks N S wr ∧ TagsTo I S j)
          case atStart => exact ⟨0, Nat.zero_le _, rfl, rfl, _, HS0.out, fun i x hi => by omega⟩
          case round =>
            rename World => wx
            clear HS0
            obtain ⟨j, hj, hgk, rfl, S, hSt, hTg⟩ := hrel
            by_cases hlt : j < T.length
            · obtain ⟨x, hx1, hx2⟩ := HQ.out.1.atI.2 j T[j] (List.getElem?_eq_getElem hlt)
              have hxl : x < N.length := (List.getElem?_eq_some_iff.1 hx2).1
              have q1 := (HQ.out.1.rowI.grown hSt.grown (by have := HQ.out.1.lt; have := HQ.out.1.lt4; simp; omega)).cell hx1
              obtain ⟨ob, q2⟩ : ∃ b, S[x]? = some b := ⟨S[x]'(by rw [hSt.len]; exact hxl), List.getElem?_eq_getElem _⟩
              have q3 := hSt.row.cell q2
              have q4 := hSt.row.free x
              have HP : Hid (St W5 b4 T Ks N (S.set x true) (wx.setCell ⟨b4, x, none⟩ (.bool true))) := hSt.put (hSt.sound.tag (List.getElem_mem hlt) hx2)
              have HTg : Hid (TagsTo I (S.set x true) (j + 1)) := fun i y hi hy => by
                by_cases e : i = j
                · subst e; rw [hx1] at hy; cases hy
                  exact set_self (by rw [hSt.len]; exact hxl)
                · exact set_keep (hTg i y (by omega) hy)
              have hlti : (j : Int) < (T.length : Int) := by omega
              have hlt0 : (0 : Int) ≤ (j : Int) := by omega
              have hxi : (x : Int) < (N.length : Int) := by omega
              have hx0 : (0 : Int) ≤ (x : Int) := by omega
              clear hSt hTg hx1 hx2 q2
              go_wp2
              go_roundg (T.length - (j + 1))
              case measure => omega
              case rel => exact ⟨j + 1, by omega, rfl, by go_num, _, HP.out, HTg.out⟩
            · have hje : j = T.length := by omega
              subst hje
              have HSt := show Hid _ from hSt
              have HTg := show Hid (TagsTo I S T.length) from hTg
              clear hSt hTg
              go_wp2_with fail
              go_loopg [16] (2 * S.count false + 1) (fun k b wr => ∃ (S : List Bool) (c : Bool), b = .bool c ∧ k = 2 * S.count false + (if c then 1 else 0) ∧ St W5 b4 T Ks N S wr ∧ TagsTo I S T.length ∧ (c = false → ClosedTo F G S Ks.length))
              case atStart => exact ⟨S, true, rfl, by simp, HSt.out, HTg.out, fun h => by cases h⟩
              case round =>
                rename World => wy
                rename Nat => gO
                clear HSt HTg
                obtain ⟨S, c, rfl, hgk, hSt, hTg, hcl⟩ := hrel
                cases c with
                | false =>
                  have HF : Hid (Mod T Ks N S) := Mod.mk' HQ.out.1.nodup hSt.len HQ.out.1.atI HQ.out.1.atF HQ.out.1.atG
                    (fun i x hx => hTg i x (by have := (List.getElem?_eq_some_iff.1 hx).1; have := HQ.out.1.atI.1; omega) hx)
                    (fun i x y hx hy h => hcl rfl i x y (by have := (List.getElem?_eq_some_iff.1 hx).1; have := HQ.out.1.atF.1; simp [froms] at this; omega) hx hy h) hSt.sound
                  have HR := show Hid _ from And.intro hSt.row hSt.grown
                  clear hSt hTg hcl
                  go_wp2
                  go_ret2
                  exact ⟨N, S, na, nc, b4, rfl, by omega, HF.out, mans_grown HQ.out.2.2.1 HQ.out.2.2.2.2 HR.out.2, HR.out.1, by rw [HBT.out]; exact Below.grown HQ.out.2.1 HR.out.2 (by rw [← HBT.out]; exact HQ.out.2.1.size) (fun k hk => by cases hk; exact HQ.out.2.2.2.1)⟩
                | true =>
                  have HSt := show Hid (St W5 b4 T Ks N S wy) from hSt
                  have HTg := show Hid (TagsTo I S T.length) from hTg
                  have HGk := show Hid _ from hgk
                  clear hSt hTg hcl hgk
                  go_wp2_with fail
                  go_loopg [16, 110] Ks.length (fun k b i wr => ∃ (j : Nat) (S1 : List Bool) (c : Bool), j ≤ Ks.length ∧ k = Ks.length - j ∧ i = .int .i64 (j : Int) ∧ b = .bool c ∧ St W5 b4 T Ks N S1 wr ∧ TagsTo I S1 T.length ∧ Pass S F G c S1 j)
                  case atStart => exact ⟨0, S, false, Nat.zero_le _, rfl, rfl, rfl, HSt.out, HTg.out, rfl, fun i x y hi => by omega⟩
                  case round =>
                    rename World => wz
                    clear HSt HTg
                    obtain ⟨j, S1, c, hj, hgk, rfl, rfl, hSt, hTg, hP⟩ := hrel
                    by_cases hlt : j < Ks.length
                    · obtain ⟨x, hx1, hx2⟩ := HQ.out.1.atF.2 j Ks[j].1 (by simp [froms, hlt])
                      obtain ⟨y, hy1, hy2⟩ := HQ.out.1.atG.2 j (Ks[j].1.1, Ks[j].2) (by simp [tos, hlt])
                      have hxl : x < N.length := (List.getElem?_eq_some_iff.1 hx2).1
                      have hyl : y < N.length := (List.getElem?_eq_some_iff.1 hy2).1
                      have hl4 := HQ.out.1.lt4
                      have q1 := (HQ.out.1.rowF.grown hSt.grown (by simp; omega)).cell hx1
                      have q2 := (HQ.out.1.rowG.grown hSt.grown (by simp; omega)).cell hy1
                      obtain ⟨bx, r1⟩ : ∃ b, S1[x]? = some b := ⟨S1[x]'(by rw [hSt.len]; exact hxl), List.getElem?_eq_getElem _⟩
                      obtain ⟨by', r2⟩ : ∃ b, S1[y]? = some b := ⟨S1[y]'(by rw [hSt.len]; exact hyl), List.getElem?_eq_getElem _⟩
                      have q3 := hSt.row.cell r1
                      have q4 := hSt.row.cell r2
                      have q5 := hSt.row.free y
                      have hlti : (j : Int) < (Ks.length : Int) := by omega
                      have hlt0 : (0 : Int) ≤ (j : Int) := by omega
                      have hxi : (x : Int) < (N.length : Int) := by omega
                      have hx0 : (0 : Int) ≤ (x : Int) := by omega
                      have hyi : (y : Int) < (N.length : Int) := by omega
                      have hy0 : (0 : Int) ≤ (y : Int) := by omega
                      by_cases hdo : bx = true ∧ by' = false
                      · obtain ⟨rfl, rfl⟩ := hdo
                        have HX : Hid (St W5 b4 T Ks N (S1.set y true) (wz.setCell ⟨b4, y, none⟩ (.bool true))) := hSt.put (hSt.sound.keep (List.getElem_mem hlt) hx2 r1 hy2)
                        have HT2 : Hid (TagsTo I (S1.set y true) T.length) := hTg.set y
                        have HP2 : Hid (Pass S F G true (S1.set y true) (j + 1)) := by
                          have h1 := count_set r2
                          show (S1.set y true).count false < S.count false
                          cases c with
                          | true => have : S1.count false < S.count false := hP; omega
                          | false => have : S1 = S := hP.1; rw [this] at h1 ⊢; omega
                        clear hSt hTg hP hx1 hx2 hy1 hy2 r1 r2
                        go_wp2
                        go_roundg (Ks.length - (j + 1))
                        case measure => omega
                        case rel => exact ⟨j + 1, _, true, by omega, rfl, by go_num, rfl, HX.out, HT2.out, HP2.out⟩
                      · have HP2 : Hid (Pass S F G c S1 (j + 1)) := by
                          cases c with
                          | true => exact hP
                          | false =>
                            refine ⟨hP.1, fun i x' y' hi hx' hy' hs => ?_⟩
                            by_cases e : i = j
                            · subst e
                              rw [hx1] at hx'; rw [hy1] at hy'
                              cases hx'; cases hy'
                              rw [r1] at hs; cases hs
                              cases by' with
                              | true => exact r2
                              | false => exact absurd ⟨rfl, rfl⟩ hdo
                            · exact hP.2 i x' y' (by omega) hx' hy' hs
                        have HX := show Hid (St W5 b4 T Ks N S1 wz) from hSt
                        have HT2 := show Hid (TagsTo I S1 T.length) from hTg
                        clear hSt hTg hP hx1 hx2 hy1 hy2 r1 r2
                        cases bx with
                        | false =>
                          clear hdo
                          go_wp2
                          go_roundg (Ks.length - (j + 1))
                          case measure => omega
                          case rel => exact ⟨j + 1, _, c, by omega, rfl, by go_num, rfl, HX.out, HT2.out, HP2.out⟩
                        | true =>
                          cases by' with
                          | false => exact absurd ⟨rfl, rfl⟩ hdo
                          | true =>
                            clear hdo
                            go_wp2
                            go_roundg (Ks.length - (j + 1))
                            case measure => omega
                            case rel => exact ⟨j + 1, _, c, by omega, rfl, by go_num, rfl, HX.out, HT2.out, HP2.out⟩
                    · have hje : j = Ks.length := by omega
                      subst hje
                      have HX := show Hid (St W5 b4 T Ks N S1 wz) from hSt
                      have HT2 := show Hid (TagsTo I S1 T.length) from hTg
                      have HP2 := show Hid (Pass S F G c S1 Ks.length) from hP
                      clear hSt hTg hP
                      go_wp2
                      go_roundg (2 * S1.count false + (if c then 1 else 0))
                      case measure =>
                        have h1 := HGk.out
                        rw [h1]
                        cases c with
                        | true =>
                          have : S1.count false < S.count false := HP2.out
                          simp; omega
                        | false =>
                          have : S1 = S := HP2.out.1
                          rw [this]; simp
                      case rel =>
                        refine ⟨S1, c, rfl, rfl, HX.out, HT2.out, fun h => ?_⟩
                        subst h
                        exact HP2.out.2

end Go.Proofs.Qxb6000638a.Rch
