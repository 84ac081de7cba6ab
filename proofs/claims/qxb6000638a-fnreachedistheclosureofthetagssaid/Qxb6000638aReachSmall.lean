import Derived.Test.Qxb6000638aMapLaws
import Derived.Outline
namespace Go.Proofs.Qxb6000638a.Rch
open Go.RowKit

theorem info34 : (Try.prog.info? 34).map (fun i => (i.zero, i.size, i.bytes)) = some (some (.agg #[.int .i64 0, .string ByteArray.empty]), 2, 24) := by kernel_rfl

def flat (ks : List K) : List Value := ks.flatMap (fun k => [.int .i64 k.1, .string k.2])
theorem flat_nil : flat [] = [] := rfl
theorem flat_append (a b : List K) : flat (a ++ b) = flat a ++ flat b := by simp [flat]
theorem flat_one (k : K) : flat [k] = [.int .i64 k.1, .string k.2] := rfl
theorem flat_length (ks : List K) : (flat ks).length = ks.length * 2 := by
  induction ks with
  | nil => rfl
  | cons k ks ih => simp [flat] at ih ⊢; omega
theorem flat_one' (ks : List K) : ∀ u ∈ flat ks, u.oneCell' = true := by
  intro u hu
  simp only [flat, List.mem_flatMap] at hu
  obtain ⟨k, _, hk⟩ := hu
  simp at hk
  rcases hk with rfl | rfl <;> rfl

/-- ZZKeyOf. -/
theorem zzkey_any (r : Int) (d : ByteArray) (w : World) :
    Calls Try.prog 17 #[.int .i64 r, .string d] w fun e w' => e = .returned (.agg #[.int .i64 r, .string d]) ∧ w.alloc (.cells #[.int .i64 r, .string d] 34) = w' := by
  go_enter Try.func17, Try.ntmps17
  go_wp2
  exact bodyPost_ret (v := .agg #[.int .i64 r, .string d]) (by simp [results, Try.results17, go_sem]) rfl ⟨rfl, rfl⟩

/-- b1KeyOf. -/
theorem b1key_any (k : K) (w : World) :
    Calls Try.prog 14 #[kv k] w fun e w' => e = .returned (kv k) ∧ Below w.heap.size w w' := by
  unfold kv
  go_enter Try.func14, Try.ntmps14
  go_wp2_with (go_at_call 17; refine (zzkey_any _ _ _).mono ?_; rintro e w' ⟨rfl, rfl⟩)
  exact bodyPost_ret (v := .agg #[.int .i64 k.1, .string k.2]) (by simp [results, Try.results14, go_sem]) rfl ⟨rfl, (((Below.refl _ _).alloc (Nat.le_refl _) _).alloc (by simp) _).alloc (by simp; omega) _⟩

/-- slices.Clone at []manifestKey. -/
theorem clone_any (v : Value) (n : Nat) (ks : List K) (base : Nat) (w : World) (hown : w.ownsRow base 34 2 v n (flat ks)) (hn : n ≤ 1000) :
    Calls Try.prog 29 #[v] w fun e w' => ∃ v', e = .returned v' ∧ w'.ownsRow w.heap.size 34 2 v' n (flat ks) ∧ Below w.heap.size w w' := by
  obtain ⟨i0, hi, hz0, hz1, hz2⟩ := info_parts info34
  have hsn := fun (w : World) (a : Option Addr) (n c : Nat) => Lib.run_eql_slice_nil (P := Try.prog) w 54 34 a n c 0 0 Try.underlying54
  rcases hown.2 with ⟨rfl, rfl⟩ | ⟨g, cap, cur, rfl, _⟩
  · go_enter Try.func29, Try.ntmps29
    go_wp2
    go_ret
    exact ⟨_, rfl, ⟨hown.1, .inl ⟨rfl, rfl⟩⟩, Below.refl _ _⟩
  · go_enter Try.func29, Try.ntmps29
    go_wp2_with (at_builtin; refine wpList_append_own _ rfl _ _ 54 rfl w.heap.size 34 i0 (.agg #[.int .i64 0, .string ByteArray.empty]) 2 24 Try.underlying54 hi hz0 hz1 hz2 rfl (by decide) _ 0 [] rfl (World.ownsRow_made w #[] 0 (Nat.le_refl _) (by decide) rfl) ⟨g, 0, none⟩ n cap (flat ks) rfl ?c0 ?c1 ?c2 ?c3 ?c4 ?c5 ?_)
    case c0 => exact hown.1
    case c1 => exact (hown.alloc _).cells rfl
    case c2 => exact flat_one' ks
    case c3 => unfold maxLen; omega
    case c4 => omega
    case c5 => simp
    · intro v' w3 hown' hgrow3 hnil3
      have hb : Below w.heap.size w w3 := Below.grown ((Below.refl _ _).alloc (Nat.le_refl _) _) hgrow3 (by simp) (fun j hj => by simp [Value.ownBlock] at hj; omega)
      clear hnil3 hgrow3
      go_wp2
      go_ret
      exact ⟨_, rfl, hown', hb⟩

end Go.Proofs.Qxb6000638a.Rch
