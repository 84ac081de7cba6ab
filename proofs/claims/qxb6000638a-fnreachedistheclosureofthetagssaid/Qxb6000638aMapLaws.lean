import Derived.Test.Qxb6000638aChecked
import Derived.Test.Qxb6000638aReachPlain
import Derived.WalkKit
import Derived.WalkSpells
import Derived.WalkSmall
namespace Go.Proofs.Qxb6000638a.Rch
open Go.RowKit

/-! ### Keys: a struct of an int64 and a string -/

def kv (k : K) : Value := .agg #[.int .i64 k.1, .string k.2]

theorem check34 (em : Bool) (k : K) (w : World) : (Instr.checkKey em 10000 34 (kv k)).run Try.prog w = .ok () w := by kernel_rfl
theorem eqInt (a b : Int) (w : World) : (Op.equalIn 9999 2 (.int .i64 a) (.int .i64 b)).run Try.prog w = .ok (a == b) w := by kernel_rfl
theorem eqStr (a b : ByteArray) (w : World) : (Op.equalIn 9999 9 (.string a) (.string b)).run Try.prog w = .ok (a == b) w := by kernel_rfl
theorem part0 (k : K) (w : World) : (part 2 #[.int .i64 k.1, .string k.2] 0).run Try.prog w = .ok (.int .i64 k.1) w := by kernel_rfl
theorem part1 (k : K) (w : World) : (part 9 #[.int .i64 k.1, .string k.2] 1).run Try.prog w = .ok (.string k.2) w := by kernel_rfl

theorem bytes_self (a : ByteArray) : (a == a) = true := (MapKept.bytes_beq a a).2 rfl
theorem bytes_ne {a b : ByteArray} (h : a ≠ b) : (a == b) = false := by
  cases e : a == b
  · rfl
  · exact absurd ((MapKept.bytes_beq a b).1 e) h

theorem eq34 (a b : K) (w : World) : (Op.equal 34 (kv a) (kv b)).run Try.prog w = .ok (decide (a = b)) w := by
  show (Op.equalIn (9999 + 1) 34 (.agg #[.int .i64 a.1, .string a.2]) (.agg #[.int .i64 b.1, .string b.2])).run Try.prog w = _
  rw [Op.equalIn]
  simp only [Sem.run_bind, run_underlying Try.underlying34, Result.andThen_ok]
  have hp : (program : Sem Program).run Try.prog w = .ok Try.prog w := rfl
  simp [hp, part0, part1, eqInt, eqStr]
  by_cases h1 : a.1 = b.1
  · by_cases h2 : a.2 = b.2
    · have h : a = b := Prod.ext h1 h2
      simp [h, bytes_self]
    · have h : a ≠ b := fun e => h2 (by rw [e])
      simp [h1, bytes_ne h2, h]
  · have h : a ≠ b := fun e => h1 (by rw [e])
    simp [h1, h]

theorem stays34 (k : K) (w : World) : (Instr.keyThatStays (kv k) (kv k)).run Try.prog w = .ok (kv k) w := by
  have h : Instr.sameBits 10000 (kv k) (kv k) = true := by
    show Instr.sameBits (9999 + 1) (.agg #[.int .i64 k.1, .string k.2]) (.agg #[.int .i64 k.1, .string k.2]) = true
    simp [Instr.sameBits, bytes_self]
  simp [Instr.keyThatStays, h]

/-! ### A map of the call's own: its entries in the order of their making -/
def ents : List (K × Value) → Nat → List MapEntry
  | [], _ => []
  | (k, v) :: l, i => { key := kv k, val := v, born := i } :: ents l (i + 1)
def mobj (l : List (K × Value)) : Obj := .map (ents l 0).toArray l.length

def fnd (k : K) : List (K × Value) → Nat → Option (Nat × Value)
  | [], _ => none
  | (k', v) :: l, i => if k = k' then some (i, v) else fnd k l (i + 1)

theorem ents_length (l : List (K × Value)) (i : Nat) : (ents l i).length = l.length := by
  induction l generalizing i with
  | nil => rfl
  | cons p l ih => simp [ents, ih]

theorem ents_getElem? (l : List (K × Value)) (i j : Nat) : (ents l i)[j]? = (l[j]?).map (fun p => { key := kv p.1, val := p.2, born := i + j }) := by
  induction l generalizing i j with
  | nil => simp [ents]
  | cons p l ih =>
    cases j with
    | zero => simp [ents]
    | succ j => simp [ents, ih]; congr 1; funext p; congr 1; omega

theorem ents_append (l l' : List (K × Value)) (i : Nat) : ents (l ++ l') i = ents l i ++ ents l' (i + l.length) := by
  induction l generalizing i with
  | nil => simp [ents]
  | cons p l ih => simp [ents, ih]; congr 1; omega

theorem run_findAsking (k : K) (l : List (K × Value)) (i j : Nat) (w : World) : (Instr.findAsking 34 (kv k) (ents l i) j).run Try.prog w = .ok (fnd k l j) w := by
  induction l generalizing i j with
  | nil => simp [ents, Instr.findAsking, fnd]
  | cons p l ih =>
    obtain ⟨k', v⟩ := p
    simp only [ents, Instr.findAsking, fnd, Sem.run_bind, eq34, Result.andThen_ok]
    by_cases h : k = k'
    · simp [h]
    · simp [h, ih]

theorem run_find (k : K) (l : List (K × Value)) (w : World) : (Instr.findKey 34 (kv k) (ents l 0)).run Try.prog w = .ok (fnd k l 0) w := by
  unfold Instr.findKey
  simp only [Sem.run_bind, run_underlying Try.underlying34, Result.andThen_ok]
  cases l with
  | nil => simp [ents, Instr.findNow, fnd]
  | cons p l =>
    obtain ⟨k', v⟩ := p
    have h := run_findAsking k ((k', v) :: l) 0 0 w
    simp only [ents] at h ⊢
    simp only [Instr.findNow, Instr.sameNow]
    exact h

theorem fnd_some {k : K} {l : List (K × Value)} {i j : Nat} {v : Value} (h : fnd k l i = some (j, v)) : i ≤ j ∧ l[j - i]? = some (k, v) := by
  induction l generalizing i with
  | nil => simp [fnd] at h
  | cons p l ih =>
    obtain ⟨k', v'⟩ := p
    simp only [fnd] at h
    split at h
    · rename_i e
      simp only [Option.some.injEq, Prod.mk.injEq] at h
      obtain ⟨rfl, rfl⟩ := h
      simp [e]
    · have := ih h
      refine ⟨by omega, ?_⟩
      rw [show j - i = (j - (i + 1)) + 1 by omega]
      simpa using this.2

theorem fnd_none {k : K} {l : List (K × Value)} {i : Nat} : fnd k l i = none ↔ k ∉ l.map Prod.fst := by
  induction l generalizing i with
  | nil => simp [fnd]
  | cons p l ih =>
    obtain ⟨k', v'⟩ := p
    simp only [fnd]
    by_cases e : k = k'
    · simp [e]
    · simp only [if_neg e, ih]
      simp [e]

/-! ### The world with a map's block written -/
def setB (w : World) (b : Nat) (o : Obj) : World := { w with heap := w.heap.setIfInBounds b o }

theorem setB_size (w : World) (b : Nat) (o : Obj) : (setB w b o).heap.size = w.heap.size := by simp [setB]
theorem setB_same (w : World) (b : Nat) (o : Obj) (h : b < w.heap.size) : (setB w b o).heap[b]? = some o := by simp [setB, h]
theorem setB_other (w : World) (b k : Nat) (o : Obj) (h : k ≠ b) : (setB w b o).heap[k]? = w.heap[k]? := by simp [setB, Ne.symm h]
theorem setB_cell (w : World) (b : Nat) (o : Obj) (a : Addr) (h : a.block ≠ b) : (setB w b o).cell? a = w.cell? a := World.cell?_of_block (setB_other w b a.block o h)
theorem setB_frozen (w : World) (b : Nat) (o : Obj) (a : Addr) (h : a.block ≠ b) : (setB w b o).frozen? a = w.frozen? a := World.frozen?_of_block (setB_other w b a.block o h)
theorem setB_below {B : Nat} {a w : World} (h : Below B a w) {b : Nat} (hb : B ≤ b) (o : Obj) : Below B a (setB w b o) :=
  h.trans ⟨rfl, rfl, rfl, by rw [setB_size]; exact Nat.le_refl _, fun k hk => setB_other w b k o (by omega)⟩
theorem setB_grown (w : World) (b : Nat) (o : Obj) : w.grownBy (setB w b o) (some b) := ⟨rfl, rfl, rfl, by rw [setB_size]; exact Nat.le_refl _, fun k _ hk => setB_other w b k o (fun e => hk (by rw [e]))⟩

/-! ### The operations -/
section
variable {T E : TypeId} {w : World} {b : Nat} {l : List (K × Value)} {z : Value}

theorem run_look (hT : Try.prog.underlying T = some (.map 34 E)) (hz : (zeroValue E).run Try.prog w = .ok z w) (hb : w.heap[b]? = some (mobj l)) (k : K) :
    (Instr.lookup T (.map (some b)) (kv k) false).run Try.prog w = .ok (((fnd k l 0).map Prod.snd).getD z) w := by
  have hg : (getObj b).run Try.prog w = .ok (mobj l) w := MapKept.run_getObj_map hb
  unfold Instr.lookup
  simp only [Sem.run_bind, run_underlying hT, Result.andThen_ok, hg, mobj, Sem.run_pure, check34]
  rw [run_find]
  simp only [Result.andThen_ok]
  cases h : fnd k l 0 with
  | none => simp [hz]
  | some p => simp

theorem run_put_new (hT : Try.prog.underlying T = some (.map 34 E)) (hb : w.heap[b]? = some (mobj l)) (k : K) (hk : fnd k l 0 = none) (v : Value) :
    (Instr.mapUpdate T (.map (some b)) (kv k) v).run Try.prog w = .ok () (setB w b (mobj (l ++ [(k, v)]))) := by
  have hg : (getObj b).run Try.prog w = .ok (mobj l) w := MapKept.run_getObj_map hb
  have hs : ∀ o, (setObj b o).run Try.prog w = .ok () (setB w b o) := fun o => MapKept.run_setObj_map o hb
  unfold Instr.mapUpdate
  simp only [Sem.run_bind, run_underlying hT, Result.andThen_ok, hg, mobj, check34]
  rw [run_find]
  simp only [Result.andThen_ok, hk, hs]
  rw [ents_append]
  simp [ents]

/-- 'm[k] op= ..', its first half, at a key that is there. -/
theorem run_entry_old (hT : Try.prog.underlying T = some (.map 34 E)) (hb : w.heap[b]? = some (mobj l)) (k : K) (i : Nat) (v : Value) (hk : fnd k l 0 = some (i, v)) :
    (Instr.mapEntry T (.map (some b)) (kv k)).run Try.prog w = .ok (.tuple #[v, .int .i64 i]) w := by
  have hg : (getObj b).run Try.prog w = .ok (mobj l) w := MapKept.run_getObj_map hb
  have hs : ∀ o, (setObj b o).run Try.prog w = .ok () (setB w b o) := fun o => MapKept.run_setObj_map o hb
  have hi := (fnd_some hk).2
  simp only [Nat.sub_zero] at hi
  have hl : i < l.length := (List.getElem?_eq_some_iff.1 hi).1
  have he : (ents l 0)[i]? = some { key := kv k, val := v, born := i } := by rw [ents_getElem?, hi]; simp
  unfold Instr.mapEntry
  simp only [Sem.run_bind, run_underlying hT, Result.andThen_ok, hg, mobj, check34]
  rw [run_find]
  have ha : (ents l 0).toArray[i]? = some { key := kv k, val := v, born := i } := by simpa using he
  simp only [Result.andThen_ok, hk, ha, Option.map_some, Option.getD_some, Sem.run_bind, stays34, hs, Sem.run_pure]
  have hm : (ents l 0).toArray.modify i (fun e => { e with key := kv k }) = (ents l 0).toArray := by
    apply Array.ext_getElem?
    intro j
    rw [Array.getElem?_modify]
    split
    · rename_i e
      subst e
      rw [ha]; rfl
    · rfl
  rw [hm]
  have hw : setB w b (.map (ents l 0).toArray l.length) = w := by
    unfold setB
    have : w.heap.setIfInBounds b (.map (ents l 0).toArray l.length) = w.heap := by
      apply Array.ext_getElem?
      intro j
      rw [Array.getElem?_setIfInBounds]
      split
      · rename_i e
        subst e
        split
        · exact hb.symm
        · rename_i h
          exact absurd (Array.getElem?_eq_some_iff.1 hb).1 h
      · rfl
    rw [this]
  rw [hw]
  rfl

theorem run_entry_new (hT : Try.prog.underlying T = some (.map 34 E)) (hz : (zeroValue E).run Try.prog w = .ok z w) (hb : w.heap[b]? = some (mobj l)) (k : K) (hk : fnd k l 0 = none) :
    (Instr.mapEntry T (.map (some b)) (kv k)).run Try.prog w = .ok (.tuple #[z, .int .i64 l.length]) (setB w b (mobj (l ++ [(k, z)]))) := by
  have hg : (getObj b).run Try.prog w = .ok (mobj l) w := MapKept.run_getObj_map hb
  have hs : ∀ o, (setObj b o).run Try.prog w = .ok () (setB w b o) := fun o => MapKept.run_setObj_map o hb
  unfold Instr.mapEntry
  simp only [Sem.run_bind, run_underlying hT, Result.andThen_ok, hg, mobj, check34]
  rw [run_find]
  simp only [Result.andThen_ok, hk, hz, Sem.run_bind, hs, Sem.run_pure]
  rw [ents_append]
  simp [ents, goInt]

theorem run_entry_store (hb : w.heap[b]? = some (mobj l)) (i : Nat) (k : K) (u : Value) (hi : l[i]? = some (k, u)) (v : Value) :
    (Instr.entryStore T (.map (some b)) (.int .i64 i) v).run Try.prog w = .ok () (setB w b (mobj (l.set i (k, v)))) := by
  have hg : (getObj b).run Try.prog w = .ok (mobj l) w := MapKept.run_getObj_map hb
  have hs : ∀ o, (setObj b o).run Try.prog w = .ok () (setB w b o) := fun o => MapKept.run_setObj_map o hb
  have hl : i < l.length := (List.getElem?_eq_some_iff.1 hi).1
  have hf : (ents l 0).toArray.findIdx? (fun e => (e.born : Int) == (i : Int)) = some i := by
    rw [List.findIdx?_toArray, List.findIdx?_eq_some_iff_getElem]
    refine ⟨by rw [ents_length]; exact hl, ?_, ?_⟩
    · have := ents_getElem? l 0 i
      rw [hi, List.getElem?_eq_getElem (by rw [ents_length]; exact hl)] at this
      simp at this
      rw [this]; simp
    · intro j hj
      have := ents_getElem? l 0 j
      rw [List.getElem?_eq_getElem (by rw [ents_length]; omega), List.getElem?_eq_getElem (by omega : j < l.length)] at this
      simp at this
      rw [this]; simp; omega
  unfold Instr.entryStore
  simp only [Sem.run_bind, Result.andThen_ok, hg, mobj]
  have ha : (asInt (.int .i64 (i : Int))).run Try.prog w = .ok (i : Int) w := rfl
  simp only [ha, Result.andThen_ok, hf, hs]
  congr 3
  · apply Array.ext_getElem?
    intro j
    rw [Array.getElem?_modify]
    simp only [List.getElem?_toArray, ents_getElem?, Nat.zero_add]
    rw [List.getElem?_set]
    split
    · rename_i e
      subst e
      rw [hi]
      simp
    · rfl
  · simp
end

end Go.Proofs.Qxb6000638a.Rch
