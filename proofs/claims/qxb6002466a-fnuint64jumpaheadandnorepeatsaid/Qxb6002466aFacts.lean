import Derived.Test.Qxb6002466aRows
import Derived.ProofKit
namespace Go.Proofs.Qxb6002466a.Facts

/-! The closed facts of a row that read the text of the cut (some 800 signs). Reckoned whole by the kernel they want ten gigabytes each ('String.toList' of a literal is dear there); read word by word they want nothing. -/

theorem words_app (r : List Char) : ∀ w : List Char, (∀ c ∈ w, c ≠ ' ') → wordsSigns (w ++ ' ' :: r) = w :: wordsSigns r
  | [], _ => by simp [wordsSigns]
  | c :: w, h => by
    have ih := words_app r w (fun d hd => h d (List.mem_cons_of_mem _ hd))
    have hc : c ≠ ' ' := h c List.mem_cons_self
    rw [List.cons_append, wordsSigns, ih]
    · exact hc

theorem and_mk {a b : Bool} (h : a = true) (k : b = true) : (a && b) = true := by rw [h, k]; rfl
theorem lit {w : List Char} {s : String} (h : s = String.ofList w) : s.toList = w := by rw [h]; exact String.toList_ofList
theorem s_harness : "harness".toList = ['h', 'a', 'r', 'n', 'e', 's', 's'] := lit rfl
theorem s_ownmain : "ownmain".toList = ['o', 'w', 'n', 'm', 'a', 'i', 'n'] := lit rfl
theorem s_gc : "gc".toList = ['g', 'c'] := lit rfl
theorem s_spec : "spec".toList = ['s', 'p', 'e', 'c'] := lit rfl
theorem s_stop : "stop".toList = ['s', 't', 'o', 'p'] := lit rfl
theorem s_carried : "carried".toList = ['c', 'a', 'r', 'r', 'i', 'e', 'd'] := lit rfl
theorem s_cut : "cut".toList = ['c', 'u', 't'] := lit rfl
theorem s_finals : "finals".toList = ['f', 'i', 'n', 'a', 'l', 's'] := lit rfl
theorem ne_of {w : List Char} {s : String} (h : (String.ofList w == s) = false) : (w == s.toList) = false := by
  apply beq_eq_false_iff_ne.2
  intro e
  rw [e, String.ofList_toList] at h
  simp at h
theorem strip_none (w : List Char) (ws : List (List Char)) : ∀ os : List String, (∀ o ∈ os, (w == o.toList) = false) → stripLifts os (w :: ws) = ([], w :: ws)
  | [], _ => by simp [stripLifts]
  | o :: os, h => by
    rw [stripLifts, h o List.mem_cons_self]
    simpa using strip_none w ws os (fun p hp => h p (List.mem_cons_of_mem _ hp))

def first : List Char := ['h', 'a', 'r', 'n', 'e', 's', 's']
def second : List Char := ['6', 'a', 'f', '8', '3', 'f', '3', 'b', 'a', '8', '8', '5', '8', '1', 'b', '2', 'e', 'a', '4', '1', '8', 'b', 'e', 'f', 'c', '3', 'b', 'b', 'e', '9', '0', '0', '0', 'b', '8', '4', 'e', '2', '9', '6', '6', '7', '8', 'f', '6', '8', '3', 'e', 'e', '0', 'f', 'a', '3', '9', '6', '6', 'a', '1', 'd', '4', '6', '1', 'd', 'a']
def third : List Char := ['c', 'u', 't']
def rest : List Char := ['a', 't', ' ', 'e', 'x', 'a', 'm', 'p', 'l', 'e', '.', 'c', 'o', 'm', '/', 'u', 'n', 'd', 'e', 'r', 'g', 'l', 'a', 's', 's', '/', 'u', 'n', 'd', 'e', 'r', 'g', 'l', 'a', 's', 's', '/', 'z', 'z', 'l', 'a', 'w', 's', '_', 'o', 's', 'f', 's', '_', 'g', '1', '.', 'F', 'n', 'B', 'e', 'l', 'o', 'w', 'M', 'a', 't', 'c', 'h', 'e', 's', 'E', 'l', 'e', 'm', 'e', 'n', 't', 'P', 'r', 'e', 'f', 'i', 'x', ' ', 'e', 'x', 'a', 'm', 'p', 'l', 'e', '.', 'c', 'o', 'm', '/', 'u', 'n', 'd', 'e', 'r', 'g', 'l', 'a', 's', 's', '/', 'u', 'n', 'd', 'e', 'r', 'g', 'l', 'a', 's', 's', '/', 'z', 'z', 'l', 'a', 'w', 's', '_', 'o', 's', 'f', 's', '_', 'g', '1', '.', 'F', 'n', 'B', 'e', 'l', 'o', 'w', 'T', 'o', 't', 'a', 'l', 'A', 'n', 'd', 'R', 'e', 'f', 'l', 'e', 'x', 'i', 'v', 'e', ' ', 'e', 'x', 'a', 'm', 'p', 'l', 'e', '.', 'c', 'o', 'm', '/', 'u', 'n', 'd', 'e', 'r', 'g', 'l', 'a', 's', 's', '/', 'u', 'n', 'd', 'e', 'r', 'g', 'l', 'a', 's', 's', '/', 'z', 'z', 'l', 'a', 'w', 's', '_', 'o', 's', 'f', 's', '_', 'g', '1', '.', 'F', 'n', 'B', 'e', 'l', 'o', 'w', 'I', 'n', 'v', 'e', 'r', 't', 's', 'J', 'o', 'i', 'n', ' ', 'e', 'x', 'a', 'm', 'p', 'l', 'e', '.', 'c', 'o', 'm', '/', 'u', 'n', 'd', 'e', 'r', 'g', 'l', 'a', 's', 's', '/', 'u', 'n', 'd', 'e', 'r', 'g', 'l', 'a', 's', 's', '/', 'z', 'z', 'l', 'a', 'w', 's', '_', 'o', 's', 'f', 's', '_', 'g', '1', '.', 'F', 'n', 'B', 'e', 'l', 'o', 'w', 'T', 'r', 'a', 'n', 's', 'i', 't', 'i', 'v', 'e', ' ', 'e', 'x', 'a', 'm', 'p', 'l', 'e', '.', 'c', 'o', 'm', '/', 'u', 'n', 'd', 'e', 'r', 'g', 'l', 'a', 's', 's', '/', 'u', 'n', 'd', 'e', 'r', 'g', 'l', 'a', 's', 's', '/', 'z', 'z', 'l', 'a', 'w', 's', '_', 'o', 's', 'f', 's', '_', 'g', '1', '.', 'F', 'n', 'B', 'a', 's', 'e', 'N', 'a', 'm', 'e', 'C', 'h', 'i', 'l', 'd', 'R', 'o', 'u', 'n', 'd', 'T', 'r', 'i', 'p', ' ', 'e', 'x', 'a', 'm', 'p', 'l', 'e', '.', 'c', 'o', 'm', '/', 'u', 'n', 'd', 'e', 'r', 'g', 'l', 'a', 's', 's', '/', 'u', 'n', 'd', 'e', 'r', 'g', 'l', 'a', 's', 's', '/', 'z', 'z', 'l', 'a', 'w', 's', '_', 'r', 'o', 'o', 't', '_', 'g', '1', '.', 'F', 'n', 'C', 'l', 'e', 'a', 'n', 'M', 'a', 't', 'c', 'h', 'e', 's', 'S', 't', 'a', 'c', 'k', 'M', 'o', 'd', 'e', 'l', ' ', 'e', 'x', 'a', 'm', 'p', 'l', 'e', '.', 'c', 'o', 'm', '/', 'u', 'n', 'd', 'e', 'r', 'g', 'l', 'a', 's', 's', '/', 'u', 'n', 'd', 'e', 'r', 'g', 'l', 'a', 's', 's', '/', 'z', 'z', 'l', 'a', 'w', 's', '_', 'r', 'o', 'o', 't', '_', 'g', '1', '.', 'F', 'n', 'C', 'l', 'e', 'a', 'n', 'I', 'd', 'e', 'm', 'p', 'o', 't', 'e', 'n', 't', ' ', 'e', 'x', 'a', 'm', 'p', 'l', 'e', '.', 'c', 'o', 'm', '/', 'u', 'n', 'd', 'e', 'r', 'g', 'l', 'a', 's', 's', '/', 'u', 'n', 'd', 'e', 'r', 'g', 'l', 'a', 's', 's', '/', 'z', 'z', 'l', 'a', 'w', 's', '_', 'r', 'o', 'o', 't', '_', 'g', '1', '.', 'F', 'n', 'C', 'l', 'e', 'a', 'n', 'R', 'o', 'o', 't', 's', 'R', 'e', 'l', 'a', 't', 'i', 'v', 'e', ' ', 'e', 'x', 'a', 'm', 'p', 'l', 'e', '.', 'c', 'o', 'm', '/', 'u', 'n', 'd', 'e', 'r', 'g', 'l', 'a', 's', 's', '/', 'u', 'n', 'd', 'e', 'r', 'g', 'l', 'a', 's', 's', '/', 'z', 'z', 'l', 'a', 'w', 's', '_', 's', 'c', 'r', 'i', 'p', 't', '_', 'g', '1', '.', 'F', 'n', 'U', 'i', 'n', 't', '6', '4', 'U', 'n', 'd', 'o', 'e', 's', 'T', 'o', 'S', 't', 'a', 't', 'e', ' ', 'e', 'x', 'a', 'm', 'p', 'l', 'e', '.', 'c', 'o', 'm', '/', 'u', 'n', 'd', 'e', 'r', 'g', 'l', 'a', 's', 's', '/', 'u', 'n', 'd', 'e', 'r', 'g', 'l', 'a', 's', 's', '/', 'z', 'z', 'l', 'a', 'w', 's', '_', 's', 'c', 'r', 'i', 'p', 't', '_', 'g', '1', '.', 'F', 'n', 'U', 'i', 'n', 't', '6', '4', 'J', 'u', 'm', 'p', 'A', 'h', 'e', 'a', 'd', 'A', 'n', 'd', 'N', 'o', 'R', 'e', 'p', 'e', 'a', 't']
def signs : List Char := first ++ ' ' :: (second ++ ' ' :: (third ++ ' ' :: rest))

theorem cut_lifts : ∀ o ∈ liftWords, (third == o.toList) = false := by
  intro o ho
  apply ne_of
  revert o
  decide

theorem order : Try.prog.initOrder = String.ofList signs := by kernel_rfl
theorem told : Try.prog.initOrder.toList = signs := by rw [order]; exact String.toList_ofList
theorem words : wordsSigns Try.prog.initOrder.toList = first :: second :: third :: wordsSigns rest := by
  rw [told]
  unfold signs
  rw [words_app _ first (by decide), words_app _ second (by decide), words_app _ third (by decide)]
theorem behind : behindMainWord (wordsSigns Try.prog.initOrder.toList) = third :: wordsSigns rest := by
  rw [words, behindMainWord, s_harness, if_pos (by kernel_rfl)]

theorem me (P : Program) (x : List Char) (ws : List (List Char)) (h : behindMainWord (wordsSigns P.initOrder.toList) = x :: ws) (hs : stripLifts liftWords (x :: ws) = ([], x :: ws)) (hx : x = "cut".toList) (h1 : P.laysLater = false) (h2 : P.bearsReflect = false) (h3 : P.doorFits [] = true) : P.mayEnter = true := by
  unfold Program.mayEnter
  rw [h]
  dsimp only
  rw [hs]
  dsimp only
  simp [h1, h2, h3, hx]
theorem lf (P : Program) (x : List Char) (ws : List (List Char)) (h : behindMainWord (wordsSigns P.initOrder.toList) = x :: ws) (hs : stripLifts liftWords (x :: ws) = ([], x :: ws)) (hx : (x == "carried".toList) = false) : P.liftsFinal = false := by
  have h0 : P.headLifts = [] := by
    unfold Program.headLifts
    rw [h, hs]
    simp
  unfold Program.liftsFinal
  rw [h, h0]
  have : (some x == some "carried".toList) = false := hx
  dsimp only
  rw [List.head?_cons, this]
  rfl
theorem mk (P : Program) (x : List Char) (ws : List (List Char)) (h : behindMainWord (wordsSigns P.initOrder.toList) = x :: ws) (hx : x = "cut".toList) (h1 : (x == "gc".toList) = false) (h2 : (x == "spec".toList) = false) : P.make = some .cut := by
  unfold Program.make
  rw [h]
  dsimp only
  rw [h1, h2]
  simp [hx]

theorem mayEnter : Try.prog.mayEnter = true := me Try.prog third (wordsSigns rest) behind (strip_none third (wordsSigns rest) liftWords cut_lifts) s_cut.symm (by kernel_rfl) (by kernel_rfl) (by kernel_rfl)
theorem liftsFinal : Try.prog.liftsFinal = false := lf Try.prog third (wordsSigns rest) behind (strip_none third (wordsSigns rest) liftWords cut_lifts) (by rw [s_carried]; decide)
theorem make : Try.prog.make = some .cut := mk Try.prog third (wordsSigns rest) behind s_cut.symm (by rw [s_gc]; decide) (by rw [s_spec]; decide)
end Go.Proofs.Qxb6002466a.Facts
