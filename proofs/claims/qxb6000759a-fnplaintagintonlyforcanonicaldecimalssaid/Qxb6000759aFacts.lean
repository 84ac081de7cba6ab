import Derived.Test.Qxb6000759aRows
import Derived.ProofKit
namespace Go.Proofs.Qxb6000759a.Facts

/-! The closed facts of a row that read the text of the cut (some 800 signs). Reckoned whole by the kernel they want ten gigabytes each ('String.toList' of a literal is dear there); read word by word they want nothing. -/

theorem words_app (r : List Char) : ∀ w : List Char, (∀ c ∈ w, c ≠ ' ') → wordsSigns (w ++ ' ' :: r) = w :: wordsSigns r
  | [], _ => by simp [wordsSigns]
  | c :: w, h => by
    have ih := words_app r w (fun d hd => h d (List.mem_cons_of_mem _ hd))
    have hc : c ≠ ' ' := h c List.mem_cons_self
    rw [List.cons_append, wordsSigns, ih]
    · exact hc

theorem and_mk {a b : Bool} (h : a = true) (k : b = true) : (a && b) = true := by rw [h, k]; rfl
theorem lit {w : List Char} {s : String} (h : s = String.ofList w) : s.toList = w := by rw [h]; exact String.toList_ofList
theorem s_harness : "harness".toList = ['h', 'a', 'r', 'n', 'e', 's', 's'] := lit rfl
theorem s_ownmain : "ownmain".toList = ['o', 'w', 'n', 'm', 'a', 'i', 'n'] := lit rfl
theorem s_gc : "gc".toList = ['g', 'c'] := lit rfl
theorem s_spec : "spec".toList = ['s', 'p', 'e', 'c'] := lit rfl
theorem s_stop : "stop".toList = ['s', 't', 'o', 'p'] := lit rfl
theorem s_carried : "carried".toList = ['c', 'a', 'r', 'r', 'i', 'e', 'd'] := lit rfl
theorem s_cut : "cut".toList = ['c', 'u', 't'] := lit rfl
theorem s_finals : "finals".toList = ['f', 'i', 'n', 'a', 'l', 's'] := lit rfl
theorem ne_of {w : List Char} {s : String} (h : (String.ofList w == s) = false) : (w == s.toList) = false := by
  apply beq_eq_false_iff_ne.2
  intro e
  rw [e, String.ofList_toList] at h
  simp at h
theorem strip_none (w : List Char) (ws : List (List Char)) : ∀ os : List String, (∀ o ∈ os, (w == o.toList) = false) → stripLifts os (w :: ws) = ([], w :: ws)
  | [], _ => by simp [stripLifts]
  | o :: os, h => by
    rw [stripLifts, h o List.mem_cons_self]
    simpa using strip_none w ws os (fun p hp => h p (List.mem_cons_of_mem _ hp))

def first : List Char := ['h', 'a', 'r', 'n', 'e', 's', 's']
def second : List Char := ['e', 'f', '2', 'c', '9', 'e', '9', '6', '4', 'f', 'b', 'a', '6', '6', '9', 'd', '4', 'c', 'e', 'e', '5', '9', '8', '1', 'f', '1', 'd', '2', 'e', '3', '3', '1', '9', '7', '0', 'c', 'a', 'f', '5', '3', '8', '2', '8', '6', '4', '1', '0', 'f', '7', 'e', '9', '5', '5', '0', '9', '9', 'd', 'c', '4', '7', '3', '7', 'a', '7']
def third : List Char := ['c', 'u', 't']
def rest : List Char := ['a', 't', ' ', 'e', 'x', 'a', 'm', 'p', 'l', 'e', '.', 'c', 'o', 'm', '/', 's', 'i', 'g', 'n', 'a', 'l', 'b', 'o', 'x', '/', 's', 'i', 'g', 'n', 'a', 'l', 'b', 'o', 'x', '/', 'z', 'z', 'l', 'a', 'w', 's', '_', 'i', 'n', 't', 'e', 'r', 'n', 'a', 'l', '_', 'c', 'o', 'n', 'f', 'i', 'g', '_', 'b', '1', '.', 'F', 'n', 'H', 'a', 's', 'D', 'o', 't', 'S', 'e', 'g', 'm', 'e', 'n', 't', 'M', 'a', 't', 'c', 'h', 'e', 's', 'S', 'c', 'a', 'n', 'M', 'o', 'd', 'e', 'l', ' ', 'e', 'x', 'a', 'm', 'p', 'l', 'e', '.', 'c', 'o', 'm', '/', 's', 'i', 'g', 'n', 'a', 'l', 'b', 'o', 'x', '/', 's', 'i', 'g', 'n', 'a', 'l', 'b', 'o', 'x', '/', 'z', 'z', 'l', 'a', 'w', 's', '_', 'i', 'n', 't', 'e', 'r', 'n', 'a', 'l', '_', 'c', 'o', 'n', 'f', 'i', 'g', '_', 'b', '1', '.', 'F', 'n', 'H', 'a', 's', 'D', 'o', 't', 'S', 'e', 'g', 'm', 'e', 'n', 't', 'J', 'o', 'i', 'n', 'I', 's', 'O', 'r', ' ', 'e', 'x', 'a', 'm', 'p', 'l', 'e', '.', 'c', 'o', 'm', '/', 's', 'i', 'g', 'n', 'a', 'l', 'b', 'o', 'x', '/', 's', 'i', 'g', 'n', 'a', 'l', 'b', 'o', 'x', '/', 'z', 'z', 'l', 'a', 'w', 's', '_', 'i', 'n', 't', 'e', 'r', 'n', 'a', 'l', '_', 'c', 'o', 'n', 'f', 'i', 'g', '_', 'b', '1', '.', 'F', 'n', 'H', 'a', 's', 'D', 'o', 't', 'S', 'e', 'g', 'm', 'e', 'n', 't', 'B', 'a', 'c', 'k', 's', 'l', 'a', 's', 'h', 'I', 's', 'S', 'l', 'a', 's', 'h', ' ', 'e', 'x', 'a', 'm', 'p', 'l', 'e', '.', 'c', 'o', 'm', '/', 's', 'i', 'g', 'n', 'a', 'l', 'b', 'o', 'x', '/', 's', 'i', 'g', 'n', 'a', 'l', 'b', 'o', 'x', '/', 'z', 'z', 'l', 'a', 'w', 's', '_', 'i', 'n', 't', 'e', 'r', 'n', 'a', 'l', '_', 'c', 'o', 'n', 'f', 'i', 'g', '_', 'b', '1', '.', 'F', 'n', 'P', 'l', 'a', 'i', 'n', 'T', 'a', 'g', 'A', 'c', 'c', 'e', 'p', 't', 's', 'E', 'v', 'e', 'r', 'y', 'D', 'e', 'c', 'i', 'm', 'a', 'l', 'B', 'e', 'l', 'o', 'w', '1', 'e', '1', '8', ' ', 'e', 'x', 'a', 'm', 'p', 'l', 'e', '.', 'c', 'o', 'm', '/', 's', 'i', 'g', 'n', 'a', 'l', 'b', 'o', 'x', '/', 's', 'i', 'g', 'n', 'a', 'l', 'b', 'o', 'x', '/', 'z', 'z', 'l', 'a', 'w', 's', '_', 'i', 'n', 't', 'e', 'r', 'n', 'a', 'l', '_', 'c', 'o', 'n', 'f', 'i', 'g', '_', 'b', '1', '.', 'F', 'n', 'P', 'l', 'a', 'i', 'n', 'T', 'a', 'g', 'I', 'n', 't', 'O', 'n', 'l', 'y', 'F', 'o', 'r', 'C', 'a', 'n', 'o', 'n', 'i', 'c', 'a', 'l', 'D', 'e', 'c', 'i', 'm', 'a', 'l', 's', ' ', 'e', 'x', 'a', 'm', 'p', 'l', 'e', '.', 'c', 'o', 'm', '/', 's', 'i', 'g', 'n', 'a', 'l', 'b', 'o', 'x', '/', 's', 'i', 'g', 'n', 'a', 'l', 'b', 'o', 'x', '/', 'z', 'z', 'l', 'a', 'w', 's', '_', 'i', 'n', 't', 'e', 'r', 'n', 'a', 'l', '_', 'c', 'o', 'n', 'f', 'i', 'g', '_', 'b', '1', '.', 'F', 'n', 'P', 'l', 'a', 'i', 'n', 'T', 'a', 'g', 'D', 'i', 'g', 'i', 't', 'L', 'e', 'd', 'N', 'o', 'n', 'I', 'n', 't', 'e', 'g', 'e', 'r', 's', ' ', 'e', 'x', 'a', 'm', 'p', 'l', 'e', '.', 'c', 'o', 'm', '/', 's', 'i', 'g', 'n', 'a', 'l', 'b', 'o', 'x', '/', 's', 'i', 'g', 'n', 'a', 'l', 'b', 'o', 'x', '/', 'z', 'z', 'l', 'a', 'w', 's', '_', 'i', 'n', 't', 'e', 'r', 'n', 'a', 'l', '_', 'c', 'o', 'n', 'f', 'i', 'g', '_', 'b', '1', '.', 'F', 'n', 'V', 'a', 'l', 'u', 'e', 'E', 'n', 'd', 'S', 'p', 'a', 'n', 's', 'E', 'n', 'c', 'o', 'd', 'e', 'd', 'V', 'a', 'l', 'u', 'e', ' ', 'e', 'x', 'a', 'm', 'p', 'l', 'e', '.', 'c', 'o', 'm', '/', 's', 'i', 'g', 'n', 'a', 'l', 'b', 'o', 'x', '/', 's', 'i', 'g', 'n', 'a', 'l', 'b', 'o', 'x', '/', 'z', 'z', 'l', 'a', 'w', 's', '_', 'i', 'n', 't', 'e', 'r', 'n', 'a', 'l', '_', 'c', 'o', 'n', 'f', 'i', 'g', '_', 'b', '1', '.', 'F', 'n', 'V', 'a', 'l', 'u', 'e', 'E', 'n', 'd', 'S', 't', 'e', 'p', 's', 'T', 'h', 'r', 'o', 'u', 'g', 'h', 'A', 'r', 'r', 'a', 'y', 'E', 'l', 'e', 'm', 'e', 'n', 't', 's']
def signs : List Char := first ++ ' ' :: (second ++ ' ' :: (third ++ ' ' :: rest))

theorem cut_lifts : ∀ o ∈ liftWords, (third == o.toList) = false := by
  intro o ho
  apply ne_of
  revert o
  decide

theorem order : Try.prog.initOrder = String.ofList signs := by kernel_rfl
theorem told : Try.prog.initOrder.toList = signs := by rw [order]; exact String.toList_ofList
theorem words : wordsSigns Try.prog.initOrder.toList = first :: second :: third :: wordsSigns rest := by
  rw [told]
  unfold signs
  rw [words_app _ first (by decide), words_app _ second (by decide), words_app _ third (by decide)]
theorem behind : behindMainWord (wordsSigns Try.prog.initOrder.toList) = third :: wordsSigns rest := by
  rw [words, behindMainWord, s_harness, if_pos (by kernel_rfl)]

theorem me (P : Program) (x : List Char) (ws : List (List Char)) (h : behindMainWord (wordsSigns P.initOrder.toList) = x :: ws) (hs : stripLifts liftWords (x :: ws) = ([], x :: ws)) (hx : x = "cut".toList) (h1 : P.laysLater = false) (h2 : P.bearsReflect = false) (h3 : P.doorFits [] = true) : P.mayEnter = true := by
  unfold Program.mayEnter
  rw [h]
  dsimp only
  rw [hs]
  dsimp only
  simp [h1, h2, h3, hx]
theorem lf (P : Program) (x : List Char) (ws : List (List Char)) (h : behindMainWord (wordsSigns P.initOrder.toList) = x :: ws) (hs : stripLifts liftWords (x :: ws) = ([], x :: ws)) (hx : (x == "carried".toList) = false) : P.liftsFinal = false := by
  have h0 : P.headLifts = [] := by
    unfold Program.headLifts
    rw [h, hs]
    simp
  unfold Program.liftsFinal
  rw [h, h0]
  have : (some x == some "carried".toList) = false := hx
  dsimp only
  rw [List.head?_cons, this]
  rfl
theorem mk (P : Program) (x : List Char) (ws : List (List Char)) (h : behindMainWord (wordsSigns P.initOrder.toList) = x :: ws) (hx : x = "cut".toList) (h1 : (x == "gc".toList) = false) (h2 : (x == "spec".toList) = false) : P.make = some .cut := by
  unfold Program.make
  rw [h]
  dsimp only
  rw [h1, h2]
  simp [hx]

theorem mayEnter : Try.prog.mayEnter = true := me Try.prog third (wordsSigns rest) behind (strip_none third (wordsSigns rest) liftWords cut_lifts) s_cut.symm (by kernel_rfl) (by kernel_rfl) (by kernel_rfl)
theorem liftsFinal : Try.prog.liftsFinal = false := lf Try.prog third (wordsSigns rest) behind (strip_none third (wordsSigns rest) liftWords cut_lifts) (by rw [s_carried]; decide)
theorem make : Try.prog.make = some .cut := mk Try.prog third (wordsSigns rest) behind s_cut.symm (by rw [s_gc]; decide) (by rw [s_spec]; decide)
end Go.Proofs.Qxb6000759a.Facts
