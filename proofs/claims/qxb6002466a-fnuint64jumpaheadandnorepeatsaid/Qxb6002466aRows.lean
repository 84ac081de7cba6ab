/-
  No cell of these rows narrows 'for every input' (looked for: loops, veiled, ifaces, maps, wideKeys, modest, calm, conditions, laid).
  DERIVED. THE GIVEN ROWS OF THIS SEAT. 10 by the template 'for every input the law returns true; each argument reads behind the call as it read before'; 0 by the template 'total and deterministic' (their statements: Qxb6002466aTotals.lean).
  GIVEN WITH THE SEED: the statements are not yours to turn. If you find one false, say at which input.
  Laid BY PROGRAM, IN A SANDBOX (cutbox-rows.mjs): the forced cells as the released guide's own fill.sh prints them over the translation 3032f80621e280f1… (all of the seat's roots in one cut). By AI agents, Wed Nov 11 2026. No macro, syntax, notation, axiom, sorry.
-/
import Derived.Test.Qxb6002466aChecked
import GoSem.Claim
import GoSem.ClaimJoined
import GoSem.ClaimMapViews
import Derived.JoinedTies
import Derived.KernelRfl
namespace Go.Proofs.Qxb6002466a
/- THE CELL 'sum', in the pinned program and in every row, IS THE sha256 OF THE DUMP (.gsa) THAT Qxb6002466aProg.lean LOADS. Nothing in Lean hashes anything: it is a label: what it is worth is what the hold of that sum in a sandbox is worth. -/
noncomputable def Try.pinned : Pinned := { name := "qxb6002466a", sum := "3032f80621e280f18b9c00548692787251b84a90058523ac68c9bb98bb1d3040", checked := Try.checked }
namespace Rows
def none {H : Type} : Left H := { results := [], args := [] }

/-- 'zzlaws_osfs_g1.FnBelowMatchesElementPrefix': WHATEVER THE INPUT: true; the input reads as it did. -/
def fnBelowMatchesElementPrefixSpec : ChangeSpec := { name := "fnBelowMatchesElementPrefix", fn := fun _ => fun
  | [d1, d2] => { results := [.lit (.bool true)], args := [d1, d2] }
  | _ => none }
def fnBelowMatchesElementPrefixRow : OpenClaim := { program := "qxb6002466a", sum := "3032f80621e280f18b9c00548692787251b84a90058523ac68c9bb98bb1d3040", func := "example.com/underglass/underglass/zzlaws_osfs_g1.FnBelowMatchesElementPrefix", spec := "fnBelowMatchesElementPrefix", apart := false }
def FnBelowMatchesElementPrefixSaid : Prop := fnBelowMatchesElementPrefixRow.holds Try.pinned (OpenSpec.ofChange fnBelowMatchesElementPrefixSpec)

/-- ITS FALSE NEIGHBOUR: 'it returns false'. Refute it at one input. -/
def fnBelowMatchesElementPrefixWrong : ChangeSpec := { name := "fnBelowMatchesElementPrefix", fn := fun _ => fun
  | [d1, d2] => { results := [.lit (.bool false)], args := [d1, d2] }
  | _ => none }
def FnBelowMatchesElementPrefixWrongFalsely : Prop := fnBelowMatchesElementPrefixRow.holds Try.pinned (OpenSpec.ofChange fnBelowMatchesElementPrefixWrong)

/-- 'zzlaws_osfs_g1.FnBelowTotalAndReflexive': WHATEVER THE INPUT: true; the input reads as it did. -/
def fnBelowTotalAndReflexiveSpec : ChangeSpec := { name := "fnBelowTotalAndReflexive", fn := fun _ => fun
  | [d1, d2] => { results := [.lit (.bool true)], args := [d1, d2] }
  | _ => none }
def fnBelowTotalAndReflexiveRow : OpenClaim := { program := "qxb6002466a", sum := "3032f80621e280f18b9c00548692787251b84a90058523ac68c9bb98bb1d3040", func := "example.com/underglass/underglass/zzlaws_osfs_g1.FnBelowTotalAndReflexive", spec := "fnBelowTotalAndReflexive", apart := false }
def FnBelowTotalAndReflexiveSaid : Prop := fnBelowTotalAndReflexiveRow.holds Try.pinned (OpenSpec.ofChange fnBelowTotalAndReflexiveSpec)

/-- ITS FALSE NEIGHBOUR: 'it returns false'. Refute it at one input. -/
def fnBelowTotalAndReflexiveWrong : ChangeSpec := { name := "fnBelowTotalAndReflexive", fn := fun _ => fun
  | [d1, d2] => { results := [.lit (.bool false)], args := [d1, d2] }
  | _ => none }
def FnBelowTotalAndReflexiveWrongFalsely : Prop := fnBelowTotalAndReflexiveRow.holds Try.pinned (OpenSpec.ofChange fnBelowTotalAndReflexiveWrong)

/-- 'zzlaws_osfs_g1.FnBelowInvertsJoin': WHATEVER THE INPUT: true; the input reads as it did. -/
def fnBelowInvertsJoinSpec : ChangeSpec := { name := "fnBelowInvertsJoin", fn := fun _ => fun
  | [d1, d2] => { results := [.lit (.bool true)], args := [d1, d2] }
  | _ => none }
def fnBelowInvertsJoinRow : OpenClaim := { program := "qxb6002466a", sum := "3032f80621e280f18b9c00548692787251b84a90058523ac68c9bb98bb1d3040", func := "example.com/underglass/underglass/zzlaws_osfs_g1.FnBelowInvertsJoin", spec := "fnBelowInvertsJoin", apart := false }
def FnBelowInvertsJoinSaid : Prop := fnBelowInvertsJoinRow.holds Try.pinned (OpenSpec.ofChange fnBelowInvertsJoinSpec)

/-- ITS FALSE NEIGHBOUR: 'it returns false'. Refute it at one input. -/
def fnBelowInvertsJoinWrong : ChangeSpec := { name := "fnBelowInvertsJoin", fn := fun _ => fun
  | [d1, d2] => { results := [.lit (.bool false)], args := [d1, d2] }
  | _ => none }
def FnBelowInvertsJoinWrongFalsely : Prop := fnBelowInvertsJoinRow.holds Try.pinned (OpenSpec.ofChange fnBelowInvertsJoinWrong)

/-- 'zzlaws_osfs_g1.FnBelowTransitive': WHATEVER THE INPUT: true; the input reads as it did. -/
def fnBelowTransitiveSpec : ChangeSpec := { name := "fnBelowTransitive", fn := fun _ => fun
  | [d1, d2, d3] => { results := [.lit (.bool true)], args := [d1, d2, d3] }
  | _ => none }
def fnBelowTransitiveRow : OpenClaim := { program := "qxb6002466a", sum := "3032f80621e280f18b9c00548692787251b84a90058523ac68c9bb98bb1d3040", func := "example.com/underglass/underglass/zzlaws_osfs_g1.FnBelowTransitive", spec := "fnBelowTransitive", apart := false }
def FnBelowTransitiveSaid : Prop := fnBelowTransitiveRow.holds Try.pinned (OpenSpec.ofChange fnBelowTransitiveSpec)

/-- ITS FALSE NEIGHBOUR: 'it returns false'. Refute it at one input. -/
def fnBelowTransitiveWrong : ChangeSpec := { name := "fnBelowTransitive", fn := fun _ => fun
  | [d1, d2, d3] => { results := [.lit (.bool false)], args := [d1, d2, d3] }
  | _ => none }
def FnBelowTransitiveWrongFalsely : Prop := fnBelowTransitiveRow.holds Try.pinned (OpenSpec.ofChange fnBelowTransitiveWrong)

/-- 'zzlaws_osfs_g1.FnBaseNameChildRoundTrip': WHATEVER THE INPUT: true; the input reads as it did. -/
def fnBaseNameChildRoundTripSpec : ChangeSpec := { name := "fnBaseNameChildRoundTrip", fn := fun _ => fun
  | [d1, d2] => { results := [.lit (.bool true)], args := [d1, d2] }
  | _ => none }
def fnBaseNameChildRoundTripRow : OpenClaim := { program := "qxb6002466a", sum := "3032f80621e280f18b9c00548692787251b84a90058523ac68c9bb98bb1d3040", func := "example.com/underglass/underglass/zzlaws_osfs_g1.FnBaseNameChildRoundTrip", spec := "fnBaseNameChildRoundTrip", apart := false }
def FnBaseNameChildRoundTripSaid : Prop := fnBaseNameChildRoundTripRow.holds Try.pinned (OpenSpec.ofChange fnBaseNameChildRoundTripSpec)

/-- ITS FALSE NEIGHBOUR: 'it returns false'. Refute it at one input. -/
def fnBaseNameChildRoundTripWrong : ChangeSpec := { name := "fnBaseNameChildRoundTrip", fn := fun _ => fun
  | [d1, d2] => { results := [.lit (.bool false)], args := [d1, d2] }
  | _ => none }
def FnBaseNameChildRoundTripWrongFalsely : Prop := fnBaseNameChildRoundTripRow.holds Try.pinned (OpenSpec.ofChange fnBaseNameChildRoundTripWrong)

/-- 'zzlaws_root_g1.FnCleanMatchesStackModel': WHATEVER THE INPUT: true; the input reads as it did. -/
def fnCleanMatchesStackModelSpec : ChangeSpec := { name := "fnCleanMatchesStackModel", fn := fun _ => fun
  | [d] => { results := [.lit (.bool true)], args := [d] }
  | _ => none }
def fnCleanMatchesStackModelRow : OpenClaim := { program := "qxb6002466a", sum := "3032f80621e280f18b9c00548692787251b84a90058523ac68c9bb98bb1d3040", func := "example.com/underglass/underglass/zzlaws_root_g1.FnCleanMatchesStackModel", spec := "fnCleanMatchesStackModel", apart := false }
def FnCleanMatchesStackModelSaid : Prop := fnCleanMatchesStackModelRow.holds Try.pinned (OpenSpec.ofChange fnCleanMatchesStackModelSpec)

/-- ITS FALSE NEIGHBOUR: 'it returns false'. Refute it at one input. -/
def fnCleanMatchesStackModelWrong : ChangeSpec := { name := "fnCleanMatchesStackModel", fn := fun _ => fun
  | [d] => { results := [.lit (.bool false)], args := [d] }
  | _ => none }
def FnCleanMatchesStackModelWrongFalsely : Prop := fnCleanMatchesStackModelRow.holds Try.pinned (OpenSpec.ofChange fnCleanMatchesStackModelWrong)

/-- 'zzlaws_root_g1.FnCleanIdempotent': WHATEVER THE INPUT: true; the input reads as it did. -/
def fnCleanIdempotentSpec : ChangeSpec := { name := "fnCleanIdempotent", fn := fun _ => fun
  | [d] => { results := [.lit (.bool true)], args := [d] }
  | _ => none }
def fnCleanIdempotentRow : OpenClaim := { program := "qxb6002466a", sum := "3032f80621e280f18b9c00548692787251b84a90058523ac68c9bb98bb1d3040", func := "example.com/underglass/underglass/zzlaws_root_g1.FnCleanIdempotent", spec := "fnCleanIdempotent", apart := false }
def FnCleanIdempotentSaid : Prop := fnCleanIdempotentRow.holds Try.pinned (OpenSpec.ofChange fnCleanIdempotentSpec)

/-- ITS FALSE NEIGHBOUR: 'it returns false'. Refute it at one input. -/
def fnCleanIdempotentWrong : ChangeSpec := { name := "fnCleanIdempotent", fn := fun _ => fun
  | [d] => { results := [.lit (.bool false)], args := [d] }
  | _ => none }
def FnCleanIdempotentWrongFalsely : Prop := fnCleanIdempotentRow.holds Try.pinned (OpenSpec.ofChange fnCleanIdempotentWrong)

/-- 'zzlaws_root_g1.FnCleanRootsRelative': WHATEVER THE INPUT: true; the input reads as it did. -/
def fnCleanRootsRelativeSpec : ChangeSpec := { name := "fnCleanRootsRelative", fn := fun _ => fun
  | [d] => { results := [.lit (.bool true)], args := [d] }
  | _ => none }
def fnCleanRootsRelativeRow : OpenClaim := { program := "qxb6002466a", sum := "3032f80621e280f18b9c00548692787251b84a90058523ac68c9bb98bb1d3040", func := "example.com/underglass/underglass/zzlaws_root_g1.FnCleanRootsRelative", spec := "fnCleanRootsRelative", apart := false }
def FnCleanRootsRelativeSaid : Prop := fnCleanRootsRelativeRow.holds Try.pinned (OpenSpec.ofChange fnCleanRootsRelativeSpec)

/-- ITS FALSE NEIGHBOUR: 'it returns false'. Refute it at one input. -/
def fnCleanRootsRelativeWrong : ChangeSpec := { name := "fnCleanRootsRelative", fn := fun _ => fun
  | [d] => { results := [.lit (.bool false)], args := [d] }
  | _ => none }
def FnCleanRootsRelativeWrongFalsely : Prop := fnCleanRootsRelativeRow.holds Try.pinned (OpenSpec.ofChange fnCleanRootsRelativeWrong)

/-- 'zzlaws_script_g1.FnUint64UndoesToState': WHATEVER THE INPUT: true; the input reads as it did. -/
def fnUint64UndoesToStateSpec : ChangeSpec := { name := "fnUint64UndoesToState", fn := fun _ => fun
  | [d] => { results := [.lit (.bool true)], args := [d] }
  | _ => none }
def fnUint64UndoesToStateRow : OpenClaim := { program := "qxb6002466a", sum := "3032f80621e280f18b9c00548692787251b84a90058523ac68c9bb98bb1d3040", func := "example.com/underglass/underglass/zzlaws_script_g1.FnUint64UndoesToState", spec := "fnUint64UndoesToState", apart := false }
def FnUint64UndoesToStateSaid : Prop := fnUint64UndoesToStateRow.holds Try.pinned (OpenSpec.ofChange fnUint64UndoesToStateSpec)

/-- ITS FALSE NEIGHBOUR: 'it returns false'. Refute it at one input. -/
def fnUint64UndoesToStateWrong : ChangeSpec := { name := "fnUint64UndoesToState", fn := fun _ => fun
  | [d] => { results := [.lit (.bool false)], args := [d] }
  | _ => none }
def FnUint64UndoesToStateWrongFalsely : Prop := fnUint64UndoesToStateRow.holds Try.pinned (OpenSpec.ofChange fnUint64UndoesToStateWrong)

/-- 'zzlaws_script_g1.FnUint64JumpAheadAndNoRepeat': WHATEVER THE INPUT: true; the input reads as it did. -/
def fnUint64JumpAheadAndNoRepeatSpec : ChangeSpec := { name := "fnUint64JumpAheadAndNoRepeat", fn := fun _ => fun
  | [d1, d2] => { results := [.lit (.bool true)], args := [d1, d2] }
  | _ => none }
def fnUint64JumpAheadAndNoRepeatRow : OpenClaim := { program := "qxb6002466a", sum := "3032f80621e280f18b9c00548692787251b84a90058523ac68c9bb98bb1d3040", func := "example.com/underglass/underglass/zzlaws_script_g1.FnUint64JumpAheadAndNoRepeat", spec := "fnUint64JumpAheadAndNoRepeat", apart := false }
def FnUint64JumpAheadAndNoRepeatSaid : Prop := fnUint64JumpAheadAndNoRepeatRow.holds Try.pinned (OpenSpec.ofChange fnUint64JumpAheadAndNoRepeatSpec)

/-- ITS FALSE NEIGHBOUR: 'it returns false'. Refute it at one input. -/
def fnUint64JumpAheadAndNoRepeatWrong : ChangeSpec := { name := "fnUint64JumpAheadAndNoRepeat", fn := fun _ => fun
  | [d1, d2] => { results := [.lit (.bool false)], args := [d1, d2] }
  | _ => none }
def FnUint64JumpAheadAndNoRepeatWrongFalsely : Prop := fnUint64JumpAheadAndNoRepeatRow.holds Try.pinned (OpenSpec.ofChange fnUint64JumpAheadAndNoRepeatWrong)

end Rows
end Go.Proofs.Qxb6002466a
