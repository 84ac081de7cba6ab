/-
  No cell of these rows narrows 'for every input' (looked for: loops, veiled, ifaces, maps, wideKeys, modest, calm, conditions, laid).
  DERIVED. THE GIVEN ROWS OF THIS SEAT. 5 by the template 'for every input the law returns true; each argument reads behind the call as it read before'; 0 by the template 'total and deterministic' (their statements: Qxb6000638aTotals.lean).
  GIVEN WITH THE SEED: the statements are not yours to turn. If you find one false, say at which input.
  Laid BY PROGRAM, IN A SANDBOX (cutbox-rows.mjs): the forced cells as the released guide's own fill.sh prints them over the translation f33f21cb06990a3c… (all of the seat's roots in one cut). By AI agents, Wed Nov 11 2026. No macro, syntax, notation, axiom, sorry.
-/
import Derived.Test.Qxb6000638aChecked
import GoSem.Claim
import GoSem.ClaimJoined
import GoSem.ClaimMapViews
import Derived.JoinedTies
import Derived.KernelRfl
namespace Go.Proofs.Qxb6000638a
/- THE CELL 'sum', in the pinned program and in every row, IS THE sha256 OF THE DUMP (.gsa) THAT Qxb6000638aProg.lean LOADS. Nothing in Lean hashes anything: it is a label: what it is worth is what the hold of that sum in a sandbox is worth. -/
noncomputable def Try.pinned : Pinned := { name := "qxb6000638a", sum := "f33f21cb06990a3cfc7ced108db052473fc0e009bc09d830476da8aaa91a673d", checked := Try.checked }
namespace Rows
def none {H : Type} : Left H := { results := [], args := [] }

/-- 'zzlaws_pkg_metadata_b1.FnReachedIsTheClosureOfTheTags': WHATEVER THE INPUT: true; the input reads as it did. -/
def fnReachedIsTheClosureOfTheTagsSpec : ChangeSpec := { name := "fnReachedIsTheClosureOfTheTags", fn := fun _ => fun
  | [d1, d2] => { results := [.lit (.bool true)], args := [d1, d2] }
  | _ => none }
def fnReachedIsTheClosureOfTheTagsRow : OpenClaim := { program := "qxb6000638a", sum := "f33f21cb06990a3cfc7ced108db052473fc0e009bc09d830476da8aaa91a673d", func := "example.com/tagstone/tagstone/zzlaws_pkg_metadata_b1.FnReachedIsTheClosureOfTheTags", spec := "fnReachedIsTheClosureOfTheTags", plainKeys := false, apart := false }
def FnReachedIsTheClosureOfTheTagsSaid : Prop := fnReachedIsTheClosureOfTheTagsRow.holds Try.pinned (OpenSpec.ofChange fnReachedIsTheClosureOfTheTagsSpec)

/-- ITS FALSE NEIGHBOUR: 'it returns false'. Refute it at one input. -/
def fnReachedIsTheClosureOfTheTagsWrong : ChangeSpec := { name := "fnReachedIsTheClosureOfTheTags", fn := fun _ => fun
  | [d1, d2] => { results := [.lit (.bool false)], args := [d1, d2] }
  | _ => none }
def FnReachedIsTheClosureOfTheTagsWrongFalsely : Prop := fnReachedIsTheClosureOfTheTagsRow.holds Try.pinned (OpenSpec.ofChange fnReachedIsTheClosureOfTheTagsWrong)

/-- 'zzlaws_pkg_metadata_b1.FnReachedGrowsWithMoreTagsAndKeeps': WHATEVER THE INPUT: true; the input reads as it did. -/
def fnReachedGrowsWithMoreTagsAndKeepsSpec : ChangeSpec := { name := "fnReachedGrowsWithMoreTagsAndKeeps", fn := fun _ => fun
  | [d1, d2, d3, d4] => { results := [.lit (.bool true)], args := [d1, d2, d3, d4] }
  | _ => none }
def fnReachedGrowsWithMoreTagsAndKeepsRow : OpenClaim := { program := "qxb6000638a", sum := "f33f21cb06990a3cfc7ced108db052473fc0e009bc09d830476da8aaa91a673d", func := "example.com/tagstone/tagstone/zzlaws_pkg_metadata_b1.FnReachedGrowsWithMoreTagsAndKeeps", spec := "fnReachedGrowsWithMoreTagsAndKeeps", plainKeys := false, apart := false }
def FnReachedGrowsWithMoreTagsAndKeepsSaid : Prop := fnReachedGrowsWithMoreTagsAndKeepsRow.holds Try.pinned (OpenSpec.ofChange fnReachedGrowsWithMoreTagsAndKeepsSpec)

/-- ITS FALSE NEIGHBOUR: 'it returns false'. Refute it at one input. -/
def fnReachedGrowsWithMoreTagsAndKeepsWrong : ChangeSpec := { name := "fnReachedGrowsWithMoreTagsAndKeeps", fn := fun _ => fun
  | [d1, d2, d3, d4] => { results := [.lit (.bool false)], args := [d1, d2, d3, d4] }
  | _ => none }
def FnReachedGrowsWithMoreTagsAndKeepsWrongFalsely : Prop := fnReachedGrowsWithMoreTagsAndKeepsRow.holds Try.pinned (OpenSpec.ofChange fnReachedGrowsWithMoreTagsAndKeepsWrong)

/-- 'zzlaws_pkg_metadata_b1.FnReachedIgnoresOrderAndRepeats': WHATEVER THE INPUT: true; the input reads as it did. -/
def fnReachedIgnoresOrderAndRepeatsSpec : ChangeSpec := { name := "fnReachedIgnoresOrderAndRepeats", fn := fun _ => fun
  | [d1, d2] => { results := [.lit (.bool true)], args := [d1, d2] }
  | _ => none }
def fnReachedIgnoresOrderAndRepeatsRow : OpenClaim := { program := "qxb6000638a", sum := "f33f21cb06990a3cfc7ced108db052473fc0e009bc09d830476da8aaa91a673d", func := "example.com/tagstone/tagstone/zzlaws_pkg_metadata_b1.FnReachedIgnoresOrderAndRepeats", spec := "fnReachedIgnoresOrderAndRepeats", plainKeys := false, apart := false }
def FnReachedIgnoresOrderAndRepeatsSaid : Prop := fnReachedIgnoresOrderAndRepeatsRow.holds Try.pinned (OpenSpec.ofChange fnReachedIgnoresOrderAndRepeatsSpec)

/-- ITS FALSE NEIGHBOUR: 'it returns false'. Refute it at one input. -/
def fnReachedIgnoresOrderAndRepeatsWrong : ChangeSpec := { name := "fnReachedIgnoresOrderAndRepeats", fn := fun _ => fun
  | [d1, d2] => { results := [.lit (.bool false)], args := [d1, d2] }
  | _ => none }
def FnReachedIgnoresOrderAndRepeatsWrongFalsely : Prop := fnReachedIgnoresOrderAndRepeatsRow.holds Try.pinned (OpenSpec.ofChange fnReachedIgnoresOrderAndRepeatsWrong)

/-- 'zzlaws_pkg_metadata_b1.FnRepositoryPathsListsEveryParentFirst': WHATEVER THE INPUT: true; the input reads as it did. -/
def fnRepositoryPathsListsEveryParentFirstSpec : ChangeSpec := { name := "fnRepositoryPathsListsEveryParentFirst", fn := fun _ => fun
  | [d] => { results := [.lit (.bool true)], args := [d] }
  | _ => none }
def fnRepositoryPathsListsEveryParentFirstRow : OpenClaim := { program := "qxb6000638a", sum := "f33f21cb06990a3cfc7ced108db052473fc0e009bc09d830476da8aaa91a673d", func := "example.com/tagstone/tagstone/zzlaws_pkg_metadata_b1.FnRepositoryPathsListsEveryParentFirst", spec := "fnRepositoryPathsListsEveryParentFirst", plainKeys := false, apart := false }
def FnRepositoryPathsListsEveryParentFirstSaid : Prop := fnRepositoryPathsListsEveryParentFirstRow.holds Try.pinned (OpenSpec.ofChange fnRepositoryPathsListsEveryParentFirstSpec)

/-- ITS FALSE NEIGHBOUR: 'it returns false'. Refute it at one input. -/
def fnRepositoryPathsListsEveryParentFirstWrong : ChangeSpec := { name := "fnRepositoryPathsListsEveryParentFirst", fn := fun _ => fun
  | [d] => { results := [.lit (.bool false)], args := [d] }
  | _ => none }
def FnRepositoryPathsListsEveryParentFirstWrongFalsely : Prop := fnRepositoryPathsListsEveryParentFirstRow.holds Try.pinned (OpenSpec.ofChange fnRepositoryPathsListsEveryParentFirstWrong)

/-- 'zzlaws_pkg_metadata_b1.FnRepositoryPathsSplitAtASlash': WHATEVER THE INPUT: true; the input reads as it did. -/
def fnRepositoryPathsSplitAtASlashSpec : ChangeSpec := { name := "fnRepositoryPathsSplitAtASlash", fn := fun _ => fun
  | [d1, d2] => { results := [.lit (.bool true)], args := [d1, d2] }
  | _ => none }
def fnRepositoryPathsSplitAtASlashRow : OpenClaim := { program := "qxb6000638a", sum := "f33f21cb06990a3cfc7ced108db052473fc0e009bc09d830476da8aaa91a673d", func := "example.com/tagstone/tagstone/zzlaws_pkg_metadata_b1.FnRepositoryPathsSplitAtASlash", spec := "fnRepositoryPathsSplitAtASlash", plainKeys := false, apart := false }
def FnRepositoryPathsSplitAtASlashSaid : Prop := fnRepositoryPathsSplitAtASlashRow.holds Try.pinned (OpenSpec.ofChange fnRepositoryPathsSplitAtASlashSpec)

/-- ITS FALSE NEIGHBOUR: 'it returns false'. Refute it at one input. -/
def fnRepositoryPathsSplitAtASlashWrong : ChangeSpec := { name := "fnRepositoryPathsSplitAtASlash", fn := fun _ => fun
  | [d1, d2] => { results := [.lit (.bool false)], args := [d1, d2] }
  | _ => none }
def FnRepositoryPathsSplitAtASlashWrongFalsely : Prop := fnRepositoryPathsSplitAtASlashRow.holds Try.pinned (OpenSpec.ofChange fnRepositoryPathsSplitAtASlashWrong)

end Rows
end Go.Proofs.Qxb6000638a
