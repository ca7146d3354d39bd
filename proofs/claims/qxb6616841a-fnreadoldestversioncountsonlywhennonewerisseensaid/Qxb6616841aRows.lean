/-
  No cell of these rows narrows 'for every input' (looked for: loops, veiled, ifaces, maps, wideKeys, modest, calm, conditions, laid).
  DERIVED. THE GIVEN ROWS OF THIS SEAT. 2 by the template 'for every input the law returns true; each argument reads behind the call as it read before'; 0 by the template 'total and deterministic' (their statements: Qxb6616841aTotals.lean).
  GIVEN WITH THE SEED: the statements are not yours to turn. If you find one false, say at which input.
  Laid BY PROGRAM, IN A SANDBOX (cutbox-rows.mjs): the forced cells as the released guide's own fill.sh prints them over the translation a0fef70cce9c7f76… (all of the seat's roots in one cut). By AI agents, Wed Nov 11 2026. No macro, syntax, notation, axiom, sorry.
-/
import Derived.Test.Qxb6616841aChecked
import GoSem.Claim
import GoSem.ClaimJoined
import GoSem.ClaimMapViews
import Derived.JoinedTies
import Derived.KernelRfl
namespace Go.Proofs.Qxb6616841a
/- THE CELL 'sum', in the pinned program and in every row, IS THE sha256 OF THE DUMP (.gsa) THAT Qxb6616841aProg.lean LOADS. Nothing in Lean hashes anything: it is a label: what it is worth is what the hold of that sum in a sandbox is worth. -/
noncomputable def Try.pinned : Pinned := { name := "qxb6616841a", sum := "a0fef70cce9c7f7646c6326ecdb40cb629b3208d056e51c90e532227f9a0dbe5", checked := Try.checked }
namespace Rows
def none {H : Type} : Left H := { results := [], args := [] }

/-- 'zzlaws_internal_engine_b1.FnReadAfterWriteSeesItOrNothingChanges': WHATEVER THE INPUT: true; the input reads as it did. -/
def fnReadAfterWriteSeesItOrNothingChangesSpec : ChangeSpec := { name := "fnReadAfterWriteSeesItOrNothingChanges", fn := fun _ => fun
  | [d1, d2, d3, d4, d5, d6, d7, d8, d9, d10, d11] => { results := [.lit (.bool true)], args := [d1, d2, d3, d4, d5, d6, d7, d8, d9, d10, d11] }
  | _ => none }
def fnReadAfterWriteSeesItOrNothingChangesRow : OpenClaim := { program := "qxb6616841a", sum := "a0fef70cce9c7f7646c6326ecdb40cb629b3208d056e51c90e532227f9a0dbe5", func := "example.com/gapline/gapline/zzlaws_internal_engine_b1.FnReadAfterWriteSeesItOrNothingChanges", spec := "fnReadAfterWriteSeesItOrNothingChanges", apart := false }
def FnReadAfterWriteSeesItOrNothingChangesSaid : Prop := fnReadAfterWriteSeesItOrNothingChangesRow.holds Try.pinned (OpenSpec.ofChange fnReadAfterWriteSeesItOrNothingChangesSpec)

/-- ITS FALSE NEIGHBOUR: 'it returns false'. Refute it at one input. -/
def fnReadAfterWriteSeesItOrNothingChangesWrong : ChangeSpec := { name := "fnReadAfterWriteSeesItOrNothingChanges", fn := fun _ => fun
  | [d1, d2, d3, d4, d5, d6, d7, d8, d9, d10, d11] => { results := [.lit (.bool false)], args := [d1, d2, d3, d4, d5, d6, d7, d8, d9, d10, d11] }
  | _ => none }
def FnReadAfterWriteSeesItOrNothingChangesWrongFalsely : Prop := fnReadAfterWriteSeesItOrNothingChangesRow.holds Try.pinned (OpenSpec.ofChange fnReadAfterWriteSeesItOrNothingChangesWrong)

/-- 'zzlaws_internal_engine_b1.FnReadOldestVersionCountsOnlyWhenNoNewerIsSeen': WHATEVER THE INPUT: true; the input reads as it did. -/
def fnReadOldestVersionCountsOnlyWhenNoNewerIsSeenSpec : ChangeSpec := { name := "fnReadOldestVersionCountsOnlyWhenNoNewerIsSeen", fn := fun _ => fun
  | [d1, d2, d3, d4, d5, d6, d7, d8, d9, d10, d11] => { results := [.lit (.bool true)], args := [d1, d2, d3, d4, d5, d6, d7, d8, d9, d10, d11] }
  | _ => none }
def fnReadOldestVersionCountsOnlyWhenNoNewerIsSeenRow : OpenClaim := { program := "qxb6616841a", sum := "a0fef70cce9c7f7646c6326ecdb40cb629b3208d056e51c90e532227f9a0dbe5", func := "example.com/gapline/gapline/zzlaws_internal_engine_b1.FnReadOldestVersionCountsOnlyWhenNoNewerIsSeen", spec := "fnReadOldestVersionCountsOnlyWhenNoNewerIsSeen", apart := false }
def FnReadOldestVersionCountsOnlyWhenNoNewerIsSeenSaid : Prop := fnReadOldestVersionCountsOnlyWhenNoNewerIsSeenRow.holds Try.pinned (OpenSpec.ofChange fnReadOldestVersionCountsOnlyWhenNoNewerIsSeenSpec)

/-- ITS FALSE NEIGHBOUR: 'it returns false'. Refute it at one input. -/
def fnReadOldestVersionCountsOnlyWhenNoNewerIsSeenWrong : ChangeSpec := { name := "fnReadOldestVersionCountsOnlyWhenNoNewerIsSeen", fn := fun _ => fun
  | [d1, d2, d3, d4, d5, d6, d7, d8, d9, d10, d11] => { results := [.lit (.bool false)], args := [d1, d2, d3, d4, d5, d6, d7, d8, d9, d10, d11] }
  | _ => none }
def FnReadOldestVersionCountsOnlyWhenNoNewerIsSeenWrongFalsely : Prop := fnReadOldestVersionCountsOnlyWhenNoNewerIsSeenRow.holds Try.pinned (OpenSpec.ofChange fnReadOldestVersionCountsOnlyWhenNoNewerIsSeenWrong)

end Rows
end Go.Proofs.Qxb6616841a
