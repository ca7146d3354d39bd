/-
  No cell of these rows narrows 'for every input' (looked for: loops, veiled, ifaces, maps, wideKeys, modest, calm, conditions, laid).
  DERIVED. THE GIVEN ROWS OF THIS SEAT. 1 by the template 'for every input the law returns true; each argument reads behind the call as it read before'; 0 by the template 'total and deterministic' (their statements: Qxb6616695aTotals.lean).
  GIVEN WITH THE SEED: the statements are not yours to turn. If you find one false, say at which input.
  Laid BY PROGRAM, IN A SANDBOX (cutbox-rows.mjs): the forced cells as the released guide's own fill.sh prints them over the translation b40514527a0a46b8… (all of the seat's roots in one cut). By AI agents, Wed Nov 11 2026. No macro, syntax, notation, axiom, sorry.
-/
import Derived.Test.Qxb6616695aChecked
import GoSem.Claim
import GoSem.ClaimJoined
import GoSem.ClaimMapViews
import Derived.JoinedTies
import Derived.KernelRfl
namespace Go.Proofs.Qxb6616695a
/- THE CELL 'sum', in the pinned program and in every row, IS THE sha256 OF THE DUMP (.gsa) THAT Qxb6616695aProg.lean LOADS. Nothing in Lean hashes anything: it is a label: what it is worth is what the hold of that sum in a sandbox is worth. -/
noncomputable def Try.pinned : Pinned := { name := "qxb6616695a", sum := "b40514527a0a46b89875212e6f025448edf08b95d59ff1fb4875f04890b97b35", checked := Try.checked }
namespace Rows
def none {H : Type} : Left H := { results := [], args := [] }

/-- 'zzlaws_fund_b1.FnTermsLimitJoin': WHATEVER THE INPUT: true; the input reads as it did. -/
def fnTermsLimitJoinSpec : ChangeSpec := { name := "fnTermsLimitJoin", fn := fun _ => fun
  | [d1, d2, d3] => { results := [.lit (.bool true)], args := [d1, d2, d3] }
  | _ => none }
def fnTermsLimitJoinRow : OpenClaim := { program := "qxb6616695a", sum := "b40514527a0a46b89875212e6f025448edf08b95d59ff1fb4875f04890b97b35", func := "example.com/tuoguan/tuoguan/zzlaws_fund_b1.FnTermsLimitJoin", spec := "fnTermsLimitJoin", unfollowed := true, recurses := true, apart := false }
def FnTermsLimitJoinSaid : Prop := fnTermsLimitJoinRow.holds Try.pinned (OpenSpec.ofChange fnTermsLimitJoinSpec)

/-- ITS FALSE NEIGHBOUR: 'it returns false'. Refute it at one input. -/
def fnTermsLimitJoinWrong : ChangeSpec := { name := "fnTermsLimitJoin", fn := fun _ => fun
  | [d1, d2, d3] => { results := [.lit (.bool false)], args := [d1, d2, d3] }
  | _ => none }
def FnTermsLimitJoinWrongFalsely : Prop := fnTermsLimitJoinRow.holds Try.pinned (OpenSpec.ofChange fnTermsLimitJoinWrong)

end Rows
end Go.Proofs.Qxb6616695a
