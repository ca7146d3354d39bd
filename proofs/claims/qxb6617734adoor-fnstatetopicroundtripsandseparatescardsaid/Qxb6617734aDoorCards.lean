/-
  DERIVED. GIVEN WITH THE SEED: THE CARDS: each row of Qxb6617734aDoorRows.lean that lists a variable, with what it lists TIED to the program's text (the seventh form; the later family's looks); each row that meets fmt, with fmt's text TOLD by the authors' own Lean function (tested against real Go, not proved from fmt's source: count such statements apart). THE CARD IS WHAT COUNTS. Prove the row's statement (the work); the ties are given (Qxb6617734aDoorTie.lean); close each card by the builder's one call (the guide's Derived/Test/ToyasCard.lean, 'card_holds'). Laid BY PROGRAM, IN A SANDBOX (cutbox-door.mjs). By AI agents, Wed Nov 11 2026. No macro, syntax, notation, axiom, sorry.
-/
import Derived.Test.Qxb6617734aDoorRows
import GoSem.ClaimSeven
namespace Go.Proofs.Qxb6617734aDoor
namespace Rows

/-- THE TIED CARD OF 'zzlaws_internal_shard_b1.FnStateTopicRoundTripsAndSeparates'. -/
def fnStateTopicRoundTripsAndSeparatesCard : Claim7 := { stood := { row := fnStateTopicRoundTripsAndSeparatesRow, standIns := [], harness := (true, "63217c6b92caa0408ae92d584ec78c2707af420cb74c4969dcb745efb1f68d6e"), looks := false }, kinds := [], alts := [], laidByText := true, laidKinds := [.data, .data, .data], laidTests := true, laidLooks := .later }
def FnStateTopicRoundTripsAndSeparatesCardSaid : Prop := Claim7.holds Tryd.pinned (.plain (OpenSpec.ofChange fnStateTopicRoundTripsAndSeparatesSpec)) fnStateTopicRoundTripsAndSeparatesCard
end Rows
end Go.Proofs.Qxb6617734aDoor
