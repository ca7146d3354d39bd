/- The tied card of FnStateTopicRoundTripsAndSeparates: the row's statement and the given tie. -/
import Derived.Test.Qxb6617734aDoorProof
import Derived.SevenTiedAt
namespace Go.Proofs.Qxb6617734aDoor
open Go

/-- The statement. -/
theorem card_proved : Rows.FnStateTopicRoundTripsAndSeparatesCardSaid :=
  Claim7.holds_tied_plain_at .later [] [.data, .data, .data] true Rows.fnStateTopicRoundTripsAndSeparatesCard.stood.harness false
    row_holds (fun _ h => by cases h) (by kernel_rfl) (fun _ h => by cases h) fnStateTopicRoundTripsAndSeparates_row_tie rfl ⟨rfl, rfl⟩ (by kernel_rfl) rfl
    (fun f fn hf hfn => by
      obtain rfl : f = 3 := Option.some.inj ((show Tryd.prog.funcNamed Rows.fnStateTopicRoundTripsAndSeparatesRow.func = some 3 by kernel_rfl).symm.trans hf) |>.symm
      obtain rfl : fn = Tryd.f3 := (Option.some.inj (Tryd.func3.symm.trans hfn)).symm
      exact ⟨by kernel_rfl, fun j t ht => by
        rw [Tryd.params3] at ht
        have h5 : t = 5 := by
          rcases j with _ | _ | j
          · simpa using ht.symm
          · simpa using ht.symm
          · simp at ht
        subst h5
        exact (show Tryd.prog.wantsStandIn 5 = false by kernel_rfl)⟩)
    (by kernel_rfl)
end Go.Proofs.Qxb6617734aDoor
