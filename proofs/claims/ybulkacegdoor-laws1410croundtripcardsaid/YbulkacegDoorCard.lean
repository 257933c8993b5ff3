import Derived.Test.YbulkacegDoorLifted
import Derived.Test.YbulkacegDoorTie
import Derived.Test.YbulkacegDoorCards
import Derived.SevenTiedAt
namespace Go.Proofs.YbulkacegDoor
open Go

theorem round_trip : Rows.LawS1410CRoundTripCardSaid :=
  Claim7.holds_tied_plain_at .later [] [.data, .data, .data, .called, .called] true Rows.lawS1410CRoundTripCard.stood.harness true
    row_holds (fun _ h => by cases h) (by kernel_rfl) (fun _ h => by cases h) lawS1410CRoundTrip_row_tie rfl ⟨rfl, rfl⟩ (by kernel_rfl) rfl
    (fun f fn hf hfn => by
      obtain rfl : f = 5 := Option.some.inj ((show Ybad.prog.funcNamed Rows.lawS1410CRoundTripRow.func = some 5 by kernel_rfl).symm.trans hf) |>.symm
      obtain rfl : fn = Ybad.f5 := (Option.some.inj (Ybad.func5.symm.trans hfn)).symm
      exact ⟨by kernel_rfl, fun j t ht => by
        rw [Ybad.params5] at ht
        have h3 : t = 35 := by
          rcases j with _ | j
          · simpa using ht.symm
          · simp at ht
        subst h3
        exact (show Ybad.prog.wantsStandIn 35 = false by kernel_rfl)⟩)
    (by kernel_rfl)
end Go.Proofs.YbulkacegDoor
