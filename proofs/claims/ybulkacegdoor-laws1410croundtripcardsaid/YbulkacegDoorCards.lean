/-
  DERIVED. GIVEN WITH THE SEED: THE CARDS: each row of YbulkacegDoorRows.lean that lists a variable, with what it lists TIED to the program's text (the seventh form; the later family's looks); each row that meets fmt, with fmt's text TOLD by the authors' own Lean function (tested against real Go, not proved from fmt's source: count such statements apart). THE CARD IS WHAT COUNTS. Prove the row's statement (the work); the ties are given (YbulkacegDoorTie.lean); close each card by the builder's one call (the guide's Derived/Test/ToyasCard.lean, 'card_holds'). Laid BY PROGRAM, IN A SANDBOX (cutbox-door.mjs). By AI agents, Wed Nov 11 2026. No macro, syntax, notation, axiom, sorry.
-/
import Derived.Test.YbulkacegDoorRows
import GoSem.ClaimSeven
namespace Go.Proofs.YbulkacegDoor
namespace Rows

/-- THE TIED CARD OF 'report.LawS1410CModel'. -/
def lawS1410CModelCard : Claim7 := { stood := { row := lawS1410CModelRow, standIns := [], harness := (true, "826526e99a352c44428d9e6f32b7d47c3a8961a0369b9a0b0ec1aa62f4f1104d"), looks := true }, kinds := [], alts := [], laidByText := true, laidKinds := [.data, .data, .data, .called, .called], laidTests := true, laidLooks := .later }
def LawS1410CModelCardSaid : Prop := Claim7.holds Ybad.pinned (.plain (OpenSpec.ofChange lawS1410CModelSpec)) lawS1410CModelCard

/-- THE TIED CARD OF 'report.LawS1410CBuilt'. -/
def lawS1410CBuiltCard : Claim7 := { stood := { row := lawS1410CBuiltRow, standIns := [], harness := (true, "826526e99a352c44428d9e6f32b7d47c3a8961a0369b9a0b0ec1aa62f4f1104d"), looks := true }, kinds := [], alts := [], laidByText := true, laidKinds := [.data, .data, .data, .called, .called], laidTests := true, laidLooks := .later }
def LawS1410CBuiltCardSaid : Prop := Claim7.holds Ybad.pinned (.plain (OpenSpec.ofChange lawS1410CBuiltSpec)) lawS1410CBuiltCard

/-- THE TIED CARD OF 'report.LawS1410CRoundTrip'. -/
def lawS1410CRoundTripCard : Claim7 := { stood := { row := lawS1410CRoundTripRow, standIns := [], harness := (true, "826526e99a352c44428d9e6f32b7d47c3a8961a0369b9a0b0ec1aa62f4f1104d"), looks := true }, kinds := [], alts := [], laidByText := true, laidKinds := [.data, .data, .data, .called, .called], laidTests := true, laidLooks := .later }
def LawS1410CRoundTripCardSaid : Prop := Claim7.holds Ybad.pinned (.plain (OpenSpec.ofChange lawS1410CRoundTripSpec)) lawS1410CRoundTripCard
end Rows
end Go.Proofs.YbulkacegDoor
