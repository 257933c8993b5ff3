/-
  DERIVED. GIVEN WITH THE SEED: THE CARDS: each row of YbulkacdeFmtRows.lean that lists a variable, with what it lists TIED to the program's text (the seventh form; the later family's looks); each row that meets fmt, with fmt's text TOLD by the authors' own Lean function (tested against real Go, not proved from fmt's source: count such statements apart). THE CARD IS WHAT COUNTS. Prove the row's statement (the work); the ties are given (YbulkacdeFmtTie.lean); close each card by the builder's one call (the guide's Derived/Test/ToyasCard.lean, 'card_holds'). Laid BY PROGRAM, IN A SANDBOX (cutbox-door.mjs). By AI agents, Wed Nov 11 2026. No macro, syntax, notation, axiom, sorry.
-/
import Derived.Test.YbulkacdeFmtRows
import GoSem.ClaimSeven
namespace Go.Proofs.YbulkacdeFmt
namespace Rows

/-- THE TOLD CARD OF 'bencode.LawS1408AList'. -/
def lawS1408AListCard : Claim7 := { stood := { row := lawS1408AListRow, standIns := [], harness := (true, "680f8e528adbbd3b97935f67b1d9621fce722c6ccf8b0740bdb59cdfddd80243"), looks := true }, told := true, goes := false }
def LawS1408AListToldSaid : Prop := Claim7.holds Ybaf.pinned (.plain (OpenSpec.ofChange lawS1408AListSpec)) lawS1408AListCard
/-- ITS FALSE NEIGHBOUR. Refute it at one input. -/
def LawS1408AListToldWrongFalsely : Prop := Claim7.holds Ybaf.pinned (.plain (OpenSpec.ofChange lawS1408AListWrong)) lawS1408AListCard

/-- THE TOLD CARD OF 'bencode.LawS1408ADict'. -/
def lawS1408ADictCard : Claim7 := { stood := { row := lawS1408ADictRow, standIns := [], harness := (true, "680f8e528adbbd3b97935f67b1d9621fce722c6ccf8b0740bdb59cdfddd80243"), looks := true }, told := true, goes := false }
def LawS1408ADictToldSaid : Prop := Claim7.holds Ybaf.pinned (.plain (OpenSpec.ofChange lawS1408ADictSpec)) lawS1408ADictCard
/-- ITS FALSE NEIGHBOUR. Refute it at one input. -/
def LawS1408ADictToldWrongFalsely : Prop := Claim7.holds Ybaf.pinned (.plain (OpenSpec.ofChange lawS1408ADictWrong)) lawS1408ADictCard

/-- THE TOLD CARD OF 'bencode.LawS1408ASkip'. -/
def lawS1408ASkipCard : Claim7 := { stood := { row := lawS1408ASkipRow, standIns := [], harness := (true, "680f8e528adbbd3b97935f67b1d9621fce722c6ccf8b0740bdb59cdfddd80243"), looks := true }, told := true, goes := false }
def LawS1408ASkipToldSaid : Prop := Claim7.holds Ybaf.pinned (.plain (OpenSpec.ofChange lawS1408ASkipSpec)) lawS1408ASkipCard
/-- ITS FALSE NEIGHBOUR. Refute it at one input. -/
def LawS1408ASkipToldWrongFalsely : Prop := Claim7.holds Ybaf.pinned (.plain (OpenSpec.ofChange lawS1408ASkipWrong)) lawS1408ASkipCard

/-- THE TOLD CARD OF 'bencode.LawS1408BStep'. -/
def lawS1408BStepCard : Claim7 := { stood := { row := lawS1408BStepRow, standIns := [], harness := (true, "680f8e528adbbd3b97935f67b1d9621fce722c6ccf8b0740bdb59cdfddd80243"), looks := true }, told := true, goes := false }
def LawS1408BStepToldSaid : Prop := Claim7.holds Ybaf.pinned (.plain (OpenSpec.ofChange lawS1408BStepSpec)) lawS1408BStepCard
/-- ITS FALSE NEIGHBOUR. Refute it at one input. -/
def LawS1408BStepToldWrongFalsely : Prop := Claim7.holds Ybaf.pinned (.plain (OpenSpec.ofChange lawS1408BStepWrong)) lawS1408BStepCard

/-- THE TOLD CARD OF 'bencode.LawS1408BScript'. -/
def lawS1408BScriptCard : Claim7 := { stood := { row := lawS1408BScriptRow, standIns := [], harness := (true, "680f8e528adbbd3b97935f67b1d9621fce722c6ccf8b0740bdb59cdfddd80243"), looks := true }, told := true, goes := false }
def LawS1408BScriptToldSaid : Prop := Claim7.holds Ybaf.pinned (.plain (OpenSpec.ofChange lawS1408BScriptSpec)) lawS1408BScriptCard
/-- ITS FALSE NEIGHBOUR. Refute it at one input. -/
def LawS1408BScriptToldWrongFalsely : Prop := Claim7.holds Ybaf.pinned (.plain (OpenSpec.ofChange lawS1408BScriptWrong)) lawS1408BScriptCard

/-- THE TOLD CARD OF 'bencode.LawS1408CWellFormed'. -/
def lawS1408CWellFormedCard : Claim7 := { stood := { row := lawS1408CWellFormedRow, standIns := [], harness := (true, "680f8e528adbbd3b97935f67b1d9621fce722c6ccf8b0740bdb59cdfddd80243"), looks := true }, told := true, goes := false }
def LawS1408CWellFormedToldSaid : Prop := Claim7.holds Ybaf.pinned (.plain (OpenSpec.ofChange lawS1408CWellFormedSpec)) lawS1408CWellFormedCard
/-- ITS FALSE NEIGHBOUR. Refute it at one input. -/
def LawS1408CWellFormedToldWrongFalsely : Prop := Claim7.holds Ybaf.pinned (.plain (OpenSpec.ofChange lawS1408CWellFormedWrong)) lawS1408CWellFormedCard

/-- THE TOLD CARD OF 'bencode.LawS1408CAgreesWithValue'. -/
def lawS1408CAgreesWithValueCard : Claim7 := { stood := { row := lawS1408CAgreesWithValueRow, standIns := [], harness := (true, "680f8e528adbbd3b97935f67b1d9621fce722c6ccf8b0740bdb59cdfddd80243"), looks := true }, told := true, goes := false }
def LawS1408CAgreesWithValueToldSaid : Prop := Claim7.holds Ybaf.pinned (.plain (OpenSpec.ofChange lawS1408CAgreesWithValueSpec)) lawS1408CAgreesWithValueCard
/-- ITS FALSE NEIGHBOUR. Refute it at one input. -/
def LawS1408CAgreesWithValueToldWrongFalsely : Prop := Claim7.holds Ybaf.pinned (.plain (OpenSpec.ofChange lawS1408CAgreesWithValueWrong)) lawS1408CAgreesWithValueCard
end Rows
end Go.Proofs.YbulkacdeFmt
