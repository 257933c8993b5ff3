/-
  No cell of these rows narrows 'for every input' (looked for: loops, veiled, ifaces, maps, wideKeys, modest, calm, conditions, laid).
  DERIVED. THE GIVEN ROWS OF THIS SEAT. 7 by the template 'for every input the law returns true; each argument reads behind the call as it read before'; 0 by the template 'total and deterministic' (their statements: YbulkacdeFmtTotals.lean).
  GIVEN WITH THE SEED: the statements are not yours to turn. If you find one false, say at which input.
  Laid BY PROGRAM, IN A SANDBOX (cutbox-rows.mjs): the forced cells as the released guide's own fill.sh prints them over the translation 058e26a25781fa21… (all of the seat's roots in one cut). By AI agents, Wed Nov 11 2026. No macro, syntax, notation, axiom, sorry.
-/
import Derived.Test.YbulkacdeFmtChecked
import GoSem.Claim
import GoSem.ClaimJoined
import GoSem.ClaimMapViews
import Derived.JoinedTies
import Derived.KernelRfl
namespace Go.Proofs.YbulkacdeFmt
/- THE CELL 'sum', in the pinned program and in every row, IS THE sha256 OF THE DUMP (.gsa) THAT YbulkacdeFmtProg.lean LOADS. Nothing in Lean hashes anything: it is a label: what it is worth is what the hold of that sum in a sandbox is worth. -/
noncomputable def Ybaf.pinned : Pinned := { name := "ybulkacdefmt", sum := "058e26a25781fa218ba29a2daa63ef855b7dfa6a9d3649e68657b45a6a32e95a", checked := Ybaf.checked }
namespace Rows
def none {H : Type} : Left H := { results := [], args := [] }

/-- 'bencode.LawS1408AList': WHATEVER THE INPUT: true; the input reads as it did. -/
def lawS1408AListSpec : ChangeSpec := { name := "lawS1408AList", fn := fun _ => fun
  | [d1, d2] => { results := [.lit (.bool true)], args := [d1, d2] }
  | _ => none }
def lawS1408AListRow : OpenClaim := { program := "ybulkacdefmt", sum := "058e26a25781fa218ba29a2daa63ef855b7dfa6a9d3649e68657b45a6a32e95a", func := "example.com/kindred/kindred/bencode.LawS1408AList", spec := "lawS1408AList", stops := ["fmt.Sprintf, its operands' methods called"], inPlace := ["fmt.Sprintf"], unfollowed := true, recurses := true, apart := false }
/-- NO THEOREM (fmt's text is open here; it may be false): for the released tool's asking of the row's closed facts alone. THE STATEMENT IS 'LawS1408AListToldSaid' (YbulkacdeFmtCards.lean). -/
def LawS1408AListFormAsk : Prop := lawS1408AListRow.holds Ybaf.pinned (OpenSpec.ofChange lawS1408AListSpec)

/-- ITS FALSE NEIGHBOUR: 'it returns false'. Refute it at one input. -/
def lawS1408AListWrong : ChangeSpec := { name := "lawS1408AList", fn := fun _ => fun
  | [d1, d2] => { results := [.lit (.bool false)], args := [d1, d2] }
  | _ => none }
def LawS1408AListWrongFormAsk : Prop := lawS1408AListRow.holds Ybaf.pinned (OpenSpec.ofChange lawS1408AListWrong)

/-- 'bencode.LawS1408ADict': WHATEVER THE INPUT: true; the input reads as it did. -/
def lawS1408ADictSpec : ChangeSpec := { name := "lawS1408ADict", fn := fun _ => fun
  | [d] => { results := [.lit (.bool true)], args := [d] }
  | _ => none }
def lawS1408ADictRow : OpenClaim := { program := "ybulkacdefmt", sum := "058e26a25781fa218ba29a2daa63ef855b7dfa6a9d3649e68657b45a6a32e95a", func := "example.com/kindred/kindred/bencode.LawS1408ADict", spec := "lawS1408ADict", stops := ["fmt.Sprintf, its operands' methods called"], inPlace := ["fmt.Sprintf"], unfollowed := true, recurses := true, apart := false }
/-- NO THEOREM (fmt's text is open here; it may be false): for the released tool's asking of the row's closed facts alone. THE STATEMENT IS 'LawS1408ADictToldSaid' (YbulkacdeFmtCards.lean). -/
def LawS1408ADictFormAsk : Prop := lawS1408ADictRow.holds Ybaf.pinned (OpenSpec.ofChange lawS1408ADictSpec)

/-- ITS FALSE NEIGHBOUR: 'it returns false'. Refute it at one input. -/
def lawS1408ADictWrong : ChangeSpec := { name := "lawS1408ADict", fn := fun _ => fun
  | [d] => { results := [.lit (.bool false)], args := [d] }
  | _ => none }
def LawS1408ADictWrongFormAsk : Prop := lawS1408ADictRow.holds Ybaf.pinned (OpenSpec.ofChange lawS1408ADictWrong)

/-- 'bencode.LawS1408ASkip': WHATEVER THE INPUT: true; the input reads as it did. -/
def lawS1408ASkipSpec : ChangeSpec := { name := "lawS1408ASkip", fn := fun _ => fun
  | [d1, d2] => { results := [.lit (.bool true)], args := [d1, d2] }
  | _ => none }
def lawS1408ASkipRow : OpenClaim := { program := "ybulkacdefmt", sum := "058e26a25781fa218ba29a2daa63ef855b7dfa6a9d3649e68657b45a6a32e95a", func := "example.com/kindred/kindred/bencode.LawS1408ASkip", spec := "lawS1408ASkip", stops := ["fmt.Sprintf, its operands' methods called"], inPlace := ["fmt.Sprintf"], unfollowed := true, recurses := true, apart := false }
/-- NO THEOREM (fmt's text is open here; it may be false): for the released tool's asking of the row's closed facts alone. THE STATEMENT IS 'LawS1408ASkipToldSaid' (YbulkacdeFmtCards.lean). -/
def LawS1408ASkipFormAsk : Prop := lawS1408ASkipRow.holds Ybaf.pinned (OpenSpec.ofChange lawS1408ASkipSpec)

/-- ITS FALSE NEIGHBOUR: 'it returns false'. Refute it at one input. -/
def lawS1408ASkipWrong : ChangeSpec := { name := "lawS1408ASkip", fn := fun _ => fun
  | [d1, d2] => { results := [.lit (.bool false)], args := [d1, d2] }
  | _ => none }
def LawS1408ASkipWrongFormAsk : Prop := lawS1408ASkipRow.holds Ybaf.pinned (OpenSpec.ofChange lawS1408ASkipWrong)

/-- 'bencode.LawS1408BStep': WHATEVER THE INPUT: true; the input reads as it did. -/
def lawS1408BStepSpec : ChangeSpec := { name := "lawS1408BStep", fn := fun _ => fun
  | [d1, d2, d3] => { results := [.lit (.bool true)], args := [d1, d2, d3] }
  | _ => none }
def lawS1408BStepRow : OpenClaim := { program := "ybulkacdefmt", sum := "058e26a25781fa218ba29a2daa63ef855b7dfa6a9d3649e68657b45a6a32e95a", func := "example.com/kindred/kindred/bencode.LawS1408BStep", spec := "lawS1408BStep", stops := ["fmt.Sprintf, its operands' methods called"], inPlace := ["fmt.Sprintf"], unfollowed := true, recurses := true, apart := false }
/-- NO THEOREM (fmt's text is open here; it may be false): for the released tool's asking of the row's closed facts alone. THE STATEMENT IS 'LawS1408BStepToldSaid' (YbulkacdeFmtCards.lean). -/
def LawS1408BStepFormAsk : Prop := lawS1408BStepRow.holds Ybaf.pinned (OpenSpec.ofChange lawS1408BStepSpec)

/-- ITS FALSE NEIGHBOUR: 'it returns false'. Refute it at one input. -/
def lawS1408BStepWrong : ChangeSpec := { name := "lawS1408BStep", fn := fun _ => fun
  | [d1, d2, d3] => { results := [.lit (.bool false)], args := [d1, d2, d3] }
  | _ => none }
def LawS1408BStepWrongFormAsk : Prop := lawS1408BStepRow.holds Ybaf.pinned (OpenSpec.ofChange lawS1408BStepWrong)

/-- 'bencode.LawS1408BScript': WHATEVER THE INPUT: true; the input reads as it did. -/
def lawS1408BScriptSpec : ChangeSpec := { name := "lawS1408BScript", fn := fun _ => fun
  | [d1, d2] => { results := [.lit (.bool true)], args := [d1, d2] }
  | _ => none }
def lawS1408BScriptRow : OpenClaim := { program := "ybulkacdefmt", sum := "058e26a25781fa218ba29a2daa63ef855b7dfa6a9d3649e68657b45a6a32e95a", func := "example.com/kindred/kindred/bencode.LawS1408BScript", spec := "lawS1408BScript", stops := ["fmt.Sprintf, its operands' methods called"], inPlace := ["fmt.Sprintf"], unfollowed := true, recurses := true, apart := false }
/-- NO THEOREM (fmt's text is open here; it may be false): for the released tool's asking of the row's closed facts alone. THE STATEMENT IS 'LawS1408BScriptToldSaid' (YbulkacdeFmtCards.lean). -/
def LawS1408BScriptFormAsk : Prop := lawS1408BScriptRow.holds Ybaf.pinned (OpenSpec.ofChange lawS1408BScriptSpec)

/-- ITS FALSE NEIGHBOUR: 'it returns false'. Refute it at one input. -/
def lawS1408BScriptWrong : ChangeSpec := { name := "lawS1408BScript", fn := fun _ => fun
  | [d1, d2] => { results := [.lit (.bool false)], args := [d1, d2] }
  | _ => none }
def LawS1408BScriptWrongFormAsk : Prop := lawS1408BScriptRow.holds Ybaf.pinned (OpenSpec.ofChange lawS1408BScriptWrong)

/-- 'bencode.LawS1408CWellFormed': WHATEVER THE INPUT: true; the input reads as it did. -/
def lawS1408CWellFormedSpec : ChangeSpec := { name := "lawS1408CWellFormed", fn := fun _ => fun
  | [d1, d2] => { results := [.lit (.bool true)], args := [d1, d2] }
  | _ => none }
def lawS1408CWellFormedRow : OpenClaim := { program := "ybulkacdefmt", sum := "058e26a25781fa218ba29a2daa63ef855b7dfa6a9d3649e68657b45a6a32e95a", func := "example.com/kindred/kindred/bencode.LawS1408CWellFormed", spec := "lawS1408CWellFormed", stops := ["fmt.Sprintf, its operands' methods called"], inPlace := ["fmt.Sprintf"], unfollowed := true, recurses := true, apart := false }
/-- NO THEOREM (fmt's text is open here; it may be false): for the released tool's asking of the row's closed facts alone. THE STATEMENT IS 'LawS1408CWellFormedToldSaid' (YbulkacdeFmtCards.lean). -/
def LawS1408CWellFormedFormAsk : Prop := lawS1408CWellFormedRow.holds Ybaf.pinned (OpenSpec.ofChange lawS1408CWellFormedSpec)

/-- ITS FALSE NEIGHBOUR: 'it returns false'. Refute it at one input. -/
def lawS1408CWellFormedWrong : ChangeSpec := { name := "lawS1408CWellFormed", fn := fun _ => fun
  | [d1, d2] => { results := [.lit (.bool false)], args := [d1, d2] }
  | _ => none }
def LawS1408CWellFormedWrongFormAsk : Prop := lawS1408CWellFormedRow.holds Ybaf.pinned (OpenSpec.ofChange lawS1408CWellFormedWrong)

/-- 'bencode.LawS1408CAgreesWithValue': WHATEVER THE INPUT: true; the input reads as it did. -/
def lawS1408CAgreesWithValueSpec : ChangeSpec := { name := "lawS1408CAgreesWithValue", fn := fun _ => fun
  | [d] => { results := [.lit (.bool true)], args := [d] }
  | _ => none }
def lawS1408CAgreesWithValueRow : OpenClaim := { program := "ybulkacdefmt", sum := "058e26a25781fa218ba29a2daa63ef855b7dfa6a9d3649e68657b45a6a32e95a", func := "example.com/kindred/kindred/bencode.LawS1408CAgreesWithValue", spec := "lawS1408CAgreesWithValue", stops := ["fmt.Sprintf, its operands' methods called"], inPlace := ["fmt.Sprintf"], unfollowed := true, recurses := true, apart := false }
/-- NO THEOREM (fmt's text is open here; it may be false): for the released tool's asking of the row's closed facts alone. THE STATEMENT IS 'LawS1408CAgreesWithValueToldSaid' (YbulkacdeFmtCards.lean). -/
def LawS1408CAgreesWithValueFormAsk : Prop := lawS1408CAgreesWithValueRow.holds Ybaf.pinned (OpenSpec.ofChange lawS1408CAgreesWithValueSpec)

/-- ITS FALSE NEIGHBOUR: 'it returns false'. Refute it at one input. -/
def lawS1408CAgreesWithValueWrong : ChangeSpec := { name := "lawS1408CAgreesWithValue", fn := fun _ => fun
  | [d] => { results := [.lit (.bool false)], args := [d] }
  | _ => none }
def LawS1408CAgreesWithValueWrongFormAsk : Prop := lawS1408CAgreesWithValueRow.holds Ybaf.pinned (OpenSpec.ofChange lawS1408CAgreesWithValueWrong)

end Rows
end Go.Proofs.YbulkacdeFmt
