import Derived.Test.YbulkacegDoorWalk
import Derived.ChangeSame
import Derived.ChangeVars
import Derived.JoinedOf
import Derived.RowKit
import Derived.RowKitTokens
import Derived.LaidLaws
import Derived.LaidHandle
import Derived.Lib.LaidTab
import Derived.Stop.Joined
import Derived.Stop.LaidErr
namespace Go.Proofs.YbulkacegDoor
open Go.ChangeShapes Go.WideShapes Go.RowKit

theorem Ybad.own : ownKnob Ybad.prog.godebug = none := by kernel_rfl
theorem Ybad.cells35 : Ybad.prog.cellsOf 35 = 1 := by kernel_rfl
theorem Ybad.cells66 : Ybad.prog.cellsOf 66 = 20 := by kernel_rfl
theorem Ybad.tabAt : Ybad.prog.globalNamed tabName = some 2 := by kernel_rfl
theorem Ybad.tabType : (Ybad.prog.globals[2]?).map (·.type) = some 66 := by kernel_rfl

/-- What the condition gives the walk: the table of powers of ten. -/
theorem tab_of_laid {W : World} (h : laidMetH Ybad.prog Rows.lawS1410CRoundTripRow.laid W) : Lib.TabIs Ybad.prog W tabName .u64 Lib.pow10Tab := by
  have h' : laidMet Ybad.prog Rows.lawS1410CRoundTripRow.laid W := h
  have e : Rows.lawS1410CRoundTripRow.laid = Rows.lawS1410CRoundTripRow.laid.headD (tabName, .nil) :: (Rows.lawS1410CRoundTripRow.laid.drop 1).headD (tabName, .nil) :: (tabName, Lib.tabData .u64 Lib.pow10Tab) :: Rows.lawS1410CRoundTripRow.laid.drop 3 := by kernel_rfl
  rw [e] at h'
  have h2 := laidMet.tail (laidMet.tail h')
  exact Lib.tabIs_of_head (e := 35) (n := 20) Ybad.tabAt Ybad.tabType Ybad.underlying66 Ybad.underlying35 Ybad.cells35 Ybad.cells66 h2

/-! one world that meets the condition -/

/-- The cells of a table of integers. -/
def tabCells (d : DataW Unit) : Array Value :=
  match d with
  | .agg l => (l.map fun x => match x with
    | .lit (.int k z) => Value.int k z
    | _ => Value.nilIface).toArray
  | _ => #[]
def setTo (v : Array Value) : Obj → Obj
  | .cells _ t frozen => .cells v t frozen
  | o => o
/-- The five listed variables laid in a world whose last two blocks hold the two texts. -/
def layOn (w0 : World) : World :=
  { w0 with heap := ((((w0.heap.modify 0 (setTo #[.iface 71 (.pointer (some ⟨w0.heap.size - 2, 0, none⟩))])).modify 1 (setTo #[.iface 71 (.pointer (some ⟨w0.heap.size - 1, 0, none⟩))])).modify 2 (setTo (tabCells Rows.laid_internal_strconv_uint64pow10))).modify 3 (setTo (tabCells Rows.laid_math_bits_deBruijn32tab))).modify 4 (setTo (tabCells Rows.laid_math_bits_deBruijn64tab)) }
def synText : ByteArray := { data := #[105, 110, 118, 97, 108, 105, 100, 32, 115, 121, 110, 116, 97, 120] }
def rngText : ByteArray := { data := #[118, 97, 108, 117, 101, 32, 111, 117, 116, 32, 111, 102, 32, 114, 97, 110, 103, 101] }

theorem laid_met (os : Os) (args : Array Value) : laidMetH Ybad.prog Rows.lawS1410CRoundTripRow.laid (((layOn (World.holding Ybad.prog os ⟨#[.cells #[.string synText] 73, .cells #[.string rngText] 73], #[], []⟩)).forCall (fun _ _ => 0) ⟨#[], args, []⟩).memory) :=
  laidMet_of_run' 8 (by kernel_rfl) (by kernel_rfl)

set_option maxRecDepth 100000 in
theorem law_lifted (os : Os) (started : os.Started) (H : Type) (enc : TypeId × Value → H) :
    ReturnsInHanded {} Ybad.checked os 5 .any (fun w args => (Rows.lawS1410CRoundTripSpec.pre enc Ybad.prog Ybad.f5 [] false w args ∧ laidMetH Ybad.prog Rows.lawS1410CRoundTripRow.laid w) ∧ sizedMet enc Ybad.prog Ybad.f5 (OpenSpec.ofChange Rows.lawS1410CRoundTripSpec) false w args)
      (Rows.lawS1410CRoundTripSpec.post enc Ybad.prog Ybad.f5 false true false false) := by
  refine returnsInHanded_of_change_and (C := Ybad.checked) (X := fun w _ => laidMetH Ybad.prog Rows.lawS1410CRoundTripRow.laid w) (fun _ _ _ hh h => h.of_heap hh) Ybad.own started (by kernel_rfl) Ybad.func5
    (ChangeSpec.witness_at (enc := enc) (C := Ybad.checked) (os := os) (X := fun w _ => laidMetH Ybad.prog Rows.lawS1410CRoundTripRow.laid w) false (layOn (World.holding Ybad.prog os ⟨#[.cells #[.string synText] 73, .cells #[.string rngText] 73], #[], []⟩)) #[.int .u64 0] 8 rfl (by kernel_rfl) (by kernel_rfl) (by kernel_rfl) (by kernel_rfl) (by kernel_rfl) (laid_met os _)) ?_
  intro W base args ds gs before hval0 hW _ _ hL _
  have hval : ∀ (j : Nat) t v, Ybad.f5.params[j]? = some t → args[j]? = some v → Value.okWide Ybad.prog W .any base t v := hval0
  have hW' := hW
  obtain ⟨p, q, hA0, hV, rfl, _, _⟩ := hW
  have hA : DataW.TrodAll enc Ybad.prog W 0 (fun _ => true) true Ybad.f5.params.toList args.toList ds p := hA0
  rw [Ybad.params5] at hA hval
  obtain ⟨v0, d0, rfl, rfl, h0⟩ := trodAll_one hA
  obtain ⟨rfl, rfl⟩ := trodVars_none hV
  obtain ⟨n, rfl, rfl, rfl, hwn⟩ := open_int Ybad.underlying35 (hval 0 35 v0 rfl rfl) h0
  clear hA0 hval0
  simp only [List.append_nil] at hW'
  have hb : 0 ≤ n ∧ n ≤ 18446744073709551615 := by
    have hmin : IntKind.u64.min = 0 := rfl
    have hmax : IntKind.u64.max = 18446744073709551615 := rfl
    have h := hwn
    simp only [Lit.wf, Bool.and_eq_true, decide_eq_true_eq] at h
    omega
  obtain ⟨u, rfl⟩ : ∃ u : Nat, n = u := ⟨n.toNat, by omega⟩
  refine (law_any u (by omega) W (tab_of_laid hL)).mono fun e W' ⟨he, hw⟩ => ?_
  subst he
  exact ⟨_, rfl, _, _, _, [], [], [], hW', trodAll_mk1 (shut_bool Ybad.underlying4 true), trodAll_mk1 (shut_int Ybad.underlying35 hwn), rfl, hw.frame _, fun h => by cases h⟩

theorem row_holds : Rows.LawS1410CRoundTripSaid :=
  OpenClaim.holds_of_wide 5 Ybad.f5 rfl rfl rfl rfl rfl rfl rfl ⟨rfl, rfl, rfl, rfl, rfl⟩ rfl rfl rfl rfl rfl (by kernel_rfl) Ybad.func5 (by kernel_rfl)
    (of_decide_eq_true (by kernel_rfl)) (by unfold Func.isWrapper; rw [if_neg (of_decide_eq_false (by kernel_rfl))]; exact ⟨rfl, rfl⟩)
    (fun os started H enc _ => law_lifted os started H enc)
end Go.Proofs.YbulkacegDoor
