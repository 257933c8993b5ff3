import Derived.Test.YbulkacdeFmtKit
import Derived.Test.YbulkacdeFmtScript
import Derived.Deep.Grids
namespace Go.Proofs.YbulkacdeFmt
open Go.ChangeShapes Go.WideShapes Go.ChangeAt Go.RowKit Go.Kit
open Go.Extern.Stop Go.Stop Go.Extern Go.Deep

theorem Ybaf.cells4 : Ybaf.prog.cellsOf 4 = 1 := by kernel_rfl

/-- LawS1408BScript at every input. -/
theorem script_any (s : Int) (ao : Option Addr) (n cap : Nat) (B : Nat → Bool) (w : World) (h0 : 0 ≤ s) (h1 : s ≤ 255) (hc : ∀ a, ao = some a → ∀ i, i < n → w.cell? (a.add i) = some (.bool (B i))) (hz : ao = none → n = 0) :
    Calls Ybaf.prog 7 #[.int .u8 s, .slice ao n cap] w fun e w' => e = .returned (.bool true) ∧ Below w.heap.size w w' := by
  by_cases hn : 1024 < n
  · exact script_long s ao n cap w hn
  by_cases hp : 0 < n
  · cases ao with
    | none => exact absurd (hz rfl) (by omega)
    | some a =>
      obtain ⟨b, off, rfl, hb, hcell⟩ := row_at (V := fun i => .bool (B i)) (hc a rfl) hp
      exact script_some s b off n cap B w h0 h1 (by omega) hb hcell
  · obtain rfl : n = 0 := by omega
    exact script_zero s ao cap w h0 h1

set_option maxRecDepth 100000 in
theorem script_lifted (os : Os) (started : os.Started) (H : Type) (enc : TypeId × Value → H) :
    ReturnsInTold none {} Ybaf.checked os 7 .any Input.okWide ((OpenSpec.ofChange Rows.lawS1408BScriptSpec).preRow enc Ybaf.prog Ybaf.f7 [] false []) (fun F => ((OpenSpec.ofChange Rows.lawS1408BScriptSpec).at F).post enc Ybaf.prog Ybaf.f7 false true false false) (aloneAtReturn Ybaf.prog) nothingAlways := by
  refine returnsInTold_of_row (C := Ybaf.checked) (s := OpenSpec.ofChange Rows.lawS1408BScriptSpec) (by kernel_rfl) Ybaf.own started (by kernel_rfl) Ybaf.func7
    (OpenSpec.witness_stopped (enc := enc) (C := Ybaf.checked) false ⟨#[], #[.int .u8 0, .slice none 0 0], []⟩ 8 (by kernel_rfl) (by kernel_rfl) (by kernel_rfl) (by kernel_rfl)) ?_
  intro F W base args ds gs before _ _ hval0 hW _ _ _ _ _
  have hval : ∀ (j : Nat) t v, Ybaf.f7.params[j]? = some t → args[j]? = some v → Value.okWide Ybaf.prog W .any base t v := hval0
  have hW' := hW
  obtain ⟨p, q, hA0, hV, rfl, _, _⟩ := hW
  have hA : DataW.TrodAll enc Ybaf.prog W 0 (fun _ => true) true Ybaf.f7.params.toList args.toList ds p := hA0
  rw [Ybaf.params7] at hA hval
  obtain ⟨v0, v1, d0, d1, p0, p1, rfl, rfl, rfl, h0, h1⟩ := trodAll_two hA
  obtain ⟨rfl, rfl⟩ := trodVars_none hV
  obtain ⟨x, rfl, rfl, rfl, wx⟩ := open_int Ybaf.underlying5 (hval 0 5 v0 rfl rfl) h0
  obtain ⟨ao, len, cap, rfl⟩ := okWide_slice Ybaf.underlying50 (hval 1 50 v1 rfl rfl)
  have h1k := h1
  obtain ⟨fuel, hf⟩ := h1
  clear hA0 hval0
  simp only [List.append_nil, List.nil_append] at hW'
  have hlt : ∀ y ∈ p1, y.block < W.heap.size := fun y hy => by simpa using hW'.lt y hy
  have hargs : ∀ (W' : World), Below W.heap.size W W' → DataW.Trod enc Ybaf.prog W' 0 (fun b => decide (b < W.heap.size)) true 50 (.slice ao len cap) d1 p1 :=
    fun W' hn => Below.trod Ybaf.laidOut (by kernel_rfl) (of_decide_eq_true (by kernel_rfl)) h1k hn hlt
  have hx := bounds_u8 wx
  have hwalk : Calls Ybaf.prog 7 #[.int .u8 x, .slice ao len cap] W fun e w' => e = .returned (.bool true) ∧ Below W.heap.size W w' := by
    rcases open_bools Ybaf.underlying50 Ybaf.underlying4 Ybaf.cells4 hf with ⟨hcs, _⟩ | ⟨a, len', cap', B, hcs, _, hl, _, _, hcell⟩
    · simp [Value.cells] at hcs
      obtain ⟨rfl, rfl, rfl⟩ := hcs
      exact script_any x none 0 0 (fun _ => false) W hx.1 hx.2 (fun _ h => by cases h) (fun _ => rfl)
    · simp [Value.cells] at hcs
      obtain ⟨rfl, rfl, rfl⟩ := hcs
      exact script_any x (some a) len cap B W hx.1 hx.2 (fun a' h i hi => by cases h; exact hcell i (by omega)) (fun h => by cases h)
  refine hwalk.mono fun e W' ⟨he, hb⟩ => ?_
  subst he
  exact ⟨_, rfl, _, _, _, [], p1, [], hW', trodAll_mk1 (shut_bool Ybaf.underlying4 true), trodAll_mk2 (shut_int Ybaf.underlying5 wx) (hargs _ hb), rfl, hb.frame _, fun h => by cases h⟩

theorem script_told : Rows.LawS1408BScriptToldSaid :=
  Claim7.holds_of_told_any 7 Ybaf.f7 _ [] [] _ _ _ (by kernel_rfl) rfl rfl rfl Ybaf.laidOut (by kernel_rfl) rfl ⟨rfl, rfl, rfl, rfl, rfl, rfl, rfl⟩ rfl rfl (by kernel_rfl) (by kernel_rfl) Ybaf.func7 (by kernel_rfl)
    (of_decide_eq_true (by kernel_rfl)) (of_decide_eq_true (by kernel_rfl)) (by kernel_rfl) rfl Ybaf.stopKnobs.symm (by kernel_rfl)
    (by kernel_rfl) (by kernel_rfl) (by kernel_rfl) (by kernel_rfl) (by kernel_rfl) (by kernel_rfl) (by kernel_rfl) (by kernel_rfl) (by kernel_rfl) rfl (by kernel_rfl) rfl rfl
    rfl rfl
    rfl (by kernel_rfl) (by kernel_rfl) (by kernel_rfl) (by decide) (by kernel_rfl)
    (OpenClaim.moreEntering_of (by kernel_rfl) (by kernel_rfl) (by kernel_rfl) (by kernel_rfl) (by kernel_rfl) (by kernel_rfl) (by kernel_rfl) (by kernel_rfl) (by kernel_rfl) (by kernel_rfl))
    ⟨_, WideRow.started_initial, Ybaf.quiet _⟩
    (fun os started _ H enc _ => script_lifted os started H enc)

end Go.Proofs.YbulkacdeFmt
