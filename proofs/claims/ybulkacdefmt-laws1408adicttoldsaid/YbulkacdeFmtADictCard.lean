import Derived.Test.YbulkacdeFmtKitB
import Derived.Test.YbulkacdeFmtADict
namespace Go.Proofs.YbulkacdeFmt
open Go.ChangeShapes Go.WideShapes Go.ChangeAt Go.RowKit Go.Kit
open Go.Extern.Stop Go.Stop Go.Extern

theorem Ybaf.cells2 : Ybaf.prog.cellsOf 2 = 1 := by kernel_rfl

set_option maxRecDepth 100000 in
theorem adict_long (so : Option Addr) (n sc : Nat) (w : World) (h : 1024 < n) :
    Calls Ybaf.prog 4 #[.slice so n sc] w fun e w' => e = .returned (.bool true) ∧ Below w.heap.size w w' := by
  have h1' : (1024 : Int) < n := by omega
  go_enter Ybaf.func4, Ybaf.ntmps4
  go_wp2
  go_ret
  exact ⟨rfl, Below.refl _ _⟩

/-- What a slice of int64 that was read is: its length, its numbers, where they lie. -/
theorem read_nums {H : Type} {enc : TypeId × Value → H} {W : World} {held : Bool} {fuel : Nat} {oa : Option Addr} {len cap : Nat} {x : DataW H × List MemPlace}
    (hf : DataW.trod enc Ybaf.prog W 0 (fun _ => true) held fuel 22 (Value.slice oa len cap).cells.toList = some x) :
    ∃ (ab ao : Nat) (A : Nat → Int), (0 < len → oa = some ⟨ab, ao, none⟩) ∧ (∀ j, j < len → W.cell? ⟨ab, ao + j, none⟩ = some (.int .i64 (A j))) ∧ ∀ i, i < len → -9223372036854775808 ≤ A i ∧ A i ≤ 9223372036854775807 := by
  rcases open_ints Ybaf.underlying22 Ybaf.underlying2 Ybaf.cells2 hf with ⟨hcs, _⟩ | ⟨a, len', cap', zs, hcs, _, hl, _, hz, _, hcell, hwz⟩
  · simp [Value.cells] at hcs
    obtain ⟨rfl, rfl, rfl⟩ := hcs
    exact ⟨0, 0, fun _ => 0, fun h => by omega, fun i h => by omega, fun i h => by omega⟩
  · simp [Value.cells] at hcs
    obtain ⟨rfl, rfl, rfl⟩ := hcs
    simp only [if_true] at hz
    by_cases hp : 0 < len
    · obtain ⟨ab, ao, rfl, _, hc⟩ := row_at (V := fun i => .int .i64 (zs.getD i 0)) hcell (by omega)
      refine ⟨ab, ao, fun i => zs.getD i 0, fun _ => rfl, fun j hj => hc j (by omega), fun i hi => ?_⟩
      have hi' : i < zs.length := by omega
      show -9223372036854775808 ≤ zs.getD i 0 ∧ zs.getD i 0 ≤ 9223372036854775807
      rw [List.getD_eq_getElem?_getD, List.getElem?_eq_getElem hi', Option.getD_some]
      have h := hwz _ (List.getElem_mem hi')
      have hmin : IntKind.i64.min = -9223372036854775808 := rfl
      have hmax : IntKind.i64.max = 9223372036854775807 := rfl
      simp only [Lit.wf, Bool.and_eq_true, decide_eq_true_eq] at h
      omega
    · exact ⟨0, 0, fun _ => 0, fun h => by omega, fun i h => by omega, fun i h => by omega⟩

theorem adict_full (no : Option Addr) (nb na n nc : Nat) (A : Nat → Int) (w : World)
    (hA : ∀ i, i < n → -9223372036854775808 ≤ A i ∧ A i ≤ 9223372036854775807) (hno : 0 < n → no = some ⟨nb, na, none⟩)
    (hnc : ∀ j, j < n → w.cell? ⟨nb, na + j, none⟩ = some (.int .i64 (A j))) :
    Calls Ybaf.prog 4 #[.slice no n nc] w fun e w' => e = .returned (.bool true) ∧ Below w.heap.size w w' := by
  by_cases h : 1024 < n
  · exact adict_long no n nc w h
  · exact adict_any no nb na n nc A w (by omega) hA hno hnc

set_option maxRecDepth 100000 in
theorem adict_lifted (os : Os) (started : os.Started) (H : Type) (enc : TypeId × Value → H) :
    ReturnsInTold none {} Ybaf.checked os 4 .any Input.okWide ((OpenSpec.ofChange Rows.lawS1408ADictSpec).preRow enc Ybaf.prog Ybaf.f4 [] false []) (fun F => ((OpenSpec.ofChange Rows.lawS1408ADictSpec).at F).post enc Ybaf.prog Ybaf.f4 false true false false) (aloneAtReturn Ybaf.prog) nothingAlways := by
  refine returnsInTold_of_row (C := Ybaf.checked) (s := OpenSpec.ofChange Rows.lawS1408ADictSpec) (by kernel_rfl) Ybaf.own started (by kernel_rfl) Ybaf.func4
    (OpenSpec.witness_stopped (enc := enc) (C := Ybaf.checked) false ⟨#[], #[.slice none 0 0], []⟩ 8 (by kernel_rfl) (by kernel_rfl) (by kernel_rfl) (by kernel_rfl)) ?_
  intro F W base args ds gs before _ _ hval0 hW _ _ _ _ _
  have hval : ∀ (j : Nat) t v, Ybaf.f4.params[j]? = some t → args[j]? = some v → Value.okWide Ybaf.prog W .any base t v := hval0
  have hW' := hW
  obtain ⟨p, q, hA0, hV, rfl, _, _⟩ := hW
  have hA : DataW.TrodAll enc Ybaf.prog W 0 (fun _ => true) true Ybaf.f4.params.toList args.toList ds p := hA0
  rw [Ybaf.params4] at hA hval
  obtain ⟨v0, d0, rfl, rfl, h0⟩ := trodAll_one hA
  obtain ⟨rfl, rfl⟩ := trodVars_none hV
  obtain ⟨ao, len, cap, rfl⟩ := okWide_slice Ybaf.underlying22 (hval 0 22 v0 rfl rfl)
  have h0k := h0
  obtain ⟨fuel, hf⟩ := h0
  clear hA0 hval0
  simp only [List.append_nil] at hW'
  have hlt : ∀ y ∈ p, y.block < W.heap.size := fun y hy => by simpa using hW'.lt y hy
  have hargs : ∀ (W' : World), Below W.heap.size W W' → DataW.Trod enc Ybaf.prog W' 0 (fun b => decide (b < W.heap.size)) true 22 (.slice ao len cap) d0 p :=
    fun W' hn => Below.trod Ybaf.laidOut (by kernel_rfl) (of_decide_eq_true (by kernel_rfl)) h0k hn hlt
  obtain ⟨nb, na, A, n1, n2, n3⟩ := read_nums hf
  refine (adict_full ao nb na len cap A W n3 n1 n2).mono fun e W' ⟨he, hb⟩ => ?_
  subst he
  exact ⟨_, rfl, _, _, _, [], p, [], hW', trodAll_mk1 (shut_bool Ybaf.underlying4 true), trodAll_mk1 (hargs _ hb), rfl, hb.frame _, fun h => by cases h⟩

theorem adict_told : Rows.LawS1408ADictToldSaid :=
  Claim7.holds_of_told_any 4 Ybaf.f4 _ [] [] _ _ _ (by kernel_rfl) rfl rfl rfl Ybaf.laidOut (by kernel_rfl) rfl ⟨rfl, rfl, rfl, rfl, rfl, rfl, rfl⟩ rfl rfl (by kernel_rfl) (by kernel_rfl) Ybaf.func4 (by kernel_rfl)
    (of_decide_eq_true (by kernel_rfl)) (of_decide_eq_true (by kernel_rfl)) (by kernel_rfl) rfl Ybaf.stopKnobs.symm (by kernel_rfl)
    (by kernel_rfl) (by kernel_rfl) (by kernel_rfl) (by kernel_rfl) (by kernel_rfl) (by kernel_rfl) (by kernel_rfl) (by kernel_rfl) (by kernel_rfl) rfl (by kernel_rfl) rfl rfl
    rfl rfl
    rfl (by kernel_rfl) (by kernel_rfl) (by kernel_rfl) (by decide) (by kernel_rfl)
    (OpenClaim.moreEntering_of (by kernel_rfl) (by kernel_rfl) (by kernel_rfl) (by kernel_rfl) (by kernel_rfl) (by kernel_rfl) (by kernel_rfl) (by kernel_rfl) (by kernel_rfl) (by kernel_rfl))
    ⟨_, WideRow.started_initial, Ybaf.quiet _⟩
    (fun os started _ H enc _ => adict_lifted os started H enc)

end Go.Proofs.YbulkacdeFmt
