import Derived.Test.YbulkacdeFmtKitB
import Derived.Test.YbulkacdeFmtAList
import Derived.SliceStrings
namespace Go.Proofs.YbulkacdeFmt
open Go.ChangeShapes Go.WideShapes Go.ChangeAt Go.RowKit Go.Kit
open Go.Extern.Stop Go.Stop Go.Extern

theorem Ybaf.cells2 : Ybaf.prog.cellsOf 2 = 1 := by kernel_rfl
theorem Ybaf.cells9 : Ybaf.prog.cellsOf 9 = 1 := by kernel_rfl

set_option maxRecDepth 100000 in
theorem alist_long (so ro : Option Addr) (n sc m tc : Nat) (w : World) (h : 1024 < n ∨ 1024 < m) :
    Calls Ybaf.prog 3 #[.slice so n sc, .slice ro m tc] w fun e w' => e = .returned (.bool true) ∧ Below w.heap.size w w' := by
  by_cases h1 : 1024 < n
  · have h1' : (1024 : Int) < n := by omega
    go_enter Ybaf.func3, Ybaf.ntmps3
    go_wp2
    go_ret
    exact ⟨rfl, Below.refl _ _⟩
  · have h2 : (1024 : Int) < m := by omega
    have h1' : ¬ (1024 : Int) < n := by omega
    go_enter Ybaf.func3, Ybaf.ntmps3
    go_wp2
    go_ret
    exact ⟨rfl, Below.refl _ _⟩

/-- What a slice of int64 that was read is: its length, its numbers, where they lie. -/
theorem read_ints {H : Type} {enc : TypeId × Value → H} {W : World} {held : Bool} {fuel : Nat} {oa : Option Addr} {len cap : Nat} {x : DataW H × List MemPlace}
    (hf : DataW.trod enc Ybaf.prog W 0 (fun _ => true) held fuel 22 (Value.slice oa len cap).cells.toList = some x) :
    ∃ (ab ao : Nat) (A : Nat → Int), (0 < len → oa = some ⟨ab, ao, none⟩) ∧ (∀ j, j < len → W.cell? ⟨ab, ao + j, none⟩ = some (.int .i64 (A j))) ∧ ∀ i, i < len → -9223372036854775808 ≤ A i ∧ A i ≤ 9223372036854775807 := by
  rcases open_ints Ybaf.underlying22 Ybaf.underlying2 Ybaf.cells2 hf with ⟨hcs, _⟩ | ⟨a, len', cap', zs, hcs, _, hl, _, hz, _, hcell, hwz⟩
  · simp [Value.cells] at hcs
    obtain ⟨rfl, rfl, rfl⟩ := hcs
    exact ⟨0, 0, fun _ => 0, fun h => by omega, fun i h => by omega, fun i h => by omega⟩
  · simp [Value.cells] at hcs
    obtain ⟨rfl, rfl, rfl⟩ := hcs
    simp only [if_true] at hz
    by_cases hp : 0 < len
    · obtain ⟨ab, ao, rfl, _, hc⟩ := row_at (V := fun i => .int .i64 (zs.getD i 0)) hcell (by omega)
      refine ⟨ab, ao, fun i => zs.getD i 0, fun _ => rfl, fun j hj => hc j (by omega), fun i hi => ?_⟩
      have hi' : i < zs.length := by omega
      show -9223372036854775808 ≤ zs.getD i 0 ∧ zs.getD i 0 ≤ 9223372036854775807
      rw [List.getD_eq_getElem?_getD, List.getElem?_eq_getElem hi', Option.getD_some]
      have h := hwz _ (List.getElem_mem hi')
      have hmin : IntKind.i64.min = -9223372036854775808 := rfl
      have hmax : IntKind.i64.max = 9223372036854775807 := rfl
      simp only [Lit.wf, Bool.and_eq_true, decide_eq_true_eq] at h
      omega
    · exact ⟨0, 0, fun _ => 0, fun h => by omega, fun i h => by omega, fun i h => by omega⟩

/-- What a slice of strings that was read is. -/
theorem read_strs {H : Type} {enc : TypeId × Value → H} {W : World} {held : Bool} {fuel : Nat} {oa : Option Addr} {len cap : Nat} {x : DataW H × List MemPlace}
    (hf : DataW.trod enc Ybaf.prog W 0 (fun _ => true) held fuel 23 (Value.slice oa len cap).cells.toList = some x) :
    ∃ (ab ao : Nat) (T : Nat → ByteArray), (0 < len → oa = some ⟨ab, ao, none⟩) ∧ ∀ j, j < len → W.cell? ⟨ab, ao + j, none⟩ = some (.string (T j)) := by
  rcases open_strings Ybaf.underlying23 Ybaf.underlying9 Ybaf.cells9 hf with ⟨hcs, _⟩ | ⟨a, len', cap', zs, hcs, _, hl, _, hz, _, hcell, hwz⟩
  · simp [Value.cells] at hcs
    obtain ⟨rfl, rfl, rfl⟩ := hcs
    exact ⟨0, 0, fun _ => ByteArray.empty, fun h => by omega, fun i h => by omega⟩
  · simp [Value.cells] at hcs
    obtain ⟨rfl, rfl, rfl⟩ := hcs
    simp only [if_true] at hz
    by_cases hp : 0 < len
    · obtain ⟨ab, ao, rfl, _, hc⟩ := row_at (V := fun i => .string (zs.getD i ByteArray.empty)) hcell (by omega)
      exact ⟨ab, ao, fun i => zs.getD i ByteArray.empty, fun _ => rfl, fun j hj => hc j (by omega)⟩
    · exact ⟨0, 0, fun _ => ByteArray.empty, fun h => by omega, fun i h => by omega⟩

theorem alist_full (no so : Option Addr) (nb na n nc sb sa k sc : Nat) (A : Nat → Int) (T : Nat → ByteArray) (w : World)
    (hA : ∀ i, i < n → -9223372036854775808 ≤ A i ∧ A i ≤ 9223372036854775807)
    (hno : 0 < n → no = some ⟨nb, na, none⟩) (hso : 0 < k → so = some ⟨sb, sa, none⟩)
    (hnc : ∀ j, j < n → w.cell? ⟨nb, na + j, none⟩ = some (.int .i64 (A j))) (hsc : ∀ j, j < k → w.cell? ⟨sb, sa + j, none⟩ = some (.string (T j))) :
    Calls Ybaf.prog 3 #[.slice no n nc, .slice so k sc] w fun e w' => e = .returned (.bool true) ∧ Below w.heap.size w w' := by
  by_cases h : 1024 < n ∨ 1024 < k
  · exact alist_long no so n nc k sc w h
  · exact alist_any no so nb na n nc sb sa k sc A T w (by omega) (by omega) hA hno hso hnc hsc

set_option maxRecDepth 100000 in
theorem alist_lifted (os : Os) (started : os.Started) (H : Type) (enc : TypeId × Value → H) :
    ReturnsInTold none {} Ybaf.checked os 3 .any Input.okWide ((OpenSpec.ofChange Rows.lawS1408AListSpec).preRow enc Ybaf.prog Ybaf.f3 [] false []) (fun F => ((OpenSpec.ofChange Rows.lawS1408AListSpec).at F).post enc Ybaf.prog Ybaf.f3 false true false false) (aloneAtReturn Ybaf.prog) nothingAlways := by
  refine returnsInTold_of_row (C := Ybaf.checked) (s := OpenSpec.ofChange Rows.lawS1408AListSpec) (by kernel_rfl) Ybaf.own started (by kernel_rfl) Ybaf.func3
    (OpenSpec.witness_stopped (enc := enc) (C := Ybaf.checked) false ⟨#[], #[.slice none 0 0, .slice none 0 0], []⟩ 3 (by kernel_rfl) (by kernel_rfl) (by kernel_rfl) (by kernel_rfl)) ?_
  intro F W base args ds gs before _ _ hval0 hW _ _ _ _ _
  have hval : ∀ (j : Nat) t v, Ybaf.f3.params[j]? = some t → args[j]? = some v → Value.okWide Ybaf.prog W .any base t v := hval0
  have hW' := hW
  obtain ⟨pp, q, hA0, hV, rfl, _, _⟩ := hW
  have hA : DataW.TrodAll enc Ybaf.prog W 0 (fun _ => true) true Ybaf.f3.params.toList args.toList ds pp := hA0
  rw [Ybaf.params3] at hA hval
  obtain ⟨v0, v1, d0, d1, p0, p1, rfl, rfl, rfl, h0, h1⟩ := trodAll_two hA
  obtain ⟨rfl, rfl⟩ := trodVars_none hV
  obtain ⟨so, n, sc, rfl⟩ := okWide_slice Ybaf.underlying22 (hval 0 22 v0 rfl rfl)
  obtain ⟨ro, m, tc, rfl⟩ := okWide_slice Ybaf.underlying23 (hval 1 23 v1 rfl rfl)
  have h0k := h0
  have h1k := h1
  obtain ⟨fuel0, hf0⟩ := h0
  obtain ⟨fuel1, hf1⟩ := h1
  clear hA0 hval0
  simp only [List.append_nil] at hW'
  have hlt : ∀ y ∈ p0 ++ p1, y.block < W.heap.size := fun y hy => by simpa using hW'.lt y hy
  have hlt0 : ∀ y ∈ p0, y.block < W.heap.size := fun y hy => hlt y (List.mem_append.2 (Or.inl hy))
  have hlt1 : ∀ y ∈ p1, y.block < W.heap.size := fun y hy => hlt y (List.mem_append.2 (Or.inr hy))
  obtain ⟨nb, na, A, n1, n2, n3⟩ := read_ints hf0
  obtain ⟨tb, ta, T, t1, t2⟩ := read_strs hf1
  refine (alist_full so ro nb na n sc tb ta m tc A T W n3 n1 t1 n2 t2).mono fun e W' ⟨he, hb⟩ => ?_
  subst he
  exact ⟨_, rfl, _, _, _, [], p0 ++ p1, [], hW', trodAll_mk1 (shut_bool Ybaf.underlying4 true),
    trodAll_mk2 (Below.trod Ybaf.laidOut (by kernel_rfl) (of_decide_eq_true (by kernel_rfl)) h0k hb hlt0) (Below.trod Ybaf.laidOut (by kernel_rfl) (of_decide_eq_true (by kernel_rfl)) h1k hb hlt1), rfl, hb.frame _, fun h => by cases h⟩

theorem alist_told : Rows.LawS1408AListToldSaid :=
  Claim7.holds_of_told_any 3 Ybaf.f3 _ [] [] _ _ _ (by kernel_rfl) rfl rfl rfl Ybaf.laidOut (by kernel_rfl) rfl ⟨rfl, rfl, rfl, rfl, rfl, rfl, rfl⟩ rfl rfl (by kernel_rfl) (by kernel_rfl) Ybaf.func3 (by kernel_rfl)
    (of_decide_eq_true (by kernel_rfl)) (of_decide_eq_true (by kernel_rfl)) (by kernel_rfl) rfl Ybaf.stopKnobs.symm (by kernel_rfl)
    (by kernel_rfl) (by kernel_rfl) (by kernel_rfl) (by kernel_rfl) (by kernel_rfl) (by kernel_rfl) (by kernel_rfl) (by kernel_rfl) (by kernel_rfl) rfl (by kernel_rfl) rfl rfl
    rfl rfl
    rfl (by kernel_rfl) (by kernel_rfl) (by kernel_rfl) (by decide) (by kernel_rfl)
    (OpenClaim.moreEntering_of (by kernel_rfl) (by kernel_rfl) (by kernel_rfl) (by kernel_rfl) (by kernel_rfl) (by kernel_rfl) (by kernel_rfl) (by kernel_rfl) (by kernel_rfl) (by kernel_rfl))
    ⟨_, WideRow.started_initial, Ybaf.quiet _⟩
    (fun os started _ H enc _ => alist_lifted os started H enc)

end Go.Proofs.YbulkacdeFmt
