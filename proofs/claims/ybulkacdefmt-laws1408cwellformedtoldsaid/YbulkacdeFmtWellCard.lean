import Derived.Test.YbulkacdeFmtKitB
import Derived.Test.YbulkacdeFmtWell
namespace Go.Proofs.YbulkacdeFmt
open Go.ChangeShapes Go.WideShapes Go.ChangeAt Go.RowKit Go.Kit
open Go.Extern.Stop Go.Stop Go.Extern

theorem well_full (so ro : Option Addr) (sb sa n sc m tc : Nat) (S T : Nat → Int) (w : World) (hS : ∀ i, i < n → 0 ≤ S i ∧ S i ≤ 255) (hT : ∀ i, i < m → 0 ≤ T i ∧ T i ≤ 255)
    (hso : 0 < n → so = some ⟨sb, sa, none⟩) (htz : ro = none → m = 0 ∧ tc = 0) (hto : ∀ ad, ro = some ad → ∀ j, j < m → w.cell? (ad.add j) = some (.int .u8 (T j))) (hsw : 0 < n → Bytes w sb sa n S) :
    Calls Ybaf.prog 8 #[.slice so n sc, .slice ro m tc] w fun e w' => e = .returned (.bool true) ∧ Below w.heap.size w w' := by
  by_cases hn : 512 < n ∨ 1024 < m
  · exact well_long so ro n sc m tc w hn
  · exact well_any so ro sb sa n sc m tc S T w (by omega) (by omega) hS hT hso htz hto hsw

/-- What a slice of bytes that was read is: its length, its bytes, where they lie. -/
theorem read_bytes {H : Type} {enc : TypeId × Value → H} {W : World} {held : Bool} {fuel : Nat} {oa : Option Addr} {len cap : Nat} {x : DataW H × List MemPlace}
    (hf : DataW.trod enc Ybaf.prog W 0 (fun _ => true) held fuel 24 (Value.slice oa len cap).cells.toList = some x) :
    ∃ (ab ao : Nat) (D : Nat → Int), (0 < len → oa = some ⟨ab, ao, none⟩) ∧ (oa = none → len = 0 ∧ cap = 0) ∧ (0 < len → Bytes W ab ao len D) ∧ (∀ i, i < len → 0 ≤ D i ∧ D i ≤ 255) ∧ len ≤ cap ∧ ∀ ad, oa = some ad → ∀ j, j < len → W.cell? (ad.add j) = some (.int .u8 (D j)) := by
  rcases open_ints Ybaf.underlying24 Ybaf.underlying5 Ybaf.cells5 hf with ⟨hcs, _⟩ | ⟨a, len', cap', zs, hcs, _, hl, _, hz, _, hcell, hwz⟩
  · simp [Value.cells] at hcs
    obtain ⟨rfl, rfl, rfl⟩ := hcs
    exact ⟨0, 0, fun _ => 0, fun h => by omega, fun _ => ⟨rfl, rfl⟩, fun h => by omega, fun i h => by omega, Nat.le_refl _, fun ad h => by cases h⟩
  · simp [Value.cells] at hcs
    obtain ⟨rfl, rfl, rfl⟩ := hcs
    simp only [if_true] at hz
    obtain ⟨ab, a0, h1, h2, h3⟩ := bytes_of hl hz hcell hwz
    exact ⟨ab, a0, fun i => zs.getD i 0, h1, (fun h => by cases h), h2, h3, hl, fun ad h j hj => by cases h; exact hcell j (by omega)⟩

set_option maxRecDepth 100000 in
theorem well_lifted (os : Os) (started : os.Started) (H : Type) (enc : TypeId × Value → H) :
    ReturnsInTold none {} Ybaf.checked os 8 .any Input.okWide ((OpenSpec.ofChange Rows.lawS1408CWellFormedSpec).preRow enc Ybaf.prog Ybaf.f8 [] false []) (fun F => ((OpenSpec.ofChange Rows.lawS1408CWellFormedSpec).at F).post enc Ybaf.prog Ybaf.f8 false true false false) (aloneAtReturn Ybaf.prog) nothingAlways := by
  refine returnsInTold_of_row (C := Ybaf.checked) (s := OpenSpec.ofChange Rows.lawS1408CWellFormedSpec) (by kernel_rfl) Ybaf.own started (by kernel_rfl) Ybaf.func8
    (OpenSpec.witness_stopped (enc := enc) (C := Ybaf.checked) false ⟨#[], #[.slice none 0 0, .slice none 0 0], []⟩ 8 (by kernel_rfl) (by kernel_rfl) (by kernel_rfl) (by kernel_rfl)) ?_
  intro F W base args ds gs before _ _ hval0 hW _ _ _ _ _
  have hval : ∀ (j : Nat) t v, Ybaf.f8.params[j]? = some t → args[j]? = some v → Value.okWide Ybaf.prog W .any base t v := hval0
  have hW' := hW
  obtain ⟨pp, q, hA0, hV, rfl, _, _⟩ := hW
  have hA : DataW.TrodAll enc Ybaf.prog W 0 (fun _ => true) true Ybaf.f8.params.toList args.toList ds pp := hA0
  rw [Ybaf.params8] at hA hval
  obtain ⟨v0, v1, d0, d1, p0, p1, rfl, rfl, rfl, h0, h1⟩ := trodAll_two hA
  obtain ⟨rfl, rfl⟩ := trodVars_none hV
  obtain ⟨so, n, sc, rfl⟩ := okWide_slice Ybaf.underlying24 (hval 0 24 v0 rfl rfl)
  obtain ⟨ro, m, tc, rfl⟩ := okWide_slice Ybaf.underlying24 (hval 1 24 v1 rfl rfl)
  have h0k := h0
  have h1k := h1
  obtain ⟨fuel0, hf0⟩ := h0
  obtain ⟨fuel1, hf1⟩ := h1
  clear hA0 hval0
  simp only [List.append_nil] at hW'
  have hlt : ∀ y ∈ p0 ++ p1, y.block < W.heap.size := fun y hy => by simpa using hW'.lt y hy
  have hlt0 : ∀ y ∈ p0, y.block < W.heap.size := fun y hy => hlt y (List.mem_append.2 (Or.inl hy))
  have hlt1 : ∀ y ∈ p1, y.block < W.heap.size := fun y hy => hlt y (List.mem_append.2 (Or.inr hy))
  obtain ⟨sb, sa, S, s1, _, s3, s4, _, _⟩ := read_bytes hf0
  obtain ⟨tb, ta, T, _, t2, _, t4, _, t6⟩ := read_bytes hf1
  refine (well_full so ro sb sa n sc m tc S T W s4 t4 s1 t2 t6 s3).mono fun e W' ⟨he, hb⟩ => ?_
  subst he
  exact ⟨_, rfl, _, _, _, [], p0 ++ p1, [], hW', trodAll_mk1 (shut_bool Ybaf.underlying4 true),
    trodAll_mk2 (Below.trod Ybaf.laidOut (by kernel_rfl) (of_decide_eq_true (by kernel_rfl)) h0k hb hlt0) (Below.trod Ybaf.laidOut (by kernel_rfl) (of_decide_eq_true (by kernel_rfl)) h1k hb hlt1), rfl, hb.frame _, fun h => by cases h⟩

theorem well_told : Rows.LawS1408CWellFormedToldSaid :=
  Claim7.holds_of_told_any 8 Ybaf.f8 _ [] [] _ _ _ (by kernel_rfl) rfl rfl rfl Ybaf.laidOut (by kernel_rfl) rfl ⟨rfl, rfl, rfl, rfl, rfl, rfl, rfl⟩ rfl rfl (by kernel_rfl) (by kernel_rfl) Ybaf.func8 (by kernel_rfl)
    (of_decide_eq_true (by kernel_rfl)) (of_decide_eq_true (by kernel_rfl)) (by kernel_rfl) rfl Ybaf.stopKnobs.symm (by kernel_rfl)
    (by kernel_rfl) (by kernel_rfl) (by kernel_rfl) (by kernel_rfl) (by kernel_rfl) (by kernel_rfl) (by kernel_rfl) (by kernel_rfl) (by kernel_rfl) rfl (by kernel_rfl) rfl rfl
    rfl rfl
    rfl (by kernel_rfl) (by kernel_rfl) (by kernel_rfl) (by decide) (by kernel_rfl)
    (OpenClaim.moreEntering_of (by kernel_rfl) (by kernel_rfl) (by kernel_rfl) (by kernel_rfl) (by kernel_rfl) (by kernel_rfl) (by kernel_rfl) (by kernel_rfl) (by kernel_rfl) (by kernel_rfl))
    ⟨_, WideRow.started_initial, Ybaf.quiet _⟩
    (fun os started _ H enc _ => well_lifted os started H enc)

end Go.Proofs.YbulkacdeFmt
