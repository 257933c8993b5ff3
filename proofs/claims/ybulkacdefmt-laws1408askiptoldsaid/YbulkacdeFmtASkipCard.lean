import Derived.Test.YbulkacdeFmtKitB
import Derived.Test.YbulkacdeFmtASkip
namespace Go.Proofs.YbulkacdeFmt
open Go.ChangeShapes Go.WideShapes Go.ChangeAt Go.RowKit Go.Kit
open Go.Extern.Stop Go.Stop Go.Extern

theorem bounds_u64 {x : Int} (h : (Lit.int .u64 x).wf = true) : 0 ≤ x ∧ x ≤ 18446744073709551615 := by
  have hmin : IntKind.u64.min = 0 := rfl
  have hmax : IntKind.u64.max = 18446744073709551615 := rfl
  simp only [Lit.wf, Bool.and_eq_true, decide_eq_true_eq] at h
  omega

theorem askip_full (oa : Option Addr) (ab ao n cap : Nat) (D : Nat → Int) (p : Int) (w : World) (hp0 : 0 ≤ p) (hp1 : p ≤ 18446744073709551615) (hb : ∀ i, i < n → 0 ≤ D i ∧ D i ≤ 255) (hz : oa = none → n = 0 ∧ cap = 0) (ha : 0 < n → oa = some ⟨ab, ao, none⟩) (hby : 0 < n → Bytes w ab ao n D) :
    Calls Ybaf.prog 5 #[.slice oa n cap, .int .u64 p] w fun e w' => e = .returned (.bool true) ∧ Below w.heap.size w w' := by
  by_cases hn : 4096 < n
  · exact askip_long oa n cap p w hn
  · exact askip_any oa ab ao n cap D p w hp0 hp1 (by omega) hb hz ha hby

set_option maxRecDepth 100000 in
theorem askip_lifted (os : Os) (started : os.Started) (H : Type) (enc : TypeId × Value → H) :
    ReturnsInTold none {} Ybaf.checked os 5 .any Input.okWide ((OpenSpec.ofChange Rows.lawS1408ASkipSpec).preRow enc Ybaf.prog Ybaf.f5 [] false []) (fun F => ((OpenSpec.ofChange Rows.lawS1408ASkipSpec).at F).post enc Ybaf.prog Ybaf.f5 false true false false) (aloneAtReturn Ybaf.prog) nothingAlways := by
  refine returnsInTold_of_row (C := Ybaf.checked) (s := OpenSpec.ofChange Rows.lawS1408ASkipSpec) (by kernel_rfl) Ybaf.own started (by kernel_rfl) Ybaf.func5
    (OpenSpec.witness_stopped (enc := enc) (C := Ybaf.checked) false ⟨#[], #[.slice none 0 0, .int .u64 0], []⟩ 8 (by kernel_rfl) (by kernel_rfl) (by kernel_rfl) (by kernel_rfl)) ?_
  intro F W base args ds gs before _ _ hval0 hW _ _ _ _ _
  have hval : ∀ (j : Nat) t v, Ybaf.f5.params[j]? = some t → args[j]? = some v → Value.okWide Ybaf.prog W .any base t v := hval0
  have hW' := hW
  obtain ⟨pp, q, hA0, hV, rfl, _, _⟩ := hW
  have hA : DataW.TrodAll enc Ybaf.prog W 0 (fun _ => true) true Ybaf.f5.params.toList args.toList ds pp := hA0
  rw [Ybaf.params5] at hA hval
  obtain ⟨v0, v1, d0, d1, p, p1, rfl, rfl, rfl, h0, h1⟩ := trodAll_two hA
  obtain ⟨rfl, rfl⟩ := trodVars_none hV
  obtain ⟨ao, len, cap, rfl⟩ := okWide_slice Ybaf.underlying24 (hval 0 24 v0 rfl rfl)
  obtain ⟨x, rfl, rfl, rfl, wx⟩ := open_int Ybaf.underlying38 (hval 1 38 v1 rfl rfl) h1
  have h0k := h0
  obtain ⟨fuel, hf⟩ := h0
  clear hA0 hval0
  simp only [List.append_nil] at hW'
  have hx := bounds_u64 wx
  have hlt : ∀ y ∈ p, y.block < W.heap.size := fun y hy => by simpa using hW'.lt y hy
  have hargs : ∀ (W' : World), Below W.heap.size W W' → DataW.Trod enc Ybaf.prog W' 0 (fun b => decide (b < W.heap.size)) true 24 (.slice ao len cap) d0 p :=
    fun W' hn => Below.trod Ybaf.laidOut (by kernel_rfl) (of_decide_eq_true (by kernel_rfl)) h0k hn hlt
  have hwalk : Calls Ybaf.prog 5 #[.slice ao len cap, .int .u64 x] W fun e w' => e = .returned (.bool true) ∧ Below W.heap.size W w' := by
    rcases open_ints Ybaf.underlying24 Ybaf.underlying5 Ybaf.cells5 hf with ⟨hcs, _⟩ | ⟨a, len', cap', zs, hcs, _, hl, _, hz, _, hcell, hwz⟩
    · simp [Value.cells] at hcs
      obtain ⟨rfl, rfl, rfl⟩ := hcs
      exact askip_full none 0 0 0 0 (fun _ => 0) x W hx.1 hx.2 (fun i h => by omega) (fun _ => ⟨rfl, rfl⟩) (fun h => by omega) (fun h => by omega)
    · simp [Value.cells] at hcs
      obtain ⟨rfl, rfl, rfl⟩ := hcs
      simp only [if_true] at hz
      obtain ⟨ab, a0, h1, h2, h3⟩ := bytes_of hl hz hcell hwz
      exact askip_full (some a) ab a0 len cap _ x W hx.1 hx.2 h3 (fun h => by cases h) h1 h2
  refine hwalk.mono fun e W' ⟨he, hb⟩ => ?_
  subst he
  have hA2 := trodAll_mk2 (hargs _ hb) (shut_int (enc := enc) (w := W') (base := 0) (spare := fun b => decide (b < W.heap.size)) (held := true) Ybaf.underlying38 wx)
  rw [List.append_nil] at hA2
  exact ⟨_, rfl, _, _, _, [], p, [], hW', trodAll_mk1 (shut_bool Ybaf.underlying4 true), hA2, rfl, hb.frame _, fun h => by cases h⟩

theorem askip_told : Rows.LawS1408ASkipToldSaid :=
  Claim7.holds_of_told_any 5 Ybaf.f5 _ [] [] _ _ _ (by kernel_rfl) rfl rfl rfl Ybaf.laidOut (by kernel_rfl) rfl ⟨rfl, rfl, rfl, rfl, rfl, rfl, rfl⟩ rfl rfl (by kernel_rfl) (by kernel_rfl) Ybaf.func5 (by kernel_rfl)
    (of_decide_eq_true (by kernel_rfl)) (of_decide_eq_true (by kernel_rfl)) (by kernel_rfl) rfl Ybaf.stopKnobs.symm (by kernel_rfl)
    (by kernel_rfl) (by kernel_rfl) (by kernel_rfl) (by kernel_rfl) (by kernel_rfl) (by kernel_rfl) (by kernel_rfl) (by kernel_rfl) (by kernel_rfl) rfl (by kernel_rfl) rfl rfl
    rfl rfl
    rfl (by kernel_rfl) (by kernel_rfl) (by kernel_rfl) (by decide) (by kernel_rfl)
    (OpenClaim.moreEntering_of (by kernel_rfl) (by kernel_rfl) (by kernel_rfl) (by kernel_rfl) (by kernel_rfl) (by kernel_rfl) (by kernel_rfl) (by kernel_rfl) (by kernel_rfl) (by kernel_rfl))
    ⟨_, WideRow.started_initial, Ybaf.quiet _⟩
    (fun os started _ H enc _ => askip_lifted os started H enc)

end Go.Proofs.YbulkacdeFmt
