import Derived.Test.YbulkacdeFmtKit
import Derived.Test.YbulkacdeFmtDec
namespace Go.Proofs.YbulkacdeFmt
open Go.ChangeShapes Go.WideShapes Go.ChangeAt Go.RowKit Go.Kit
open Go.Extern.Stop Go.Stop Go.Extern

theorem Ybaf.cells5 : Ybaf.prog.cellsOf 5 = 1 := by kernel_rfl

/-- A slice of bytes that was read: where it lies. -/
theorem bytes_of {w : World} {a : Addr} {len cap : Nat} {zs : List Int} (hl : len ≤ cap) (hz : zs.length = cap) (hcell : ∀ i, i < zs.length → w.cell? (a.add i) = some (.int .u8 (zs.getD i 0))) (hw : ∀ x ∈ zs, (Lit.int .u8 x).wf = true) :
    ∃ ab ao, (0 < len → some a = some (⟨ab, ao, none⟩ : Addr)) ∧ (0 < len → Bytes w ab ao len (fun i => zs.getD i 0)) ∧ ∀ i, i < len → 0 ≤ zs.getD i 0 ∧ zs.getD i 0 ≤ 255 := by
  have hb : ∀ i, i < len → 0 ≤ zs.getD i 0 ∧ zs.getD i 0 ≤ 255 := fun i hi => by
    have hi' : i < zs.length := by omega
    rw [List.getD_eq_getElem?_getD, List.getElem?_eq_getElem hi', Option.getD_some]
    exact bounds_u8 (hw _ (List.getElem_mem hi'))
  by_cases hp : 0 < len
  · obtain ⟨ab, ao, rfl, hlt, hc⟩ := row_at (V := fun i => .int .u8 (zs.getD i 0)) hcell (by omega)
    exact ⟨ab, ao, fun _ => rfl, fun _ => ⟨hlt, fun i hi => hc i (by omega)⟩, hb⟩
  · exact ⟨0, 0, fun h => absurd h hp, fun h => absurd h hp, hb⟩

end Go.Proofs.YbulkacdeFmt
