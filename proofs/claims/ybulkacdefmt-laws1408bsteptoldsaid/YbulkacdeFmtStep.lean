import Derived.Test.YbulkacdeFmtLow
namespace Go.Proofs.YbulkacdeFmt
open Go.RowKit

set_option maxHeartbeats 400000 in
theorem step_zero (pos depth sel : Int) (w : World) (h0 : 0 ≤ sel) (h1 : sel ≤ 255) (k0 : (sel % 3 == 0) = true) :
    Calls Ybaf.prog 6 #[.int .i64 pos, .int .i64 depth, .int .u8 sel] w fun e w' => e = .returned (.bool true) ∧ Below w.heap.size w w' := by
  have hta := Ybaf.assert44
  go_enter Ybaf.func6, Ybaf.ntmps6
  go_wp2_with fail
  refine (open_deep w.heap.size pos _ (by go_simp) (by go_simp) (by simp)).mono ?_
  rintro e w' ⟨s, rfl, rfl⟩
  go_wp2
  go_ret
  exact ⟨rfl, (((((Below.refl _ _).alloc (Nat.le_refl _) _).alloc (by simp) _).alloc (by simp; omega) _).drew).drew⟩

set_option maxHeartbeats 400000 in
theorem step_one (pos depth sel : Int) (w : World) (h0 : 0 ≤ sel) (h1 : sel ≤ 255) (k0 : (sel % 3 == 0) = false) (k1 : (sel % 3 == 1) = true) :
    Calls Ybaf.prog 6 #[.int .i64 pos, .int .i64 depth, .int .u8 sel] w fun e w' => e = .returned (.bool true) ∧ Below w.heap.size w w' := by
  go_enter Ybaf.func6, Ybaf.ntmps6
  go_wp2_with fail
  refine (open_any w.heap.size pos 99 _ (by go_simp) (by go_simp) rfl (by go_simp) (by go_simp)).mono ?_
  rintro e w' ⟨rfl, rfl⟩
  go_wp2
  go_ret
  refine ⟨?_, ?_⟩
  · show Ending.returned (.bool (wrap64 100 == 100)) = _
    rw [show wrap64 100 = 100 from by unfold wrap64; decide]; rfl
  · exact (Below.refl _ _).alloc (Nat.le_refl _) _

set_option maxHeartbeats 400000 in
theorem step_deep (pos sel : Int) (w : World) (h0 : 0 ≤ sel) (h1 : sel ≤ 255) (k0 : (sel % 3 == 0) = false) (k1 : (sel % 3 == 1) = false) :
    Calls Ybaf.prog 6 #[.int .i64 pos, .int .i64 100, .int .u8 sel] w fun e w' => e = .returned (.bool true) ∧ Below w.heap.size w w' := by
  have hta := Ybaf.assert44
  go_enter Ybaf.func6, Ybaf.ntmps6
  go_wp2_with fail
  refine (open_deep w.heap.size pos _ (by go_simp) (by go_simp) (by simp)).mono ?_
  rintro e w' ⟨s, rfl, rfl⟩
  go_wp2
  go_ret
  exact ⟨rfl, (((((Below.refl _ _).alloc (Nat.le_refl _) _).alloc (by simp) _).alloc (by simp; omega) _).drew).drew⟩

set_option maxHeartbeats 400000 in
theorem step_other (pos depth sel : Int) (w : World) (h0 : 0 ≤ sel) (h1 : sel ≤ 255) (k0 : (sel % 3 == 0) = false) (k1 : (sel % 3 == 1) = false) (k2 : (depth == 100) = false) :
    Calls Ybaf.prog 6 #[.int .i64 pos, .int .i64 depth, .int .u8 sel] w fun e w' => e = .returned (.bool true) ∧ Below w.heap.size w w' := by
  go_enter Ybaf.func6, Ybaf.ntmps6
  go_wp2_with fail
  refine (open_any w.heap.size pos depth _ (by go_simp) (by go_simp) k2 (by go_simp) (by go_simp)).mono ?_
  rintro e w' ⟨rfl, rfl⟩
  go_wp2
  go_ret
  refine ⟨?_, ?_⟩
  · rfl
  · exact (Below.refl _ _).alloc (Nat.le_refl _) _

/-- LawS1408BStep at every input. -/
theorem step_any (pos depth sel : Int) (w : World) (h0 : 0 ≤ sel) (h1 : sel ≤ 255) :
    Calls Ybaf.prog 6 #[.int .i64 pos, .int .i64 depth, .int .u8 sel] w fun e w' => e = .returned (.bool true) ∧ Below w.heap.size w w' := by
  by_cases k0 : (sel % 3 == 0) = true
  · exact step_zero pos depth sel w h0 h1 k0
  · simp only [Bool.not_eq_true] at k0
    by_cases k1 : (sel % 3 == 1) = true
    · exact step_one pos depth sel w h0 h1 k0 k1
    · simp only [Bool.not_eq_true] at k1
      by_cases k2 : (depth == 100) = true
      · have : depth = 100 := by simpa using k2
        subst this
        exact step_deep pos sel w h0 h1 k0 k1
      · simp only [Bool.not_eq_true] at k2
        exact step_other pos depth sel w h0 h1 k0 k1 k2

end Go.Proofs.YbulkacdeFmt
