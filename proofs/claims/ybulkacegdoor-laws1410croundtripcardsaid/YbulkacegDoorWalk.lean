import Derived.Test.YbulkacegDoorFormat
namespace Go.Proofs.YbulkacegDoor
open Go.Shelf Go.RowKit Go.Sort Go.Lib

/-- The name that repeatDir gives a seed. -/
def dirOf (u : Nat) : ByteArray := ⟨#[114, 117, 110, 45]⟩ ++ ⟨(decDigits u).toArray⟩

theorem dirOf_list (u : Nat) : (dirOf u).data.toList = 114 :: 117 :: 110 :: 45 :: decDigits u := by
  simp [dirOf]

theorem dirOf_has (u : Nat) : hasPrefix (dirOf u).data.toList [114, 117, 110, 45] = true := by
  rw [dirOf_list]; simp [hasPrefix]
theorem dirOf_trim (u : Nat) : trimPrefix (dirOf u).data.toList [114, 117, 110, 45] = decDigits u := by
  unfold trimPrefix
  rw [dirOf_has, dirOf_list]; rfl

theorem format_any (u : Nat) (hu64 : u < 18446744073709551616) (w : World) (htab : TabIs Ybad.prog w tabName .u64 pow10Tab) :
    Calls Ybad.prog 15 #[.int .u64 u, .int .i64 10] w fun e w' => e = .returned (.string ⟨(decDigits u).toArray⟩) ∧ Below w.heap.size w w' := by
  go_enter Ybad.func15, Ybad.ntmps15
  go_wp2_with (go_at_call 20; refine (format_inner u hu64 _ htab).mono ?_; rintro e w' ⟨rfl, hw⟩)
  go_ret
  exact ⟨rfl, hw⟩

theorem dir_any (u : Nat) (hu64 : u < 18446744073709551616) (w : World) (htab : TabIs Ybad.prog w tabName .u64 pow10Tab) :
    Calls Ybad.prog 11 #[.int .u64 u] w fun e w' => e = .returned (.string (dirOf u)) ∧ Below w.heap.size w w' := by
  have hlen : (decDigits u).length ≤ 20 := by rw [decDigits_length]; exact nDigits_le20 u hu64
  have hlen' : ¬ 9223372036854775807 < 4 + (decDigits u).length := by omega
  go_enter Ybad.func11, Ybad.ntmps11
  go_wp2_with (go_at_call 15; refine (format_any u hu64 _ htab).mono ?_; rintro e w' ⟨rfl, hw⟩)
  go_ret
  exact ⟨rfl, hw⟩

theorem is_any (u : Nat) (hu64 : u < 18446744073709551616) (w : World) (htab : TabBelow Ybad.prog w.heap.size w tabName .u64 pow10Tab) :
    Calls Ybad.prog 6 #[.string (dirOf u)] w fun e w' => e = .returned (.bool (decide (0 < u))) ∧ Below w.heap.size w w' := by
  have hcut := Ybad.strings_CutPrefix (dirOf u) ⟨#[114, 117, 110, 45]⟩ w
  have e1 : trimPrefix (dirOf u).data.toList (⟨#[114, 117, 110, 45]⟩ : ByteArray).data.toList = decDigits u := dirOf_trim u
  have e2 : hasPrefix (dirOf u).data.toList (⟨#[114, 117, 110, 45]⟩ : ByteArray).data.toList = true := dirOf_has u
  rw [e1, e2] at hcut
  have hsz : (⟨(decDigits u).toArray⟩ : ByteArray).size ≤ 9223372036854775806 := by
    have : (⟨(decDigits u).toArray⟩ : ByteArray).size = (decDigits u).length := by simp [ByteArray.size]
    rw [this, decDigits_length]
    have := nDigits_le20 u hu64
    omega
  have hpar := Ybad.strconv_ParseUint_10_at64_ok ⟨(decDigits u).toArray⟩ hsz u (parse_back hu64) w
  have HT := hid htab
  have HCUT := hid hcut
  have HPAR := hid hpar
  clear hcut hpar e1 e2 htab hsz
  go_enter Ybad.func6, Ybad.ntmps6
  go_wp2_with (go_at_call 12; refine (HCUT.out).mono ?_; rintro e w1 ⟨rfl, hw1⟩)
  subst hw1
  refine (HPAR.out).mono ?_
  rintro e w2 ⟨rfl, hw2⟩
  have hb2 : Below w1.heap.size w1 w2 := by
    rcases hw2 with rfl | rfl
    · exact Below.refl _ _
    · exact bytesWorld_below _ _ _
  have HB2 := hid hb2
  have HT2 := hid (HT.out.on hb2)
  clear hw2 hb2 HPAR HCUT
  by_cases hu : 0 < u
  · have hu' : (0 : Int) < u := by omega
    go_wp2_with (go_at_call 11; refine (dir_any u hu64 _ HT2.out.here).mono ?_; rintro e w3 ⟨rfl, hw3⟩)
    go_ret
    exact ⟨by rw [decide_eq_true hu]; rfl, HB2.out.trans (hw3.mono HB2.out.size)⟩
  · obtain rfl : u = 0 := by omega
    go_wp2
    go_ret
    exact ⟨rfl, HB2.out⟩

theorem law_any (u : Nat) (hu64 : u < 18446744073709551616) (w : World) (htab : TabIs Ybad.prog w tabName .u64 pow10Tab) :
    Calls Ybad.prog 5 #[.int .u64 u] w fun e w' => e = .returned (.bool true) ∧ Below w.heap.size w w' := by
  have HT := hid (tabBelow_of_tabIs htab)
  clear htab
  go_enter Ybad.func5, Ybad.ntmps5
  go_wp2_with (go_at_call 11; refine (dir_any u hu64 _ HT.out.here).mono ?_; rintro e w1 ⟨rfl, hw1⟩; refine Hid.out ?_)
  refine hid ?_
  have HW1 := hid hw1
  have HT1 : Hid (TabBelow Ybad.prog w1.heap.size w1 tabName .u64 pow10Tab) := tabBelow_of_tabIs (HT.out w1 hw1)
  clear hw1
  go_wp2_with (go_at_call 6; refine (is_any u hu64 _ HT1.out).mono ?_; rintro e w2 ⟨rfl, hw2⟩; refine Hid.out ?_)
  refine hid ?_
  have HW2 := hid hw2
  clear hw2
  by_cases hu : 0 < u
  · have hu' : (0 : Int) < u := by omega
    go_wp2
    go_ret
    exact ⟨rfl, HW1.out.trans (HW2.out.mono HW1.out.size)⟩
  · obtain rfl : u = 0 := by omega
    go_wp2
    go_ret
    exact ⟨rfl, HW1.out.trans (HW2.out.mono HW1.out.size)⟩
end Go.Proofs.YbulkacegDoor
