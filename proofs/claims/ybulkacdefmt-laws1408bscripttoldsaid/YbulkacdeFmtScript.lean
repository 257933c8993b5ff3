import Derived.Test.YbulkacdeFmtOpen
namespace Go.Proofs.YbulkacdeFmt
open Go.RowKit

set_option maxHeartbeats 400000 in
theorem script_some (s : Int) (ob off n cap : Nat) (B : Nat → Bool) (w : World) (h0 : 0 ≤ s) (h1 : s ≤ 255) (hn : n ≤ 1024) (hob : ob < w.heap.size)
    (hc : ∀ k, k < n → w.cell? ⟨ob, off + k, none⟩ = some (.bool (B k))) :
    Calls Ybaf.prog 7 #[.int .u8 s, .slice (some ⟨ob, off, none⟩) n cap] w fun e w' => e = .returned (.bool true) ∧ Below w.heap.size w w' := by
  go_enter Ybaf.func7, Ybaf.ntmps7
  go_wp2
  go_loopw [5, 6, 8] (fun td tp ti wr => ∃ (k : Nat) (d p : Int), k ≤ n ∧ ti = .int .i64 k ∧ td = .int .i64 d ∧ tp = .int .i64 p ∧ d ≤ 100 ∧ 97 - (k : Int) ≤ d ∧ 0 ≤ p ∧ p ≤ k ∧ Dec wr w.heap.size (.slice none 0 0) p d ∧ Below w.heap.size w wr)
    (fun _ _ ti _ => n - (intOf ti).toNat)
  case atStart => exact ⟨0, 100 - s % 4, 0, Nat.zero_le _, rfl, rfl, rfl, by omega, by omega, by omega, by omega, Dec.new _ _ _ _, (Below.refl _ _).alloc (Nat.le_refl _) _⟩
  case round =>
    obtain ⟨k, d, p, hk, rfl, rfl, rfl, hd1, hd2, hp1, hp2, hdec, hbel⟩ := hrel
    by_cases hlt : k < n
    · have hcell : wr.cell? ⟨ob, off + k, none⟩ = some (.bool (B k)) := (hbel.cell (p := ⟨ob, off + k, none⟩) hob).trans (hc k hlt)
      clear hc
      cases hbk : B k with
      | true =>
        rw [hbk] at hcell
        clear hbk
        by_cases h100 : d = 100
        · subst h100
          go_wp2_with fail
          refine (open_dec_deep hdec).mono ?_
          rintro e w' ⟨u, rfl, ⟨x, rfl, hx1, hx2, hx3⟩, hdec', ht⟩
          have e1 := hdec'.c1
          have e2 := hdec'.c2
          go_wp2
          go_roundw
          case rel => exact ⟨k + 1, 100, p, by omega, by go_num, rfl, rfl, by omega, by omega, by omega, by omega, hdec', hbel.trans (ht.below (Nat.le_refl _) hbel.size)⟩
          case measure => simp [intOf]; omega
        · have hne : (d == 100) = false := by simpa using h100
          go_wp2_with fail
          refine (open_dec hdec hne (by omega) (by omega) (by omega) (by omega)).mono ?_
          rintro e w' ⟨rfl, hdec', ht⟩
          have e1 := hdec'.c1
          have e2 := hdec'.c2
          go_wp2
          go_roundw
          case rel => exact ⟨k + 1, d + 1, p + 1, by omega, by go_num, rfl, rfl, by omega, by omega, by omega, by omega, hdec', hbel.trans (ht.below (Nat.le_refl _) hbel.size)⟩
          case measure => simp [intOf]; omega
      | false =>
        rw [hbk] at hcell
        clear hbk
        go_wp2_with fail
        refine (close_dec hdec (by omega) (by omega)).mono ?_
        rintro e w' ⟨rfl, hdec', ht⟩
        have e1 := hdec'.c1
        have e2 := hdec'.c2
        go_wp2
        go_roundw
        case rel => exact ⟨k + 1, d - 1, p, by omega, by go_num, rfl, rfl, by omega, by omega, by omega, by omega, hdec', hbel.trans (ht.below (Nat.le_refl _) hbel.size)⟩
        case measure => simp [intOf]; omega
    · go_wp2
      go_ret
      exact ⟨rfl, hbel⟩

/-- No operation at all. -/
theorem script_zero (s : Int) (ao : Option Addr) (cap : Nat) (w : World) (h0 : 0 ≤ s) (h1 : s ≤ 255) :
    Calls Ybaf.prog 7 #[.int .u8 s, .slice ao 0 cap] w fun e w' => e = .returned (.bool true) ∧ Below w.heap.size w w' := by
  go_enter Ybaf.func7, Ybaf.ntmps7
  go_wp2
  refine wp_loop_rounds 1 ?_
  rw [rounds_succ]
  go_wp2
  go_ret
  exact ⟨rfl, (Below.refl _ _).alloc (Nat.le_refl _) _⟩

/-- Too many. -/
theorem script_long (s : Int) (ao : Option Addr) (n cap : Nat) (w : World) (hn : 1024 < n) :
    Calls Ybaf.prog 7 #[.int .u8 s, .slice ao n cap] w fun e w' => e = .returned (.bool true) ∧ Below w.heap.size w w' := by
  have hn' : (1024 : Int) < n := by omega
  go_enter Ybaf.func7, Ybaf.ntmps7
  go_wp2
  go_ret
  exact ⟨rfl, Below.refl _ _⟩
end Go.Proofs.YbulkacdeFmt
