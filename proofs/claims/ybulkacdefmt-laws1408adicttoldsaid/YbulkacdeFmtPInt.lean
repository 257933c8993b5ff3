import Derived.Test.YbulkacdeFmtFacts
import Derived.Test.YbulkacdeFmtPlain
import Derived.WalkKit
import Derived.WalkSpells
import Derived.WalkLawsBesides
namespace Go.Proofs.YbulkacdeFmt
open Go.RowKit

theorem tdiv_low {x N : Int} (hx : x ≤ 0) (h : x.tdiv 10 ≤ N) : x ≤ 10 * N := by
  have h1 := Int.mul_tdiv_add_tmod x 10
  have h2 : x.tmod 10 ≤ 0 := by
    have := Int.tmod_nonneg (a := -x) 10 (by omega)
    rw [Int.neg_tmod] at this
    omega
  omega

theorem pGo_bad (D : Nat → Int) {n k : Nat} {N : Int} (hn : 0 < n) (h : D k < 48 ∨ 57 < D k ∨ N < (-9223372036854775808 + (D k - 48)).tdiv 10) : pGo D n k N = none := by
  cases n with
  | zero => omega
  | succ n => rw [pGo]; exact if_pos h
theorem pGo_next (D : Nat → Int) {n k : Nat} {N : Int} (hn : 0 < n) (h1 : 48 ≤ D k) (h2 : D k ≤ 57) (h3 : (-9223372036854775808 + (D k - 48)).tdiv 10 ≤ N) : pGo D n k N = pGo D (n - 1) (k + 1) (10 * N - (D k - 48)) := by
  cases n with
  | zero => omega
  | succ n =>
    rw [pGo, if_neg]
    · rfl
    · show ¬ (D k < 48 ∨ 57 < D k ∨ N < (-9223372036854775808 + (D k - 48)).tdiv 10)
      omega
theorem pInt_pos_none (D : Nat → Int) {lo n : Nat} (hn : 0 < n) (h45 : D lo ≠ 45) (h48 : ¬ (D lo = 48 ∧ 1 < n)) (h : pGo D n lo 0 = none) : pInt D lo n = (0, false) := by
  rw [pInt, if_neg (by omega), if_neg h45, if_neg h48, h]
theorem pInt_pos_some (D : Nat → Int) {lo n : Nat} {m : Int} (hn : 0 < n) (h45 : D lo ≠ 45) (h48 : ¬ (D lo = 48 ∧ 1 < n)) (h : pGo D n lo 0 = some m) : pInt D lo n = if m = minI then (0, false) else (-m, true) := by
  rw [pInt, if_neg (by omega), if_neg h45, if_neg h48, h]
theorem pInt_zero (D : Nat → Int) {lo n : Nat} (h45 : D lo ≠ 45) (h48 : D lo = 48 ∧ 1 < n) : pInt D lo n = (0, false) := by
  rw [pInt, if_neg (by omega), if_neg h45, if_pos h48]
theorem pInt_neg_bad (D : Nat → Int) {lo n : Nat} (hn : 0 < n) (h45 : D lo = 45) (h48 : n - 1 = 0 ∨ D (lo + 1) = 48) : pInt D lo n = (0, false) := by
  rw [pInt, if_neg (by omega), if_pos h45, if_pos h48]
theorem pInt_neg_none (D : Nat → Int) {lo n : Nat} (hn : 1 < n) (h45 : D lo = 45) (h48 : D (lo + 1) ≠ 48) (h : pGo D (n - 1) (lo + 1) 0 = none) : pInt D lo n = (0, false) := by
  rw [pInt, if_neg (by omega), if_pos h45, if_neg (by omega), h]
theorem pInt_neg_some (D : Nat → Int) {lo n : Nat} {m : Int} (hn : 1 < n) (h45 : D lo = 45) (h48 : D (lo + 1) ≠ 48) (h : pGo D (n - 1) (lo + 1) 0 = some m) : pInt D lo n = (m, true) := by
  rw [pInt, if_neg (by omega), if_pos h45, if_neg (by omega), h]

theorem ret_pair {x y : Int × Bool} (h : x = y) : Ending.returned (.tuple #[.int .i64 x.1, .bool x.2]) = .returned (.tuple #[.int .i64 y.1, .bool y.2]) := by rw [h]

set_option maxHeartbeats 1000000 in
theorem pInt_pos (D : Nat → Int) (ab o lo n cap : Nat) (w : World) (hn : 0 < n) (hn2 : n ≤ 1000000000) (hc : ∀ j, j < n → w.cell? ⟨ab, o + j, none⟩ = some (.int .u8 (D (lo + j)))) (hD : ∀ j, j < n → 0 ≤ D (lo + j) ∧ D (lo + j) ≤ 255)
    (h45 : D lo ≠ 45) (h48 : ¬ (D lo = 48 ∧ 1 < n)) :
    Calls Ybaf.prog 27 #[.slice (some ⟨ab, o, none⟩) n cap] w fun e w' => e = .returned (.tuple #[.int .i64 (pInt D lo n).1, .bool (pInt D lo n).2]) ∧ w' = w := by
  have c0 : w.cell? ⟨ab, o, none⟩ = some (.int .u8 (D lo)) := hc 0 hn
  have b0 := hD 0 hn
  simp only [Nat.add_zero] at b0
  have k45 : (D lo == 45) = false := by simpa using h45
  have H45 : Hid (D lo ≠ 45) := h45
  have H48 : Hid (¬ (D lo = 48 ∧ 1 < n)) := h48
  obtain ⟨t48, ht48⟩ : ∃ t, t = (D lo == 48) := ⟨_, rfl⟩
  have hn0 : ((n : Int) == 0) = false := by simp; omega
  have hn1 : t48 = true → ¬ (1 : Int) < n := by
    intro h; rw [ht48] at h; simp at h; omega
  have T48 : (D lo == 48) = t48 := ht48.symm
  clear h45 h48 ht48
  cases t48
  all_goals
    try (have hn1' := hn1 rfl)
    clear hn1
    go_enter Ybaf.func27, Ybaf.ntmps27
    go_wp2
    clear c0 b0 T48 k45
    go_loop [6, 38] (fun tn ti => ∃ (k : Nat) (N : Int), k ≤ n ∧ ti = .int .i64 k ∧ tn = .int .i64 N ∧ -9223372036854775808 ≤ N ∧ N ≤ 0 ∧ Hid (pGo D n lo 0 = pGo D (n - k) (lo + k) N)) (fun _ ti => n - (intOf ti).toNat)
    case atStart => exact ⟨0, 0, Nat.zero_le _, rfl, rfl, by omega, by omega, rfl⟩
    case round =>
      obtain ⟨k, N, hk, rfl, rfl, hN1, hN2, hgo⟩ := hrel
      by_cases hlt : k < n
      · obtain ⟨c, hcd⟩ : ∃ c, c = D (lo + k) := ⟨_, rfl⟩
        have hck : w.cell? ⟨ab, o + k, none⟩ = some (.int .u8 c) := by rw [hcd]; exact hc k hlt
        have hb := hD k hlt
        rw [← hcd] at hb
        have HC : Hid (c = D (lo + k)) := hcd
        clear hcd hc hD
        by_cases q1 : c < 48
        · go_wp2
          go_ret2
          exact ⟨ret_pair (x := (0, false)) (pInt_pos_none D hn H45.out H48.out (hgo.out.trans (pGo_bad D (by omega) (Or.inl (HC.out ▸ q1))))).symm, rfl⟩
        · by_cases q2 : 57 < c
          · go_wp2
            go_ret2
            exact ⟨ret_pair (x := (0, false)) (pInt_pos_none D hn H45.out H48.out (hgo.out.trans (pGo_bad D (by omega) (Or.inr (Or.inl (HC.out ▸ q2)))))).symm, rfl⟩
          · by_cases q3 : N < (-9223372036854775808 + (c - 48)).tdiv 10
            · go_wp2
              go_ret2
              exact ⟨ret_pair (x := (0, false)) (pInt_pos_none D hn H45.out H48.out (hgo.out.trans (pGo_bad D (by omega) (Or.inr (Or.inr (HC.out ▸ q3)))))).symm, rfl⟩
            · have q4 : -9223372036854775808 + (c - 48) ≤ 10 * N := tdiv_low (by omega) (by omega)
              go_wp2
              go_round
              case rel =>
                refine ⟨k + 1, 10 * N - (c - 48), by omega, by go_num, rfl, by omega, by omega, ?_⟩
                have hnext := pGo_next D (n := n - k) (k := lo + k) (N := N) (by omega) (by have := HC.out; omega) (by have := HC.out; omega) (by rw [← HC.out]; omega)
                refine hgo.out.trans (hnext.trans ?_)
                rw [← HC.out, show n - k - 1 = n - (k + 1) by omega]; rfl
              case measure => simp [intOf]; omega
      · have hkn : k = n := by omega
        have HG : Hid (pGo D n lo 0 = some N) := by
          have := hgo.out
          rw [hkn, Nat.sub_self, pGo] at this
          exact this
        clear hgo hc hD
        by_cases qm : N = -9223372036854775808
        · have qm' : (N == -9223372036854775808) = true := by simpa using qm
          have HM : Hid (N = minI) := qm
          clear qm
          go_wp2
          go_ret2
          exact ⟨ret_pair (x := (0, false)) ((pInt_pos_some D hn H45.out H48.out HG.out).trans (if_pos HM.out)).symm, rfl⟩
        · have qm' : (N == -9223372036854775808) = false := by simpa using qm
          have qlo : -9223372036854775808 < N := by omega
          have HM : Hid (¬ N = minI) := qm
          clear qm
          go_wp2
          go_ret2
          exact ⟨ret_pair (x := (-N, true)) ((pInt_pos_some D hn H45.out H48.out HG.out).trans (if_neg HM.out)).symm, rfl⟩
set_option maxHeartbeats 1000000 in
theorem pInt_neg (D : Nat → Int) (ab o lo m cap : Nat) (w : World) (hm : 0 < m) (hn2 : m ≤ 1000000000) (hcap : m + 1 ≤ cap) (hc : ∀ j, j < m + 1 → w.cell? ⟨ab, o + j, none⟩ = some (.int .u8 (D (lo + j)))) (hD : ∀ j, j < m + 1 → 0 ≤ D (lo + j) ∧ D (lo + j) ≤ 255)
    (h45 : D lo = 45) (h48 : D (lo + 1) ≠ 48) :
    Calls Ybaf.prog 27 #[.slice (some ⟨ab, o, none⟩) (m + 1) cap] w fun e w' => e = .returned (.tuple #[.int .i64 (pInt D lo (m + 1)).1, .bool (pInt D lo (m + 1)).2]) ∧ w' = w := by
  have c0 : w.cell? ⟨ab, o, none⟩ = some (.int .u8 45) := by rw [← h45]; exact hc 0 (by omega)
  have c1 : w.cell? ⟨ab, o + 1, none⟩ = some (.int .u8 (D (lo + 1))) := hc 1 (by omega)
  have b1 := hD 1 (by omega)
  have k48 : (D (lo + 1) == 48) = false := by simpa using h48
  have H45 : Hid (D lo = 45) := h45
  have H48 : Hid (D (lo + 1) ≠ 48) := h48
  have hc1 : ¬ cap = 1 := by omega
  have hc1' : (1 : Int) ≤ cap := by omega
  have hmn : ((m : Int) == 0) = false := by simp; omega
  clear h45 h48
  go_enter Ybaf.func27, Ybaf.ntmps27
  go_wp2
  clear c0 c1 b1 k48
  go_loop [6, 38] (fun tn ti => ∃ (k : Nat) (N : Int), k ≤ m ∧ ti = .int .i64 k ∧ tn = .int .i64 N ∧ -9223372036854775808 ≤ N ∧ N ≤ 0 ∧ Hid (pGo D m (lo + 1) 0 = pGo D (m - k) (lo + 1 + k) N)) (fun _ ti => m - (intOf ti).toNat)
  case atStart => exact ⟨0, 0, Nat.zero_le _, rfl, rfl, by omega, by omega, rfl⟩
  case round =>
    obtain ⟨k, N, hk, rfl, rfl, hN1, hN2, hgo⟩ := hrel
    by_cases hlt : k < m
    · obtain ⟨c, hcd⟩ : ∃ c, c = D (lo + 1 + k) := ⟨_, rfl⟩
      have hck : w.cell? ⟨ab, o + 1 + k, none⟩ = some (.int .u8 c) := by
        have := hc (1 + k) (by omega)
        rw [hcd, show o + 1 + k = o + (1 + k) by omega, show lo + 1 + k = lo + (1 + k) by omega]; exact this
      have hb := hD (1 + k) (by omega)
      rw [show lo + (1 + k) = lo + 1 + k by omega, ← hcd] at hb
      have HC : Hid (c = D (lo + 1 + k)) := hcd
      clear hcd hc hD
      by_cases q1 : c < 48
      · go_wp2
        go_ret2
        exact ⟨ret_pair (x := (0, false)) (pInt_neg_none D (n := m + 1) (by omega) H45.out H48.out (hgo.out.trans (pGo_bad D (by omega) (Or.inl (HC.out ▸ q1))))).symm, rfl⟩
      · by_cases q2 : 57 < c
        · go_wp2
          go_ret2
          exact ⟨ret_pair (x := (0, false)) (pInt_neg_none D (n := m + 1) (by omega) H45.out H48.out (hgo.out.trans (pGo_bad D (by omega) (Or.inr (Or.inl (HC.out ▸ q2)))))).symm, rfl⟩
        · by_cases q3 : N < (-9223372036854775808 + (c - 48)).tdiv 10
          · go_wp2
            go_ret2
            exact ⟨ret_pair (x := (0, false)) (pInt_neg_none D (n := m + 1) (by omega) H45.out H48.out (hgo.out.trans (pGo_bad D (by omega) (Or.inr (Or.inr (HC.out ▸ q3)))))).symm, rfl⟩
          · have q4 : -9223372036854775808 + (c - 48) ≤ 10 * N := tdiv_low (by omega) (by omega)
            go_wp2
            go_round
            case rel =>
              refine ⟨k + 1, 10 * N - (c - 48), by omega, by go_num, rfl, by omega, by omega, ?_⟩
              have hnext := pGo_next D (n := m - k) (k := lo + 1 + k) (N := N) (by omega) (by have := HC.out; omega) (by have := HC.out; omega) (by rw [← HC.out]; omega)
              refine hgo.out.trans (hnext.trans ?_)
              rw [← HC.out, show m - k - 1 = m - (k + 1) by omega]; rfl
            case measure => simp [intOf]; omega
    · have hkn : k = m := by omega
      have HG : Hid (pGo D (m + 1 - 1) (lo + 1) 0 = some N) := by
        have := hgo.out
        rw [hkn, Nat.sub_self, pGo] at this
        exact this
      clear hgo hc hD
      go_wp2
      go_ret2
      exact ⟨ret_pair (x := (N, true)) (pInt_neg_some D (by omega) H45.out H48.out HG.out).symm, rfl⟩

/-- Those that fail at once. -/
theorem pInt_fail (D : Nat → Int) (ab o lo n cap : Nat) (w : World) (hn : 0 < n) (hn2 : n ≤ 1000000000) (hcap : n ≤ cap) (hc : ∀ j, j < n → w.cell? ⟨ab, o + j, none⟩ = some (.int .u8 (D (lo + j)))) (hD : ∀ j, j < n → 0 ≤ D (lo + j) ∧ D (lo + j) ≤ 255)
    (h : (D lo ≠ 45 ∧ D lo = 48 ∧ 1 < n) ∨ (D lo = 45 ∧ n = 1) ∨ (D lo = 45 ∧ 1 < n ∧ D (lo + 1) = 48)) :
    Calls Ybaf.prog 27 #[.slice (some ⟨ab, o, none⟩) n cap] w fun e w' => e = .returned (.tuple #[.int .i64 (pInt D lo n).1, .bool (pInt D lo n).2]) ∧ w' = w := by
  have hn0 : ((n : Int) == 0) = false := by simp; omega
  have c0 : w.cell? ⟨ab, o, none⟩ = some (.int .u8 (D lo)) := hc 0 (by omega)
  rcases h with ⟨h1, h2, h3⟩ | ⟨h1, h2⟩ | ⟨h1, h2, h3⟩
  · rw [pInt_zero D h1 ⟨h2, h3⟩]
    rw [h2] at c0
    have h3' : (1 : Int) < n := by omega
    clear hc hD h1 h2
    go_enter Ybaf.func27, Ybaf.ntmps27
    go_wp2
    go_ret2
    exact ⟨rfl, rfl⟩
  · rw [pInt_neg_bad D hn h1 (Or.inl (by omega))]
    rw [h1] at c0
    subst h2
    clear hc hD h1
    go_enter Ybaf.func27, Ybaf.ntmps27
    go_wp2
    all_goals go_ret2
    all_goals exact ⟨rfl, rfl⟩
  · rw [pInt_neg_bad D hn h1 (Or.inr h3)]
    rw [h1] at c0
    have c1 : w.cell? ⟨ab, o + 1, none⟩ = some (.int .u8 48) := by rw [← h3]; exact hc 1 (by omega)
    obtain ⟨m, rfl⟩ : ∃ m, n = m + 1 := ⟨n - 1, by omega⟩
    have hc1 : ¬ cap = 1 := by omega
    have hmn : ((m : Int) == 0) = false := by simp; omega
    clear hc hD h1 h3 hn0
    go_enter Ybaf.func27, Ybaf.ntmps27
    go_wp2
    all_goals go_ret2
    all_goals exact ⟨rfl, rfl⟩

theorem pInt_empty (D : Nat → Int) (lo : Nat) (ao : Option Addr) (cap : Nat) (w : World) :
    Calls Ybaf.prog 27 #[.slice ao 0 cap] w fun e w' => e = .returned (.tuple #[.int .i64 (pInt D lo 0).1, .bool (pInt D lo 0).2]) ∧ w' = w := by
  show Calls Ybaf.prog 27 #[.slice ao 0 cap] w fun e w' => e = .returned (.tuple #[.int .i64 0, .bool false]) ∧ w' = w
  go_enter Ybaf.func27, Ybaf.ntmps27
  go_wp2
  go_ret2
  exact ⟨rfl, rfl⟩

/-- parseInt of n bytes. -/
theorem pInt_any (D : Nat → Int) (ab o lo n cap : Nat) (w : World) (hn2 : n ≤ 1000000000) (hcap : n ≤ cap) (hc : ∀ j, j < n → w.cell? ⟨ab, o + j, none⟩ = some (.int .u8 (D (lo + j)))) (hD : ∀ j, j < n → 0 ≤ D (lo + j) ∧ D (lo + j) ≤ 255) (ao : Option Addr) (hao : 0 < n → ao = some ⟨ab, o, none⟩) :
    Calls Ybaf.prog 27 #[.slice ao n cap] w fun e w' => e = .returned (.tuple #[.int .i64 (pInt D lo n).1, .bool (pInt D lo n).2]) ∧ w' = w := by
  by_cases hn : 0 < n
  · obtain rfl := hao hn
    by_cases h45 : D lo = 45
    · by_cases h1 : n = 1
      · exact pInt_fail D ab o lo n cap w hn hn2 hcap hc hD (Or.inr (Or.inl ⟨h45, h1⟩))
      · by_cases h48 : D (lo + 1) = 48
        · exact pInt_fail D ab o lo n cap w hn hn2 hcap hc hD (Or.inr (Or.inr ⟨h45, by omega, h48⟩))
        · obtain ⟨m, rfl⟩ : ∃ m, n = m + 1 := ⟨n - 1, by omega⟩
          exact pInt_neg D ab o lo m cap w (by omega) (by omega) hcap hc hD h45 h48
    · by_cases h48 : D lo = 48 ∧ 1 < n
      · exact pInt_fail D ab o lo n cap w hn hn2 hcap hc hD (Or.inl ⟨h45, h48⟩)
      · exact pInt_pos D ab o lo n cap w hn hn2 hc hD h45 h48
  · obtain rfl : n = 0 := by omega
    exact pInt_empty D lo ao cap w

end Go.Proofs.YbulkacdeFmt
