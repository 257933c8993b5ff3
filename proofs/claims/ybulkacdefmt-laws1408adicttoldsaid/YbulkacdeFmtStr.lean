import Derived.Test.YbulkacdeFmtInteger
import Derived.Deep.DeepCutAuto
import Derived.Deep.CutBlock
namespace Go.Proofs.YbulkacdeFmt
open Go.RowKit

section
variable {w : World} {b ab ao L cap : Nat} {D : Nat → Int} {d : Int}

set_option maxRecDepth 100000 in
/-- No digit: an error at once. -/
theorem string_bad (hD : ∀ i, i < L → 0 ≤ D i ∧ D i ≤ 255) (p : Nat) (hp : p < L) (hdig : D p < 48 ∨ 57 < D p)
    (hdec : Dec w b (.slice (some ⟨ab, ao, none⟩) L cap) p d) (hby : Bytes w ab ao L D) :
    Calls Ybaf.prog 23 #[.pointer (some ⟨b, 0, none⟩)] w fun e w' => ∃ u, e = .returned (.tuple #[.slice none 0 0, u]) ∧
      ErrAt w.heap.size w' u p ∧ Dec w' b (.slice (some ⟨ab, ao, none⟩) L cap) p d ∧ Turn b w w' := by
  have e0 := hdec.c0
  have e1 := hdec.c1
  have hcp := hby.cell p hp
  have hdb := hD p hp
  have hlp : (p : Int) < L := by omega
  by_cases h1 : D p < 48
  all_goals
    go_enter Ybaf.func23, Ybaf.ntmps23
    go_wp2
    go_quiet (fail)
    go_wp2_with fail
    refine (errorf_dec _ _ (((hdec.drewN _).alloc _)) (says_found w.heap.size (D p) _ (by exact World.cell?_alloc_at _ _ _ _ rfl))).mono ?_
    rintro e w' ⟨u, rfl, herr, hdec', ht'⟩
    go_wp2
    go_ret2
    exact ⟨_, rfl, herr.mono (by simp), hdec', (((Turn.refl b w).drewN _).alloc _).trans ht'⟩


theorem strAt_end {p q n : Nat} (hdig : ¬ (D p < 48 ∨ 57 < D p)) (hgo : strGo D L p 0 = (q, n)) (h : L ≤ q) : strAt D L p = (q, some q, 0) := by
  rw [strAt, if_neg hdig, hgo, if_pos h]
theorem strAt_mal {p q n : Nat} (hdig : ¬ (D p < 48 ∨ 57 < D p)) (hgo : strGo D L p 0 = (q, n)) (h : q < L) (hm : D q ≠ 58 ∨ (D p = 48 ∧ 1 < q - p)) : strAt D L p = (q, some p, 0) := by
  rw [strAt, if_neg hdig, hgo, if_neg (by simpa using h)]
  exact if_pos hm
theorem strAt_past {p q n : Nat} (hdig : ¬ (D p < 48 ∨ 57 < D p)) (hgo : strGo D L p 0 = (q, n)) (h : q < L) (hm : ¬ (D q ≠ 58 ∨ (D p = 48 ∧ 1 < q - p))) (hn : L - (q + 1) < n) : strAt D L p = (q + 1, some p, 0) := by
  rw [strAt, if_neg hdig, hgo, if_neg (by simpa using h)]
  refine (if_neg hm).trans ?_
  exact if_pos hn
theorem strAt_good {p q n : Nat} (hdig : ¬ (D p < 48 ∨ 57 < D p)) (hgo : strGo D L p 0 = (q, n)) (h : q < L) (hm : ¬ (D q ≠ 58 ∨ (D p = 48 ∧ 1 < q - p))) (hn : n ≤ L - (q + 1)) : strAt D L p = (q + 1 + n, none, n) := by
  rw [strAt, if_neg hdig, hgo, if_neg (by simpa using h)]
  refine (if_neg hm).trans ?_
  exact if_neg (by simpa using hn)

theorem wrap_small {x : Int} (h1 : 0 ≤ x) (h2 : x ≤ 1000000000) : IntKind.i64.wrap x = x := by
  have := IntWalk.wrap64_in x ⟨by omega, by omega⟩
  rw [← this]
  simp only [wrap64, IntKind.wrap_i64]
  omega

/-- What string() gives: the bytes, or nil; and the error. -/
def StrRes (B : Nat) (w' : World) (ab ao cap : Nat) (r : Nat × Option Nat × Nat) (sv u : Value) : Prop :=
  match r.2.1 with
  | none => u = .nilIface ∧ ∃ a : Addr, sv = .slice (some a) r.2.2 (cap - (r.1 - r.2.2)) ∧ (0 < r.2.2 → a = ⟨ab, ao + (r.1 - r.2.2), none⟩)
  | some o => ErrAt B w' u o ∧ sv = .slice none 0 0

theorem strRes_good {B : Nat} {w' : World} {q n m c : Nat} {a : Addr} {sv : Value} (hsv : sv = .slice (some a) m c) (hm : m = n) (hc : c = cap - (q + 1)) (ha : 0 < n → a = ⟨ab, ao + (q + 1), none⟩) :
    StrRes B w' ab ao cap (q + 1 + n, none, n) sv .nilIface := by
  subst hsv hm hc
  have h1 : q + 1 + m - m = q + 1 := by omega
  refine ⟨rfl, a, ?_, ?_⟩
  · show Value.slice (some a) m (cap - (q + 1)) = Value.slice (some a) m (cap - (q + 1 + m - m))
    rw [h1]
  · show 0 < m → a = ⟨ab, ao + (q + 1 + m - m), none⟩
    rw [h1]; exact ha
theorem Dec.cast {w : World} {b : Nat} {dv : Value} {p p' d : Int} (h : p = p') (hd : Dec w b dv p d) : Dec w b dv p' d := h ▸ hd

set_option maxRecDepth 100000 in
set_option maxHeartbeats 2000000 in
theorem string_any (hne : ab ≠ b) (hL : L ≤ 100000000) (hcap : L ≤ cap) (hD : ∀ i, i < L → 0 ≤ D i ∧ D i ≤ 255) (p : Nat) (hp : p < L) (hdig : ¬ (D p < 48 ∨ 57 < D p))
    (hdec : Dec w b (.slice (some ⟨ab, ao, none⟩) L cap) p d) (hby : Bytes w ab ao L D) :
    Calls Ybaf.prog 23 #[.pointer (some ⟨b, 0, none⟩)] w fun e w' => ∃ sv u, e = .returned (.tuple #[sv, u]) ∧
      StrRes w.heap.size w' ab ao cap (strAt D L p) sv u ∧ Dec w' b (.slice (some ⟨ab, ao, none⟩) L cap) (strAt D L p).1 d ∧ Turn b w w' := by
  have e0 := hdec.c0
  have e1 := hdec.c1
  have hcp := hby.cell p hp
  have hdb := hD p hp
  have hlp : (p : Int) < L := by omega
  have hd1 : 48 ≤ D p := by omega
  have hd2 : D p ≤ 57 := by omega
  have HDG : Hid (¬ (D p < 48 ∨ 57 < D p)) := hdig
  clear hdig
  go_enter Ybaf.func23, Ybaf.ntmps23
  go_wp2
  go_quiet (fail)
  go_upto_block 0 with fail
  go_cut [6] (fun tn wc => ∃ q n : Nat, p ≤ q ∧ q ≤ L ∧ tn = .int .i64 n ∧ n ≤ 2000000000 ∧ Dec wc b (.slice (some ⟨ab, ao, none⟩) L cap) q d ∧ Turn b w wc ∧ strGo D L p 0 = (q, n))
  case first =>
    go_wp2_with fail
    go_loopg [6] (L - p) (fun k tn wr => ∃ q n : Nat, k = L - q ∧ p ≤ q ∧ q ≤ L ∧ tn = .int .i64 n ∧ n ≤ 2000000000 ∧ Dec wr b (.slice (some ⟨ab, ao, none⟩) L cap) q d ∧ Turn b w wr ∧ strGo D L p 0 = strGo D L q n)
    case atStart => exact ⟨p, 0, rfl, Nat.le_refl _, by omega, rfl, by omega, hdec.drewN _, (Turn.refl _ _).drewN _, rfl⟩
    case round =>
      clear e0 e1
      obtain ⟨q, n, rfl, hpq, hq, rfl, hn2, hdq, htq, hgo⟩ := hrel
      have HG : Hid (strGo D L p 0 = strGo D L q n) := hgo
      clear hgo
      have e0 := hdq.c0
      have e1 := hdq.c1
      have f1 := hdq.fr 1
      by_cases hlt : q < L
      · have hcq := (hby.turn htq hne).cell q hlt
        have hqb := hD q hlt
        have hlq : (q : Int) < L := by omega
        by_cases g1 : D q < 48
        · have g1' : decide (48 ≤ D q) = false := by simpa using g1
          go_wp2
          go_quiet (fail)
          go_wp2
          go_meet
          case rel => exact ⟨q, n, hpq, hq, rfl, hn2, hdq.drewN _, htq.drewN _, HG.out.trans (strGo_stop D L (by omega))⟩
        · by_cases g2 : 57 < D q
          · have g2' : decide (D q ≤ 57) = false := by simpa using g2
            go_wp2
            go_quiet (fail)
            go_wp2
            go_meet
            case rel => exact ⟨q, n, hpq, hq, rfl, hn2, hdq.drewN _, htq.drewN _, HG.out.trans (strGo_stop D L (by omega))⟩
          · by_cases g3 : L < n
            · go_wp2
              go_quiet (fail)
              go_wp2
              go_meet
              case rel => exact ⟨q, n, hpq, hq, rfl, hn2, hdq.drewN _, htq.drewN _, HG.out.trans (strGo_stop D L (by omega))⟩
            · go_wp2
              go_quiet (fail)
              go_wp2
              go_quiet (fail)
              go_wp2
              go_roundg (L - (q + 1))
              case measure => omega
              case rel =>
                refine ⟨q + 1, 10 * n + (D q - 48).toNat, rfl, by omega, by omega, congrArg (Value.int .i64) (by omega), by omega, by simpa using (hdq.drewN _).setPos ((q : Int) + 1), (htq.drewN _).set _ _, HG.out.trans (strGo_step D L hlt (by omega) (by omega) (by omega))⟩
      · have hd : decide ((q : Int) < L) = false := by simpa using hlt
        go_wp2
        go_quiet (fail)
        go_wp2
        go_meet
        case rel => exact ⟨q, n, hpq, hq, rfl, hn2, hdq.drewN _, htq.drewN _, HG.out.trans (strGo_stop D L (by omega))⟩
  case rest =>
    clear e0 e1 hcp
    obtain ⟨q, n, hpq, hq, rfl, hn2, hdq, htq, hgo⟩ := hcut
    have HG : Hid (strGo D L p 0 = (q, n)) := hgo
    clear hgo
    have e0 := hdq.c0
    have e1 := hdq.c1
    have f1 := hdq.fr 1
    have hbq := hby.turn htq hne
    by_cases hlt : q < L
    · have hcq := hbq.cell q hlt
      have hcp' := hbq.cell p hp
      have hqb := hD q hlt
      have hlq : (q : Int) < L := by omega
      have hpq' : (p : Int) ≤ q := by omega
      have hqc : (q : Int) + 1 ≤ cap := by omega
      by_cases h58 : D q = 58
      · have k58 : (D q != 58) = false := by simpa using h58
        by_cases hz : D p = 48 ∧ 1 < q - p
        · have HS : Hid (strAt D L p = (q, some p, 0)) := strAt_mal HDG.out HG.out hlt (Or.inr hz)
          have z1 : (D p == 48) = true := by simpa using hz.1
          have z2 : decide ((1 : Int) < (q : Int) - p) = true := by simp; omega
          clear hz h58
          go_wp2
          go_quiet (fail)
          go_wp2
          go_quiet (fail)
          go_wp2
          have hcells : ∀ j, j < q + 1 - p → wc.cell? ⟨ab, ao + p + j, none⟩ = some (.int .u8 (D (p + j))) := fun j hj => by
            rw [Nat.add_assoc]; exact hbq.cell (p + j) (by omega)
          have hw1 : IntKind.i64.wrap ((q : Int) + 1) = (q : Int) + 1 := wrap_small (by omega) (by omega)
          have hw2 : ((q : Int) + 1).toNat = q + 1 := by omega
          have hw3 : (0 : Int) ≤ (q : Int) + 1 := by omega
          have hw4 : p ≤ q + 1 := by omega
          have hw5 : ¬ cap = p := by omega
          go_region_law (refine step_sprintf rfl _ _ rfl _ _ rfl rfl (says_malLen wc.heap.size ⟨ab, ao + p, none⟩ (q + 1 - p) (cap - p) (numsAt D p (q + 1 - p)) (numsAt_length D _ _) _ (by exact World.cell?_alloc_at _ _ _ _ rfl) (fun j x hj => cell_nums hj (by simpa using hbq.lt) (fun j hj => by simpa using hcells j hj))) ?_; intro t)
          all_goals
            go_wp2
            go_ret2
            rw [HS.out]
            exact ⟨_, _, rfl, ⟨⟨_, rfl, by have := htq.size; omega, by simp, by simp [World.cell?_alloc_at]⟩, rfl⟩, ((hdq.drewN _).alloc _).alloc _, (((htq.drewN _).alloc _).alloc _).drew⟩
        · have HM : Hid (¬ (D q ≠ 58 ∨ (D p = 48 ∧ 1 < q - p))) := fun h => h.elim (fun h => h h58) hz
          obtain ⟨z, hzz, z2⟩ : ∃ z, (D p == 48) = z ∧ (z = true → decide ((1 : Int) < (q : Int) - p) = false) := ⟨_, rfl, fun h => by simp at h; simp; omega⟩
          clear h58 hz
          cases z
          all_goals
            try (have z3 := z2 rfl)
            clear z2
            go_wp2
            go_quiet (fail)
            go_wp2
            go_quiet (fail)
            go_wp2
            by_cases hpast : L - (q + 1) < n
            · have HS : Hid (strAt D L p = (q + 1, some p, 0)) := strAt_past HDG.out HG.out hlt HM.out hpast
              have hpast' : (L : Int) - ((q : Int) + 1) < n := by omega
              go_quiet (fail)
              go_wp2_with (refine wpList_sprintf rfl (.const (.string ⟨#[115, 116, 114, 105, 110, 103, 32, 108, 101, 110, 103, 116, 104, 32, 37, 100, 32, 112, 97, 115, 116, 32, 116, 104, 101, 32, 101, 110, 100, 32, 111, 102, 32, 100, 97, 116, 97]⟩)) (.tmp 182) rfl _ _ rfl rfl ?hs ?_)
              case hs => exact says_past wc.heap.size n _ (by exact World.cell?_alloc_at _ _ _ _ (by simp))
              intro t
              go_wp2
              go_ret2
              rw [HS.out]
              exact ⟨_, _, rfl, ⟨⟨_, rfl, by have := htq.size; simp; omega, by simp, by simp [World.cell?_alloc_at]⟩, rfl⟩, by simpa using (((((hdq.drewN _).setPos ((q : Int) + 1)).drewN _).alloc _).alloc _).drew, (((((htq.drewN _).set _ _).drewN _).alloc _).alloc _).drew⟩
            · have HS : Hid (strAt D L p = (q + 1 + n, none, n)) := strAt_good HDG.out HG.out hlt HM.out (by omega)
              have hg1 : (n : Int) ≤ (L : Int) - ((q : Int) + 1) := by omega
              have hg2 : (q : Int) + 1 + n ≤ cap := by omega
              go_quiet (fail)
              go_wp2
              by_cases hcz : cap = q + 1
              all_goals
                go_quiet (fail)
                go_wp2
                go_ret2
                rw [HS.out]
                refine ⟨_, _, rfl, strRes_good rfl (by omega) (by omega) (by first | (intro h; exact absurd h (by omega)) | (intro _; rfl)), ?_, (((htq.drewN _).set _ _).drewN _).set _ _⟩
                exact Dec.cast (by simp) ((((hdq.drewN _).setPos ((q : Int) + 1)).drewN _).setPos ((q : Int) + 1 + n))
      · have k58 : (D q != 58) = true := by simpa using h58
        have HS : Hid (strAt D L p = (q, some p, 0)) := strAt_mal HDG.out HG.out hlt (Or.inl h58)
        clear h58
        go_wp2
        go_quiet (fail)
        go_wp2
        go_quiet (fail)
        go_wp2
        have hcells : ∀ j, j < q + 1 - p → wc.cell? ⟨ab, ao + p + j, none⟩ = some (.int .u8 (D (p + j))) := fun j hj => by
          rw [Nat.add_assoc]; exact hbq.cell (p + j) (by omega)
        have hw1 : IntKind.i64.wrap ((q : Int) + 1) = (q : Int) + 1 := wrap_small (by omega) (by omega)
        have hw2 : ((q : Int) + 1).toNat = q + 1 := by omega
        have hw3 : (0 : Int) ≤ (q : Int) + 1 := by omega
        have hw4 : p ≤ q + 1 := by omega
        have hw5 : ¬ cap = p := by omega
        go_region_law (refine step_sprintf rfl _ _ rfl _ _ rfl rfl (says_malLen wc.heap.size ⟨ab, ao + p, none⟩ (q + 1 - p) (cap - p) (numsAt D p (q + 1 - p)) (numsAt_length D _ _) _ (by exact World.cell?_alloc_at _ _ _ _ rfl) (fun j x hj => cell_nums hj (by simpa using hbq.lt) (fun j hj => by simpa using hcells j hj))) ?_; intro t)
        all_goals
          go_wp2
          go_ret2
          rw [HS.out]
          exact ⟨_, _, rfl, ⟨⟨_, rfl, by have := htq.size; omega, by simp, by simp [World.cell?_alloc_at]⟩, rfl⟩, ((hdq.drewN _).alloc _).alloc _, (((htq.drewN _).alloc _).alloc _).drew⟩
    · have hqL : q = L := by omega
      have HS : Hid (strAt D L p = (L, some L, 0)) := strAt_end HDG.out (HG.out.trans (by rw [hqL])) (Nat.le_refl _)
      clear HG
      subst hqL
      go_wp2
      go_quiet (fail)
      go_wp2_with fail
      refine (errorf_dec _ _ (hdq.drewN _) (says_end _)).mono ?_
      rintro e w' ⟨u, rfl, herr, hdec', ht'⟩
      go_wp2
      go_ret2
      rw [HS.out]
      exact ⟨_, _, rfl, ⟨herr.mono htq.size, rfl⟩, hdec', (htq.drewN _).trans ht'⟩

/-- string() at any byte. -/
theorem string_full (hne : ab ≠ b) (hL : L ≤ 100000000) (hcap : L ≤ cap) (hD : ∀ i, i < L → 0 ≤ D i ∧ D i ≤ 255) (p : Nat) (hp : p < L)
    (hdec : Dec w b (.slice (some ⟨ab, ao, none⟩) L cap) p d) (hby : Bytes w ab ao L D) :
    Calls Ybaf.prog 23 #[.pointer (some ⟨b, 0, none⟩)] w fun e w' => ∃ sv u, e = .returned (.tuple #[sv, u]) ∧
      StrRes w.heap.size w' ab ao cap (strAt D L p) sv u ∧ Dec w' b (.slice (some ⟨ab, ao, none⟩) L cap) (strAt D L p).1 d ∧ Turn b w w' := by
  by_cases hdig : D p < 48 ∨ 57 < D p
  · have hs : strAt D L p = (p, some p, 0) := by rw [strAt, if_pos hdig]
    rw [hs]
    refine (string_bad hD p hp hdig hdec hby).mono ?_
    rintro e w' ⟨u, rfl, h1, h2, h3⟩
    exact ⟨_, _, rfl, ⟨h1, rfl⟩, h2, h3⟩
  · exact string_any hne hL hcap hD p hp hdig hdec hby

end
end Go.Proofs.YbulkacdeFmt
