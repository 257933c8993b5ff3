import Derived.Test.YbulkacdeFmtOpen
import Derived.Test.YbulkacdeFmtPInt
import Derived.Deep.LoopGhost
namespace Go.Proofs.YbulkacdeFmt
open Go.RowKit

section
variable {w : World} {b ab ao L cap : Nat} {D : Nat → Int} {d : Int}

/-- The cells of a piece of the data, as fmt reads them, a block further on. -/
theorem cell_nums {W : World} {o : Obj} {ab a0 lo n j : Nat} {D : Nat → Int} {x : Value} (hj : ((numsAt D lo n).map (Value.int .u8))[j]? = some x) (hlt : ab < W.heap.size) (hc : ∀ j, j < n → W.cell? ⟨ab, a0 + j, none⟩ = some (.int .u8 (D (lo + j)))) :
    (W.alloc o).cell? ((⟨ab, a0, none⟩ : Addr).add j) = some x := by
  have hjn : j < n := by
    have := (List.getElem?_eq_some_iff.1 hj).1
    simpa [numsAt] using this
  rw [Go.WideShapes.add_plain]
  have h1 := hc j hjn
  have h2 : x = .int .u8 (D (lo + j)) := by
    simp [numsAt, hjn] at hj
    exact hj.symm
  rw [h2, World.cell?_alloc_past _ _ _ hlt]
  exact h1

set_option maxHeartbeats 1000000 in
theorem integer_any (hne : ab ≠ b) (hL : L ≤ 100000000) (hcap : L ≤ cap) (hD : ∀ i, i < L → 0 ≤ D i ∧ D i ≤ 255) (p : Nat) (hp : p ≤ L)
    (hdec : Dec w b (.slice (some ⟨ab, ao, none⟩) L cap) p d) (hby : Bytes w ab ao L D) :
    Calls Ybaf.prog 18 #[.pointer (some ⟨b, 0, none⟩), .int .u8 101] w fun e w' => ∃ u, e = .returned (.tuple #[.int .i64 (intAt D L p).2.2, u]) ∧
      ErrIs w.heap.size w' u ((intAt D L p).2.1.map Int.ofNat) ∧ Dec w' b (.slice (some ⟨ab, ao, none⟩) L cap) (intAt D L p).1 d ∧ Turn b w w' := by
  have e1 := hdec.c1
  go_enter Ybaf.func18, Ybaf.ntmps18
  go_wp2
  clear e1
  go_loopg [] (L - p) (fun k wr => ∃ q : Nat, k = L - q ∧ p ≤ q ∧ q ≤ L ∧ Dec wr b (.slice (some ⟨ab, ao, none⟩) L cap) q d ∧ Turn b w wr ∧ endOf D L p = endOf D L q)
  case atStart => exact ⟨p, rfl, Nat.le_refl _, hp, hdec, Turn.refl _ _, rfl⟩
  case round =>
    obtain ⟨q, rfl, hpq, hq, hdq, htq, hend⟩ := hrel
    have HE : Hid (endOf D L p = endOf D L q) := hend
    clear hend
    have e0 := hdq.c0
    have e1 := hdq.c1
    have f1 := hdq.fr 1
    have hbq := hby.turn htq hne
    by_cases hlt : q < L
    · have hcq := hbq.cell q hlt
      have hdb := hD q hlt
      by_cases h101 : D q = 101
      · have k101 : (D q != 101) = false := by simpa using h101
        have HE' : Hid (endOf D L p = q) := HE.out.trans (endOf_e D L hlt h101)
        clear HE
        have hpq' : (p : Int) ≤ q := by omega
        have hqc : (q : Int) ≤ cap := by omega
        have hlq : (q : Int) < L := by omega
        clear h101
        go_wp2
        go_quiet (fail)
        go_wp2
        go_quiet (fail)
        go_wp2
        go_quiet (fail)
        go_wp2_with fail
        have hcells : ∀ j, j < q - p → wr.cell? ⟨ab, ao + p + j, none⟩ = some (.int .u8 (D (p + j))) := fun j hj => by
          rw [Nat.add_assoc]; exact hbq.cell (p + j) (by omega)
        have hcall := fun n => pInt_any D ab (ao + p) p (q - p) (cap - p) (wr.drewN n) (by omega) (by omega) hcells (fun j hj => hD (p + j) (by omega)) (some ⟨ab, ao + p, none⟩) (fun _ => rfl)
        obtain ⟨v, ok, hpi⟩ : ∃ v ok, pInt D p (q - p) = (v, ok) := ⟨_, _, rfl⟩
        rw [hpi] at hcall
        have HP : Hid (pInt D p (q - p) = (v, ok)) := hpi
        clear hpi
        cases ok with
        | true =>
          refine (hcall _).mono ?_
          rintro e w' ⟨rfl, rfl⟩
          clear hcall hcells
          go_wp2
          go_ret2
          have hi : intAt D L p = (q + 1, none, v) := by
            unfold intAt
            rw [HE'.out, if_pos hlt, HP.out]; simp
          rw [hi]
          exact ⟨_, rfl, rfl, by simpa using (hdq.drewN _).setPos ((q : Int) + 1), (htq.drewN _).set _ _⟩
        | false =>
          refine (hcall _).mono ?_
          rintro e w' ⟨rfl, rfl⟩
          clear hcall
          go_wp2_with (refine wpList_sprintf rfl (.const (.string ⟨#[109, 97, 108, 102, 111, 114, 109, 101, 100, 32, 105, 110, 116, 101, 103, 101, 114, 32, 37, 113]⟩)) (.tmp 77) rfl _ _ rfl rfl ?hs ?_)
          case hs =>
            refine says_malInt wr.heap.size ⟨ab, ao + p, none⟩ (q - p) (cap - p) (numsAt D p (q - p)) (numsAt_length D _ _) _ (World.cell?_alloc_at _ _ _ _ rfl) ?_
            intro j x hj
            exact cell_nums hj (by simpa using hbq.lt) (fun j hj => by simpa using hcells j hj)
          intro t
          go_wp2
          go_ret2
          have hi : intAt D L p = (q, some p, 0) := by
            unfold intAt
            rw [HE'.out, if_pos hlt, HP.out]; simp
          rw [hi]
          exact ⟨_, rfl, ⟨_, rfl, by have := htq.size; omega, by simp, by simp [World.cell?_alloc_at]⟩, (((hdq.drewN _).alloc _).alloc _).drew, ((((htq.drewN _).alloc _).alloc _).drew)⟩
      · have k101 : (D q != 101) = true := by simpa using h101
        go_wp2
        go_quiet (fail)
        go_wp2
        go_roundg (L - (q + 1))
        case measure => omega
        case rel => exact ⟨q + 1, rfl, by omega, by omega, by simpa using (hdq.drewN _).setPos ((q : Int) + 1), (htq.drewN _).set _ _, HE.out.trans (endOf_step D L hlt h101)⟩
    · have hqL : q = L := by omega
      have HE' : Hid (endOf D L p = L) := HE.out.trans ((endOf_end D L (by omega)).trans hqL)
      clear HE
      subst hqL
      have hd : decide ((q : Int) < q) = false := by simp
      go_wp2
      go_quiet (fail)
      go_wp2
      go_quiet (fail)
      go_wp2_with fail
      refine (errorf_dec _ _ (hdq.drewN _) (says_end _)).mono ?_
      rintro e w' ⟨u, rfl, herr, hdec', ht'⟩
      go_wp2
      go_ret2
      have hi : intAt D q p = (q, some q, 0) := by
        unfold intAt
        rw [HE'.out, if_neg (by omega)]
      rw [hi]
      exact ⟨_, rfl, herr.mono htq.size, hdec', (htq.drewN _).trans ht'⟩
end
end Go.Proofs.YbulkacdeFmt
