import Derived.Test.YbulkacdeFmtStr
namespace Go.Proofs.YbulkacdeFmt
open Go.RowKit

theorem Dec.castD {w : World} {b : Nat} {dv : Value} {p p' d d' : Int} (h : p = p') (h' : d = d') (hd : Dec w b dv p d) : Dec w b dv p' d' := h ▸ h' ▸ hd
theorem hide {p : Prop} (h : p) : Hid p := h

section
variable {w : World} {b ab ao L cap B : Nat} {D : Nat → Int} {d : Int}

/-- Too deep: list fails at once. -/
theorem list_deep (p : Nat) (fv : Value) (hdec : Dec w b (.slice (some ⟨ab, ao, none⟩) L cap) p 100) :
    Calls Ybaf.prog 19 #[.pointer (some ⟨b, 0, none⟩), fv] w fun e w' => ∃ u, e = .returned u ∧
      ErrAt w.heap.size w' u p ∧ Dec w' b (.slice (some ⟨ab, ao, none⟩) L cap) p 100 ∧ Turn b w w' := by
  go_enter_defers Ybaf.func19, Ybaf.ntmps19
  go_wp2_with fail
  refine (open_dec_deep hdec).mono ?_
  rintro e w' ⟨u, rfl, ⟨x, rfl, h1, h2, h3⟩, hdec', ht⟩
  go_wp2
  exact ⟨_, results_tmp rfl _ _ _, _, rfl, ⟨x, rfl, h1, h2, h3⟩, hdec', ht⟩

theorem listGo_item {g : Nat → Nat × Option Nat} {f q : Nat} (hq : q < L) (he : D q ≠ 101) (h : (g q).2 = none) : listGo D L g (f + 1) q = listGo D L g f (g q).1 := by
  rw [listGo, if_pos ⟨hq, he⟩, h]
theorem listGo_err {g : Nat → Nat × Option Nat} {f q o : Nat} (hq : q < L) (he : D q ≠ 101) (h : (g q).2 = some o) : listGo D L g (f + 1) q = ((g q).1, some o) := by
  rw [listGo, if_pos ⟨hq, he⟩, h]
theorem listGo_e {g : Nat → Nat × Option Nat} {f q : Nat} (hq : q < L) (he : D q = 101) : listGo D L g (f + 1) q = (q + 1, none) := by
  rw [listGo, if_neg (fun h => h.2 he), if_pos hq]
theorem listGo_end {g : Nat → Nat × Option Nat} {f q : Nat} (hq : L ≤ q) : listGo D L g (f + 1) q = (q, some q) := by
  rw [listGo, if_neg (fun h => by omega), if_neg (by omega)]

theorem list_any (g : Nat → Nat × Option Nat) (I : Nat → World → Prop) (E : World → Prop) (F : Nat) (first caps : Array Value) (p : Nat)
    (hL : L ≤ 100000000) (hD : ∀ i, i < L → 0 ≤ D i ∧ D i ≤ 255) (hp : p < L) (hd0 : 0 ≤ d) (hd1 : d < 100)
    (hg : ∀ p, p ≤ L → p ≤ (g p).1 ∧ (g p).1 ≤ L ∧ ((g p).2 = none → p < (g p).1))
    (hIT : ∀ q x y, I q x → Turn b x y → I q y) (hIE : ∀ q x, I q x → E x) (hET : ∀ x y, E x → Turn b x y → E y) (hIB : ∀ q x, I q x → Bytes x ab ao L D) (hIs : ∀ q x, I q x → B ≤ x.heap.size) (hbB : b < B)
    (hitem : ∀ q x, p < q → q < L → D q ≠ 101 → I q x → Dec x b (.slice (some ⟨ab, ao, none⟩) L cap) q (d + 1) → Calls Ybaf.prog F (first ++ caps) x fun e y => ∃ u, e = .returned u ∧ ErrIs B y u ((g q).2.map Int.ofNat) ∧
      Dec y b (.slice (some ⟨ab, ao, none⟩) L cap) (g q).1 (d + 1) ∧ ((g q).2 = none → I (g q).1 y) ∧ E y)
    (hfn : ∀ (args : Array Value) (x : World), (callFunc F args).run Ybaf.prog x = .ok (.enter F args) x)
    (hdec : Dec w b (.slice (some ⟨ab, ao, none⟩) L cap) p d) (hI : I (p + 1) w) :
    Calls Ybaf.prog 19 #[.pointer (some ⟨b, 0, none⟩), .func (.func F) first caps] w fun e w' => ∃ u, e = .returned u ∧
      ErrIs B w' u ((listGo D L g (L + 1) (p + 1)).2.map Int.ofNat) ∧ Dec w' b (.slice (some ⟨ab, ao, none⟩) L cap) (listGo D L g (L + 1) (p + 1)).1 d ∧
      ((listGo D L g (L + 1) (p + 1)).2 = none → ∃ q, (listGo D L g (L + 1) (p + 1)).1 = q + 1 ∧ I q w') ∧ E w' := by
  have hne : (d == 100) = false := by simp; omega
  go_enter_defers Ybaf.func19, Ybaf.ntmps19
  go_wp2_with fail
  refine (open_dec hdec hne (by omega) (by omega) (by omega) (by omega)).mono ?_
  rintro e w1 ⟨rfl, hdec1, ht1⟩
  go_wp2
  go_loopg [] (L - (p + 1)) (fun k wr => ∃ q f : Nat, k = L - q ∧ p < q ∧ q ≤ L ∧ L - q < f + 1 ∧ Dec wr b (.slice (some ⟨ab, ao, none⟩) L cap) q (d + 1) ∧ I q wr ∧ listGo D L g (L + 1) (p + 1) = listGo D L g (f + 1) q)
  case atStart => exact ⟨p + 1, L, rfl, by omega, by omega, by omega, Dec.cast (by simp) hdec1, hIT _ _ _ hI ht1, rfl⟩
  case round =>
    obtain ⟨q, f, rfl, hpq, hq, hf, hdq, hIq, hgo⟩ := hrel
    have HG : Hid (listGo D L g (L + 1) (p + 1) = listGo D L g (f + 1) q) := hgo
    clear hgo
    have e0 := hdq.c0
    have e1 := hdq.c1
    have f1 := hdq.fr 1
    have hbq := hIB _ _ hIq
    have hsz := hIs _ _ hIq
    by_cases hlt : q < L
    · have hcq := hbq.cell q hlt
      have hqb := hD q hlt
      have hlq : (q : Int) < L := by omega
      by_cases h101 : D q = 101
      · have k101 : (D q != 101) = false := by simpa using h101
        have HS : Hid (listGo D L g (L + 1) (p + 1) = (q + 1, none)) := HG.out.trans (listGo_e hlt h101)
        go_wp2
        go_quiet (fail)
        go_wp2
        go_quiet (fail)
        go_wp2
        refine leaves_cons (f := 15) (args := #[.pointer (some ⟨b, 0, none⟩)]) (by simp) (by simp [go_sem]) ?_
        refine (close_dec_deferred .returning ((hdq.drewN _).setPos ((q : Int) + 1)) (by omega) (by omega)).mono ?_
        rintro e u' w2 ⟨rfl, rfl, hd2, ht2⟩
        have hI2 := hIT _ _ _ hIq ((((Turn.refl b wr).drewN _).set _ _).trans ht2)
        refine ⟨_, results_tmp rfl _ _ _, _, rfl, ?_⟩
        rw [HS.out]
        exact ⟨rfl, Dec.castD (by simp) (by omega) hd2, fun _ => ⟨q, rfl, hI2⟩, hIE _ _ hI2⟩
      · have k101 : (D q != 101) = true := by simpa using h101
        have hit := fun n => hitem q (wr.drewN n) hpq hlt h101 (hIT _ _ _ hIq ((Turn.refl _ _).drewN n)) (hdq.drewN n)
        have HI := hide hit
        have HH : Hid (D q ≠ 101) := h101
        clear hit hitem h101
        go_wp2
        go_quiet (fail)
        go_wp2_with fail
        refine (HI.out _).mono ?_
        rintro e y ⟨u, rfl, herr, hdy, hIy, hEy⟩
        have hgb := hg q hq
        cases hgq : (g q).2 with
        | none =>
          rw [hgq] at herr
          obtain rfl : u = .nilIface := herr
          have hIy' := hIy hgq
          have hlt' := hgb.2.2 hgq
          have HGQ := hide hgq
          clear hgq hIy HI
          go_wp2
          go_roundg (L - (g q).1)
          case measure => omega
          case rel =>
            refine ⟨(g q).1, f - 1, rfl, by omega, hgb.2.1, by omega, hdy, hIy', HG.out.trans ?_⟩
            have h1 : f = (f - 1) + 1 := by omega
            rw [← h1]
            exact listGo_item hlt HH.out HGQ.out
        | some o =>
          rw [hgq] at herr
          obtain ⟨x, rfl, h1, h2, h3⟩ : ErrAt B y u o := herr
          have HS : Hid (listGo D L g (L + 1) (p + 1) = ((g q).1, some o)) := HG.out.trans (listGo_err hlt HH.out hgq)
          clear hgq hIy HI
          go_wp2
          refine leaves_cons (f := 15) (args := #[.pointer (some ⟨b, 0, none⟩)]) (by simp) (by simp [go_sem]) ?_
          refine (close_dec_deferred .returning hdy (by omega) (by omega)).mono ?_
          rintro e u' w2 ⟨rfl, rfl, hd2, ht2⟩
          refine ⟨_, results_tmp rfl _ _ _, _, rfl, ?_⟩
          rw [HS.out]
          exact ⟨ErrAt.turn ⟨x, rfl, h1, h2, h3⟩ ht2 hbB, Dec.castD rfl (by omega) hd2, (fun h => by cases h), hET _ _ hEy ht2⟩
    · have hqL : q = L := by omega
      have HS : Hid (listGo D L g (L + 1) (p + 1) = (q, some q)) := HG.out.trans (listGo_end (by omega))
      have hd : decide ((q : Int) < L) = false := by simpa using hlt
      have hd' : (L : Int) ≤ q := by omega
      clear hitem
      go_wp2
      go_quiet (fail)
      go_wp2
      go_quiet (fail)
      go_wp2_with fail
      refine (errorf_dec _ _ (hdq.drewN _) (says_end _)).mono ?_
      rintro e y ⟨u, rfl, herr, hdy, hty⟩
      go_wp2
      refine leaves_cons (f := 15) (args := #[.pointer (some ⟨b, 0, none⟩)]) (by simp) (by simp [go_sem]) ?_
      refine (close_dec_deferred .returning hdy (by omega) (by omega)).mono ?_
      rintro e u' w2 ⟨rfl, rfl, hd2, ht2⟩
      refine ⟨_, results_tmp rfl _ _ _, _, rfl, ?_⟩
      rw [HS.out]
      exact ⟨ErrAt.turn (herr.mono (by simpa using hsz)) ht2 hbB, Dec.castD rfl (by omega) hd2, (fun h => by cases h), hET _ _ (hIE _ _ (hIT _ _ _ hIq (((Turn.refl b wr).drewN _).trans hty))) ht2⟩
end
end Go.Proofs.YbulkacdeFmt
