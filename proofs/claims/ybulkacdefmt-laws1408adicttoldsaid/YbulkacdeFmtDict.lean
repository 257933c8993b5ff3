import Derived.Test.YbulkacdeFmtList
namespace Go.Proofs.YbulkacdeFmt
open Go.RowKit

/-- string(key): the key's bytes. -/
theorem conv_key {x : World} {ab ao L lo n c : Nat} {D : Nat → Int} {a : Addr} (hb : Bytes x ab ao L D) (hlo : lo + n ≤ L) (ha : 0 < n → a = ⟨ab, ao + lo, none⟩) :
    (convert 24 9 (.slice (some a) n c)).run Ybaf.prog x = .ok (.string (strOf D lo n)) x := by
  by_cases hn : 0 < n
  · obtain rfl := ha hn
    exact run_convert_bytes_arg x 24 5 Ybaf.underlying24 Ybaf.underlying5 ab (ao + lo) n c (numsAt D lo n) (numsAt_length D _ _) (fun i hi => by
      rw [numsAt_getD D hi, Nat.add_assoc]; exact hb.cell (lo + i) (by omega)) 9 Ybaf.underlying9
  · obtain rfl : n = 0 := by omega
    rw [run_convert_bytes_string x 24 9 5 _ 0 c Ybaf.underlying24 Ybaf.underlying5 Ybaf.underlying9]
    have hl := run_loadCells_list (P := Ybaf.prog) x a [] (fun j v hj => by simp at hj)
    rw [run_bytesToString x a 0 c [] (by simpa using hl)]
    rfl

section
variable {w : World} {b ab ao L cap B : Nat} {D : Nat → Int} {d : Int}

/-- Too deep: dict fails at once. -/
theorem dict_deep (p : Nat) (fv : Value) (hdec : Dec w b (.slice (some ⟨ab, ao, none⟩) L cap) p 100) :
    Calls Ybaf.prog 21 #[.pointer (some ⟨b, 0, none⟩), fv] w fun e w' => ∃ u, e = .returned u ∧
      ErrAt w.heap.size w' u p ∧ Dec w' b (.slice (some ⟨ab, ao, none⟩) L cap) p 100 ∧ Turn b w w' := by
  go_enter_defers Ybaf.func21, Ybaf.ntmps21
  go_wp2_with fail
  refine (open_dec_deep hdec).mono ?_
  rintro e w' ⟨u, rfl, ⟨x, rfl, h1, h2, h3⟩, hdec', ht⟩
  go_wp2
  exact ⟨_, results_tmp rfl _ _ _, _, rfl, ⟨x, rfl, h1, h2, h3⟩, hdec', ht⟩

theorem dictGo_keyErr {g : Nat → Nat × Option Nat} {f q o : Nat} {prev : Option ByteArray} (hq : q < L) (he : D q ≠ 101) (h : (strAt D L q).2.1 = some o) : dictGo D L g (f + 1) prev q = ((strAt D L q).1, some o) := by
  rw [dictGo, if_pos ⟨hq, he⟩, h]
theorem dictGo_order {g : Nat → Nat × Option Nat} {f q : Nat} {prev : Option ByteArray} (hq : q < L) (he : D q ≠ 101) (h : (strAt D L q).2.1 = none)
    (hk : keyBad prev (strOf D ((strAt D L q).1 - (strAt D L q).2.2) (strAt D L q).2.2) = true) : dictGo D L g (f + 1) prev q = ((strAt D L q).1, some q) := by
  rw [dictGo, if_pos ⟨hq, he⟩, h]
  exact if_pos hk
theorem dictGo_item {g : Nat → Nat × Option Nat} {f q : Nat} {prev : Option ByteArray} (hq : q < L) (he : D q ≠ 101) (h : (strAt D L q).2.1 = none)
    (hk : keyBad prev (strOf D ((strAt D L q).1 - (strAt D L q).2.2) (strAt D L q).2.2) = false) (hg : (g (strAt D L q).1).2 = none) :
    dictGo D L g (f + 1) prev q = dictGo D L g f (some (strOf D ((strAt D L q).1 - (strAt D L q).2.2) (strAt D L q).2.2)) (g (strAt D L q).1).1 := by
  rw [dictGo, if_pos ⟨hq, he⟩, h]
  refine (if_neg (by rw [hk]; decide)).trans ?_
  rw [hg]
theorem dictGo_err {g : Nat → Nat × Option Nat} {f q o : Nat} {prev : Option ByteArray} (hq : q < L) (he : D q ≠ 101) (h : (strAt D L q).2.1 = none)
    (hk : keyBad prev (strOf D ((strAt D L q).1 - (strAt D L q).2.2) (strAt D L q).2.2) = false) (hg : (g (strAt D L q).1).2 = some o) :
    dictGo D L g (f + 1) prev q = ((g (strAt D L q).1).1, some o) := by
  rw [dictGo, if_pos ⟨hq, he⟩, h]
  refine (if_neg (by rw [hk]; decide)).trans ?_
  rw [hg]
theorem dictGo_e {g : Nat → Nat × Option Nat} {f q : Nat} {prev : Option ByteArray} (hq : q < L) (he : D q = 101) : dictGo D L g (f + 1) prev q = (q + 1, none) := by
  rw [dictGo, if_neg (fun h => h.2 he), if_pos hq]
theorem dictGo_end {g : Nat → Nat × Option Nat} {f q : Nat} {prev : Option ByteArray} (hq : L ≤ q) : dictGo D L g (f + 1) prev q = (q, some q) := by
  rw [dictGo, if_neg (fun h => by omega), if_neg (by omega)]

/-- What the loop's two slots hold of the key before. -/
def PrevIs (D : Nat → Int) (ab ao L : Nat) (prev : Option ByteArray) (tp tf : Value) : Prop :=
  match prev with
  | none => tp = .slice none 0 0 ∧ tf = .bool true
  | some s => tf = .bool false ∧ ∃ (a : Addr) (lo n c : Nat), tp = .slice (some a) n c ∧ s = strOf D lo n ∧ lo + n ≤ L ∧ (0 < n → a = ⟨ab, ao + lo, none⟩)

set_option maxHeartbeats 1000000 in
theorem dict_any (g : Nat → Nat × Option Nat) (I : Nat → World → Prop) (E : World → Prop) (F : Nat) (caps : Array Value) (p : Nat)
    (hne : ab ≠ b) (hL : L ≤ 100000000) (hcap : L ≤ cap) (hD : ∀ i, i < L → 0 ≤ D i ∧ D i ≤ 255) (hp : p < L) (hd0 : 0 ≤ d) (hd1 : d < 100)
    (hg : ∀ p, p ≤ L → p ≤ (g p).1 ∧ (g p).1 ≤ L ∧ ((g p).2 = none → p < (g p).1))
    (hIT : ∀ q x y, I q x → Turn b x y → I q y) (hIE : ∀ q x, I q x → E x) (hET : ∀ x y, E x → Turn b x y → E y) (hIB : ∀ q x, I q x → Bytes x ab ao L D) (hIs : ∀ q x, I q x → B ≤ x.heap.size) (hbB : b < B)
    (hitem : ∀ q x a c, p < q → q < L → D q ≠ 101 → (strAt D L q).2.1 = none → (0 < (strAt D L q).2.2 → a = ⟨ab, ao + ((strAt D L q).1 - (strAt D L q).2.2), none⟩) → I q x → Dec x b (.slice (some ⟨ab, ao, none⟩) L cap) (strAt D L q).1 (d + 1) →
      Calls Ybaf.prog F (#[.slice (some a) (strAt D L q).2.2 c] ++ caps) x fun e y => ∃ u, e = .returned u ∧ ErrIs B y u ((g (strAt D L q).1).2.map Int.ofNat) ∧
      Dec y b (.slice (some ⟨ab, ao, none⟩) L cap) (g (strAt D L q).1).1 (d + 1) ∧ ((g (strAt D L q).1).2 = none → I (g (strAt D L q).1).1 y) ∧ E y)
    (hfn : ∀ (args : Array Value) (x : World), (callFunc F args).run Ybaf.prog x = .ok (.enter F args) x)
    (hdec : Dec w b (.slice (some ⟨ab, ao, none⟩) L cap) p d) (hI : I (p + 1) w) :
    Calls Ybaf.prog 21 #[.pointer (some ⟨b, 0, none⟩), .func (.func F) #[] caps] w fun e w' => ∃ u, e = .returned u ∧
      ErrIs B w' u ((dictGo D L g (L + 1) none (p + 1)).2.map Int.ofNat) ∧ Dec w' b (.slice (some ⟨ab, ao, none⟩) L cap) (dictGo D L g (L + 1) none (p + 1)).1 d ∧
      ((dictGo D L g (L + 1) none (p + 1)).2 = none → ∃ q, (dictGo D L g (L + 1) none (p + 1)).1 = q + 1 ∧ I q w') ∧ E w' := by
  have hne' : (d == 100) = false := by simp; omega
  go_enter_defers Ybaf.func21, Ybaf.ntmps21
  go_wp2_with fail
  refine (open_dec hdec hne' (by omega) (by omega) (by omega) (by omega)).mono ?_
  rintro e w1 ⟨rfl, hdec1, ht1⟩
  go_wp2
  go_loopg [6, 7] (L - (p + 1)) (fun k tp tf wr => ∃ (q f : Nat) (prev : Option ByteArray), k = L - q ∧ p < q ∧ q ≤ L ∧ L - q < f + 1 ∧ PrevIs D ab ao L prev tp tf ∧ Dec wr b (.slice (some ⟨ab, ao, none⟩) L cap) q (d + 1) ∧ I q wr ∧ dictGo D L g (L + 1) none (p + 1) = dictGo D L g (f + 1) prev q)
  case atStart => exact ⟨p + 1, L, none, rfl, by omega, by omega, by omega, ⟨rfl, rfl⟩, Dec.cast (by simp) hdec1, hIT _ _ _ hI ht1, rfl⟩
  case round =>
    obtain ⟨q, f, prev, rfl, hpq, hq, hf, hprev, hdq, hIq, hgo⟩ := hrel
    have HG : Hid (dictGo D L g (L + 1) none (p + 1) = dictGo D L g (f + 1) prev q) := hgo
    clear hgo
    have e0 := hdq.c0
    have e1 := hdq.c1
    have f1 := hdq.fr 1
    have hbq := hIB _ _ hIq
    have hsz := hIs _ _ hIq
    by_cases hlt : q < L
    · have hcq := hbq.cell q hlt
      have hqb := hD q hlt
      have hlq : (q : Int) < L := by omega
      by_cases h101 : D q = 101
      · have k101 : (D q != 101) = false := by simpa using h101
        have HS : Hid (dictGo D L g (L + 1) none (p + 1) = (q + 1, none)) := HG.out.trans (dictGo_e hlt h101)
        clear hitem
        go_wp2
        go_quiet (fail)
        go_wp2
        go_quiet (fail)
        go_wp2
        refine leaves_cons (f := 15) (args := #[.pointer (some ⟨b, 0, none⟩)]) (by simp) (by simp [go_sem]) ?_
        refine (close_dec_deferred .returning ((hdq.drewN _).setPos ((q : Int) + 1)) (by omega) (by omega)).mono ?_
        rintro e u' w2 ⟨rfl, rfl, hd2, ht2⟩
        have hI2 := hIT _ _ _ hIq ((((Turn.refl b wr).drewN _).set _ _).trans ht2)
        refine ⟨_, results_tmp rfl _ _ _, _, rfl, ?_⟩
        rw [HS.out]
        exact ⟨rfl, Dec.castD (by simp) (by omega) hd2, fun _ => ⟨q, rfl, hI2⟩, hIE _ _ hI2⟩
      · have k101 : (D q != 101) = true := by simpa using h101
        have HH : Hid (D q ≠ 101) := h101
        have HIT := hide hitem
        have HFN := hide hfn
        have HPR := hide hprev
        clear h101 hitem hfn hprev
        go_wp2
        go_quiet (fail)
        go_wp2_with fail
        refine (string_full hne hL hcap hD q hlt (hdq.drewN _) (hbq.drewN _)).mono ?_
        rintro e y ⟨sv, u, rfl, hres, hdy, hty⟩
        have hsb := strAt_bounds D L hlt
        cases hsq : (strAt D L q).2.1 with
        | some o =>
          unfold StrRes at hres
          rw [hsq] at hres
          obtain ⟨⟨x, rfl, h1, h2, h3⟩, rfl⟩ := hres
          have HS : Hid (dictGo D L g (L + 1) none (p + 1) = ((strAt D L q).1, some o)) := HG.out.trans (dictGo_keyErr hlt HH.out hsq)
          clear hsq
          go_wp2
          refine leaves_cons (f := 15) (args := #[.pointer (some ⟨b, 0, none⟩)]) (by simp) (by simp [go_sem]) ?_
          refine (close_dec_deferred .returning hdy (by omega) (by omega)).mono ?_
          rintro e u' w2 ⟨rfl, rfl, hd2, ht2⟩
          refine ⟨_, results_tmp rfl _ _ _, _, rfl, ?_⟩
          rw [HS.out]
          exact ⟨ErrAt.turn (ErrAt.mono ⟨x, rfl, h1, h2, h3⟩ (by simpa using hsz)) ht2 hbB, Dec.castD rfl (by omega) hd2, (fun h => by cases h), hET _ _ (hIE _ _ (hIT _ _ _ hIq (((Turn.refl b wr).drewN _).trans hty))) ht2⟩
        | none =>
          unfold StrRes at hres
          rw [hsq] at hres
          obtain ⟨rfl, a, rfl, ha⟩ := hres
          have HSQ := hide hsq
          have hsb2 := hsb.2.2 hsq
          have hby := hbq.turn (((Turn.refl b wr).drewN _).trans hty) hne
          clear hsq
          cases prev with
          | none =>
            have HK : Hid (keyBad none (strOf D ((strAt D L q).1 - (strAt D L q).2.2) (strAt D L q).2.2) = false) := rfl
            obtain ⟨rfl, rfl⟩ := HPR.out
            have hfn := HFN.out
            have hIy := hIT _ _ _ hIq (((Turn.refl b wr).drewN _).trans hty)
            go_wp2_with fail
            refine (HIT.out q y a _ hpq hlt HH.out HSQ.out ha hIy hdy).mono ?_
            rintro e z ⟨u2, rfl, herr, hdz, hIz, hEz⟩
            clear hfn
            have hgb := hg (strAt D L q).1 hsb.2.1
            cases hgq : (g (strAt D L q).1).2 with
            | none =>
              rw [hgq] at herr
              obtain rfl : u2 = .nilIface := herr
              have hIz' := hIz hgq
              have hlt' := hgb.2.2 hgq
              have HGQ := hide hgq
              clear hgq hIz
              go_wp2
              go_roundg (L - (g (strAt D L q).1).1)
              case measure => omega
              case rel =>
                have h1 : f = (f - 1) + 1 := by omega
                refine ⟨(g (strAt D L q).1).1, f - 1, some (strOf D ((strAt D L q).1 - (strAt D L q).2.2) (strAt D L q).2.2), rfl, by omega, hgb.2.1, by omega, ⟨rfl, a, _, _, _, rfl, rfl, by omega, ha⟩, hdz, hIz', HG.out.trans ?_⟩
                rw [← h1]
                exact dictGo_item hlt HH.out HSQ.out HK.out HGQ.out
            | some o =>
              rw [hgq] at herr
              obtain ⟨x, rfl, h1, h2, h3⟩ : ErrAt B z u2 o := herr
              have HS : Hid (dictGo D L g (L + 1) none (p + 1) = ((g (strAt D L q).1).1, some o)) := HG.out.trans (dictGo_err hlt HH.out HSQ.out HK.out hgq)
              clear hgq hIz
              go_wp2
              refine leaves_cons (f := 15) (args := #[.pointer (some ⟨b, 0, none⟩)]) (by simp) (by simp [go_sem]) ?_
              refine (close_dec_deferred .returning hdz (by omega) (by omega)).mono ?_
              rintro e u' w2 ⟨rfl, rfl, hd2, ht2⟩
              refine ⟨_, results_tmp rfl _ _ _, _, rfl, ?_⟩
              rw [HS.out]
              exact ⟨ErrAt.turn ⟨x, rfl, h1, h2, h3⟩ ht2 hbB, Dec.castD rfl (by omega) hd2, (fun h => by cases h), hET _ _ hEz ht2⟩
          | some s =>
            obtain ⟨rfl, a', lo', n', c', rfl, rfl, hlo', ha'⟩ := HPR.out
            have hc1 := conv_key (c := cap - ((strAt D L q).1 - (strAt D L q).2.2)) hby (show (strAt D L q).1 - (strAt D L q).2.2 + (strAt D L q).2.2 ≤ L by omega) ha
            have hc2 := conv_key (c := c') hby hlo' ha'
            by_cases hle : strLe (strOf D ((strAt D L q).1 - (strAt D L q).2.2) (strAt D L q).2.2) (strOf D lo' n') = true
            · have HS : Hid (dictGo D L g (L + 1) none (p + 1) = ((strAt D L q).1, some q)) := HG.out.trans (dictGo_order hlt HH.out HSQ.out hle)
              have hle' : (Op.bytesLess (strOf D ((strAt D L q).1 - (strAt D L q).2.2) (strAt D L q).2.2).toList (strOf D lo' n').toList || (strOf D ((strAt D L q).1 - (strAt D L q).2.2) (strAt D L q).2.2).toList == (strOf D lo' n').toList) = true := hle
              clear hle
              go_wp2_with (refine wpList_sprintf rfl (.const (.string ⟨#[100, 105, 99, 116, 105, 111, 110, 97, 114, 121, 32, 107, 101, 121, 32, 37, 113, 32, 111, 117, 116, 32, 111, 102, 32, 111, 114, 100, 101, 114]⟩)) (.tmp 65) rfl _ _ rfl rfl ?hs ?_)
              case hs =>
                refine says_order y.heap.size a (strAt D L q).2.2 _ (numsAt D ((strAt D L q).1 - (strAt D L q).2.2) (strAt D L q).2.2) (numsAt_length D _ _) _ (World.cell?_alloc_at _ _ _ _ rfl) ?_
                intro j x hj
                have hn0 : 0 < (strAt D L q).2.2 := by
                  have := (List.getElem?_eq_some_iff.1 hj).1
                  simp [numsAt] at this
                  omega
                rw [ha hn0]
                exact cell_nums hj hby.lt (fun j hj => by rw [Nat.add_assoc]; exact hby.cell _ (by omega))
              intro t
              go_wp2
              refine leaves_cons (f := 15) (args := #[.pointer (some ⟨b, 0, none⟩)]) (by simp) (by simp [go_sem]) ?_
              refine (close_dec_deferred .returning (((hdy.alloc _).alloc _).drew) (by omega) (by omega)).mono ?_
              rintro e u' w2 ⟨rfl, rfl, hd2, ht2⟩
              refine ⟨_, results_tmp rfl _ _ _, _, rfl, ?_⟩
              rw [HS.out]
              have hsy := hty.size
              simp only [World.heap_drewN] at hsy
              exact ⟨ErrAt.turn ⟨y.heap.size + 1, rfl, by omega, by simp, by simp [World.cell?_alloc_at]⟩ ht2 hbB, Dec.castD rfl (by omega) hd2, (fun h => by cases h), hET _ _ (hIE _ _ (hIT _ _ _ hIq ((((((Turn.refl b wr).drewN _).trans hty).alloc _).alloc _).drew))) ht2⟩
            · simp only [Bool.not_eq_true] at hle
              have HK : Hid (keyBad (some (strOf D lo' n')) (strOf D ((strAt D L q).1 - (strAt D L q).2.2) (strAt D L q).2.2) = false) := hle
              have hle' : (Op.bytesLess (strOf D ((strAt D L q).1 - (strAt D L q).2.2) (strAt D L q).2.2).toList (strOf D lo' n').toList || (strOf D ((strAt D L q).1 - (strAt D L q).2.2) (strAt D L q).2.2).toList == (strOf D lo' n').toList) = false := hle
              clear hle
              have hfn := HFN.out
              have hIy := hIT _ _ _ hIq (((Turn.refl b wr).drewN _).trans hty)
              go_wp2_with fail
              refine (HIT.out q y a _ hpq hlt HH.out HSQ.out ha hIy hdy).mono ?_
              rintro e z ⟨u2, rfl, herr, hdz, hIz, hEz⟩
              clear hfn
              have hgb := hg (strAt D L q).1 hsb.2.1
              cases hgq : (g (strAt D L q).1).2 with
              | none =>
                rw [hgq] at herr
                obtain rfl : u2 = .nilIface := herr
                have hIz' := hIz hgq
                have hlt' := hgb.2.2 hgq
                have HGQ := hide hgq
                clear hgq hIz
                go_wp2
                go_roundg (L - (g (strAt D L q).1).1)
                case measure => omega
                case rel =>
                  have h1 : f = (f - 1) + 1 := by omega
                  refine ⟨(g (strAt D L q).1).1, f - 1, some (strOf D ((strAt D L q).1 - (strAt D L q).2.2) (strAt D L q).2.2), rfl, by omega, hgb.2.1, by omega, ⟨rfl, a, _, _, _, rfl, rfl, by omega, ha⟩, hdz, hIz', HG.out.trans ?_⟩
                  rw [← h1]
                  exact dictGo_item hlt HH.out HSQ.out HK.out HGQ.out
              | some o =>
                rw [hgq] at herr
                obtain ⟨x, rfl, h1, h2, h3⟩ : ErrAt B z u2 o := herr
                have HS : Hid (dictGo D L g (L + 1) none (p + 1) = ((g (strAt D L q).1).1, some o)) := HG.out.trans (dictGo_err hlt HH.out HSQ.out HK.out hgq)
                clear hgq hIz
                go_wp2
                refine leaves_cons (f := 15) (args := #[.pointer (some ⟨b, 0, none⟩)]) (by simp) (by simp [go_sem]) ?_
                refine (close_dec_deferred .returning hdz (by omega) (by omega)).mono ?_
                rintro e u' w2 ⟨rfl, rfl, hd2, ht2⟩
                refine ⟨_, results_tmp rfl _ _ _, _, rfl, ?_⟩
                rw [HS.out]
                exact ⟨ErrAt.turn ⟨x, rfl, h1, h2, h3⟩ ht2 hbB, Dec.castD rfl (by omega) hd2, (fun h => by cases h), hET _ _ hEz ht2⟩
    · have HS : Hid (dictGo D L g (L + 1) none (p + 1) = (q, some q)) := HG.out.trans (dictGo_end (by omega))
      have hd : decide ((q : Int) < L) = false := by simpa using hlt
      have hd' : (L : Int) ≤ q := by omega
      clear hitem
      go_wp2
      go_quiet (fail)
      go_wp2
      go_quiet (fail)
      go_wp2_with fail
      refine (errorf_dec _ _ (hdq.drewN _) (says_end _)).mono ?_
      rintro e y ⟨u, rfl, herr, hdy, hty⟩
      go_wp2
      refine leaves_cons (f := 15) (args := #[.pointer (some ⟨b, 0, none⟩)]) (by simp) (by simp [go_sem]) ?_
      refine (close_dec_deferred .returning hdy (by omega) (by omega)).mono ?_
      rintro e u' w2 ⟨rfl, rfl, hd2, ht2⟩
      refine ⟨_, results_tmp rfl _ _ _, _, rfl, ?_⟩
      rw [HS.out]
      exact ⟨ErrAt.turn (herr.mono (by simpa using hsz)) ht2 hbB, Dec.castD rfl (by omega) hd2, (fun h => by cases h), hET _ _ (hIE _ _ (hIT _ _ _ hIq (((Turn.refl b wr).drewN _).trans hty))) ht2⟩
end
end Go.Proofs.YbulkacdeFmt
