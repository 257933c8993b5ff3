import Derived.Test.YbulkacdeFmtValue2
namespace Go.Proofs.YbulkacdeFmt
open Go.RowKit

/-- What value gives at an integer and at a byte string. -/
def VLeaf (D : Nat → Int) (L p : Nat) (v : Value) : Prop :=
  IsIface v ∧ (p < L → D p = 105 → v = .iface 2 (.int .i64 (intAt D L (p + 1)).2.2)) ∧
    (p < L → 48 ≤ D p → D p ≤ 57 → (strAt D L p).2.1 = none → v = .iface 9 (.string (strOf D ((strAt D L p).1 - (strAt D L p).2.2) (strAt D L p).2.2)))

section
variable {w : World} {b ab ao L cap : Nat} {D : Nat → Int} {d : Int}

/-- value behind the data's end. -/
theorem value_end (oa : Option Addr) (p : Nat) (hp : L ≤ p) (hdec : Dec w b (.slice oa L cap) p d) :
    Calls Ybaf.prog 11 #[.pointer (some ⟨b, 0, none⟩)] w fun e w' => ∃ u, e = .returned (.tuple #[.nilIface, u]) ∧ ErrAt w.heap.size w' u p ∧ Dec w' b (.slice oa L cap) p d ∧ Turn b w w' := by
  have e0 := hdec.c0
  have e1 := hdec.c1
  have hlt := hdec.lt
  have hbs : ¬ b = w.heap.size := by omega
  go_enter Ybaf.func11, Ybaf.ntmps11
  go_wp2
  go_quiet (fail)
  go_wp2_with fail
  refine (errorf_dec _ _ ((hdec.alloc _).drewN _) (says_end _)).mono ?_
  rintro e y ⟨u, rfl, herr, hdy, hty⟩
  go_wp2
  go_ret2
  exact ⟨_, rfl, herr.mono (by simp), hdy, (((Turn.refl b w).alloc _).drewN _).trans hty⟩

/-- value at an integer, a string, or what is neither. -/
theorem value_leaf (g : Option (Nat → Nat × Option Nat)) (hne : ab ≠ b) (hL : L ≤ 100000000) (hcap : L ≤ cap) (hD : ∀ i, i < L → 0 ≤ D i ∧ D i ≤ 255) (p : Nat) (hp : p < L) (h108 : D p ≠ 108) (h100 : D p ≠ 100)
    (hdec : Dec w b (.slice (some ⟨ab, ao, none⟩) L cap) p d) (hby : Bytes w ab ao L D) :
    Calls Ybaf.prog 11 #[.pointer (some ⟨b, 0, none⟩)] w fun e w' => ∃ v u, e = .returned (.tuple #[v, u]) ∧ ErrIs w.heap.size w' u ((body D L g p).2.map Int.ofNat) ∧ Dec w' b (.slice (some ⟨ab, ao, none⟩) L cap) (body D L g p).1 d ∧ Turn b w w' ∧ VLeaf D L p v := by
  have e0 := hdec.c0
  have e1 := hdec.c1
  have f1 := hdec.fr 1
  have hlt := hdec.lt
  have hcp := hby.cell p hp
  have hdb := hD p hp
  have hlp : (p : Int) < L := by omega
  have hbs : ¬ b = w.heap.size := by omega
  have hblt := hby.lt
  have k108 : (D p == 108) = false := by simpa using h108
  have k100 : (D p == 100) = false := by simpa using h100
  have H108 := hide h108
  have H100 := hide h100
  clear h108 h100
  by_cases h105 : D p = 105
  · have k105 : (D p == 105) = true := by simpa using h105
    have HB : Hid (body D L g p = ((intAt D L (p + 1)).1, (intAt D L (p + 1)).2.1)) := body_int hp h105
    have HP := hide h105
    clear h105
    go_enter Ybaf.func11, Ybaf.ntmps11
    go_wp2
    go_quiet (fail)
    go_wp2
    go_quiet (fail)
    go_wp2_with fail
    have ht1 : ∀ n o, Turn b w (((w.alloc o).drewN n).setCell ⟨b, 1, none⟩ (.int .i64 ((p : Int) + 1))) := fun n o => (((Turn.refl b w).alloc o).drewN n).set _ _
    refine (integer_any hne hL hcap hD (p + 1) (by omega) (Dec.cast (by simp) (((hdec.alloc _).drewN _).setPos ((p : Int) + 1))) (hby.turn (ht1 _ _) hne)).mono ?_
    rintro e y ⟨u, rfl, herr, hdy, hty⟩
    go_wp2
    go_ret2
    rw [HB.out]
    exact ⟨_, _, rfl, herr.mono (by simp), hdy, (ht1 _ _).trans hty, Or.inr ⟨_, _, rfl⟩, fun _ _ => rfl, fun _ h1 h2 => by have := HP.out; omega⟩
  · have k105 : (D p == 105) = false := by simpa using h105
    by_cases hdig : 48 ≤ D p ∧ D p ≤ 57
    · have HB : Hid (body D L g p = ((strAt D L p).1, (strAt D L p).2.1)) := body_str hp hdig.1 hdig.2
      have HP := hide h105
      obtain ⟨g1, g2⟩ := hdig
      clear h105
      go_enter Ybaf.func11, Ybaf.ntmps11
      go_wp2
      go_quiet (fail)
      go_wp2
      go_quiet (fail)
      go_wp2_with fail
      have ht1 : ∀ n o, Turn b w ((w.alloc o).drewN n) := fun n o => ((Turn.refl b w).alloc o).drewN n
      refine (string_full hne hL hcap hD p hp ((hdec.alloc _).drewN _) (hby.turn (ht1 _ _) hne)).mono ?_
      rintro e y ⟨sv, u, rfl, hres, hdy, hty⟩
      have hsb := strAt_bounds D L hp
      have hbyy := hby.turn ((ht1 _ _).trans hty) hne
      have herr := hide hres.err
      cases hsq : (strAt D L p).2.1 with
      | some o =>
        unfold StrRes at hres
        rw [hsq] at hres
        obtain ⟨_, rfl⟩ := hres
        have hcv := run_convert_bytes_nil (P := Ybaf.prog) y 24 5 Ybaf.underlying24 Ybaf.underlying5 0 0 9 Ybaf.underlying9
        have HSQ := hide hsq
        clear hsq
        go_wp2
        go_ret2
        rw [HB.out]
        exact ⟨_, _, rfl, herr.out.mono (by simp), hdy, (ht1 _ _).trans hty, Or.inr ⟨_, _, rfl⟩, fun _ h => absurd h HP.out, fun _ _ _ h => by rw [HSQ.out] at h; cases h⟩
      | none =>
        unfold StrRes at hres
        rw [hsq] at hres
        obtain ⟨rfl, a, rfl, ha⟩ := hres
        have hs2 := hsb.2.2 hsq
        have hcv := conv_key (c := cap - ((strAt D L p).1 - (strAt D L p).2.2)) hbyy (show (strAt D L p).1 - (strAt D L p).2.2 + (strAt D L p).2.2 ≤ L by omega) ha
        have HSQ := hide hsq
        clear hsq
        go_wp2
        go_ret2
        rw [HB.out]
        exact ⟨_, _, rfl, herr.out.mono (by simp), hdy, (ht1 _ _).trans hty, Or.inr ⟨_, _, rfl⟩, fun _ h => absurd h HP.out, fun _ _ _ _ => rfl⟩
    · have HB : Hid (body D L g p = (p, some p)) := body_other hp h105 H108.out H100.out hdig
      have HP := hide h105
      have HD := hide hdig
      clear h105
      by_cases g1 : D p < 48
      all_goals
        go_enter Ybaf.func11, Ybaf.ntmps11
        go_wp2
        go_quiet (fail)
        go_wp2
        go_quiet (fail)
        go_wp2_with fail
        refine (errorf_dec _ _ (((hdec.alloc _).drewN _).alloc _) (says_byte (w.heap.size + 1) (D p) _ (by exact World.cell?_alloc_at _ _ _ _ (by simp)))).mono ?_
        rintro e y ⟨u, rfl, herr, hdy, hty⟩
        go_wp2
        go_ret2
        rw [HB.out]
        exact ⟨_, _, rfl, herr.mono (by simp; omega), hdy, ((((Turn.refl b w).alloc _).drewN _).alloc _).trans hty, Or.inl rfl, fun _ h => absurd h HP.out, fun _ h1 h2 => absurd ⟨h1, h2⟩ HD.out⟩

theorem value_list (p : Nat) (hp : p < L) (h108 : D p = 108) (R : Ending → World → Prop)
    (hdec : Dec w b (.slice (some ⟨ab, ao, none⟩) L cap) p d) (hby : Bytes w ab ao L D)
    (hlist : ∀ n, Calls Ybaf.prog 19 #[.pointer (some ⟨b, 0, none⟩), .func (.func 20) #[] #[.pointer (some ⟨w.heap.size, 0, none⟩), .pointer (some ⟨w.heap.size + 1 + 1, 0, none⟩)]]
      ((((w.alloc (.cells #[.pointer (some ⟨b, 0, none⟩)] 26)).drewN n).alloc (.cells #[] 20)).alloc (.cells #[.slice (some ⟨w.heap.size + 1, 0, none⟩) 0 0] 33)) fun e z => ∃ u, e = .returned u ∧
        ((u = .nilIface ∧ ∃ oa m c, z.cell? ⟨w.heap.size + 1 + 1, 0, none⟩ = some (.slice oa m c) ∧ R (.returned (.tuple #[.iface 33 (.slice oa m c), .nilIface])) z) ∨ ((∃ t x, u = .iface t x) ∧ R (.returned (.tuple #[.nilIface, u])) z))) :
    Calls Ybaf.prog 11 #[.pointer (some ⟨b, 0, none⟩)] w R := by
  have e0 := hdec.c0
  have e1 := hdec.c1
  have hlt := hdec.lt
  have hcp := hby.cell p hp
  have hlp : (p : Int) < L := by omega
  have hbs : ¬ b = w.heap.size := by omega
  have hblt := hby.lt
  rw [h108] at hcp
  have HL := hide hlist
  have hmf : ∀ (fn : Fn) (first cap : Array Value) (w : World), (Instr.makeFunc fn first cap).run Ybaf.prog w = .ok (.func fn first cap) w := fun _ _ _ _ => rfl
  clear h108 hlist
  go_enter Ybaf.func11, Ybaf.ntmps11
  go_wp2
  go_quiet (fail)
  go_wp2
  go_quiet (fail)
  go_wp2_with fail
  refine (HL.out _).mono ?_
  rintro e z ⟨u, rfl, ⟨rfl, oa, m, c, hc, hR⟩ | ⟨⟨t, x, rfl⟩, hR⟩⟩
  · have HR := hide hR
    clear hR
    go_wp2
    exact HR.out
  · have HR := hide hR
    clear hR
    go_wp2
    exact HR.out

theorem value_dict (p : Nat) (hp : p < L) (h100 : D p = 100) (R : Ending → World → Prop)
    (hdec : Dec w b (.slice (some ⟨ab, ao, none⟩) L cap) p d) (hby : Bytes w ab ao L D)
    (hdict : ∀ n, Calls Ybaf.prog 21 #[.pointer (some ⟨b, 0, none⟩), .func (.func 22) #[] #[.pointer (some ⟨w.heap.size, 0, none⟩), .pointer (some ⟨w.heap.size + 1 + 1, 0, none⟩)]]
      ((((w.alloc (.cells #[.pointer (some ⟨b, 0, none⟩)] 26)).drewN n).alloc (.map #[] 0)).alloc (.cells #[.map (some (w.heap.size + 1))] 39)) fun e z => ∃ u, e = .returned u ∧
        ((u = .nilIface ∧ ∃ r, z.cell? ⟨w.heap.size + 1 + 1, 0, none⟩ = some (.map r) ∧ R (.returned (.tuple #[.iface 39 (.map r), .nilIface])) z) ∨ ((∃ t x, u = .iface t x) ∧ R (.returned (.tuple #[.nilIface, u])) z))) :
    Calls Ybaf.prog 11 #[.pointer (some ⟨b, 0, none⟩)] w R := by
  have e0 := hdec.c0
  have e1 := hdec.c1
  have hlt := hdec.lt
  have hcp := hby.cell p hp
  have hlp : (p : Int) < L := by omega
  have hbs : ¬ b = w.heap.size := by omega
  have hblt := hby.lt
  rw [h100] at hcp
  have HL := hide hdict
  have hmf : ∀ (fn : Fn) (first cap : Array Value) (w : World), (Instr.makeFunc fn first cap).run Ybaf.prog w = .ok (.func fn first cap) w := fun _ _ _ _ => rfl
  have hmm := @run_makeMap Ybaf.prog
  clear h100 hdict
  go_enter Ybaf.func11, Ybaf.ntmps11
  go_wp2
  go_quiet (fail)
  go_wp2
  go_quiet (fail)
  go_wp2_with fail
  refine (HL.out _).mono ?_
  rintro e z ⟨u, rfl, ⟨rfl, r, hc, hR⟩ | ⟨⟨t, x, rfl⟩, hR⟩⟩
  · have HR := hide hR
    clear hR
    go_wp2
    exact HR.out
  · have HR := hide hR
    clear hR
    go_wp2
    exact HR.out

/-- value, k levels still to open. -/
theorem value_any (hne : ab ≠ b) (hL : L ≤ 100000000) (hcap : L ≤ cap) (hD : ∀ i, i < L → 0 ≤ D i ∧ D i ≤ 255) (k : Nat) :
    ∀ (w : World) (p : Nat), k ≤ 100 → p ≤ L → Dec w b (.slice (some ⟨ab, ao, none⟩) L cap) p (100 - k) → Bytes w ab ao L D →
    Calls Ybaf.prog 11 #[.pointer (some ⟨b, 0, none⟩)] w fun e w' => ∃ v u, e = .returned (.tuple #[v, u]) ∧ ErrIs w.heap.size w' u ((parse D L k p).2.map Int.ofNat) ∧ Dec w' b (.slice (some ⟨ab, ao, none⟩) L cap) (parse D L k p).1 (100 - k) ∧ Turn b w w' ∧ VLeaf D L p v := by
  induction k with
  | zero =>
    intro w p _ hp hdec hby
    show Calls Ybaf.prog 11 #[.pointer (some ⟨b, 0, none⟩)] w fun e w' => ∃ v u, e = .returned (.tuple #[v, u]) ∧ ErrIs w.heap.size w' u ((body D L none p).2.map Int.ofNat) ∧ Dec w' b (.slice (some ⟨ab, ao, none⟩) L cap) (body D L none p).1 (100 - (0 : Nat)) ∧ Turn b w w' ∧ VLeaf D L p v
    by_cases hlt : p < L
    · by_cases h108 : D p = 108
      · rw [body_list0 hlt h108]
        refine value_list p hlt h108 _ hdec hby fun n => ?_
        refine (list_deep p _ ((((Dec.castD rfl (by simp) hdec).alloc _).drewN n).alloc _ |>.alloc _)).mono ?_
        rintro e y ⟨u, rfl, herr, hdy, hty⟩
        have hu : ∃ t x, u = .iface t x := by obtain ⟨x, rfl, _⟩ := herr; exact ⟨_, _, rfl⟩
        exact ⟨u, rfl, Or.inr ⟨hu, _, u, rfl, ErrAt.mono herr (by simp; omega), Dec.castD rfl (by simp) hdy, (((((Turn.refl b w).alloc _).drewN n).alloc _).alloc _).trans hty, Or.inl rfl, fun _ h => by omega, fun _ h1 h2 => by omega⟩⟩
      · by_cases h100 : D p = 100
        · rw [body_dict0 hlt h100]
          refine value_dict p hlt h100 _ hdec hby fun n => ?_
          refine (dict_deep p _ ((((Dec.castD rfl (by simp) hdec).alloc _).drewN n).alloc _ |>.alloc _)).mono ?_
          rintro e y ⟨u, rfl, herr, hdy, hty⟩
          have hu : ∃ t x, u = .iface t x := by obtain ⟨x, rfl, _⟩ := herr; exact ⟨_, _, rfl⟩
          exact ⟨u, rfl, Or.inr ⟨hu, _, u, rfl, ErrAt.mono herr (by simp; omega), Dec.castD rfl (by simp) hdy, (((((Turn.refl b w).alloc _).drewN n).alloc _).alloc _).trans hty, Or.inl rfl, fun _ h => by omega, fun _ h1 h2 => by omega⟩⟩
        · exact value_leaf none hne hL hcap hD p hlt h108 h100 hdec hby
    · rw [body_end (by omega)]
      refine (value_end _ p (by omega) hdec).mono ?_
      rintro e y ⟨u, rfl, herr, hdy, hty⟩
      exact ⟨_, u, rfl, herr, hdy, hty, Or.inl rfl, fun h => absurd h hlt, fun h => absurd h hlt⟩
  | succ k ih =>
    intro w p hk hp hdec hby
    show Calls Ybaf.prog 11 #[.pointer (some ⟨b, 0, none⟩)] w fun e w' => ∃ v u, e = .returned (.tuple #[v, u]) ∧ ErrIs w.heap.size w' u ((body D L (some (parse D L k)) p).2.map Int.ofNat) ∧ Dec w' b (.slice (some ⟨ab, ao, none⟩) L cap) (body D L (some (parse D L k)) p).1 (100 - ((k + 1 : Nat) : Int)) ∧ Turn b w w' ∧ VLeaf D L p v
    by_cases hlt : p < L
    · have hblt := hdec.lt
      by_cases h108 : D p = 108
      · rw [body_list _ hlt h108]
        refine value_list p hlt h108 _ hdec hby fun n => ?_
        refine (list_any (B := w.heap.size) (parse D L k) (fun q x => ∃ ls vs, LInv w b x ls vs ∧ vs.length ≤ q) (fun x => Turn b w x) 20 #[] #[.pointer (some ⟨w.heap.size, 0, none⟩), .pointer (some ⟨w.heap.size + 1 + 1, 0, none⟩)] p hL hD hlt (by omega) (by omega) (parse_bounds D L k)
          (fun _ _ _ ⟨ls, vs, h, hq⟩ t => ⟨ls, vs, h.go t, hq⟩) (fun _ _ ⟨_, _, h, _⟩ => h.turn) (fun _ _ h t => h.trans t) (fun _ _ ⟨_, _, h, _⟩ => hby.turn h.turn hne) (fun _ _ ⟨_, _, h, _⟩ => h.turn.size) hblt ?_ Ybaf.enter20 ((((hdec.alloc _).drewN n).alloc _).alloc _) ⟨_, [], LInv.start w b n hblt, Nat.zero_le _⟩).mono ?_
        · rintro q x _ hq _ ⟨ls, vs, hinv, hvs⟩ hdx
          refine (value1_any ls vs _ (VLeaf D L q) hinv (by omega) (fun v hv => hv.1) (ih x q (by omega) (by omega) (Dec.castD rfl (by omega) hdx) (hby.turn hinv.turn hne))).mono ?_
          rintro e z ⟨v, u, rfl, herr, hdz, _, ls', hinv'⟩
          refine ⟨u, rfl, herr.mono hinv.turn.size, Dec.castD rfl (by omega) hdz, fun hnone => ⟨ls', _, hinv', ?_⟩, hinv'.turn⟩
          have := (parse_bounds D L k q (by omega)).2.2 hnone
          simp; omega
        · rintro e z ⟨u, rfl, herr, hdz, hgood, hE⟩
          refine ⟨u, rfl, ?_⟩
          cases hl : (listGo D L (parse D L k) (L + 1) (p + 1)).2 with
          | none =>
            obtain ⟨q, _, ls, vs, hinv, _⟩ := hgood hl
            rw [hl] at herr
            obtain rfl : u = .nilIface := herr
            obtain ⟨oa, m, c, rfl⟩ := ownsRow_slice hinv.own
            exact Or.inl ⟨rfl, oa, m, c, cell_of_one hinv.lv, _, _, rfl, rfl, hdz, hE, Or.inr ⟨_, _, rfl⟩, fun _ h => by omega, fun _ h1 h2 => by omega⟩
          | some o =>
            rw [hl] at herr
            have hu : ∃ t x, u = .iface t x := by obtain ⟨x, rfl, _⟩ := herr; exact ⟨_, _, rfl⟩
            exact Or.inr ⟨hu, _, u, rfl, herr, hdz, hE, Or.inl rfl, fun _ h => by omega, fun _ h1 h2 => by omega⟩
      · by_cases h100 : D p = 100
        · rw [body_dict _ hlt h100]
          refine value_dict p hlt h100 _ hdec hby fun n => ?_
          refine (dict_any (B := w.heap.size) (parse D L k) (fun q x => ∃ m M, MInv w b x m M ∧ m ≤ q) (fun x => Turn b w x) 22 #[.pointer (some ⟨w.heap.size, 0, none⟩), .pointer (some ⟨w.heap.size + 1 + 1, 0, none⟩)] p hne hL hcap hD hlt (by omega) (by omega) (parse_bounds D L k)
            (fun _ _ _ ⟨m, M, h, hq⟩ t => ⟨m, M, h.go t, hq⟩) (fun _ _ ⟨_, _, h, _⟩ => h.turn) (fun _ _ h t => h.trans t) (fun _ _ ⟨_, _, h, _⟩ => hby.turn h.turn hne) (fun _ _ ⟨_, _, h, _⟩ => h.turn.size) hblt ?_ Ybaf.enter22 ((((hdec.alloc _).drewN n).alloc _).alloc _) ⟨0, _, MInv.start w b n hblt, Nat.zero_le _⟩).mono ?_
          · rintro q x a c _ hq _ hsn ha ⟨m, M, hinv, hm⟩ hdx
            have hsb := strAt_bounds D L hq
            have hs2 := hsb.2.2 hsn
            refine (value2_any a ((strAt D L q).1 - (strAt D L q).2.2) (strAt D L q).2.2 c m M _ (VLeaf D L (strAt D L q).1) hinv (by omega) hL hne (hby.turn hinv.turn hne) (by omega) ha (ih x (strAt D L q).1 (by omega) hsb.2.1 (Dec.castD rfl (by omega) hdx) (hby.turn hinv.turn hne))).mono ?_
            rintro e z ⟨v, u, rfl, herr, hdz, _, hinv'⟩
            refine ⟨u, rfl, herr.mono hinv.turn.size, Dec.castD rfl (by omega) hdz, fun hnone => ⟨m + 1, _, hinv', ?_⟩, hinv'.turn⟩
            have := (parse_bounds D L k (strAt D L q).1 hsb.2.1).2.2 hnone
            omega
          · rintro e z ⟨u, rfl, herr, hdz, hgood, hE⟩
            refine ⟨u, rfl, ?_⟩
            cases hl : (dictGo D L (parse D L k) (L + 1) none (p + 1)).2 with
            | none =>
              obtain ⟨q, _, m, M, hinv, _⟩ := hgood hl
              rw [hl] at herr
              obtain rfl : u = .nilIface := herr
              exact Or.inl ⟨rfl, _, cell_of_one hinv.mv, _, _, rfl, rfl, hdz, hE, Or.inr ⟨_, _, rfl⟩, fun _ h => by omega, fun _ h1 h2 => by omega⟩
            | some o =>
              rw [hl] at herr
              have hu : ∃ t x, u = .iface t x := by obtain ⟨x, rfl, _⟩ := herr; exact ⟨_, _, rfl⟩
              exact Or.inr ⟨hu, _, u, rfl, herr, hdz, hE, Or.inl rfl, fun _ h => by omega, fun _ h1 h2 => by omega⟩
        · exact value_leaf _ hne hL hcap hD p hlt h108 h100 hdec hby
    · rw [body_end (by omega)]
      refine (value_end _ p (by omega) hdec).mono ?_
      rintro e y ⟨u, rfl, herr, hdy, hty⟩
      exact ⟨_, u, rfl, herr, hdy, hty, Or.inl rfl, fun h => absurd h hlt, fun h => absurd h hlt⟩
end
end Go.Proofs.YbulkacdeFmt
