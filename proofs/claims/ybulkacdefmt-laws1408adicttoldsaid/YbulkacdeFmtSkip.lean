import Derived.Test.YbulkacdeFmtDict
namespace Go.Proofs.YbulkacdeFmt
open Go.RowKit

theorem Ybaf.enter13 (args : Array Value) (x : World) : (callFunc 13 args).run Ybaf.prog x = .ok (.enter 13 args) x := by kernel_rfl
theorem Ybaf.enter20 (args : Array Value) (x : World) : (callFunc 20 args).run Ybaf.prog x = .ok (.enter 20 args) x := by kernel_rfl
theorem Ybaf.enter22 (args : Array Value) (x : World) : (callFunc 22 args).run Ybaf.prog x = .ok (.enter 22 args) x := by kernel_rfl
theorem Ybaf.enter24 (args : Array Value) (x : World) : (callFunc 24 args).run Ybaf.prog x = .ok (.enter 24 args) x := by kernel_rfl

section
variable {L : Nat} {D : Nat → Int} {g : Option (Nat → Nat × Option Nat)} {p : Nat}
theorem body_end (h : L ≤ p) : body D L g p = (p, some p) := by
  unfold body; rw [if_pos h]
theorem body_int (h : p < L) (h1 : D p = 105) : body D L g p = ((intAt D L (p + 1)).1, (intAt D L (p + 1)).2.1) := by
  unfold body; rw [if_neg (by omega), if_pos h1]
theorem body_list (f : Nat → Nat × Option Nat) (h : p < L) (h1 : D p = 108) : body D L (some f) p = listGo D L f (L + 1) (p + 1) := by
  unfold body; rw [if_neg (by omega), if_neg (by omega), if_pos h1]
theorem body_list0 (h : p < L) (h1 : D p = 108) : body D L none p = (p, some p) := by
  unfold body; rw [if_neg (by omega), if_neg (by omega), if_pos h1]
theorem body_dict (f : Nat → Nat × Option Nat) (h : p < L) (h1 : D p = 100) : body D L (some f) p = dictGo D L f (L + 1) none (p + 1) := by
  unfold body; rw [if_neg (by omega), if_neg (by omega), if_neg (by omega), if_pos h1]
theorem body_dict0 (h : p < L) (h1 : D p = 100) : body D L none p = (p, some p) := by
  unfold body; rw [if_neg (by omega), if_neg (by omega), if_neg (by omega), if_pos h1]
theorem body_str (h : p < L) (h1 : 48 ≤ D p) (h2 : D p ≤ 57) : body D L g p = ((strAt D L p).1, (strAt D L p).2.1) := by
  unfold body; rw [if_neg (by omega), if_neg (by omega), if_neg (by omega), if_neg (by omega), if_pos ⟨h1, h2⟩]
theorem body_other (h : p < L) (h1 : D p ≠ 105) (h2 : D p ≠ 108) (h3 : D p ≠ 100) (h4 : ¬ (48 ≤ D p ∧ D p ≤ 57)) : body D L g p = (p, some p) := by
  unfold body; rw [if_neg (by omega), if_neg h1, if_neg h2, if_neg h3, if_neg h4]
end

theorem StrRes.err {B : Nat} {w' : World} {ab ao cap : Nat} {r : Nat × Option Nat × Nat} {sv u : Value} (h : StrRes B w' ab ao cap r sv u) : ErrIs B w' u (r.2.1.map Int.ofNat) := by
  unfold StrRes at h
  cases hr : r.2.1 with
  | none => rw [hr] at h; exact h.1
  | some o => rw [hr] at h; exact h.1

section
variable {w : World} {b ab ao L cap : Nat} {D : Nat → Int} {d : Int}

/-- skip behind the data's end. -/
theorem skip_end (oa : Option Addr) (p : Nat) (hp : L ≤ p) (hdec : Dec w b (.slice oa L cap) p d) :
    Calls Ybaf.prog 13 #[.pointer (some ⟨b, 0, none⟩)] w fun e w' => ∃ u, e = .returned u ∧ ErrAt w.heap.size w' u p ∧ Dec w' b (.slice oa L cap) p d ∧ Turn b w w' := by
  have e0 := hdec.c0
  have e1 := hdec.c1
  have hlt := hdec.lt
  have hbs : ¬ b = w.heap.size := by omega
  go_enter Ybaf.func13, Ybaf.ntmps13
  go_wp2
  go_quiet (fail)
  go_wp2_with fail
  refine (errorf_dec _ _ ((hdec.alloc _).drewN _) (says_end _)).mono ?_
  rintro e y ⟨u, rfl, herr, hdy, hty⟩
  go_wp2
  go_ret
  exact ⟨_, rfl, herr.mono (by simp), hdy, (((Turn.refl b w).alloc _).drewN _).trans hty⟩

/-- skip at an integer, a string, or what is neither. -/
theorem skip_leaf (g : Option (Nat → Nat × Option Nat)) (hne : ab ≠ b) (hL : L ≤ 100000000) (hcap : L ≤ cap) (hD : ∀ i, i < L → 0 ≤ D i ∧ D i ≤ 255) (p : Nat) (hp : p < L) (h108 : D p ≠ 108) (h100 : D p ≠ 100)
    (hdec : Dec w b (.slice (some ⟨ab, ao, none⟩) L cap) p d) (hby : Bytes w ab ao L D) :
    Calls Ybaf.prog 13 #[.pointer (some ⟨b, 0, none⟩)] w fun e w' => ∃ u, e = .returned u ∧ ErrIs w.heap.size w' u ((body D L g p).2.map Int.ofNat) ∧ Dec w' b (.slice (some ⟨ab, ao, none⟩) L cap) (body D L g p).1 d ∧ Turn b w w' := by
  have e0 := hdec.c0
  have e1 := hdec.c1
  have f1 := hdec.fr 1
  have hlt := hdec.lt
  have hcp := hby.cell p hp
  have hdb := hD p hp
  have hlp : (p : Int) < L := by omega
  have hbs : ¬ b = w.heap.size := by omega
  have hblt := hby.lt
  have k108 : (D p == 108) = false := by simpa using h108
  have k100 : (D p == 100) = false := by simpa using h100
  have H108 := hide h108
  have H100 := hide h100
  clear h108 h100
  by_cases h105 : D p = 105
  · have k105 : (D p == 105) = true := by simpa using h105
    have HB : Hid (body D L g p = ((intAt D L (p + 1)).1, (intAt D L (p + 1)).2.1)) := body_int hp h105
    clear h105
    go_enter Ybaf.func13, Ybaf.ntmps13
    go_wp2
    go_quiet (fail)
    go_wp2
    go_quiet (fail)
    go_wp2_with fail
    have ht1 : ∀ n o, Turn b w (((w.alloc o).drewN n).setCell ⟨b, 1, none⟩ (.int .i64 ((p : Int) + 1))) := fun n o => (((Turn.refl b w).alloc o).drewN n).set _ _
    refine (integer_any hne hL hcap hD (p + 1) (by omega) (Dec.cast (by simp) (((hdec.alloc _).drewN _).setPos ((p : Int) + 1))) (hby.turn (ht1 _ _) hne)).mono ?_
    rintro e y ⟨u, rfl, herr, hdy, hty⟩
    go_wp2
    go_ret
    rw [HB.out]
    exact ⟨_, rfl, herr.mono (by simp), hdy, (ht1 _ _).trans hty⟩
  · have k105 : (D p == 105) = false := by simpa using h105
    by_cases hdig : 48 ≤ D p ∧ D p ≤ 57
    · have HB : Hid (body D L g p = ((strAt D L p).1, (strAt D L p).2.1)) := body_str hp hdig.1 hdig.2
      obtain ⟨g1, g2⟩ := hdig
      clear h105
      go_enter Ybaf.func13, Ybaf.ntmps13
      go_wp2
      go_quiet (fail)
      go_wp2
      go_quiet (fail)
      go_wp2_with fail
      have ht1 : ∀ n o, Turn b w ((w.alloc o).drewN n) := fun n o => ((Turn.refl b w).alloc o).drewN n
      refine (string_full hne hL hcap hD p hp ((hdec.alloc _).drewN _) (hby.turn (ht1 _ _) hne)).mono ?_
      rintro e y ⟨sv, u, rfl, hres, hdy, hty⟩
      go_wp2
      go_ret
      rw [HB.out]
      exact ⟨_, rfl, hres.err.mono (by simp), hdy, (ht1 _ _).trans hty⟩
    · have HB : Hid (body D L g p = (p, some p)) := body_other hp h105 H108.out H100.out hdig
      clear h105
      by_cases g1 : D p < 48
      all_goals
        go_enter Ybaf.func13, Ybaf.ntmps13
        go_wp2
        go_quiet (fail)
        go_wp2
        go_quiet (fail)
        go_wp2_with fail
        refine (errorf_dec _ _ (((hdec.alloc _).drewN _).alloc _) (says_byte (w.heap.size + 1) (D p) _ (by exact World.cell?_alloc_at _ _ _ _ (by simp)))).mono ?_
        rintro e y ⟨u, rfl, herr, hdy, hty⟩
        go_wp2
        go_ret
        rw [HB.out]
        exact ⟨_, rfl, herr.mono (by simp; omega), hdy, ((((Turn.refl b w).alloc _).drewN _).alloc _).trans hty⟩

/-- A list at p: by what list does with skip itself. -/
theorem skip_list (p : Nat) (hp : p < L) (h108 : D p = 108) (R : Ending → World → Prop)
    (hdec : Dec w b (.slice (some ⟨ab, ao, none⟩) L cap) p d) (hby : Bytes w ab ao L D)
    (hlist : ∀ n, Calls Ybaf.prog 19 #[.pointer (some ⟨b, 0, none⟩), .func (.func 13) #[.pointer (some ⟨b, 0, none⟩)] #[]] ((w.alloc (.cells #[.pointer (some ⟨b, 0, none⟩)] 26)).drewN n) fun e w' => ∃ u, e = .returned u ∧ R (.returned u) w') :
    Calls Ybaf.prog 13 #[.pointer (some ⟨b, 0, none⟩)] w R := by
  have e0 := hdec.c0
  have e1 := hdec.c1
  have hlt := hdec.lt
  have hcp := hby.cell p hp
  have hlp : (p : Int) < L := by omega
  have hbs : ¬ b = w.heap.size := by omega
  have hblt := hby.lt
  rw [h108] at hcp
  have HL := hide hlist
  have hmf : ∀ (fn : Fn) (first cap : Array Value) (w : World), (Instr.makeFunc fn first cap).run Ybaf.prog w = .ok (.func fn first cap) w := fun _ _ _ _ => rfl
  clear h108 hlist
  go_enter Ybaf.func13, Ybaf.ntmps13
  go_wp2
  go_quiet (fail)
  go_wp2
  go_quiet (fail)
  go_wp2_with fail
  refine (HL.out _).mono ?_
  rintro e y ⟨u, rfl, hR⟩
  have HR := hide hR
  clear hR
  go_wp2
  exact HR.out

theorem skip_dict (p : Nat) (hp : p < L) (h100 : D p = 100) (R : Ending → World → Prop)
    (hdec : Dec w b (.slice (some ⟨ab, ao, none⟩) L cap) p d) (hby : Bytes w ab ao L D)
    (hdict : ∀ n, Calls Ybaf.prog 21 #[.pointer (some ⟨b, 0, none⟩), .func (.func 24) #[] #[.pointer (some ⟨w.heap.size, 0, none⟩)]] ((w.alloc (.cells #[.pointer (some ⟨b, 0, none⟩)] 26)).drewN n) fun e w' => ∃ u, e = .returned u ∧ R (.returned u) w') :
    Calls Ybaf.prog 13 #[.pointer (some ⟨b, 0, none⟩)] w R := by
  have e0 := hdec.c0
  have e1 := hdec.c1
  have hlt := hdec.lt
  have hcp := hby.cell p hp
  have hlp : (p : Int) < L := by omega
  have hbs : ¬ b = w.heap.size := by omega
  have hblt := hby.lt
  rw [h100] at hcp
  have HL := hide hdict
  have hmf : ∀ (fn : Fn) (first cap : Array Value) (w : World), (Instr.makeFunc fn first cap).run Ybaf.prog w = .ok (.func fn first cap) w := fun _ _ _ _ => rfl
  clear h100 hdict
  go_enter Ybaf.func13, Ybaf.ntmps13
  go_wp2
  go_quiet (fail)
  go_wp2
  go_quiet (fail)
  go_wp2_with fail
  refine (HL.out _).mono ?_
  rintro e y ⟨u, rfl, hR⟩
  have HR := hide hR
  clear hR
  go_wp2
  exact HR.out

/-- The closure that dict is handed. -/
theorem skip1_any (x0 : Nat) (key : Value) (x : World) (R : Ending → World → Prop) (hx0 : x.cell? ⟨x0, 0, none⟩ = some (.pointer (some ⟨b, 0, none⟩)))
    (h : Calls Ybaf.prog 13 #[.pointer (some ⟨b, 0, none⟩)] x fun e w' => ∃ u, e = .returned u ∧ R (.returned u) w') :
    Calls Ybaf.prog 24 #[key, .pointer (some ⟨x0, 0, none⟩)] x R := by
  have H := hide h
  clear h
  go_enter Ybaf.func24, Ybaf.ntmps24
  go_wp2_with fail
  refine H.out.mono ?_
  rintro e y ⟨u, rfl, hR⟩
  have HR := hide hR
  clear hR
  go_wp2
  exact HR.out

/-- skip, k levels still to open. -/
theorem skip_any (hne : ab ≠ b) (hL : L ≤ 100000000) (hcap : L ≤ cap) (hD : ∀ i, i < L → 0 ≤ D i ∧ D i ≤ 255) (k : Nat) :
    ∀ (w : World) (p : Nat), k ≤ 100 → p ≤ L → Dec w b (.slice (some ⟨ab, ao, none⟩) L cap) p (100 - k) → Bytes w ab ao L D →
    Calls Ybaf.prog 13 #[.pointer (some ⟨b, 0, none⟩)] w fun e w' => ∃ u, e = .returned u ∧ ErrIs w.heap.size w' u ((parse D L k p).2.map Int.ofNat) ∧ Dec w' b (.slice (some ⟨ab, ao, none⟩) L cap) (parse D L k p).1 (100 - k) ∧ Turn b w w' := by
  induction k with
  | zero =>
    intro w p _ hp hdec hby
    show Calls Ybaf.prog 13 #[.pointer (some ⟨b, 0, none⟩)] w fun e w' => ∃ u, e = .returned u ∧ ErrIs w.heap.size w' u ((body D L none p).2.map Int.ofNat) ∧ Dec w' b (.slice (some ⟨ab, ao, none⟩) L cap) (body D L none p).1 (100 - (0 : Nat)) ∧ Turn b w w'
    by_cases hlt : p < L
    · by_cases h108 : D p = 108
      · rw [body_list0 hlt h108]
        refine skip_list p hlt h108 _ hdec hby fun n => ?_
        refine (list_deep p _ (((Dec.castD rfl (by simp) hdec).alloc _).drewN n)).mono ?_
        rintro e y ⟨u, rfl, herr, hdy, hty⟩
        exact ⟨u, rfl, u, rfl, ErrAt.mono herr (by simp), Dec.castD rfl (by simp) hdy, (((Turn.refl b w).alloc _).drewN n).trans hty⟩
      · by_cases h100 : D p = 100
        · rw [body_dict0 hlt h100]
          refine skip_dict p hlt h100 _ hdec hby fun n => ?_
          refine (dict_deep p _ (((Dec.castD rfl (by simp) hdec).alloc _).drewN n)).mono ?_
          rintro e y ⟨u, rfl, herr, hdy, hty⟩
          exact ⟨u, rfl, u, rfl, ErrAt.mono herr (by simp), Dec.castD rfl (by simp) hdy, (((Turn.refl b w).alloc _).drewN n).trans hty⟩
        · exact skip_leaf none hne hL hcap hD p hlt h108 h100 hdec hby
    · rw [body_end (by omega)]
      refine (skip_end _ p (by omega) hdec).mono ?_
      rintro e y ⟨u, rfl, herr, hdy, hty⟩
      exact ⟨u, rfl, herr, hdy, hty⟩
  | succ k ih =>
    intro w p hk hp hdec hby
    show Calls Ybaf.prog 13 #[.pointer (some ⟨b, 0, none⟩)] w fun e w' => ∃ u, e = .returned u ∧ ErrIs w.heap.size w' u ((body D L (some (parse D L k)) p).2.map Int.ofNat) ∧ Dec w' b (.slice (some ⟨ab, ao, none⟩) L cap) (body D L (some (parse D L k)) p).1 (100 - ((k + 1 : Nat) : Int)) ∧ Turn b w w'
    by_cases hlt : p < L
    · have hblt := hdec.lt
      by_cases h108 : D p = 108
      · rw [body_list _ hlt h108]
        refine skip_list p hlt h108 _ hdec hby fun n => ?_
        have hw1 : Turn b w ((w.alloc (.cells #[.pointer (some ⟨b, 0, none⟩)] 26)).drewN n) := ((Turn.refl b w).alloc _).drewN n
        refine (list_any (B := w.heap.size) (parse D L k) (fun _ x => Turn b w x) (fun x => Turn b w x) 13 #[.pointer (some ⟨b, 0, none⟩)] #[] p hL hD hlt (by omega) (by omega) (parse_bounds D L k)
          (fun _ _ _ h t => h.trans t) (fun _ _ h => h) (fun _ _ h t => h.trans t) (fun _ _ h => hby.turn h hne) (fun _ _ h => h.size) hblt ?_ Ybaf.enter13 ((hdec.alloc _).drewN n) hw1).mono ?_
        · intro q x _ hq _ ht hdx
          refine (ih x q (by omega) (by omega) (Dec.castD rfl (by omega) hdx) (hby.turn ht hne)).mono ?_
          rintro e y ⟨u, rfl, herr, hdy, hty⟩
          exact ⟨u, rfl, herr.mono ht.size, Dec.castD rfl (by omega) hdy, fun _ => ht.trans hty, ht.trans hty⟩
        · rintro e y ⟨u, rfl, herr, hdy, _, hE⟩
          exact ⟨u, rfl, u, rfl, herr, hdy, hE⟩
      · by_cases h100 : D p = 100
        · rw [body_dict _ hlt h100]
          refine skip_dict p hlt h100 _ hdec hby fun n => ?_
          have hw1 : Turn b w ((w.alloc (.cells #[.pointer (some ⟨b, 0, none⟩)] 26)).drewN n) := ((Turn.refl b w).alloc _).drewN n
          refine (dict_any (B := w.heap.size) (parse D L k) (fun _ x => Turn b ((w.alloc (.cells #[.pointer (some ⟨b, 0, none⟩)] 26)).drewN n) x) (fun x => Turn b w x) 24 #[.pointer (some ⟨w.heap.size, 0, none⟩)] p hne hL hcap hD hlt (by omega) (by omega) (parse_bounds D L k)
            (fun _ _ _ h t => h.trans t) (fun _ _ h => hw1.trans h) (fun _ _ h t => h.trans t) (fun _ _ h => hby.turn (hw1.trans h) hne) (fun _ _ h => (hw1.trans h).size) hblt ?_ Ybaf.enter24 ((hdec.alloc _).drewN n) (Turn.refl _ _)).mono ?_
          · intro q x a c _ hq _ _ _ ht hdx
            have hsb := strAt_bounds D L hq
            refine skip1_any (b := b) w.heap.size _ x _ ?_ ?_
            · rw [ht.cell (a := ⟨w.heap.size, 0, none⟩) (by simp) (by simp; omega)]
              simp
            · refine (ih x (strAt D L q).1 (by omega) hsb.2.1 (Dec.castD rfl (by omega) hdx) (hby.turn (hw1.trans ht) hne)).mono ?_
              rintro e y ⟨u, rfl, herr, hdy, hty⟩
              exact ⟨u, rfl, u, rfl, herr.mono (hw1.trans ht).size, Dec.castD rfl (by omega) hdy, fun _ => ht.trans hty, (hw1.trans ht).trans hty⟩
          · rintro e y ⟨u, rfl, herr, hdy, _, hE⟩
            exact ⟨u, rfl, u, rfl, herr, hdy, hE⟩
        · exact skip_leaf _ hne hL hcap hD p hlt h108 h100 hdec hby
    · rw [body_end (by omega)]
      refine (skip_end _ p (by omega) hdec).mono ?_
      rintro e y ⟨u, rfl, herr, hdy, hty⟩
      exact ⟨u, rfl, herr, hdy, hty⟩
end
end Go.Proofs.YbulkacdeFmt
