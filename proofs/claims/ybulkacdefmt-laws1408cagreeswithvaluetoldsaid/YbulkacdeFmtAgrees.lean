import Derived.Test.YbulkacdeFmtTop
namespace Go.Proofs.YbulkacdeFmt
open Go.RowKit

theorem agrees_long (oa : Option Addr) (n cap : Nat) (w : World) (hn : 4096 < n) :
    Calls Ybaf.prog 9 #[.slice oa n cap] w fun e w' => e = .returned (.bool true) ∧ Below w.heap.size w w' := by
  have hn' : (4096 : Int) < n := by omega
  go_enter Ybaf.func9, Ybaf.ntmps9
  go_wp2
  go_ret
  exact ⟨rfl, Below.refl _ _⟩

set_option maxHeartbeats 400000 in
theorem agrees_any (oa : Option Addr) (ab ao n cap : Nat) (D : Nat → Int) (w : World) (hn : n ≤ 4096) (hcap : n ≤ cap) (hb : ∀ i, i < n → 0 ≤ D i ∧ D i ≤ 255) (ha : 0 < n → oa = some ⟨ab, ao, none⟩) (hby : 0 < n → Bytes w ab ao n D) :
    Calls Ybaf.prog 9 #[.slice oa n cap] w fun e w' => e = .returned (.bool true) ∧ Below w.heap.size w w' := by
  have hb1 : ∀ o1 o2, Below w.heap.size w ((w.alloc o1).alloc o2) := fun o1 o2 => ((Below.refl _ _).alloc (Nat.le_refl _) _).alloc (by simp) _
  have hw : ∀ c o1 o2, w.heap.size ≤ c → Whole ((w.alloc o1).alloc o2) c ab ao n cap D oa := fun c o1 o2 hc => ⟨by omega, hcap, hb, ha, fun h => by have := (hby h).lt; omega, fun h => (hby h).turn (Turn.ofBelow (b := c) (hb1 o1 o2)) (by have := (hby h).lt; omega)⟩
  have HW := hide hw
  have hta := Ybaf.assert44
  clear hw
  go_enter Ybaf.func9, Ybaf.ntmps9
  go_wp2_with fail
  have hd1 : Dec ((w.alloc (.cells #[.slice oa n cap, .int .i64 0, .int .i64 0] 28)).alloc (.cells #[.slice oa n cap, .int .i64 0, .int .i64 0] 28)) w.heap.size (.slice oa n cap) ((0 : Nat) : Int) 0 := (Dec.new w _ _ _).alloc _
  have hd2 : Dec ((w.alloc (.cells #[.slice oa n cap, .int .i64 0, .int .i64 0] 28)).alloc (.cells #[.slice oa n cap, .int .i64 0, .int .i64 0] 28)) (w.heap.size + 1) (.slice oa n cap) ((0 : Nat) : Int) 0 := by
    have := Dec.new (w.alloc (.cells #[.slice oa n cap, .int .i64 0, .int .i64 0] 28)) (.slice oa n cap) 0 0
    simpa using this
  refine (skip_top (HW.out _ _ _ (Nat.le_refl _)) 0 (Nat.zero_le _) hd1).mono ?_
  rintro e y ⟨u1, rfl, herr1, hdy1, hty⟩
  have hdy2 := hd2.turn hty (by omega)
  go_wp2_with fail
  have hwy : Whole y (w.heap.size + 1) ab ao n cap D oa := ⟨by omega, hcap, hb, ha, fun h => by have := (hby h).lt; omega, fun h => ((HW.out w.heap.size _ _ (Nat.le_refl _)).bytes h).turn hty (by have := (hby h).lt; omega)⟩
  refine (value_top hwy 0 (Nat.zero_le _) hdy2).mono ?_
  rintro e z ⟨v, u2, rfl, herr2, hdz2, htz⟩
  have hdz1 := hdy1.turn htz (by omega)
  have herr1' := herr1.turn htz (by simp)
  have c1 := hdz1.c1
  have c2 := hdz1.c2
  have c3 := hdz2.c1
  have c4 := hdz2.c2
  have hbel : Below w.heap.size w z := ((hb1 _ _).trans (hty.below (Nat.le_refl _) (by simp; omega))).trans (htz.below (by omega) (by have := hty.size; simp at this; omega))
  obtain ⟨r, oo, hr⟩ : ∃ r oo, parse D n 100 0 = (r, oo) := ⟨_, _, rfl⟩
  rw [hr] at herr1' herr2 c1 c3
  clear hr hwy herr1 hdy1 hdy2 hdz1 hdz2 hd1 hd2 htz hty HW hb1
  cases oo with
  | none =>
    obtain rfl : u1 = .nilIface := herr1'
    obtain rfl : u2 = .nilIface := herr2
    go_wp2
    go_quiet (fail)
    go_wp2
    go_ret
    exact ⟨rfl, ⟨hbel.os, hbel.tape, hbel.output, hbel.size, hbel.block⟩⟩
  | some off =>
    obtain ⟨x1, rfl, _, _, hx1⟩ := herr1'
    obtain ⟨x2, rfl, _, _, hx2⟩ := herr2
    go_wp2
    go_quiet (fail)
    go_wp2
    go_quiet (fail)
    go_wp2
    go_ret
    exact ⟨rfl, ⟨hbel.os, hbel.tape, hbel.output, hbel.size, hbel.block⟩⟩
end Go.Proofs.YbulkacdeFmt
