import Derived.Test.YbulkacdeFmtTop
import Derived.Lib.SliceRun
namespace Go.Proofs.YbulkacdeFmt
open Go.RowKit

theorem Ybaf.info5 : (Ybaf.prog.info? 5).map (fun i => (i.zero, i.size, i.bytes)) = some (some (.int .u8 0), 1, 1) := by kernel_rfl

theorem clone_nil (w : World) : Calls Ybaf.prog 12 #[.slice none 0 0] w fun e w' => e = .returned (.slice none 0 0) ∧ w' = w := by
  have q24 : ∀ (w : World) (a : Option Addr) (n c n' c' : Nat), (binOp .eql 24 (.slice a n c) (.slice none n' c')).run Ybaf.prog w = .ok (.bool a.isNone) w := fun w a n c n' c' => Lib.run_eql_slice_nil w _ _ a n c n' c' Ybaf.underlying24
  go_enter Ybaf.func12, Ybaf.ntmps12
  go_wp2
  go_ret
  exact ⟨rfl, rfl⟩

/-- A slice of the call's own: its bytes lie in a new block. -/
theorem own_bytes {w w' : World} {v : Value} {n : Nat} {D : Nat → Int} (h : w'.ownsRow w.heap.size 5 1 v n ((List.range n).map fun i => Value.int .u8 (D i))) :
    ∃ oa cap ab, v = .slice oa n cap ∧ n ≤ cap ∧ w.heap.size ≤ ab ∧ (0 < n → oa = some ⟨ab, 0, none⟩) ∧ (0 < n → Bytes w' ab 0 n D) := by
  obtain ⟨_, h2⟩ := h
  rcases h2 with ⟨rfl, rfl⟩ | ⟨g, cap, cur, rfl, hg, hh, hn, _, hs, hc⟩
  · exact ⟨none, 0, w.heap.size, rfl, Nat.le_refl _, Nat.le_refl _, fun h => by omega, fun h => by omega⟩
  · refine ⟨_, cap, g, rfl, hn, hg, fun _ => rfl, fun _ => ⟨(Array.getElem?_eq_some_iff.1 hh).1, fun i hi => ?_⟩⟩
    have h1 : (cur.toList.take (n * 1))[i]? = some (.int .u8 (D i)) := by rw [hc]; simp [hi]
    rw [Nat.mul_one, List.getElem?_take_of_lt hi] at h1
    simpa [World.cell?, hh] using h1

set_option maxHeartbeats 400000 in
theorem clone_some (a : Addr) (n cap : Nat) (D : Nat → Int) (w : World) (hn : n ≤ 100000000) (hc : ∀ i, i < n → w.cell? (a.add i) = some (.int .u8 (D i))) :
    Calls Ybaf.prog 12 #[.slice (some a) n cap] w fun e w' => ∃ v, e = .returned v ∧ w'.ownsRow w.heap.size 5 1 v n ((List.range n).map fun i => Value.int .u8 (D i)) ∧ Below w.heap.size w w' := by
  have q24 : ∀ (w : World) (a : Option Addr) (n c n' c' : Nat), (binOp .eql 24 (.slice a n c) (.slice none n' c')).run Ybaf.prog w = .ok (.bool a.isNone) w := fun w a n c n' c' => Lib.run_eql_slice_nil w _ _ a n c n' c' Ybaf.underlying24
  obtain ⟨i0, hi, hz0, hz1, hz2⟩ := info_parts Ybaf.info5
  have hown : (w.alloc (.cells #[] 5)).ownsRow w.heap.size 5 1 (.slice (some ⟨w.heap.size, 0, none⟩) 0 0) 0 [] :=
    ⟨rfl, Or.inr ⟨w.heap.size, 0, #[], rfl, Nat.le_refl _, by show (w.heap.push _)[w.heap.size]? = _; rw [Array.getElem?_push_size], Nat.le_refl _, Nat.zero_le _, rfl, rfl⟩⟩
  have hnews : ∀ j u, ((List.range n).map fun i => Value.int .u8 (D i))[j]? = some u → (w.alloc (.cells #[] 5)).cell? (a.add j) = some u := by
    intro j u hj
    have hjn : j < n := by
      have := (List.getElem?_eq_some_iff.1 hj).1
      simpa using this
    have h1 := hc j hjn
    have hlt := World.block_lt_of_cell? _ _ h1
    rw [World.cell?_alloc_lt _ _ _ hlt, h1]
    simp [hjn] at hj
    rw [hj]
  have hone : ∀ u ∈ (List.range n).map fun i => Value.int .u8 (D i), u.oneCell' = true := by
    intro u hu
    simp at hu
    obtain ⟨i, _, rfl⟩ := hu
    rfl
  have HO := hide hown
  have HN := hide hnews
  have H1 := hide hone
  clear hown hnews hone hc
  go_enter Ybaf.func12, Ybaf.ntmps12
  go_wp2_with (at_builtin; refine wpList_append_own _ rfl _ _ 24 rfl w.heap.size 5 i0 (.int .u8 0) 1 1 Ybaf.underlying24 hi hz0 hz1 hz2 rfl (by decide) _ _ _ rfl HO.out a n cap _ rfl (by simp) HN.out H1.out (by unfold maxLen; omega) (by omega) (by simp) ?_)
  intro v' w1 hown' hgrow _
  have hb : Below w.heap.size w w1 := ((Below.refl w.heap.size w).alloc (Nat.le_refl _) _).grown hgrow (by simp) (fun k e => by simp [Value.ownBlock] at e; omega)
  have HO' := hide hown'
  clear hown' hgrow
  go_wp2
  go_ret
  exact ⟨_, rfl, HO'.out, hb⟩

/-- slices.Clone of a slice of bytes that lies where it is said to. -/
theorem clone_any (oa : Option Addr) (ab ao n cap : Nat) (D : Nat → Int) (w : World) (hn : n ≤ 100000000) (hz : oa = none → n = 0 ∧ cap = 0) (ha : 0 < n → oa = some ⟨ab, ao, none⟩) (hby : 0 < n → Bytes w ab ao n D) :
    Calls Ybaf.prog 12 #[.slice oa n cap] w fun e w' => ∃ v, e = .returned v ∧ w'.ownsRow w.heap.size 5 1 v n ((List.range n).map fun i => Value.int .u8 (D i)) ∧ Below w.heap.size w w' := by
  cases oa with
  | none =>
    obtain ⟨rfl, rfl⟩ := hz rfl
    refine (clone_nil w).mono ?_
    rintro e w' ⟨rfl, rfl⟩
    exact ⟨_, rfl, ⟨rfl, Or.inl ⟨rfl, rfl⟩⟩, Below.refl _ _⟩
  | some a =>
    refine clone_some a n cap D w hn fun i hi => ?_
    have := ha (by omega)
    injection this with this
    subst this
    rw [Go.WideShapes.add_plain]
    exact (hby (by omega)).cell i hi

theorem askip_long (oa : Option Addr) (n cap : Nat) (p : Int) (w : World) (hn : 4096 < n) :
    Calls Ybaf.prog 5 #[.slice oa n cap, .int .u64 p] w fun e w' => e = .returned (.bool true) ∧ Below w.heap.size w w' := by
  have hn' : (4096 : Int) < n := by omega
  go_enter Ybaf.func5, Ybaf.ntmps5
  go_wp2
  go_ret
  exact ⟨rfl, Below.refl _ _⟩

set_option maxHeartbeats 400000 in
theorem askip_any (oa : Option Addr) (ab ao n cap : Nat) (D : Nat → Int) (p : Int) (w : World) (hp0 : 0 ≤ p) (hp1 : p ≤ 18446744073709551615) (hn : n ≤ 4096) (hb : ∀ i, i < n → 0 ≤ D i ∧ D i ≤ 255) (hz : oa = none → n = 0 ∧ cap = 0) (ha : 0 < n → oa = some ⟨ab, ao, none⟩) (hby : 0 < n → Bytes w ab ao n D) :
    Calls Ybaf.prog 5 #[.slice oa n cap, .int .u64 p] w fun e w' => e = .returned (.bool true) ∧ Below w.heap.size w w' := by
  have hta := Ybaf.assert44
  obtain ⟨q, hq⟩ : ∃ q : Nat, p % ((n : Int) + 1) = q := ⟨(p % ((n : Int) + 1)).toNat, by have := Int.emod_nonneg p (show ((n : Int) + 1) ≠ 0 by omega); omega⟩
  have hqn : q ≤ n := by have := Int.emod_lt_of_pos p (show (0 : Int) < (n : Int) + 1 by omega); omega
  go_enter Ybaf.func5, Ybaf.ntmps5
  go_wp2_with fail
  refine (clone_any oa ab ao n cap D w (by omega) hz ha hby).mono ?_
  rintro e w1 ⟨v1, rfl, hown1, hb1⟩
  obtain ⟨oa1, cap1, ab1, rfl, hcap1, hab1, ha1, hby1⟩ := own_bytes hown1
  clear hown1
  go_wp2_with fail
  have hb2 : Below w.heap.size w (w1.alloc (.cells #[.slice oa1 n cap1, .int .i64 q, .int .i64 0] 28)) := hb1.alloc hb1.size _
  have hT : ∀ y, Below w.heap.size w y → 0 < n → Bytes y ab ao n D := fun y hy h => ⟨Nat.lt_of_lt_of_le (hby h).lt hy.size, fun i hi => (hy.cell (p := ⟨ab, ao + i, none⟩) (hby h).lt).trans ((hby h).cell i hi)⟩
  refine (clone_any oa ab ao n cap D _ (by omega) hz ha (hT _ hb2)).mono ?_
  rintro e w2 ⟨v2, rfl, hown2, hb3⟩
  obtain ⟨oa2, cap2, ab2, rfl, hcap2, hab2, ha2, hby2⟩ := own_bytes hown2
  clear hown2
  have hs2 := hb3.size
  simp only [World.size_alloc] at hs2 hab2
  have t3 : ∀ o, Turn w1.heap.size (w1.alloc (.cells #[.slice oa1 n cap1, .int .i64 q, .int .i64 0] 28)) (w2.alloc o) := fun o => (Turn.ofBelow hb3).alloc o
  have hd1 : ∀ o, Dec (w2.alloc o) w1.heap.size (.slice oa1 n cap1) q 0 := fun o => Dec.alloc ((hb3.block _ (by simp)).trans (Dec.new w1 _ _ _)) o
  have hd2 : Dec (w2.alloc (.cells #[.slice oa2 n cap2, .int .i64 q, .int .i64 0] 28)) w2.heap.size (.slice oa2 n cap2) q 0 := Dec.new _ _ _ _
  have hw1 : ∀ o, Whole (w2.alloc o) w1.heap.size ab1 0 n cap1 D oa1 := fun o => ⟨by omega, hcap1, hb, ha1, fun h => by have := (hby1 h).lt; omega,
    fun h => ⟨by have := (hby1 h).lt; simp; omega, fun i hi => by
      rw [((Turn.ofBelow (b := w2.heap.size) hb3).alloc o).cell (a := ⟨ab1, 0 + i, none⟩) (by have := (hby1 h).lt; simp; omega) (by have := (hby1 h).lt; simp; omega), World.cell?_alloc_past _ _ _ (hby1 h).lt]
      exact (hby1 h).cell i hi⟩⟩
  have hbW : Below w.heap.size w (w2.alloc (.cells #[.slice oa2 n cap2, .int .i64 q, .int .i64 0] 28)) := (hb2.trans (hb3.mono (by have := hb1.size; simp; omega))).alloc (by have := hb1.size; omega) _
  go_wp2_with fail
  refine (value_top (hw1 _) q hqn (hd1 _)).mono ?_
  rintro e y ⟨v, u1, rfl, herr1, hdy1, hty⟩
  have hsy := hty.size
  simp only [World.size_alloc] at hsy
  have hdy2 := hd2.turn hty (by omega)
  have hwy : Whole y w2.heap.size ab2 0 n cap2 D oa2 := ⟨by omega, hcap2, hb, ha2, fun h => by have := (hby2 h).lt; omega,
    fun h => Bytes.turn ⟨by have := (hby2 h).lt; simp; omega, fun i hi => by
      rw [World.cell?_alloc_past _ _ _ (hby2 h).lt]
      exact (hby2 h).cell i hi⟩ hty (by omega)⟩
  clear hw1 hd1 hd2 t3
  go_wp2_with fail
  refine (skip_top hwy q hqn hdy2).mono ?_
  rintro e z ⟨u2, rfl, herr2, hdz2, htz⟩
  have hdz1 := hdy1.turn htz (by omega)
  have herr1' := herr1.turn htz (by simp)
  have c1 := hdz1.c1
  have c2 := hdz1.c2
  have c3 := hdz2.c1
  have c4 := hdz2.c2
  have hsw := hb1.size
  have hbel : Below w.heap.size w z := (hbW.trans (hty.below (by omega) (by simp; omega))).trans (htz.below (by omega) (by omega))
  obtain ⟨r, oo, hr⟩ : ∃ r oo, parse D n 100 q = (r, oo) := ⟨_, _, rfl⟩
  rw [hr] at herr1' herr2 c1 c3
  clear hr hwy herr1 hdy1 hdy2 hdz1 hdz2 htz hty hbW hb3 hb2 hb1 hT hby1 hby2 ha1 ha2 hq
  cases oo with
  | none =>
    obtain rfl : u1 = .nilIface := herr1'
    obtain rfl : u2 = .nilIface := herr2
    go_wp2
    go_quiet (fail)
    go_wp2
    go_quiet (fail)
    go_wp2
    go_ret
    exact ⟨rfl, ⟨hbel.os, hbel.tape, hbel.output, hbel.size, hbel.block⟩⟩
  | some off =>
    obtain ⟨x1, rfl, _, _, hx1⟩ := herr1'
    obtain ⟨x2, rfl, _, _, hx2⟩ := herr2
    go_wp2
    go_quiet (fail)
    go_wp2
    go_quiet (fail)
    go_wp2
    go_quiet (fail)
    go_wp2
    go_ret
    exact ⟨rfl, ⟨hbel.os, hbel.tape, hbel.output, hbel.size, hbel.block⟩⟩
end Go.Proofs.YbulkacdeFmt
