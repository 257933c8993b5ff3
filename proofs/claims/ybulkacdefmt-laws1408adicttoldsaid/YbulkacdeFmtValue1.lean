import Derived.Test.YbulkacdeFmtSkip
namespace Go.Proofs.YbulkacdeFmt
open Go.RowKit

/-- An interface value: nil, or a type and a value. -/
def IsIface (v : Value) : Prop := v = .nilIface ∨ ∃ t x, v = .iface t x

theorem IsIface.one {v : Value} (h : IsIface v) : v.oneCell' = true := by
  rcases h with rfl | ⟨t, x, rfl⟩ <;> rfl

/-- What is owned stays owned where another kind of block is written. -/
theorem ownsRow_set {w : World} {base : Nat} {e : TypeId} {size : Nat} {v : Value} {n : Nat} {xs : List Value} (h : w.ownsRow base e size v n xs) {a : Addr} {c : Array Value} {t : TypeId} {fr : Nat × Nat}
    (ha : w.heap[a.block]? = some (.cells c t fr)) (ht : t ≠ e) (u : Value) : (w.setCell a u).ownsRow base e size v n xs := by
  obtain ⟨h1, h2⟩ := h
  refine ⟨h1, ?_⟩
  rcases h2 with h2 | ⟨g, cap, cur, hv, hg, hh, r⟩
  · exact Or.inl h2
  · refine Or.inr ⟨g, cap, cur, hv, hg, ?_, r⟩
    rw [Below.heap_setCell _ _ _ _ ?_]
    · exact hh
    · intro he
      rw [he, ha] at hh
      injection hh with hh
      injection hh with _ hh _
      exact ht hh

theorem ownsRow_slice {w : World} {base : Nat} {e : TypeId} {size : Nat} {v : Value} {n : Nat} {xs : List Value} (h : w.ownsRow base e size v n xs) : ∃ oa m c, v = .slice oa m c := by
  obtain ⟨_, h2⟩ := h
  rcases h2 with ⟨rfl, _⟩ | ⟨g, cap, cur, rfl, _⟩
  · exact ⟨_, _, _, rfl⟩
  · exact ⟨_, _, _, rfl⟩

theorem ownsRow_turn {w w' : World} {b base : Nat} {e : TypeId} {size : Nat} {v : Value} {n : Nat} {xs : List Value} (h : w.ownsRow base e size v n xs) (t : Turn b w w') (hb : b < base) : w'.ownsRow base e size v n xs := by
  obtain ⟨h1, h2⟩ := h
  refine ⟨h1, ?_⟩
  rcases h2 with h2 | ⟨g, cap, cur, hv, hg, hh, r⟩
  · exact Or.inl h2
  · exact Or.inr ⟨g, cap, cur, hv, hg, (t.block g (Array.getElem?_eq_some_iff.1 hh).1 (by omega)).trans hh, r⟩

/-- While value reads a list: the box of d in block N, the list's variable in block N + 2, what it has gathered. -/
structure LInv (w : World) (b : Nat) (x : World) (ls : Value) (vs : List Value) : Prop where
  lt : b < w.heap.size
  turn : Turn b w x
  box : x.heap[w.heap.size]? = some (.cells #[.pointer (some ⟨b, 0, none⟩)] 26)
  lv : x.heap[w.heap.size + 2]? = some (.cells #[ls] 33)
  own : x.ownsRow (w.heap.size + 1) 20 1 ls vs.length vs

theorem LInv.go {w x y : World} {b : Nat} {ls : Value} {vs : List Value} (h : LInv w b x ls vs) (t : Turn b x y) : LInv w b y ls vs := by
  have hl := h.lt
  have h2 := (Array.getElem?_eq_some_iff.1 h.lv).1
  exact ⟨hl, h.turn.trans t, (t.block _ (by omega) (by omega)).trans h.box, (t.block _ (by omega) (by omega)).trans h.lv, ownsRow_turn h.own t (by omega)⟩

theorem push3 (a : Array Obj) (x y z : Obj) : (((a.push x).push y).push z)[a.size]? = some x ∧ (((a.push x).push y).push z)[a.size + 1]? = some y ∧ (((a.push x).push y).push z)[a.size + 2]? = some z := by
  refine ⟨?_, ?_, ?_⟩
  · rw [Array.getElem?_push, if_neg (by simp; omega), Array.getElem?_push, if_neg (by simp), Array.getElem?_push_size]
  · rw [Array.getElem?_push, if_neg (by simp), show a.size + 1 = (a.push x).size by simp, Array.getElem?_push_size]
  · rw [show a.size + 2 = ((a.push x).push y).size by simp, Array.getElem?_push_size]

theorem LInv.start (w : World) (b n : Nat) (h : b < w.heap.size) :
    LInv w b ((((w.alloc (.cells #[.pointer (some ⟨b, 0, none⟩)] 26)).drewN n).alloc (.cells #[] 20)).alloc (.cells #[.slice (some ⟨w.heap.size + 1, 0, none⟩) 0 0] 33)) (.slice (some ⟨w.heap.size + 1, 0, none⟩) 0 0) [] :=
  ⟨h, ((((Turn.refl b w).alloc _).drewN n).alloc _).alloc _, (push3 w.heap _ _ _).1, (push3 w.heap _ _ _).2.2,
    rfl, Or.inr ⟨w.heap.size + 1, 0, #[], rfl, Nat.le_refl _, (push3 w.heap _ _ _).2.1, Nat.le_refl _, Nat.zero_le _, rfl, rfl⟩⟩

theorem cell_of_one {x : World} {k : Nat} {v : Value} {t : TypeId} (h : x.heap[k]? = some (.cells #[v] t)) : x.cell? ⟨k, 0, none⟩ = some v := by
  simp [World.cell?, h]
theorem frozen_of_one {x : World} {k : Nat} {v : Value} {t : TypeId} (h : x.heap[k]? = some (.cells #[v] t)) : x.frozen? ⟨k, 0, none⟩ = false := by
  simp [World.frozen?, h]

theorem LInv.row {w x : World} {b : Nat} {ls : Value} {vs : List Value} (h : LInv w b x ls vs) {k : Nat} (hk : ls.ownBlock = some k) : w.heap.size + 1 ≤ k ∧ k < x.heap.size ∧ k ≠ w.heap.size + 2 := by
  obtain ⟨_, h2⟩ := h.own
  rcases h2 with ⟨rfl, _⟩ | ⟨g, cap, cur, rfl, hg, hh, _⟩
  · cases hk
  · have : g = k := Option.some.inj hk
    subst this
    refine ⟨hg, (Array.getElem?_eq_some_iff.1 hh).1, ?_⟩
    rintro rfl
    rw [h.lv] at hh
    injection hh with hh
    injection hh with _ hh _
    cases hh

/-- Behind the append and the store into the list's variable. -/
theorem LInv.store {w y w1 : World} {o : Obj} {b : Nat} {ls v v' : Value} {vs : List Value} (hy : LInv w b y ls vs) (hown' : w1.ownsRow (w.heap.size + 1) 20 1 v' (vs.length + 1) (vs ++ [v])) (hgrow : (y.alloc o).grownBy w1 ls.ownBlock) :
    w1.heap[w.heap.size + 2]? = some (.cells #[ls] 33) ∧ LInv w b (w1.setCell ⟨w.heap.size + 2, 0, none⟩ v') v' (vs ++ [v]) ∧
      y.heap.size ≤ (w1.setCell ⟨w.heap.size + 2, 0, none⟩ v').heap.size ∧
      ∀ k, k < y.heap.size → k ≠ w.heap.size + 2 → ls.ownBlock ≠ some k → (w1.setCell ⟨w.heap.size + 2, 0, none⟩ v').heap[k]? = y.heap[k]? := by
  have hl := hy.lt
  have h2 : w.heap.size + 2 < y.heap.size := (Array.getElem?_eq_some_iff.1 hy.lv).1
  have hsz : y.heap.size + 1 ≤ w1.heap.size := by have := hgrow.size; simpa using this
  have hkeep : ∀ k, k < y.heap.size → ls.ownBlock ≠ some k → w1.heap[k]? = y.heap[k]? := fun k hk hr =>
    (hgrow.block k (by simp; omega) (fun e => hr e.symm)).trans (Below.heap_alloc _ _ _ hk)
  have hlv : w1.heap[w.heap.size + 2]? = some (.cells #[ls] 33) := (hkeep _ h2 (fun e => (hy.row e).2.2 rfl)).trans hy.lv
  have hother : ∀ k, k < y.heap.size → k ≠ w.heap.size + 2 → ls.ownBlock ≠ some k → (w1.setCell ⟨w.heap.size + 2, 0, none⟩ v').heap[k]? = y.heap[k]? := fun k hk hne hr =>
    (Below.heap_setCell _ _ _ _ hne).trans (hkeep k hk hr)
  have hlow : ∀ k, k ≤ w.heap.size → (w1.setCell ⟨w.heap.size + 2, 0, none⟩ v').heap[k]? = y.heap[k]? := fun k hk =>
    hother k (by omega) (by omega) (fun e => by have := (hy.row e).1; omega)
  refine ⟨hlv, ⟨hl, ?_, (hlow _ (Nat.le_refl _)).trans hy.box, ?_, ?_⟩, by simp; omega, hother⟩
  · exact ⟨hgrow.os.trans hy.turn.os, hgrow.tape.trans hy.turn.tape, hgrow.output.trans hy.turn.output, by have := hy.turn.size; simp; omega, fun k hk hb => (hlow k (by omega)).trans (hy.turn.block k hk hb)⟩
  · simp [World.setCell, Array.getElem?_modify, hlv]
  · have := ownsRow_set hown' (a := ⟨w.heap.size + 2, 0, none⟩) hlv (by decide) v'
    simpa using this

theorem Ybaf.info20 : (Ybaf.prog.info? 20).map (fun i => (i.zero, i.size, i.bytes)) = some (some .nilIface, 1, 16) := by kernel_rfl

section
variable {w X : World} {b : Nat} {dv : Value} {p d : Int}

theorem value1_end {y z : World} {ls ls' v u : Value} {vs : List Value} {o : Option Int} {Q : Value → Prop} (hinv : LInv w b X ls vs) (hy : LInv w b y ls vs)
    (R : LInv w b z ls' (vs ++ [v]) ∧ y.heap.size ≤ z.heap.size ∧ ∀ k, k < y.heap.size → k ≠ w.heap.size + 2 → ls.ownBlock ≠ some k → z.heap[k]? = y.heap[k]?)
    (herr : ErrIs X.heap.size y u o) (hdy : Dec y b dv p d) (hq : Q v) :
    ∃ v u', Ending.returned u = .returned u' ∧ ErrIs X.heap.size z u' o ∧ Dec z b dv p d ∧ Q v ∧ ∃ ls', LInv w b z ls' (vs ++ [v]) := by
  have h2 : w.heap.size + 2 < X.heap.size := (Array.getElem?_eq_some_iff.1 hinv.lv).1
  have hl := hy.lt
  refine ⟨v, u, rfl, ?_, ?_, hq, ls', R.1⟩
  · cases o with
    | none => exact herr
    | some off =>
      obtain ⟨x, rfl, h1, h3, h4⟩ := herr
      refine ⟨x, rfl, h1, Nat.lt_of_lt_of_le h3 R.2.1, ?_⟩
      have hb := R.2.2 x h3 (by omega) (fun e => by have := (hinv.row e).2.1; omega)
      exact (World.cell?_of_block (a := ⟨x, 0, none⟩) hb).trans h4
  · exact (R.2.2 b hdy.lt (by omega) (fun e => by have := (hinv.row e).1; omega)).trans hdy

theorem value1_any (ls : Value) (vs : List Value) (o : Option Int) (Q : Value → Prop) (hinv : LInv w b X ls vs) (hlen : vs.length ≤ 100000000) (hQ : ∀ v, Q v → IsIface v)
    (hval : Calls Ybaf.prog 11 #[.pointer (some ⟨b, 0, none⟩)] X fun e y => ∃ v u, e = .returned (.tuple #[v, u]) ∧ ErrIs X.heap.size y u o ∧ Dec y b dv p d ∧ Turn b X y ∧ Q v) :
    Calls Ybaf.prog 20 #[.pointer (some ⟨w.heap.size, 0, none⟩), .pointer (some ⟨w.heap.size + 2, 0, none⟩)] X fun e z => ∃ v u, e = .returned u ∧ ErrIs X.heap.size z u o ∧ Dec z b dv p d ∧ Q v ∧ ∃ ls', LInv w b z ls' (vs ++ [v]) := by
  have e1 := cell_of_one hinv.box
  have HV := hide hval
  clear hval
  go_enter Ybaf.func20, Ybaf.ntmps20
  go_wp2_with fail
  refine HV.out.mono ?_
  rintro e y ⟨v, u, rfl, herr, hdy, hty, hqv⟩
  have hy := hinv.go hty
  have c2 := cell_of_one hy.lv
  have f2 := frozen_of_one hy.lv
  have hown := hy.own
  have hsz : w.heap.size + 2 < y.heap.size := (Array.getElem?_eq_some_iff.1 hy.lv).1
  have hsz' : ¬ w.heap.size + 2 = y.heap.size := by omega
  obtain ⟨i0, hi, hz0, hz1, hz2⟩ := info_parts Ybaf.info20
  have HQ := hide hqv
  have HE := hide herr
  have hone := (hQ v hqv).one
  clear hqv herr HV e1
  have hc3 : vs.length + 1 ≤ maxLen := by unfold maxLen; omega
  have hc4 : (vs.length + 1) * 16 ≤ 140737488355328 := by omega
  have H3 := hide hc3
  clear hc3 hone
  rcases hQ v HQ.out with rfl | ⟨t, xx, rfl⟩
  · go_wp2_with (at_builtin; refine wpList_append_own _ rfl _ _ 33 rfl (w.heap.size + 1) 20 i0 .nilIface 1 16 Ybaf.underlying33 hi hz0 hz1 hz2 rfl (by decide) _ _ _ rfl (hown.alloc _) ⟨y.heap.size, 0, none⟩ 1 1 [.nilIface] rfl rfl (cell_one_new _ _ _) (by intro u hu; simp at hu; subst hu; rfl) H3.out hc4 (by simp; omega) ?_)
    intro v' w1 hown' hgrow _
    obtain ⟨oa, nn, cc, rfl⟩ := ownsRow_slice hown'
    have R := hy.store hown' hgrow
    have c3 := cell_of_one R.1
    have f3 := frozen_of_one R.1
    clear hown' hgrow hown c2 f2
    go_wp2
    go_ret
    exact value1_end hinv hy R.2 HE.out hdy HQ.out
  · go_wp2_with (at_builtin; refine wpList_append_own _ rfl _ _ 33 rfl (w.heap.size + 1) 20 i0 .nilIface 1 16 Ybaf.underlying33 hi hz0 hz1 hz2 rfl (by decide) _ _ _ rfl (hown.alloc _) ⟨y.heap.size, 0, none⟩ 1 1 [.iface t xx] rfl rfl (cell_one_new _ _ _) (by intro u hu; simp at hu; subst hu; rfl) H3.out hc4 (by simp; omega) ?_)
    intro v' w1 hown' hgrow _
    obtain ⟨oa, nn, cc, rfl⟩ := ownsRow_slice hown'
    have R := hy.store hown' hgrow
    have c3 := cell_of_one R.1
    have f3 := frozen_of_one R.1
    clear hown' hgrow hown c2 f2
    go_wp2
    go_ret
    exact value1_end hinv hy R.2 HE.out hdy HQ.out
end
end Go.Proofs.YbulkacdeFmt
