import Derived.Test.YbulkacdeFmtValue1
import Derived.Maps.Own
import Derived.Maps.OwnSet
import Derived.StringKeys
namespace Go.Proofs.YbulkacdeFmt
open Go.RowKit

/-- How an element of map[string]any reads here: an int64 as its number, all else as nil. -/
def anyR (v : Value) : Option (DataW Unit × List MemPlace) :=
  match v with
  | .iface 2 (.int .i64 n) => some (.lit (.int .i64 n), [])
  | _ => some (.nil, [])

theorem anyR_some (v : Value) : ∃ x, anyR v = some (x, []) := by
  unfold anyR
  split
  · exact ⟨_, rfl⟩
  · exact ⟨_, rfl⟩
theorem anyR_int (n : Int) : anyR (.iface 2 (.int .i64 n)) = some (.lit (.int .i64 n), []) := rfl
theorem anyR_inv {v : Value} {n : Int} {ps : List MemPlace} (h : anyR v = some (.lit (.int .i64 n), ps)) : v = .iface 2 (.int .i64 n) := by
  unfold anyR at h
  split at h
  · simp at h
    rw [h.1]
  · simp at h

/-- What an element reads as. -/
def anyD (v : Value) : DataW Unit := ((anyR v).map (·.1)).getD .nil
theorem anyD_eq (v : Value) : anyR v = some (anyD v, []) := by
  obtain ⟨x, hx⟩ := anyR_some v
  simp [anyD, hx]

/-- While value reads a dictionary: the box of d in block N, the map in block N + 1, its variable in block N + 2. -/
structure MInv (w : World) (b : Nat) (x : World) (n : Nat) (M : DataW Unit) : Prop where
  lt : b < w.heap.size
  turn : Turn b w x
  box : x.heap[w.heap.size]? = some (.cells #[.pointer (some ⟨b, 0, none⟩)] 26)
  mv : x.heap[w.heap.size + 2]? = some (.cells #[.map (some (w.heap.size + 1))] 39)
  own : x.ownsMap Ybaf.prog 9 anyR (w.heap.size + 1) n M

theorem ownsMap_turn {w w' : World} {b r n : Nat} {M : DataW Unit} (h : w.ownsMap Ybaf.prog 9 anyR r n M) (t : Turn b w w') (hb : b ≠ r) : w'.ownsMap Ybaf.prog 9 anyR r n M := by
  have hlt := h.lt
  obtain ⟨es, clock, hh, r⟩ := h
  exact ⟨es, clock, (t.block _ hlt (fun e => hb e.symm)).trans hh, r⟩

theorem MInv.go {w x y : World} {b n : Nat} {M : DataW Unit} (h : MInv w b x n M) (t : Turn b x y) : MInv w b y n M := by
  have hl := h.lt
  have h2 := (Array.getElem?_eq_some_iff.1 h.mv).1
  exact ⟨hl, h.turn.trans t, (t.block _ (by omega) (by omega)).trans h.box, (t.block _ (by omega) (by omega)).trans h.mv, ownsMap_turn h.own t (by omega)⟩

theorem MInv.start (w : World) (b n : Nat) (h : b < w.heap.size) :
    MInv w b ((((w.alloc (.cells #[.pointer (some ⟨b, 0, none⟩)] 26)).drewN n).alloc (.map #[] 0)).alloc (.cells #[.map (some (w.heap.size + 1))] 39)) 0 (.map []) := by
  refine ⟨h, ((((Turn.refl b w).alloc _).drewN n).alloc _).alloc _, (push3 w.heap _ _ _).1, (push3 w.heap _ _ _).2.2, ?_⟩
  have := (World.ownsMap_made ((w.alloc (.cells #[.pointer (some ⟨b, 0, none⟩)] 26)).drewN n) Ybaf.prog 9 anyR).alloc (.cells #[.map (some (w.heap.size + 1))] 39)
  simpa using this

theorem MInv.store {w y z : World} {b n m : Nat} {M M' : DataW Unit} (hy : MInv w b y n M) (hown : z.ownsMap Ybaf.prog 9 anyR (w.heap.size + 1) m M') (hg : y.grownBy z (some (w.heap.size + 1))) : MInv w b z m M' := by
  have hl := hy.lt
  have h2 := (Array.getElem?_eq_some_iff.1 hy.mv).1
  refine ⟨hl, ⟨hg.os.trans hy.turn.os, hg.tape.trans hy.turn.tape, hg.output.trans hy.turn.output, Nat.le_trans hy.turn.size hg.size, fun k hk hb => ?_⟩, ?_, ?_, hown⟩
  · exact (hg.block k (by omega) (by simp; omega)).trans (hy.turn.block k hk hb)
  · exact (hg.block _ (by omega) (by simp)).trans hy.box
  · exact (hg.block _ (by omega) (by simp)).trans hy.mv

theorem err_grown {X y z : World} {u : Value} {o : Option Int} {r : Nat} (h : ErrIs X.heap.size y u o) (hg : y.grownBy z (some r)) (hr : r < X.heap.size) : ErrIs X.heap.size z u o := by
  cases o with
  | none => exact h
  | some off =>
    obtain ⟨x, rfl, h1, h3, h4⟩ := h
    exact ⟨x, rfl, h1, Nat.lt_of_lt_of_le h3 hg.size, (World.cell?_of_block (a := ⟨x, 0, none⟩) (hg.block x h3 (by simp; omega))).trans h4⟩

theorem strOf_size (D : Nat → Int) (lo n : Nat) : (strOf D lo n).size = n := by
  rw [strOf, strOfNums_size, numsAt_length]

section
variable {w X : World} {b ab ao L : Nat} {D : Nat → Int} {dv : Value} {p d : Int}

theorem value2_any (a : Addr) (lo kn c n : Nat) (M : DataW Unit) (o : Option Int) (Q : Value → Prop) (hinv : MInv w b X n M) (hn : n ≤ 100000000) (hL : L ≤ 100000000) (hne : ab ≠ b) (hby : Bytes X ab ao L D) (hlo : lo + kn ≤ L) (ha : 0 < kn → a = ⟨ab, ao + lo, none⟩)
    (hval : Calls Ybaf.prog 11 #[.pointer (some ⟨b, 0, none⟩)] X fun e y => ∃ v u, e = .returned (.tuple #[v, u]) ∧ ErrIs X.heap.size y u o ∧ Dec y b dv p d ∧ Turn b X y ∧ Q v) :
    Calls Ybaf.prog 22 #[.slice (some a) kn c, .pointer (some ⟨w.heap.size, 0, none⟩), .pointer (some ⟨w.heap.size + 2, 0, none⟩)] X fun e z => ∃ v u, e = .returned u ∧ ErrIs X.heap.size z u o ∧ Dec z b dv p d ∧ Q v ∧
      MInv w b z (n + 1) (M.put (.string (strOf D lo kn).data.toList) (anyD v)) := by
  have e1 := cell_of_one hinv.box
  have HV := hide hval
  clear hval
  go_enter Ybaf.func22, Ybaf.ntmps22
  go_wp2_with fail
  refine HV.out.mono ?_
  rintro e y ⟨v, u, rfl, herr, hdy, hty, hqv⟩
  have hy := hinv.go hty
  have c2 := cell_of_one hy.mv
  have hcv := conv_key (c := c) (hby.turn hty hne) hlo ha
  have hkey : keyOf Ybaf.prog 9 (.string (strOf D lo kn)) = some (.string (strOf D lo kn).data.toList) := Go.WideMaps.keyOf_string_mk Ybaf.underlying9 (by rw [strOf_size]; unfold maxLen; omega)
  have hn2 : n < maxLen := by unfold maxLen; omega
  have HQ := hide hqv
  have HE := hide herr
  have HO := hide hy.own
  have HK := hide hkey
  have HN := hide hn2
  clear hqv herr HV e1 hkey hn2
  go_wp2_with (at_mapUpdate; refine wpList_mapUpdate_own _ rfl _ _ _ 39 rfl 9 20 (Maps.string_keyed Ybaf.underlying9) Ybaf.underlying39 anyR (w.heap.size + 1) n M rfl HO.out HN.out _ _ _ rfl rfl HK.out (anyD v) [] (anyD_eq v) ?_)
  intro z hown hgrow
  have R := hy.store hown hgrow
  have hE := err_grown HE.out hgrow (by have := (Array.getElem?_eq_some_iff.1 hinv.mv).1; omega)
  have hD : Dec z b dv p d := (hgrow.block b hdy.lt (by have := hy.lt; simp; omega)).trans hdy
  have HEz := hide hE
  have HDz := hide hD
  have HR := hide R
  clear hown hgrow hE hD R
  go_wp2
  go_ret
  exact ⟨v, u, rfl, HEz.out, HDz.out, HQ.out, HR.out⟩
end
end Go.Proofs.YbulkacdeFmt
