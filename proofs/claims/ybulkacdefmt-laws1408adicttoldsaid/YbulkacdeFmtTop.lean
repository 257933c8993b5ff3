import Derived.Test.YbulkacdeFmtValue
namespace Go.Proofs.YbulkacdeFmt
open Go.RowKit

section
variable {w : World} {b ab ao L cap : Nat} {D : Nat → Int}

/-- The data of a decoder, empty or not: where they lie. -/
structure Whole (w : World) (b ab ao L cap : Nat) (D : Nat → Int) (oa : Option Addr) : Prop where
  small : L ≤ 100000000
  cap : L ≤ cap
  byte : ∀ i, i < L → 0 ≤ D i ∧ D i ≤ 255
  at_ : 0 < L → oa = some ⟨ab, ao, none⟩
  ne : 0 < L → ab ≠ b
  bytes : 0 < L → Bytes w ab ao L D

theorem skip_top {oa : Option Addr} (h : Whole w b ab ao L cap D oa) (p : Nat) (hp : p ≤ L) (hdec : Dec w b (.slice oa L cap) p 0) :
    Calls Ybaf.prog 13 #[.pointer (some ⟨b, 0, none⟩)] w fun e w' => ∃ u, e = .returned u ∧ ErrIs w.heap.size w' u ((parse D L 100 p).2.map Int.ofNat) ∧ Dec w' b (.slice oa L cap) (parse D L 100 p).1 0 ∧ Turn b w w' := by
  by_cases hl : 0 < L
  · obtain rfl := h.at_ hl
    exact skip_any (h.ne hl) h.small h.cap h.byte 100 w p (Nat.le_refl _) hp hdec (h.bytes hl)
  · have hpe : parse D L 100 p = (p, some p) := body_end (by omega)
    rw [hpe]
    refine (skip_end oa p (by omega) hdec).mono ?_
    rintro e y ⟨u, rfl, herr, hdy, hty⟩
    exact ⟨u, rfl, herr, hdy, hty⟩

theorem value_top {oa : Option Addr} (h : Whole w b ab ao L cap D oa) (p : Nat) (hp : p ≤ L) (hdec : Dec w b (.slice oa L cap) p 0) :
    Calls Ybaf.prog 11 #[.pointer (some ⟨b, 0, none⟩)] w fun e w' => ∃ v u, e = .returned (.tuple #[v, u]) ∧ ErrIs w.heap.size w' u ((parse D L 100 p).2.map Int.ofNat) ∧ Dec w' b (.slice oa L cap) (parse D L 100 p).1 0 ∧ Turn b w w' := by
  by_cases hl : 0 < L
  · obtain rfl := h.at_ hl
    refine (value_any (h.ne hl) h.small h.cap h.byte 100 w p (Nat.le_refl _) hp hdec (h.bytes hl)).mono ?_
    rintro e y ⟨v, u, rfl, herr, hdy, hty, _⟩
    exact ⟨v, u, rfl, herr, hdy, hty⟩
  · have hpe : parse D L 100 p = (p, some p) := body_end (by omega)
    rw [hpe]
    refine (value_end oa p (by omega) hdec).mono ?_
    rintro e y ⟨u, rfl, herr, hdy, hty⟩
    exact ⟨_, u, rfl, herr, hdy, hty⟩

theorem Whole.moved {x : World} {c : Nat} {oa : Option Addr} (h : Whole w b ab ao L cap D oa) (hc : 0 < L → ab ≠ c) (hx : 0 < L → Bytes x ab ao L D) : Whole x c ab ao L cap D oa :=
  ⟨h.small, h.cap, h.byte, h.at_, hc, hx⟩
end
end Go.Proofs.YbulkacdeFmt
