import Derived.Test.YbulkacdeFmtLow
import Derived.Test.YbulkacdeFmtDec
namespace Go.Proofs.YbulkacdeFmt
open Go.RowKit

section
variable {w : World} {b : Nat} {dv : Value} {p d : Int}

/-- errorf, said of the decoder. -/
theorem errorf_dec (f : ByteArray) (v : Value) (h : Dec w b dv p d) (hsay : Says f v w.drew) :
    Calls Ybaf.prog 17 #[.pointer (some ⟨b, 0, none⟩), .string f, v] w fun e w' => ∃ u, e = .returned u ∧ ErrAt w.heap.size w' u p ∧ Dec w' b dv p d ∧ Turn b w w' := by
  refine (errorf_any f v b p w h.c1 hsay).mono ?_
  rintro e w' ⟨s, rfl, rfl⟩
  exact ⟨_, rfl, ⟨_, rfl, Nat.le_refl _, by simp, by simp⟩, ((h.alloc _).drew).drew, (((Turn.refl b w).alloc _).drew).drew⟩

theorem open_dec_deep (h : Dec w b dv p 100) :
    Calls Ybaf.prog 14 #[.pointer (some ⟨b, 0, none⟩)] w fun e w' => ∃ u, e = .returned u ∧ ErrAt w.heap.size w' u p ∧ Dec w' b dv p 100 ∧ Turn b w w' := by
  refine (open_deep b p w h.c1 h.c2 h.lt).mono ?_
  rintro e w' ⟨s, rfl, rfl⟩
  exact ⟨_, rfl, ⟨_, rfl, by omega, by simp, by simp [World.cell?_alloc_at]⟩, (((h.alloc _).alloc _).drew).drew, ((((Turn.refl b w).alloc _).alloc _).drew).drew⟩

theorem open_dec (h : Dec w b dv p d) (hne : (d == 100) = false) (p0 : -9223372036854775808 ≤ p) (p1 : p < 9223372036854775807) (d0 : -9223372036854775808 ≤ d) (d1 : d < 9223372036854775807) :
    Calls Ybaf.prog 14 #[.pointer (some ⟨b, 0, none⟩)] w fun e w' => e = .returned .nilIface ∧ Dec w' b dv (p + 1) (d + 1) ∧ Turn b w w' := by
  refine (open_any b p d w h.c1 h.c2 hne (h.fr 1) (h.fr 2)).mono ?_
  rintro e w' ⟨rfl, rfl⟩
  rw [IntWalk.wrap64_in (p + 1) ⟨by omega, by omega⟩, IntWalk.wrap64_in (d + 1) ⟨by omega, by omega⟩]
  exact ⟨rfl, (h.setPos _).setDepth _, ((Turn.refl b w).set _ _).set _ _⟩

theorem close_dec (h : Dec w b dv p d) (d0 : -9223372036854775808 < d) (d1 : d ≤ 9223372036854775807) :
    Calls Ybaf.prog 15 #[.pointer (some ⟨b, 0, none⟩)] w fun e w' => e = .returned (.tuple #[]) ∧ Dec w' b dv p (d - 1) ∧ Turn b w w' := by
  refine (close_any b d w h.c2 (h.fr 2)).mono ?_
  rintro e w' ⟨rfl, rfl⟩
  rw [IntWalk.wrap64_in (d - 1) ⟨by omega, by omega⟩]
  exact ⟨rfl, h.setDepth _, (Turn.refl b w).set _ _⟩

theorem close_dec_deferred (u : FrameMode) (h : Dec w b dv p d) (d0 : -9223372036854775808 < d) (d1 : d ≤ 9223372036854775807) :
    CallsD Ybaf.prog 15 #[.pointer (some ⟨b, 0, none⟩)] u w fun e u' w' => u' = u ∧ (e = .returned (.tuple #[]) ∧ Dec w' b dv p (d - 1) ∧ Turn b w w') := by
  refine (close_deferred b d u w h.c2 (h.fr 2)).mono ?_
  rintro e u' w' ⟨rfl, rfl, rfl⟩
  rw [IntWalk.wrap64_in (d - 1) ⟨by omega, by omega⟩]
  exact ⟨rfl, rfl, h.setDepth _, (Turn.refl b w).set _ _⟩
end
end Go.Proofs.YbulkacdeFmt
