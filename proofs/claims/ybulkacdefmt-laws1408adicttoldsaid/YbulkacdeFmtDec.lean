/-
  The decoder's block, and worlds in which that block alone (and new blocks) has turned. Nothing of the dump.
-/
import Derived.Below
import Derived.Deep.Draws
namespace Go.Proofs.YbulkacdeFmt
open Go.RowKit

/-- The decoder lies whole in block b: its data, its place, its depth. -/
def Dec (w : World) (b : Nat) (dv : Value) (p d : Int) : Prop := w.heap[b]? = some (.cells #[dv, .int .i64 p, .int .i64 d] 28)

section
variable {w : World} {b : Nat} {dv : Value} {p d : Int}

theorem Dec.lt (h : Dec w b dv p d) : b < w.heap.size := by
  unfold Dec at h
  exact (Array.getElem?_eq_some_iff.1 h).1
theorem Dec.c0 (h : Dec w b dv p d) : w.cell? ⟨b, 0, none⟩ = some dv := by
  unfold Dec at h; simp [World.cell?, h]
theorem Dec.c1 (h : Dec w b dv p d) : w.cell? ⟨b, 1, none⟩ = some (.int .i64 p) := by
  unfold Dec at h; simp [World.cell?, h]
theorem Dec.c2 (h : Dec w b dv p d) : w.cell? ⟨b, 2, none⟩ = some (.int .i64 d) := by
  unfold Dec at h; simp [World.cell?, h]
theorem Dec.fr (h : Dec w b dv p d) (o : Nat) : w.frozen? ⟨b, o, none⟩ = false := by
  unfold Dec at h
  simp [World.frozen?, h]
theorem Dec.setPos (h : Dec w b dv p d) (p' : Int) : Dec (w.setCell ⟨b, 1, none⟩ (.int .i64 p')) b dv p' d := by
  unfold Dec at *
  simp [World.setCell, Array.getElem?_modify, h]
theorem Dec.setDepth (h : Dec w b dv p d) (d' : Int) : Dec (w.setCell ⟨b, 2, none⟩ (.int .i64 d')) b dv p d' := by
  unfold Dec at *
  simp [World.setCell, Array.getElem?_modify, h]
theorem Dec.alloc (h : Dec w b dv p d) (o : Obj) : Dec (w.alloc o) b dv p d := by
  have hl := h.lt
  unfold Dec at *
  rw [Below.heap_alloc _ _ _ hl]; exact h
theorem Dec.drew (h : Dec w b dv p d) : Dec w.drew b dv p d := h
theorem Dec.drewN (h : Dec w b dv p d) (n : Nat) : Dec (w.drewN n) b dv p d := h
/-- The decoder in a block that is new. -/
theorem Dec.new (w : World) (dv : Value) (p d : Int) : Dec (w.alloc (.cells #[dv, .int .i64 p, .int .i64 d] 28)) w.heap.size dv p d := by
  unfold Dec
  show (w.heap.push _)[w.heap.size]? = _
  rw [Array.getElem?_push_size]
/-- A store that changes nothing is none. -/
theorem Dec.setCell_other (h : Dec w b dv p d) (a : Addr) (v : Value) (hne : b ≠ a.block) : Dec (w.setCell a v) b dv p d := by
  unfold Dec at *
  rw [Below.heap_setCell _ _ _ _ hne]; exact h
end

/-- Of the old blocks none has turned but b. -/
structure Turn (b : Nat) (w w' : World) : Prop where
  os : w'.os = w.os
  tape : w'.tape = w.tape
  output : w'.output = w.output
  size : w.heap.size ≤ w'.heap.size
  block : ∀ k, k < w.heap.size → k ≠ b → w'.heap[k]? = w.heap[k]?

theorem Turn.refl (b : Nat) (w : World) : Turn b w w := ⟨rfl, rfl, rfl, Nat.le_refl _, fun _ _ _ => rfl⟩
theorem Turn.trans {b : Nat} {x y z : World} (h : Turn b x y) (k : Turn b y z) : Turn b x z :=
  ⟨k.os.trans h.os, k.tape.trans h.tape, k.output.trans h.output, Nat.le_trans h.size k.size, fun i hi hb => (k.block i (Nat.lt_of_lt_of_le hi h.size) hb).trans (h.block i hi hb)⟩
theorem Turn.ofBelow {b : Nat} {w w' : World} (h : Below w.heap.size w w') : Turn b w w' := ⟨h.os, h.tape, h.output, h.size, fun k hk _ => h.block k hk⟩
theorem Turn.below {b B : Nat} {w w' : World} (h : Turn b w w') (hb : B ≤ b) (hs : B ≤ w.heap.size) : Below B w w' :=
  ⟨h.os, h.tape, h.output, h.size, fun k hk => h.block k (by omega) (by omega)⟩
theorem Turn.alloc {b : Nat} {x w : World} (h : Turn b x w) (o : Obj) : Turn b x (w.alloc o) :=
  h.trans (Turn.ofBelow ((Below.refl _ _).alloc (Nat.le_refl _) o))
theorem Turn.drew {b : Nat} {x w : World} (h : Turn b x w) : Turn b x w.drew := ⟨h.os, h.tape, h.output, h.size, h.block⟩
theorem Turn.drewN {b : Nat} {x w : World} (h : Turn b x w) (n : Nat) : Turn b x (w.drewN n) := ⟨h.os, h.tape, h.output, h.size, h.block⟩
/-- A store into b itself. -/
theorem Turn.set {b : Nat} {x w : World} (h : Turn b x w) (o : Nat) (v : Value) : Turn b x (w.setCell ⟨b, o, none⟩ v) :=
  h.trans ⟨rfl, rfl, rfl, by simp [World.setCell], fun _ _ hb => Below.heap_setCell _ _ _ _ hb⟩
/-- A store into a block that was not there. -/
theorem Turn.setNew {b : Nat} {x w : World} (h : Turn b x w) (a : Addr) (v : Value) (ha : x.heap.size ≤ a.block) : Turn b x (w.setCell a v) :=
  ⟨h.os, h.tape, h.output, Nat.le_trans h.size (by simp [World.setCell]), fun k hk hb => (Below.heap_setCell _ _ _ _ (by omega)).trans (h.block k hk hb)⟩
theorem Turn.cell {b : Nat} {w w' : World} (h : Turn b w w') {a : Addr} (ha : a.block < w.heap.size) (hb : a.block ≠ b) : w'.cell? a = w.cell? a :=
  World.cell?_of_block (w := w) (h.block a.block ha hb)
theorem Turn.frozen {b : Nat} {w w' : World} (h : Turn b w w') {a : Addr} (ha : a.block < w.heap.size) (hb : a.block ≠ b) : w'.frozen? a = w.frozen? a :=
  World.frozen?_of_block (w := w) (h.block a.block ha hb)
theorem Dec.turn {b c : Nat} {w w' : World} {dv : Value} {p d : Int} (h : Dec w b dv p d) (t : Turn c w w') (hne : b ≠ c) : Dec w' b dv p d :=
  (t.block b h.lt hne).trans h

/-- v is an error value of the decoder's, at the place off: a *SyntaxError in a block from B on. -/
def ErrAt (B : Nat) (w : World) (v : Value) (off : Int) : Prop :=
  ∃ x, v = .iface 44 (.pointer (some ⟨x, 0, none⟩)) ∧ B ≤ x ∧ x < w.heap.size ∧ w.cell? ⟨x, 0, none⟩ = some (.int .i64 off)

/-- What the decoder's methods give beside a value: nil, or an error at a place. -/
def ErrIs (B : Nat) (w : World) (v : Value) : Option Int → Prop
  | none => v = .nilIface
  | some off => ErrAt B w v off

theorem ErrAt.turn {B b : Nat} {w w' : World} {v : Value} {off : Int} (h : ErrAt B w v off) (t : Turn b w w') (hb : b < B) : ErrAt B w' v off := by
  obtain ⟨x, rfl, h1, h2, h3⟩ := h
  exact ⟨x, rfl, h1, Nat.lt_of_lt_of_le h2 t.size, (t.cell (a := ⟨x, 0, none⟩) h2 (by simp; omega)).trans h3⟩
theorem ErrAt.mono {B B' : Nat} {w : World} {v : Value} {off : Int} (h : ErrAt B w v off) (hB : B' ≤ B) : ErrAt B' w v off := by
  obtain ⟨x, rfl, h1, h2, h3⟩ := h
  exact ⟨x, rfl, Nat.le_trans hB h1, h2, h3⟩
theorem ErrIs.turn {B b : Nat} {w w' : World} {v : Value} {o : Option Int} (h : ErrIs B w v o) (t : Turn b w w') (hb : b < B) : ErrIs B w' v o := by
  cases o with
  | none => exact h
  | some off => exact ErrAt.turn h t hb
theorem ErrIs.mono {B B' : Nat} {w : World} {v : Value} {o : Option Int} (h : ErrIs B w v o) (hB : B' ≤ B) : ErrIs B' w v o := by
  cases o with
  | none => exact h
  | some off => exact ErrAt.mono h hB


/-- The L bytes D lie in block ab from ao on. -/
structure Bytes (w : World) (ab ao L : Nat) (D : Nat → Int) : Prop where
  lt : ab < w.heap.size
  cell : ∀ i, i < L → w.cell? ⟨ab, ao + i, none⟩ = some (.int .u8 (D i))

theorem Bytes.turn {w w' : World} {ab ao L b : Nat} {D : Nat → Int} (h : Bytes w ab ao L D) (t : Turn b w w') (hne : ab ≠ b) : Bytes w' ab ao L D :=
  ⟨Nat.lt_of_lt_of_le h.lt t.size, fun i hi => (t.cell (a := ⟨ab, ao + i, none⟩) h.lt hne).trans (h.cell i hi)⟩
theorem Bytes.drewN {w : World} {ab ao L : Nat} {D : Nat → Int} (h : Bytes w ab ao L D) (n : Nat) : Bytes (w.drewN n) ab ao L D := ⟨h.lt, h.cell⟩

end Go.Proofs.YbulkacdeFmt
