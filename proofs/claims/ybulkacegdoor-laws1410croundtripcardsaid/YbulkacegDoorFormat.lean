import Derived.Test.YbulkacegDoorShelf
import Derived.Lib.AppendIntMem
import Derived.Lib.ItoaMem
import Derived.Lib.ItoaLen
import Derived.Lib.Walk
import Derived.WalkKit
import Derived.BigCall
import Derived.BigGuard
namespace Go.Proofs.YbulkacegDoor
open Go.Shelf Go.RowKit Go.Sort Go.Lib

/-! the plain law: the numeral is read back -/

theorem parse_digits {M : Nat} (hM : M < 18446744073709551616) : ∀ (n u : Nat) (r : List UInt8), u < n → u ≤ M → parseUintM M 0 (decDigits u ++ r) = parseUintM M u r := by
  intro n
  induction n with
  | zero => intro u r h; omega
  | succ n ih =>
    intro u r hn hu
    by_cases h : u < 10
    · rw [decDigits_one h]
      have hc : (UInt8.ofNat (48 + u)).toNat = 48 + u := by simp; omega
      simp only [List.cons_append, List.nil_append, parseUintM, hc]
      rw [if_pos (by omega), if_neg (by omega), if_neg (by omega)]
      congr 1
      omega
    · rw [decDigits, dif_neg h, List.append_assoc, ih (u / 10) _ (by omega) (by omega)]
      have hc : (UInt8.ofNat (48 + u % 10)).toNat = 48 + u % 10 := by simp; omega
      simp only [List.cons_append, List.nil_append, parseUintM, hc]
      rw [if_pos (by omega), if_neg (by omega), if_neg (by omega)]
      congr 1
      omega

theorem parse_back {u : Nat} (hu : u < 18446744073709551616) : parseUintB 64 (decDigits u) = .ok u := by
  unfold parseUintB
  rw [if_neg (by intro h; have := congrArg List.length h; rw [decDigits_length] at this; have := nDigits_pos u; simp at *; omega)]
  have := parse_digits (M := 2 ^ 64 - 1) (by omega) (u + 1) u [] (by omega) (by omega)
  rw [List.append_nil] at this
  rw [this]
  rfl

/-! the walk -/

/-- The new block's bytes from place 0 on are a row of zeros. -/
theorem holds_zero0 (w : World) (T : TypeId) (nd : Nat) (hs : nd ≤ 24) : Holds (fun (b : UInt8) => Value.int .u8 (b.toNat : Int)) (w.alloc (.cells zeros24 T)) w.heap.size 0 (Array.replicate nd (0 : UInt8)) := fun j hj => by
  have hj' : j < nd := by simpa using hj
  refine ⟨?_, World.frozen?_alloc_new _ _ _ _⟩
  rw [World.cell?_alloc_new, zeros24_at _ (by omega), getElem!_pos _ j hj]
  simp

theorem below_row (w : World) (o : Obj) (dk : Array UInt8) (k : Nat) : Below w.heap.size w ((putRow (fun (b : UInt8) => Value.int .u8 (b.toNat : Int)) (w.alloc o) w.heap.size 0 dk).drewN k) := by
  rw [alloc_eq_grow]
  obtain ⟨os', _, e⟩ := putRow_grow_new (fun (b : UInt8) => Value.int .u8 (b.toNat : Int)) w #[o] w.heap.size 0 dk (Nat.le_refl _)
  rw [e]
  exact below_grow w.heap.size w (Nat.le_refl _) k os'

set_option maxHeartbeats 6400000 in
set_option maxRecDepth 100000 in
/-- FormatUint at base 10, the library's inner one. -/
theorem format_inner (u : Nat) (hu64 : u < 18446744073709551616) (w : World) (htab : TabIs Ybad.prog w tabName .u64 pow10Tab) :
    Calls Ybad.prog 20 #[.int .u64 u, .int .i64 10] w fun e w' => e = .returned (.string ⟨(decDigits u).toArray⟩) ∧ Below w.heap.size w w' := by
  by_cases hs : u < 100
  · go_enter Ybad.func20, Ybad.ntmps20
    go_wp2_with (go_at_call 28; refine (Ybad.internal_strconv_small u hs _).mono ?_; rintro e w' ⟨rfl, rfl⟩)
    go_ret
    exact ⟨rfl, Below.refl _ _⟩
  · have hu1 : 1 ≤ u := by omega
    have hnd20 : nDigits u ≤ 20 := nDigits_le20 u hu64
    have hal : Ybad.prog.arrayLen 55 = 24 := by simp [Program.arrayLen, Ybad.underlying55]
    have hsl1 : ∀ W, (Instr.sliceAt 55 (.pointer (some ⟨w.heap.size, 0, none⟩)) none (some (.int .i64 (nDigits u : Int))) none).run Ybad.prog W = .ok (.slice (some ⟨w.heap.size, 0, none⟩) (nDigits u) 24) W := fun W => by
      rw [run_sliceAt_array_h W 55 ⟨w.heap.size, 0, none⟩ (by simp [Program.arrayLen, Program.elem, Ybad.underlying55]) .i64 (nDigits u : Int) (by omega) (by rw [hal]; omega)]
      go_simp
    have hH0 := holds_zero0 w 55 (nDigits u) (by omega)
    have hfmt := Ybad.internal_strconv_formatBase10 w.heap.size 0 24 u (Array.replicate (nDigits u) 0) (w.alloc (.cells zeros24 55)) hH0 (by rw [Array.size_replicate]; exact lt_pow_nDigits u) hu64 (by rw [Array.size_replicate]; omega)
    rw [Array.size_replicate] at hfmt
    have HH0 := hid hH0
    clear hH0 hal
    go_enter Ybad.func20, Ybad.ntmps20
    go_wp2_with (first
      | (go_at_call 29; refine (Ybad.internal_strconv_numDigits u hu1 hu64 _ (tabIs_alloc htab _)).mono ?_; rintro e w' ⟨rfl, rfl⟩))
    refine hfmt.mono ?_
    rintro e w' ⟨rfl, k, v', dk, rfl, hF⟩
    have hcv : (convert 23 9 (.slice (some ⟨w.heap.size, 0, none⟩) (nDigits u) 24)).run Ybad.prog ((putRow (fun (b : UInt8) => Value.int .u8 (b.toNat : Int)) (w.alloc (.cells zeros24 55)) w.heap.size 0 dk).drewN k) = .ok (.string ⟨(decDigits u).toArray⟩) ((putRow (fun (b : UInt8) => Value.int .u8 (b.toNat : Int)) (w.alloc (.cells zeros24 55)) w.heap.size 0 dk).drewN k) := by
      have h := run_convert_bytes_back (P := Ybad.prog) ((putRow (fun (b : UInt8) => Value.int .u8 (b.toNat : Int)) (w.alloc (.cells zeros24 55)) w.heap.size 0 dk).drewN k) 23 9 5 ⟨w.heap.size, 0, none⟩ 24 (decDigits u) Ybad.underlying23 Ybad.underlying5 Ybad.underlying9 (fun j hj => by
        rw [row_is_numeral hF j hj, add_plain, World.cell?_drewN]
        exact cell?_putRow (fun (b : UInt8) => Value.int .u8 (b.toNat : Int)) _ w.heap.size 0 _ dk HH0.out (by rw [hF.size, Array.size_replicate]) j (by rw [hF.size]; rw [decDigits_length] at hj; exact hj))
      rw [decDigits_length] at h
      exact h
    go_wp2
    go_ret
    exact ⟨rfl, below_row w _ dk k⟩
end Go.Proofs.YbulkacegDoor
