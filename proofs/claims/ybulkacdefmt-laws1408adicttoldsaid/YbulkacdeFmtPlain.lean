/-
  The decoder as plain functions on the bytes D 0 .. D (L - 1). Nothing of the dump.
-/
import Derived.Laws.BytesArg
namespace Go.Proofs.YbulkacdeFmt

/-- The least int64. -/
def minI : Int := -9223372036854775808

section
variable (D : Nat → Int) (L : Nat)

/-! the digits of an integer -/

/-- parseInt's loop: n more bytes from k on, m gathered so far (as a negative number). -/
def pGo : Nat → Nat → Int → Option Int
  | 0, _, m => some m
  | n + 1, k, m => if D k < 48 ∨ 57 < D k ∨ m < (minI + (D k - 48)).tdiv 10 then none else pGo n (k + 1) (10 * m - (D k - 48))

/-- parseInt of the n bytes from lo on. -/
def pInt (lo n : Nat) : Int × Bool :=
  if n = 0 then (0, false)
  else if D lo = 45 then
    if n - 1 = 0 ∨ D (lo + 1) = 48 then (0, false)
    else match pGo D (n - 1) (lo + 1) 0 with
      | none => (0, false)
      | some m => (m, true)
  else if D lo = 48 ∧ 1 < n then (0, false)
    else match pGo D n lo 0 with
      | none => (0, false)
      | some m => if m = minI then (0, false) else (-m, true)

/-! where the 'e' stands -/

def scan : Nat → Nat → Nat
  | 0, p => p
  | f + 1, p => if p < L ∧ D p ≠ 101 then scan f (p + 1) else p
def endOf (p : Nat) : Nat := scan D L (L - p) p

theorem endOf_step {p : Nat} (h : p < L) (h' : D p ≠ 101) : endOf D L p = endOf D L (p + 1) := by
  unfold endOf
  rw [show L - p = (L - (p + 1)) + 1 by omega, scan, if_pos ⟨h, h'⟩]
theorem endOf_end {p : Nat} (h : L ≤ p) : endOf D L p = p := by
  unfold endOf
  rw [show L - p = 0 by omega, scan]
theorem endOf_e {p : Nat} (h : p < L) (h' : D p = 101) : endOf D L p = p := by
  unfold endOf
  rw [show L - p = (L - (p + 1)) + 1 by omega, scan, if_neg (by intro hh; exact hh.2 h')]
theorem scan_ge (f : Nat) : ∀ p, p ≤ scan D L f p := by
  induction f with
  | zero => intro p; exact Nat.le_refl _
  | succ f ih =>
    intro p
    rw [scan]
    split
    · exact Nat.le_trans (Nat.le_succ p) (ih (p + 1))
    · exact Nat.le_refl _
theorem scan_le (f : Nat) : ∀ p, p ≤ L → scan D L f p ≤ L := by
  induction f with
  | zero => intro p hp; exact hp
  | succ f ih =>
    intro p hp
    rw [scan]
    split
    · exact ih (p + 1) (by omega)
    · exact hp
theorem endOf_ge (p : Nat) : p ≤ endOf D L p := scan_ge D L _ p
theorem endOf_le {p : Nat} (h : p ≤ L) : endOf D L p ≤ L := scan_le D L _ p h

/-- integer('e') from p on: where it ends, the error's place, the number. -/
def intAt (p : Nat) : Nat × Option Nat × Int :=
  if endOf D L p < L then
    if (pInt D p (endOf D L p - p)).2 = true then (endOf D L p + 1, none, (pInt D p (endOf D L p - p)).1)
    else (endOf D L p, some p, 0)
  else (endOf D L p, some (endOf D L p), 0)

/-! a byte string -/

def strScan : Nat → Nat → Nat → Nat × Nat
  | 0, p, n => (p, n)
  | f + 1, p, n => if p < L ∧ 48 ≤ D p ∧ D p ≤ 57 ∧ n ≤ L then strScan f (p + 1) (10 * n + (D p - 48).toNat) else (p, n)
def strGo (p n : Nat) : Nat × Nat := strScan D L (L - p) p n

theorem strGo_step {p n : Nat} (h : p < L) (h1 : 48 ≤ D p) (h2 : D p ≤ 57) (h3 : n ≤ L) : strGo D L p n = strGo D L (p + 1) (10 * n + (D p - 48).toNat) := by
  unfold strGo
  rw [show L - p = (L - (p + 1)) + 1 by omega, strScan, if_pos ⟨h, h1, h2, h3⟩]
theorem strGo_stop {p n : Nat} (h : ¬ (p < L ∧ 48 ≤ D p ∧ D p ≤ 57 ∧ n ≤ L)) : strGo D L p n = (p, n) := by
  unfold strGo
  cases hf : L - p with
  | zero => rfl
  | succ f => rw [strScan, if_neg h]
theorem strScan_ge (f : Nat) : ∀ p n, p ≤ (strScan D L f p n).1 := by
  induction f with
  | zero => intro p n; exact Nat.le_refl _
  | succ f ih =>
    intro p n
    rw [strScan]
    split
    · exact Nat.le_trans (Nat.le_succ p) (ih (p + 1) _)
    · exact Nat.le_refl _
theorem strScan_le (f : Nat) : ∀ p n, p ≤ L → (strScan D L f p n).1 ≤ L := by
  induction f with
  | zero => intro p n hp; exact hp
  | succ f ih =>
    intro p n hp
    rw [strScan]
    split
    · exact ih (p + 1) _ (by omega)
    · exact hp
theorem strGo_ge (p n : Nat) : p ≤ (strGo D L p n).1 := strScan_ge D L _ p n
theorem strGo_le {p n : Nat} (h : p ≤ L) : (strGo D L p n).1 ≤ L := strScan_le D L _ p n h

/-- string() at p (p < L): where it ends, the error's place, how many bytes (they end where it ends). -/
def strAt (p : Nat) : Nat × Option Nat × Nat :=
  if D p < 48 ∨ 57 < D p then (p, some p, 0)
  else if L ≤ (strGo D L p 0).1 then ((strGo D L p 0).1, some (strGo D L p 0).1, 0)
  else if D (strGo D L p 0).1 ≠ 58 ∨ (D p = 48 ∧ 1 < (strGo D L p 0).1 - p) then ((strGo D L p 0).1, some p, 0)
  else if L - ((strGo D L p 0).1 + 1) < (strGo D L p 0).2 then ((strGo D L p 0).1 + 1, some p, 0)
  else ((strGo D L p 0).1 + 1 + (strGo D L p 0).2, none, (strGo D L p 0).2)

/-- The n bytes from lo on, as a list of numbers. -/
def numsAt (lo n : Nat) : List Int := (List.range n).map fun j => D (lo + j)
theorem numsAt_length (lo n : Nat) : (numsAt D lo n).length = n := by simp [numsAt]
theorem numsAt_getD {lo n i : Nat} (h : i < n) : (numsAt D lo n).getD i 0 = D (lo + i) := by simp [numsAt, h]
/-- .. as a string. -/
def strOf (lo n : Nat) : ByteArray := strOfNums (numsAt D lo n)

/-- a <= b, as Go compares strings. -/
def strLe (a b : ByteArray) : Bool := Op.bytesLess a.toList b.toList || a.toList == b.toList

/-- Is the key s out of order behind prev (none: s is the first)? -/
def keyBad : Option ByteArray → ByteArray → Bool
  | none, _ => false
  | some t, s => strLe s t

/-! lists and dictionaries -/

def listGo (g : Nat → Nat × Option Nat) : Nat → Nat → Nat × Option Nat
  | 0, p => (p, some p)
  | f + 1, p =>
    if p < L ∧ D p ≠ 101 then
      match (g p).2 with
      | none => listGo g f (g p).1
      | some o => ((g p).1, some o)
    else if p < L then (p + 1, none) else (p, some p)

/-- prev: the key before (none: this is the first). -/
def dictGo (g : Nat → Nat × Option Nat) : Nat → Option ByteArray → Nat → Nat × Option Nat
  | 0, _, p => (p, some p)
  | f + 1, prev, p =>
    if p < L ∧ D p ≠ 101 then
      match (strAt D L p).2.1 with
      | some o => ((strAt D L p).1, some o)
      | none =>
        if keyBad prev (strOf D ((strAt D L p).1 - (strAt D L p).2.2) (strAt D L p).2.2) = true then ((strAt D L p).1, some p)
        else match (g (strAt D L p).1).2 with
          | none => dictGo g f (some (strOf D ((strAt D L p).1 - (strAt D L p).2.2) (strAt D L p).2.2)) (g (strAt D L p).1).1
          | some o => ((g (strAt D L p).1).1, some o)
    else if p < L then (p + 1, none) else (p, some p)

/-- A value at p; g: the values one deeper (none: it is too deep already). -/
def body (g : Option (Nat → Nat × Option Nat)) (p : Nat) : Nat × Option Nat :=
  if L ≤ p then (p, some p)
  else if D p = 105 then ((intAt D L (p + 1)).1, (intAt D L (p + 1)).2.1)
  else if D p = 108 then match g with
    | none => (p, some p)
    | some g => listGo D L g (L + 1) (p + 1)
  else if D p = 100 then match g with
    | none => (p, some p)
    | some g => dictGo D L g (L + 1) none (p + 1)
  else if 48 ≤ D p ∧ D p ≤ 57 then ((strAt D L p).1, (strAt D L p).2.1)
  else (p, some p)

/-- value() or skip() at p, k levels still to open: where the decoder ends, and the error's place. -/
def parse : Nat → Nat → Nat × Option Nat
  | 0 => body D L none
  | k + 1 => body D L (some (parse k))

/-! progress -/

theorem intAt_bounds {p : Nat} (h : p ≤ L) : p ≤ (intAt D L p).1 ∧ (intAt D L p).1 ≤ L := by
  have h1 := endOf_ge D L p
  have h2 := endOf_le D L h
  unfold intAt
  split
  · split
    · simp; omega
    · simp; omega
  · simp; omega

theorem strAt_bounds {p : Nat} (h : p < L) : p ≤ (strAt D L p).1 ∧ (strAt D L p).1 ≤ L ∧ ((strAt D L p).2.1 = none → p + 1 + (strAt D L p).2.2 ≤ (strAt D L p).1) := by
  have h1 := strGo_ge D L p 0
  have h2 := strGo_le D L (n := 0) (Nat.le_of_lt h)
  unfold strAt
  split
  · simp; omega
  · split
    · simp; omega
    · split
      · simp; omega
      · split
        · simp; omega
        · simp; omega

theorem listGo_bounds (g : Nat → Nat × Option Nat) (hg : ∀ p, p ≤ L → p ≤ (g p).1 ∧ (g p).1 ≤ L ∧ ((g p).2 = none → p < (g p).1)) (f : Nat) :
    ∀ p, p ≤ L → p ≤ (listGo D L g f p).1 ∧ (listGo D L g f p).1 ≤ L := by
  induction f with
  | zero => intro p hp; exact ⟨Nat.le_refl _, hp⟩
  | succ f ih =>
    intro p hp
    rw [listGo]
    have hgp := hg p hp
    split
    · split
      · have := ih (g p).1 hgp.2.1
        omega
      · simp; omega
    · split
      · simp; omega
      · simp; omega

theorem dictGo_bounds (g : Nat → Nat × Option Nat) (hg : ∀ p, p ≤ L → p ≤ (g p).1 ∧ (g p).1 ≤ L ∧ ((g p).2 = none → p < (g p).1)) (f : Nat) :
    ∀ prev p, p ≤ L → p ≤ (dictGo D L g f prev p).1 ∧ (dictGo D L g f prev p).1 ≤ L := by
  induction f with
  | zero => intro prev p hp; exact ⟨Nat.le_refl _, hp⟩
  | succ f ih =>
    intro prev p hp
    rw [dictGo]
    split
    · rename_i hlt
      have hs := strAt_bounds D L hlt.1
      split
      · simp; omega
      · split
        · simp; omega
        · have hgq := hg (strAt D L p).1 hs.2.1
          split
          · have := ih (some (strOf D ((strAt D L p).1 - (strAt D L p).2.2) (strAt D L p).2.2)) (g (strAt D L p).1).1 hgq.2.1
            omega
          · simp; omega
    · split
      · simp; omega
      · simp; omega

theorem body_bounds (g : Option (Nat → Nat × Option Nat)) (hg : ∀ f, g = some f → ∀ p, p ≤ L → p ≤ (f p).1 ∧ (f p).1 ≤ L ∧ ((f p).2 = none → p < (f p).1)) :
    ∀ p, p ≤ L → p ≤ (body D L g p).1 ∧ (body D L g p).1 ≤ L ∧ ((body D L g p).2 = none → p < (body D L g p).1) := by
  intro p hp
  unfold body
  split
  · simp; omega
  · split
    · have := intAt_bounds D L (p := p + 1) (by omega)
      simp; omega
    · split
      · cases g with
        | none => simp; omega
        | some f =>
          have := listGo_bounds D L f (hg f rfl) (L + 1) (p + 1) (by omega)
          simp; omega
      · split
        · cases g with
          | none => simp; omega
          | some f =>
            have := dictGo_bounds D L f (hg f rfl) (L + 1) none (p + 1) (by omega)
            simp; omega
        · split
          · have := strAt_bounds D L (p := p) (by omega)
            refine ⟨by simp; omega, by simp; omega, fun h => ?_⟩
            have h3 := this.2.2 h
            simp; omega
          · simp; omega

theorem parse_bounds (k : Nat) : ∀ p, p ≤ L → p ≤ (parse D L k p).1 ∧ (parse D L k p).1 ≤ L ∧ ((parse D L k p).2 = none → p < (parse D L k p).1) := by
  induction k with
  | zero => exact body_bounds D L none (fun _ h => by cases h)
  | succ k ih => exact body_bounds D L _ (fun f h => by cases h; exact ih)

end
end Go.Proofs.YbulkacdeFmt
