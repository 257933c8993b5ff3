/-
  Decimal texts, and the items of a flat list: read back as they were written. Nothing of the dump.
-/
import Derived.Test.YbulkacdeFmtGenPlain
namespace Go.Proofs.YbulkacdeFmt

/-- The decimal digits of u, the greatest first (f: so many at the most). -/
def digs : Nat → Nat → List Int
  | 0, u => [48 + ((u % 10 : Nat) : Int)]
  | f + 1, u => if u < 10 then [48 + ((u : Nat) : Int)] else digs f (u / 10) ++ [48 + ((u % 10 : Nat) : Int)]

theorem digs_pos (f : Nat) : ∀ u, 1 ≤ (digs f u).length := by
  induction f with
  | zero => intro u; simp [digs]
  | succ f ih =>
    intro u
    rw [digs]
    split
    · simp
    · simp

theorem digs_length (f : Nat) : ∀ (k u : Nat), 0 < k → u < 10 ^ k → k ≤ f + 1 → (digs f u).length ≤ k := by
  induction f with
  | zero => intro k u hk _ hf; simp [digs]; omega
  | succ f ih =>
    intro k u hk hu hf
    rw [digs]
    split
    · simp; omega
    · obtain ⟨j, rfl⟩ : ∃ j, k = j + 1 := ⟨k - 1, by omega⟩
      have hj : 0 < j := by
        rcases Nat.eq_zero_or_pos j with h | h
        · subst h; simp at hu; omega
        · exact h
      have := ih j (u / 10) hj (by rw [Nat.pow_succ] at hu; omega) (by omega)
      simp; omega

theorem digs_mem (f : Nat) : ∀ u, u < 10 ^ (f + 1) → ∀ z ∈ digs f u, 48 ≤ z ∧ z ≤ 57 := by
  induction f with
  | zero => intro u hu z hz; simp [digs] at hz; simp at hu; omega
  | succ f ih =>
    intro u hu z hz
    rw [digs] at hz
    split at hz
    · simp at hz; omega
    · rcases List.mem_append.1 hz with hz | hz
      · exact ih (u / 10) (by rw [Nat.pow_succ] at hu; omega) z hz
      · simp at hz; omega

section
variable {D : Nat → Int} {L : Nat}

/-- The first digit is nought only of nought. -/
theorem digs_head (f : Nat) : ∀ (u p : Nat), u < 10 ^ (f + 1) → 1 ≤ u → Has D p (digs f u) → D p ≠ 48 := by
  induction f with
  | zero => intro u p hu h1 h; simp [digs, Has] at h; simp at hu; omega
  | succ f ih =>
    intro u p hu h1 h
    rw [digs] at h
    split at h
    · simp [Has] at h; omega
    · exact ih (u / 10) p (by rw [Nat.pow_succ] at hu; omega) (by omega) (Has.app.1 h).1

theorem digs_first (f : Nat) {u p : Nat} (hu : u < 10 ^ (f + 1)) (h : Has D p (digs f u)) : 48 ≤ D p ∧ D p ≤ 57 := by
  have hm := digs_mem f u hu
  cases hd : digs f u with
  | nil => have := digs_pos f u; rw [hd] at this; simp at this
  | cons x l =>
    rw [hd] at h hm
    have := hm x (by simp)
    have := h.1
    omega

theorem strGo_digs (f : Nat) : ∀ (u p : Nat), u < 10 ^ (f + 1) → Has D p (digs f u) → p + (digs f u).length ≤ L → u ≤ L → strGo D L p 0 = strGo D L (p + (digs f u).length) u := by
  induction f with
  | zero =>
    intro u p hu h hL hul
    simp [digs, Has] at h hL
    simp at hu
    rw [strGo_step D L (by omega) (by omega) (by omega) (by omega)]
    simp only [digs, List.length_singleton]
    congr 1
    omega
  | succ f ih =>
    intro u p hu h hL hul
    rw [digs] at h hL ⊢
    split at h
    · rename_i hlt
      rw [if_pos hlt] at hL ⊢
      simp [Has] at h hL
      rw [strGo_step D L (by omega) (by omega) (by omega) (by omega)]
      simp only [List.length_singleton]
      congr 1
      omega
    · rename_i hge
      rw [if_neg hge] at hL ⊢
      have h' := Has.app.1 h
      simp only [List.length_append, List.length_singleton] at hL ⊢
      rw [ih (u / 10) p (by rw [Nat.pow_succ] at hu; omega) h'.1 (by omega) (by omega)]
      have h2 := h'.2.1
      rw [strGo_step D L (by omega) (by omega) (by omega) (by omega)]
      rw [show p + ((digs f (u / 10)).length + 1) = p + (digs f (u / 10)).length + 1 by omega]
      congr 1
      omega

theorem tdiv_le_of {x a : Int} (h : x ≤ -(10 * a)) : x.tdiv 10 ≤ -a := by
  have h1 := Int.mul_tdiv_add_tmod x 10
  have h2 := Int.lt_tmod_of_pos x (show (0 : Int) < 10 by omega)
  omega

theorem pGo_digs (f : Nat) : ∀ (u p r : Nat), u < 10 ^ (f + 1) → u ≤ 9223372036854775808 → Has D p (digs f u) → pGo D ((digs f u).length + r) p 0 = pGo D r (p + (digs f u).length) (-(u : Int)) := by
  have hmin : minI = -9223372036854775808 := rfl
  have one : ∀ (c k r : Nat) (a : Nat), c ≤ 9 → 10 * a + c ≤ 9223372036854775808 → D k = 48 + (c : Int) → pGo D (1 + r) k (-(a : Int)) = pGo D r (k + 1) (-((10 * a + c : Nat) : Int)) := by
    intro c k r a hc ha hk
    have ht : (minI + (D k - 48)).tdiv 10 ≤ -(a : Int) := tdiv_le_of (by omega)
    rw [show 1 + r = r + 1 by omega, pGo, if_neg (by omega)]
    congr 1
    omega
  induction f with
  | zero =>
    intro u p r hu hub h
    simp [digs, Has] at h
    simp at hu
    have := one (u % 10) p r 0 (by omega) (by omega) (by omega)
    simp only [digs, List.length_singleton]
    rw [show (0 : Int) = -((0 : Nat) : Int) by simp, this]
    congr 1
    omega
  | succ f ih =>
    intro u p r hu hub h
    rw [digs] at h ⊢
    split at h
    · rename_i hlt
      rw [if_pos hlt]
      simp [Has] at h
      have := one u p r 0 (by omega) (by omega) (by omega)
      simp only [List.length_singleton]
      rw [show (0 : Int) = -((0 : Nat) : Int) by simp, this]
      congr 1
      omega
    · rename_i hge
      rw [if_neg hge]
      have h' := Has.app.1 h
      simp only [List.length_append, List.length_singleton]
      rw [show (digs f (u / 10)).length + 1 + r = (digs f (u / 10)).length + (1 + r) by omega, ih (u / 10) p (1 + r) (by rw [Nat.pow_succ] at hu; omega) (by omega) h'.1]
      have := one (u % 10) (p + (digs f (u / 10)).length) r (u / 10) (by omega) (by omega) (by have := h'.2.1; omega)
      rw [this, show p + ((digs f (u / 10)).length + 1) = p + (digs f (u / 10)).length + 1 by omega]
      congr 1
      omega

/-- The decimal text of a number. -/
def dec (n : Int) : List Int := (if n < 0 then [45] else []) ++ digs 19 n.natAbs

theorem dec_length (n : Int) : (dec n).length ≤ 21 ∧ 1 ≤ (dec n).length := by
  have h1 := digs_pos 19 n.natAbs
  have h2 : (digs 19 n.natAbs).length ≤ 20 := by
    rcases Nat.lt_or_ge n.natAbs (10 ^ 20) with h | h
    · exact digs_length 19 20 _ (by omega) h (by omega)
    · have : ∀ f u, (digs f u).length ≤ f + 1 := by
        intro f
        induction f with
        | zero => intro u; simp [digs]
        | succ f ih =>
          intro u
          rw [digs]
          split
          · simp
          · have := ih (u / 10); simp; omega
      exact this 19 _
  unfold dec
  split <;> simp <;> omega

theorem dec_mem {n : Int} (h0 : -9223372036854775808 ≤ n) (h1 : n ≤ 9223372036854775807) : ∀ z ∈ dec n, (48 ≤ z ∧ z ≤ 57) ∨ z = 45 := by
  intro z hz
  unfold dec at hz
  rcases List.mem_append.1 hz with hz | hz
  · split at hz
    · simp at hz; exact Or.inr hz
    · cases hz
  · exact Or.inl (digs_mem 19 n.natAbs (by omega) z hz)

theorem pInt_dec {n : Int} (h0 : -9223372036854775808 ≤ n) (h1 : n ≤ 9223372036854775807) {p : Nat} (h : Has D p (dec n)) : pInt D p (dec n).length = (n, true) := by
  have hmin : minI = -9223372036854775808 := rfl
  unfold dec at h ⊢
  have hlt : n.natAbs < 10 ^ (19 + 1) := by omega
  by_cases hn : n < 0
  · rw [if_pos hn] at h ⊢
    simp only [List.cons_append, List.nil_append, List.length_cons] at h ⊢
    obtain ⟨h45, hd⟩ := h
    have hh := digs_head 19 n.natAbs (p + 1) hlt (by omega) hd
    have hpos := digs_pos 19 n.natAbs
    have hg := pGo_digs (D := D) 19 n.natAbs (p + 1) 0 hlt (by omega) hd
    rw [Nat.add_zero] at hg
    unfold pInt
    rw [if_neg (by omega), if_pos h45, if_neg (by omega), Nat.add_sub_cancel, hg, pGo]
    simp only [Prod.mk.injEq, and_true]
    omega
  · rw [if_neg hn] at h ⊢
    simp only [List.nil_append] at h ⊢
    have hpos := digs_pos 19 n.natAbs
    have hf := digs_first 19 hlt h
    have hg := pGo_digs (D := D) 19 n.natAbs p 0 hlt (by omega) h
    rw [Nat.add_zero] at hg
    have hz : ¬ (D p = 48 ∧ 1 < (digs 19 n.natAbs).length) := by
      intro hh
      rcases Nat.eq_zero_or_pos n.natAbs with h' | h'
      · rw [h'] at hh; simp [digs] at hh
      · exact digs_head 19 n.natAbs p hlt h' h hh.1
    unfold pInt
    rw [if_neg (by omega), if_neg (by omega), if_neg hz, hg, pGo]
    simp only
    rw [if_neg (by omega)]
    simp only [Prod.mk.injEq, and_true]
    omega

theorem endOf_list {l : List Int} : ∀ {p : Nat}, (∀ x ∈ l, x ≠ 101) → Has D p (l ++ [101]) → p + l.length < L → endOf D L p = p + l.length := by
  induction l with
  | nil =>
    intro p _ h hl
    simp only [List.nil_append, Has, List.length_nil] at *
    exact endOf_e D L (by omega) h.1
  | cons x l ih =>
    intro p hx h hl
    simp only [List.cons_append, Has, List.length_cons] at *
    have hne := hx x (by simp)
    rw [endOf_step D L (by omega) (by rw [h.1]; exact hne), ih (fun y hy => hx y (by simp [hy])) h.2 (by omega)]
    omega

/-- i<n>e -/
theorem intAt_dec {n : Int} (h0 : -9223372036854775808 ≤ n) (h1 : n ≤ 9223372036854775807) {p : Nat} (h : Has D p (dec n ++ [101])) (hL : p + (dec n).length < L) : intAt D L p = (p + (dec n).length + 1, none, n) := by
  have he := endOf_list (fun x hx => by have := dec_mem h0 h1 x hx; omega) h hL
  have hp := pInt_dec h0 h1 (Has.app.1 h).1
  unfold intAt
  rw [he, if_pos hL, show p + (dec n).length - p = (dec n).length by omega, hp]
  simp

/-- <len>:<bytes> -/
theorem strAt_dec {m p : Nat} (hm : m ≤ 1000000) (h : Has D p (dec (m : Int) ++ [58])) (hL : p + (dec (m : Int)).length + 1 + m ≤ L) : strAt D L p = (p + (dec (m : Int)).length + 1 + m, none, m) := by
  have hd : dec (m : Int) = digs 19 m := by unfold dec; rw [if_neg (by omega)]; simp
  rw [hd] at h hL ⊢
  have h' := Has.app.1 h
  have hf := digs_first 19 (u := m) (by omega) h'.1
  have hpos := digs_pos 19 m
  have hgo : strGo D L p 0 = (p + (digs 19 m).length, m) := by
    rw [strGo_digs 19 m p (by omega) h'.1 (by omega) (by omega), strGo_stop D L (by have := h'.2.1; omega)]
  have hz : ¬ (D p = 48 ∧ 1 < (digs 19 m).length) := by
    intro hh
    rcases Nat.eq_zero_or_pos m with h'' | h''
    · rw [h''] at hh; simp [digs] at hh
    · exact digs_head 19 m p (by omega) h'' h'.1 hh.1
  have h58 := h'.2.1
  rw [strAt, if_neg (by omega), hgo]
  simp only
  rw [if_neg (by omega), if_neg (by omega), if_neg (by omega)]
end
end Go.Proofs.YbulkacdeFmt
