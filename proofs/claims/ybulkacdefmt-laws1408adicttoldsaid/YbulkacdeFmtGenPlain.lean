/-
  The generator of well-formed texts as a plain function, and: what it makes is read to its end. Nothing of the dump.
-/
import Derived.Test.YbulkacdeFmtPlain
namespace Go.Proofs.YbulkacdeFmt

/-- From p on the bytes D are the list. -/
def Has (D : Nat → Int) : Nat → List Int → Prop
  | _, [] => True
  | p, x :: l => D p = x ∧ Has D (p + 1) l

theorem Has.app {D : Nat → Int} {a b : List Int} : ∀ {p : Nat}, Has D p (a ++ b) ↔ Has D p a ∧ Has D (p + a.length) b := by
  induction a with
  | nil => intro p; simp [Has]
  | cons x a ih =>
    intro p
    simp only [List.cons_append, Has, ih, List.length_cons]
    rw [show p + 1 + a.length = p + (a.length + 1) by omega]
    exact ⟨fun h => ⟨⟨h.1, h.2.1⟩, h.2.2⟩, fun h => ⟨h.1.1, h.1.2, h.2⟩⟩

theorem Has.of {D : Nat → Int} : ∀ {l : List Int} {p : Nat}, (∀ j, j < l.length → D (p + j) = l.getD j 0) → Has D p l
  | [], _, _ => trivial
  | x :: l, p, h => ⟨by simpa using h 0 (by simp), Has.of fun j hj => by
      have := h (j + 1) (by simp; omega)
      rw [show p + (j + 1) = p + 1 + j by omega] at this
      simpa using this⟩

/-- The decimal text of a small number. -/
def genInt (v : Int) : List Int :=
  (if v < 0 then [45] else []) ++ (if 10 ≤ (if v < 0 then -v else v) then [48 + (if v < 0 then -v else v) / 10] else []) ++ [48 + (if v < 0 then -v else v) % 10]

/-- A dictionary's key number k, before its value. -/
def genKey (isDict : Bool) (k : Nat) : List Int := if isDict then (49 + (k : Int)) :: 58 :: List.replicate (k + 1) 107 else []

section
variable (S : Nat → Int) (n : Nat)

def genLoop (g : Nat → List Int × Nat) (isDict : Bool) : Nat → Nat → Nat → List Int × Nat
  | 0, _, i => ([], i)
  | m + 1, k, i => (genKey isDict k ++ (g i).1 ++ (genLoop g isDict m (k + 1) (g i).2).1, (genLoop g isDict m (k + 1) (g i).2).2)

def genBody (g : Option (Nat → List Int × Nat)) (i : Nat) : List Int × Nat :=
  if n ≤ i then ([48, 58], i)
  else if S i % 4 = 0 then (105 :: (genInt (S i / 4 - 32) ++ [101]), i + 1)
  else if S i % 4 = 1 then ((48 + S i / 4 % 10) :: 58 :: List.replicate (S i / 4 % 10).toNat 120, i + 1)
  else match g with
    | none => ([48, 58], i + 1)
    | some g => ((if S i % 4 = 3 then 100 else 108) :: ((genLoop g (S i % 4 == 3) (S i / 4 % 4).toNat 0 (i + 1)).1 ++ [101]), (genLoop g (S i % 4 == 3) (S i / 4 % 4).toNat 0 (i + 1)).2)

/-- zzs1408cgen, k levels still to open. -/
def gen : Nat → Nat → List Int × Nat
  | 0 => genBody S n none
  | k + 1 => genBody S n (some (gen k))
end

/-! ### how long it is -/

theorem genInt_length (v : Int) : (genInt v).length ≤ 3 := by
  unfold genInt
  split <;> split <;> simp

theorem genLoop_bound (g : Nat → List Int × Nat) (n : Nat) (hg : ∀ i, i ≤ (g i).2 ∧ (i ≤ n → (g i).2 ≤ n) ∧ (g i).1.length ≤ 30 * ((g i).2 - i) + 2) (d : Bool) (m : Nat) :
    ∀ k i, k + m ≤ 3 → i ≤ (genLoop g d m k i).2 ∧ (i ≤ n → (genLoop g d m k i).2 ≤ n) ∧ (genLoop g d m k i).1.length ≤ 30 * ((genLoop g d m k i).2 - i) + 8 * m := by
  induction m with
  | zero => intro k i _; simp [genLoop]
  | succ m ih =>
    intro k i hk
    have h1 := hg i
    have h2 := ih (k + 1) (g i).2 (by omega)
    have hkey : (genKey d k).length ≤ 6 := by unfold genKey; split <;> simp <;> omega
    simp only [genLoop, List.length_append]
    omega

theorem genBody_bound (S : Nat → Int) (n : Nat) (g : Option (Nat → List Int × Nat)) (hg : ∀ f, g = some f → ∀ i, i ≤ (f i).2 ∧ (i ≤ n → (f i).2 ≤ n) ∧ (f i).1.length ≤ 30 * ((f i).2 - i) + 2) :
    ∀ i, i ≤ (genBody S n g i).2 ∧ (i ≤ n → (genBody S n g i).2 ≤ n) ∧ (genBody S n g i).1.length ≤ 30 * ((genBody S n g i).2 - i) + 2 := by
  intro i
  unfold genBody
  split
  · simp
  · split
    · have := genInt_length (S i / 4 - 32)
      simp; omega
    · split
      · simp; omega
      · cases g with
        | none => simp; omega
        | some f =>
          have := genLoop_bound f n (hg f rfl) (S i % 4 == 3) (S i / 4 % 4).toNat 0 (i + 1) (by omega)
          simp
          omega

theorem gen_bound (S : Nat → Int) (n k : Nat) : ∀ i, i ≤ (gen S n k i).2 ∧ (i ≤ n → (gen S n k i).2 ≤ n) ∧ (gen S n k i).1.length ≤ 30 * ((gen S n k i).2 - i) + 2 := by
  induction k with
  | zero => exact genBody_bound S n none (fun _ h => by cases h)
  | succ k ih => exact genBody_bound S n _ (fun f h => by cases h; exact ih)

/-! ### it is read to its end -/

section
variable {D : Nat → Int} {L : Nat}

theorem strAt_small {p m : Nat} (hm : m ≤ 9) (h0 : D p = 48 + m) (h1 : D (p + 1) = 58) (hL : p + 2 + m ≤ L) : strAt D L p = (p + 2 + m, none, m) := by
  have hgo : strGo D L p 0 = (p + 1, m) := by
    rw [strGo_step D L (by omega) (by omega) (by omega) (by omega), strGo_stop D L (by omega)]
    rw [h0]
    congr 1
    omega
  rw [strAt, if_neg (by omega), hgo]
  simp only
  rw [if_neg (by omega), if_neg (by omega), if_neg (by omega)]

theorem tdiv_neg_small {x : Int} (h0 : 0 ≤ x) (h1 : x ≤ 9) : (minI + x).tdiv 10 ≤ -1000 := by
  have h := Int.mul_tdiv_add_tmod (minI + x) 10
  have h2 : -10 < (minI + x).tmod 10 := by
    have := Int.lt_tmod_of_pos (minI + x) (show (0 : Int) < 10 by omega)
    exact this
  have hm : minI = -9223372036854775808 := rfl
  omega

theorem pGo_one {k : Nat} {N : Int} (h1 : 48 ≤ D k) (h2 : D k ≤ 57) (hN : -1000 ≤ N) (n : Nat) : pGo D (n + 1) k N = pGo D n (k + 1) (10 * N - (D k - 48)) := by
  rw [pGo, if_neg]
  have := tdiv_neg_small (x := D k - 48) (by omega) (by omega)
  omega

theorem genInt_form (v : Int) (h0 : -32 ≤ v) (h1 : v ≤ 31) :
    (∃ a, 1 ≤ a ∧ a ≤ 9 ∧ genInt v = [45, 48 + a]) ∨ (∃ a b, 1 ≤ a ∧ a ≤ 9 ∧ 0 ≤ b ∧ b ≤ 9 ∧ genInt v = [45, 48 + a, 48 + b]) ∨
    (∃ a, 0 ≤ a ∧ a ≤ 9 ∧ genInt v = [48 + a]) ∨ (∃ a b, 1 ≤ a ∧ a ≤ 9 ∧ 0 ≤ b ∧ b ≤ 9 ∧ genInt v = [48 + a, 48 + b]) := by
  unfold genInt
  by_cases hv : v < 0
  · by_cases ht : 10 ≤ -v
    · exact Or.inr (Or.inl ⟨-v / 10, -v % 10, by omega, by omega, by omega, by omega, by rw [if_pos hv, if_pos hv, if_pos ht]; rfl⟩)
    · exact Or.inl ⟨-v % 10, by omega, by omega, by rw [if_pos hv, if_pos hv, if_neg ht]; rfl⟩
  · by_cases ht : 10 ≤ v
    · exact Or.inr (Or.inr (Or.inr ⟨v / 10, v % 10, by omega, by omega, by omega, by omega, by rw [if_neg hv, if_neg hv, if_pos ht]; rfl⟩))
    · exact Or.inr (Or.inr (Or.inl ⟨v % 10, by omega, by omega, by rw [if_neg hv, if_neg hv, if_neg ht]; rfl⟩))

theorem pInt_gen {p : Nat} {v : Int} (h0 : -32 ≤ v) (h1 : v ≤ 31) (h : Has D p (genInt v)) : (pInt D p (genInt v).length).2 = true := by
  have hm : minI = -9223372036854775808 := rfl
  rcases genInt_form v h0 h1 with ⟨a, ha, hb, e⟩ | ⟨a, b, ha, hb, hc, hd, e⟩ | ⟨a, ha, hb, e⟩ | ⟨a, b, ha, hb, hc, hd, e⟩
  all_goals rw [e] at h ⊢
  · obtain ⟨x, y, _⟩ := h
    show (pInt D p 2).2 = true
    unfold pInt
    rw [if_neg (by omega), if_pos x, if_neg (by omega), show 2 - 1 = 0 + 1 from rfl, pGo_one (by omega) (by omega) (by omega), pGo]
  · obtain ⟨x, y, z, _⟩ := h
    show (pInt D p 3).2 = true
    unfold pInt
    rw [if_neg (by omega), if_pos x, if_neg (by omega), show 3 - 1 = 0 + 1 + 1 from rfl, pGo_one (by omega) (by omega) (by omega), pGo_one (by omega) (by omega) (by omega), pGo]
  · obtain ⟨x, _⟩ := h
    show (pInt D p 1).2 = true
    unfold pInt
    rw [if_neg (by omega), if_neg (by omega), if_neg (by omega), show 1 = 0 + 1 from rfl, pGo_one (by omega) (by omega) (by omega), pGo]
    simp only
    rw [if_neg (by omega)]
  · obtain ⟨x, y, _⟩ := h
    show (pInt D p 2).2 = true
    unfold pInt
    rw [if_neg (by omega), if_neg (by omega), if_neg (by omega), show 2 = 0 + 1 + 1 from rfl, pGo_one (by omega) (by omega) (by omega), pGo_one (by omega) (by omega) (by omega), pGo]
    simp only
    rw [if_neg (by omega)]

theorem endOf_gen {v : Int} (h0 : -32 ≤ v) (h1 : v ≤ 31) {p : Nat} (h : Has D p (genInt v ++ [101])) (hL : p + (genInt v).length < L) : endOf D L p = p + (genInt v).length := by
  have hgen : ∀ x ∈ genInt v, x ≠ 101 := by
    intro x hx
    rcases genInt_form v h0 h1 with ⟨a, ha, hb, e⟩ | ⟨a, b, ha, hb, hc, hd, e⟩ | ⟨a, ha, hb, e⟩ | ⟨a, b, ha, hb, hc, hd, e⟩
    all_goals
      rw [e] at hx
      simp at hx
      omega
  have key : ∀ (l : List Int) (p : Nat), (∀ x ∈ l, x ≠ 101) → Has D p (l ++ [101]) → p + l.length < L → endOf D L p = p + l.length := by
    intro l
    induction l with
    | nil =>
      intro p _ h hl
      simp only [List.nil_append, Has, List.length_nil] at *
      exact endOf_e D L (by omega) h.1
    | cons x l ih =>
      intro p hx h hl
      simp only [List.cons_append, Has, List.length_cons] at *
      have hne := hx x (by simp)
      rw [endOf_step D L (by omega) (by rw [h.1]; exact hne), ih (p + 1) (fun y hy => hx y (by simp [hy])) h.2 (by omega)]
      omega
  exact key _ p hgen h hL

theorem bodyP_end {g : Option (Nat → Nat × Option Nat)} {p : Nat} (h : p < L) (h1 : 48 ≤ D p) (h2 : D p ≤ 57) : body D L g p = ((strAt D L p).1, (strAt D L p).2.1) := by
  unfold body; rw [if_neg (by omega), if_neg (by omega), if_neg (by omega), if_neg (by omega), if_pos ⟨h1, h2⟩]
theorem bodyP_int {g : Option (Nat → Nat × Option Nat)} {p : Nat} (h : p < L) (h1 : D p = 105) : body D L g p = ((intAt D L (p + 1)).1, (intAt D L (p + 1)).2.1) := by
  unfold body; rw [if_neg (by omega), if_pos h1]

/-- "0:" -/
theorem body_empty {g : Option (Nat → Nat × Option Nat)} {p : Nat} (h : Has D p [48, 58]) (hL : p + 2 ≤ L) : body D L g p = (p + 2, none) := by
  obtain ⟨h1, h2, _⟩ := h
  rw [bodyP_end (by omega) (by omega) (by omega), strAt_small (m := 0) (by omega) (by simpa using h1) h2 (by omega)]

theorem body_genInt {g : Option (Nat → Nat × Option Nat)} {p : Nat} {v : Int} (h0 : -32 ≤ v) (h1 : v ≤ 31) (h : Has D p (105 :: (genInt v ++ [101]))) (hL : p + (genInt v).length + 2 ≤ L) : body D L g p = (p + (genInt v).length + 2, none) := by
  obtain ⟨h2, h3⟩ := h
  have he := endOf_gen h0 h1 h3 (show p + 1 + (genInt v).length < L by omega)
  have hp := pInt_gen h0 h1 (Has.app.1 h3).1
  rw [bodyP_int (by omega) h2]
  unfold intAt
  rw [he, if_pos (by omega), show p + 1 + (genInt v).length - (p + 1) = (genInt v).length by omega, if_pos hp]
  simp
  omega

theorem body_genStr {g : Option (Nat → Nat × Option Nat)} {p m : Nat} (hm : m ≤ 9) (h : Has D p ((48 + (m : Int)) :: 58 :: List.replicate m 120)) (hL : p + 2 + m ≤ L) : body D L g p = (p + 2 + m, none) := by
  obtain ⟨h1, h2, _⟩ := h
  rw [bodyP_end (by omega) (by omega) (by omega), strAt_small hm h1 h2 hL]

/-- The items of a list. -/
theorem genLoop_list (g : Nat → List Int × Nat) (G : Nat → Nat × Option Nat) (hg : ∀ i p, Has D p (g i).1 → p + (g i).1.length ≤ L → G p = (p + (g i).1.length, none) ∧ D p ≠ 101 ∧ 1 ≤ (g i).1.length) (m : Nat) :
    ∀ k i p f, Has D p ((genLoop g false m k i).1 ++ [101]) → p + (genLoop g false m k i).1.length + 1 ≤ L → (genLoop g false m k i).1.length < f → listGo D L G f p = (p + (genLoop g false m k i).1.length + 1, none) := by
  induction m with
  | zero =>
    intro k i p f h hL hf
    simp only [genLoop, List.nil_append, List.length_nil, Has] at *
    cases f with
    | zero => omega
    | succ f => rw [listGo, if_neg (fun hh => hh.2 h.1), if_pos (by omega)]
  | succ m ih =>
    intro k i p f h hL hf
    simp only [genLoop, genKey, Bool.false_eq_true, if_false, List.nil_append, List.append_assoc, List.length_append] at *
    have h' := Has.app.1 h
    obtain ⟨e1, e2, e3⟩ := hg i p h'.1 (by omega)
    cases f with
    | zero => omega
    | succ f =>
      rw [listGo, if_pos ⟨by omega, e2⟩, e1]
      simp only
      rw [ih (k + 1) (g i).2 (p + (g i).1.length) f h'.2 (by omega) (by omega)]
      congr 1
      omega

/-- The key number k as a string. -/
def kstr (k : Nat) : ByteArray := strOfNums (List.replicate k 107)

theorem strOf_rep {p k : Nat} (h : Has D p (List.replicate k 107)) : strOf D p k = kstr k := by
  have key : ∀ (k p : Nat), Has D p (List.replicate k 107) → ∀ j, j < k → D (p + j) = 107 := by
    intro k
    induction k with
    | zero => intro p _ j hj; omega
    | succ k ih =>
      intro p h j hj
      rw [List.replicate_succ] at h
      cases j with
      | zero => exact h.1
      | succ j =>
        have := ih (p + 1) h.2 j (by omega)
        rw [show p + (j + 1) = p + 1 + j by omega]; exact this
  unfold strOf kstr
  congr 1
  apply List.ext_getElem
  · simp [numsAt]
  · intro j h1 h2
    simp [numsAt] at h1 ⊢
    exact key k p h j h1

def prevOf (k : Nat) : Option ByteArray := if k = 0 then none else some (kstr k)

theorem keyBad_k {k : Nat} (h : k < 3) : keyBad (prevOf k) (kstr (k + 1)) = false := by
  match k, h with
  | 0, _ => rfl
  | 1, _ => decide +kernel
  | 2, _ => decide +kernel

/-- The entries of a dictionary. -/
theorem genLoop_dict (g : Nat → List Int × Nat) (G : Nat → Nat × Option Nat) (hg : ∀ i p, Has D p (g i).1 → p + (g i).1.length ≤ L → G p = (p + (g i).1.length, none) ∧ D p ≠ 101 ∧ 1 ≤ (g i).1.length) (m : Nat) :
    ∀ k i p f, k + m ≤ 3 → Has D p ((genLoop g true m k i).1 ++ [101]) → p + (genLoop g true m k i).1.length + 1 ≤ L → (genLoop g true m k i).1.length < f → dictGo D L G f (prevOf k) p = (p + (genLoop g true m k i).1.length + 1, none) := by
  induction m with
  | zero =>
    intro k i p f _ h hL hf
    simp only [genLoop, List.nil_append, List.length_nil, Has] at *
    cases f with
    | zero => omega
    | succ f => rw [dictGo, if_neg (fun hh => hh.2 h.1), if_pos (by omega)]
  | succ m ih =>
    intro k i p f hk h hL hf
    simp only [genLoop, genKey, if_true, List.append_assoc, List.length_append, List.cons_append, List.length_cons, List.length_replicate] at *
    obtain ⟨h1, h2, h3⟩ := h
    have h3' := Has.app.1 h3
    simp only [List.length_replicate] at h3'
    have h4 := Has.app.1 h3'.2
    have hs := strAt_small (D := D) (L := L) (p := p) (m := k + 1) (by omega) (by rw [h1]; simp; omega) h2 (by omega)
    have hks : strOf D (p + 2 + (k + 1) - (k + 1)) (k + 1) = kstr (k + 1) := by
      rw [show p + 2 + (k + 1) - (k + 1) = p + 1 + 1 by omega]; exact strOf_rep h3'.1
    have hpos : p + 1 + 1 + (k + 1) = p + 2 + (k + 1) := by omega
    rw [hpos] at h4
    obtain ⟨e1, e2, e3⟩ := hg i (p + 2 + (k + 1)) h4.1 (by omega)
    cases f with
    | zero => omega
    | succ f =>
      rw [dictGo, if_pos ⟨by omega, by omega⟩, hs]
      simp only
      rw [hks, if_neg (by rw [keyBad_k (by omega)]; decide), e1]
      simp only
      have hp1 : some (kstr (k + 1)) = prevOf (k + 1) := by unfold prevOf; rw [if_neg (by omega)]
      rw [hp1, ih (k + 1) (g i).2 (p + 2 + (k + 1) + (g i).1.length) f (by omega) h4.2 (by omega) (by omega)]
      congr 1
      omega

theorem genBody_parse (S : Nat → Int) (n : Nat) (hS : ∀ i, i < n → 0 ≤ S i ∧ S i ≤ 255) (g : Option (Nat → List Int × Nat)) (G : Option (Nat → Nat × Option Nat))
    (hG : ∀ f, g = some f → ∃ F, G = some F ∧ ∀ i p, Has D p (f i).1 → p + (f i).1.length ≤ L → F p = (p + (f i).1.length, none) ∧ D p ≠ 101 ∧ 1 ≤ (f i).1.length) :
    ∀ i p, Has D p (genBody S n g i).1 → p + (genBody S n g i).1.length ≤ L → body D L G p = (p + (genBody S n g i).1.length, none) ∧ D p ≠ 101 ∧ 1 ≤ (genBody S n g i).1.length := by
  intro i p h hL
  unfold genBody at *
  by_cases hi : n ≤ i
  · simp only [hi, if_true] at *
    exact ⟨body_empty h hL, by have := h.1; omega, by simp⟩
  · have hs := hS i (by omega)
    simp only [hi, if_false] at *
    by_cases c0 : S i % 4 = 0
    · simp only [c0, if_true, List.length_cons, List.length_append, List.length_nil] at *
      refine ⟨?_, by have := h.1; omega, by omega⟩
      rw [body_genInt (by omega) (by omega) h (by omega), show p + ((genInt (S i / 4 - 32)).length + (0 + 1) + 1) = p + (genInt (S i / 4 - 32)).length + 2 by omega]
    · simp only [c0, if_false] at *
      by_cases c1 : S i % 4 = 1
      · simp only [c1, if_true, List.length_cons, List.length_replicate] at *
        have hm : ((S i / 4 % 10).toNat : Int) = S i / 4 % 10 := by omega
        refine ⟨?_, by have := h.1; omega, by omega⟩
        have h5 : Has D p ((48 + (((S i / 4 % 10).toNat : Nat) : Int)) :: 58 :: List.replicate (S i / 4 % 10).toNat 120) := by rw [hm]; exact h
        rw [body_genStr (m := (S i / 4 % 10).toNat) (by omega) h5 (by omega)]
        congr 1
        omega
      · simp only [c1, if_false] at *
        cases g with
        | none =>
          simp only at *
          exact ⟨body_empty h hL, by have := h.1; omega, by simp⟩
        | some f =>
          obtain ⟨F, rfl, hF⟩ := hG f rfl
          simp only [List.length_cons, List.length_append, List.length_nil] at *
          obtain ⟨h1, h2⟩ := h
          by_cases c3 : S i % 4 = 3
          · have hb : (S i % 4 == 3) = true := by simpa using c3
            rw [if_pos c3] at h1
            rw [hb] at h2 hL ⊢
            refine ⟨?_, by omega, by omega⟩
            have := genLoop_dict f F hF (S i / 4 % 4).toNat 0 (i + 1) (p + 1) (L + 1) (by omega) h2 (by omega) (by omega)
            unfold body
            rw [if_neg (by omega), if_neg (by omega), if_neg (by omega), if_pos h1]
            simp only
            rw [show (none : Option ByteArray) = prevOf 0 from rfl, this]
            congr 1
            omega
          · have hb : (S i % 4 == 3) = false := by simpa using c3
            rw [if_neg c3] at h1
            rw [hb] at h2 hL ⊢
            refine ⟨?_, by omega, by omega⟩
            have := genLoop_list f F hF (S i / 4 % 4).toNat 0 (i + 1) (p + 1) (L + 1) h2 (by omega) (by omega)
            unfold body
            rw [if_neg (by omega), if_neg (by omega), if_pos h1]
            simp only
            rw [this]
            congr 1
            omega

/-- What the generator makes is read to its end. -/
theorem gen_parse (S : Nat → Int) (n : Nat) (hS : ∀ i, i < n → 0 ≤ S i ∧ S i ≤ 255) (k : Nat) :
    ∀ i p, Has D p (gen S n k i).1 → p + (gen S n k i).1.length ≤ L → parse D L (60 + k) p = (p + (gen S n k i).1.length, none) ∧ D p ≠ 101 ∧ 1 ≤ (gen S n k i).1.length := by
  induction k with
  | zero => exact genBody_parse S n hS none _ (fun _ h => by cases h)
  | succ k ih => exact genBody_parse S n hS _ _ (fun f h => by cases h; exact ⟨_, rfl, ih⟩)
end
end Go.Proofs.YbulkacdeFmt
