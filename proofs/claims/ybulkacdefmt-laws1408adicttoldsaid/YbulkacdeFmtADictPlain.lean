import Derived.Test.YbulkacdeFmtItemList
import Derived.Test.YbulkacdeFmtAInt
import Derived.Test.YbulkacdeFmtWell
import Derived.Maps.OwnSet
namespace Go.Proofs.YbulkacdeFmt
open Go.RowKit

/-- The key of entry i, as a string. -/
def keyStr (i : Nat) : ByteArray := strOfNums [((i / 256 : Nat) : Int), ((i % 256 : Nat) : Int)]
def keyLit (i : Nat) : Lit := .string (keyStr i).data.toList

theorem keyLit_key (i : Nat) : WideAt.IsKeyLit (keyLit i) := trivial

theorem keyStr_list (i : Nat) : (keyStr i).data.toList = [UInt8.ofNat (i / 256), UInt8.ofNat (i % 256)] := rfl
theorem keyStr_toList (i : Nat) : (keyStr i).toList = [UInt8.ofNat (i / 256), UInt8.ofNat (i % 256)] := by
  rw [ByteArray.toList_eq]; rfl

theorem u8_lt {a b : Nat} (hb : b < 256) (h : a ≤ b) : (UInt8.ofNat b < UInt8.ofNat a) = False := by
  simp only [eq_iff_iff, iff_false]
  intro hh
  rw [UInt8.lt_iff_toNat_lt] at hh
  simp at hh
  omega
theorem u8_ne {a b : Nat} (ha : a < 256) (hb : b < 256) (h : a ≠ b) : UInt8.ofNat a ≠ UInt8.ofNat b := by
  intro hh
  have := congrArg UInt8.toNat hh
  simp at this
  omega

theorem keyLit_ne {i j : Nat} (hi : i < 1024) (hj : j < 1024) (h : i ≠ j) : keyLit i ≠ keyLit j := by
  intro hh
  unfold keyLit at hh
  rw [keyStr_list, keyStr_list] at hh
  injection hh with hh
  injection hh with h1 h2
  injection h2 with h2 _
  rcases Nat.lt_trichotomy (i / 256) (j / 256) with h3 | h3 | h3
  · exact u8_ne (by omega) (by omega) (by omega) h1
  · exact u8_ne (by omega) (by omega) (by omega) h2
  · exact u8_ne (by omega) (by omega) (by omega) h1

def prevKey : Nat → Option ByteArray
  | 0 => none
  | i + 1 => some (keyStr i)

theorem keyBad_key {i : Nat} (h : i < 1024) : keyBad (prevKey i) (keyStr i) = false := by
  cases i with
  | zero => rfl
  | succ i =>
    show strLe (keyStr (i + 1)) (keyStr i) = false
    unfold strLe
    rw [keyStr_toList, keyStr_toList]
    by_cases h1 : i % 256 = 255
    · have e1 := u8_lt (a := i / 256) (b := (i + 1) / 256) (by omega) (by omega)
      have e2 : ¬ UInt8.ofNat ((i + 1) / 256) = UInt8.ofNat (i / 256) := u8_ne (by omega) (by omega) (by omega)
      simp [Op.bytesLess, e1, e2]
    · have e0 : (i + 1) / 256 = i / 256 := by omega
      have e1 := u8_lt (a := i % 256) (b := (i + 1) % 256) (by omega) (by omega)
      have e2 : ¬ UInt8.ofNat ((i + 1) % 256) = UInt8.ofNat (i % 256) := u8_ne (by omega) (by omega) (by omega)
      rw [e0]
      simp [Op.bytesLess, e1, e2, UInt8.lt_irrefl]

/-- The text of entry i. -/
def ent (i : Nat) (n : Int) : List Int := 50 :: 58 :: ((i / 256 : Nat) : Int) :: ((i % 256 : Nat) : Int) :: enc (.inl n)
def ents (A : Nat → Int) : Nat → List Int
  | 0 => []
  | i + 1 => ents A i ++ ent i (A i)
/-- The map that the entries make. -/
def mapOf (A : Nat → Int) : Nat → DataW Unit
  | 0 => .map []
  | i + 1 => (mapOf A i).put (keyLit i) (.lit (.int .i64 (A i)))

section
variable {A : Nat → Int} {n : Nat}

theorem mapOf_tidy (i : Nat) : Maps.Tidy (mapOf A i) := by
  induction i with
  | zero => exact Maps.tidy_empty
  | succ i ih => exact ih.put (keyLit_key i) _

theorem mapOf_has {k : Nat} (hk : k < 1024) : ∀ i, i ≤ k → Maps.has (mapOf A i) (keyLit k) = false
  | 0, _ => rfl
  | i + 1, h => by
    rw [mapOf, Maps.has_put_other (keyLit_ne hk (by omega) (by omega))]
    exact mapOf_has hk i (by omega)

theorem mapOf_size : ∀ i, i ≤ 1024 → Maps.size (mapOf A i) = i
  | 0, _ => rfl
  | i + 1, h => by
    rw [mapOf, Maps.size_put (mapOf_tidy i), mapOf_has (by omega) i (Nat.le_refl _), mapOf_size i (by omega)]
    rfl

theorem mapOf_at {k : Nat} (z : DataW Unit) : ∀ i, i ≤ 1024 → k < i → (mapOf A i).atKey (keyLit k) z = .lit (.int .i64 (A k))
  | 0, _, h => by omega
  | i + 1, h, hk => by
    rcases Nat.lt_or_ge k i with h1 | h1
    · rw [mapOf, Maps.atKey_put_other (keyLit_ne (by omega) (by omega) (by omega))]
      exact mapOf_at z i (by omega) h1
    · obtain rfl : k = i := by omega
      rw [mapOf, Maps.atKey_put_same (mapOf_tidy k).isMap (keyLit_key k)]

theorem ent_length (i : Nat) (n : Int) : 7 ≤ (ent i n).length ∧ (ent i n).length ≤ 27 := by
  have := dec_length n
  simp only [ent, enc, List.length_cons, List.length_append, List.length_nil]
  omega
theorem ents_length (i : Nat) : (ents A i).length ≤ 27 * i := by
  induction i with
  | zero => simp [ents]
  | succ i ih =>
    have := ent_length i (A i)
    rw [ents, List.length_append]
    omega
theorem ents_many (i : Nat) : i ≤ (ents A i).length := by
  induction i with
  | zero => simp [ents]
  | succ i ih =>
    have := ent_length i (A i)
    rw [ents, List.length_append]
    omega
theorem ents_mem (hA : ∀ i, i < n → -9223372036854775808 ≤ A i ∧ A i ≤ 9223372036854775807) : ∀ i, i ≤ n → i ≤ 1024 → ∀ z ∈ ents A i, 0 ≤ z ∧ z ≤ 255
  | 0, _, _, z, h => by cases h
  | i + 1, h1, h2, z, h => by
    rw [ents, List.mem_append] at h
    rcases h with h | h
    · exact ents_mem hA i (by omega) (by omega) z h
    · simp only [ent, enc, List.mem_cons, List.mem_append] at h
      rcases h with rfl | rfl | rfl | rfl | rfl | h | h
      all_goals first | omega | skip
      · have := dec_mem (hA i (by omega)).1 (hA i (by omega)).2 z h
        omega
      · simp at h; omega

theorem ents_prefix {i m : Nat} (h : i ≤ m) : ∃ r, ents A m = ents A i ++ r := by
  induction m with
  | zero => exact ⟨[], by simp [Nat.le_zero.1 h]⟩
  | succ m ih =>
    rcases Nat.lt_or_ge i (m + 1) with h1 | h1
    · obtain ⟨r, hr⟩ := ih (by omega)
      exact ⟨r ++ ent m (A m), by rw [ents, hr, List.append_assoc]⟩
    · exact ⟨[], by rw [show m + 1 = i by omega]; simp⟩

section
variable {D : Nat → Int} {L : Nat}

/-- Where entry i begins. -/
theorem has_ent {i : Nat} (hi : i < n) {p : Nat} (h : Has D p (ents A n ++ [101])) :
    Has D (p + (ents A i).length) (ent i (A i)) ∧ (ents A (i + 1)).length = (ents A i).length + (ent i (A i)).length ∧ (ents A (i + 1)).length ≤ (ents A n).length := by
  obtain ⟨r, hr⟩ := ents_prefix (A := A) (i := i + 1) (m := n) hi
  refine ⟨?_, by rw [ents, List.length_append], by rw [hr, List.length_append]; omega⟩
  rw [hr, ents] at h
  exact (Has.app.1 (Has.app.1 (Has.app.1 h).1).1).2

theorem ent_key {i p : Nat} {n : Int} (h : Has D p (ent i n)) (hL : p + (ent i n).length ≤ L) : strAt D L p = (p + 4, none, 2) ∧ strOf D (p + 2) 2 = keyStr i ∧ D p ≠ 101 ∧ Has D (p + 4) (enc (.inl n)) := by
  have hl := ent_length i n
  obtain ⟨h1, h2, h3, h4, h5⟩ := h
  have hd : dec ((2 : Nat) : Int) = [50] := by decide
  have hs := strAt_dec (D := D) (L := L) (m := 2) (p := p) (by omega) (by rw [hd]; exact ⟨h1, h2, trivial⟩) (by rw [hd]; simp; omega)
  refine ⟨?_, ?_, by omega, h5⟩
  · rw [hs, hd]; rfl
  · unfold strOf keyStr
    rw [show (2 : Nat) = [((i / 256 : Nat) : Int), ((i % 256 : Nat) : Int)].length from rfl, nums_of_has]
    exact ⟨h3, h4, trivial⟩

theorem ents_dictGo (k : Nat) (hA : ∀ i, i < n → -9223372036854775808 ≤ A i ∧ A i ≤ 9223372036854775807) (hn : n ≤ 1024) {p : Nat} (h : Has D p (ents A n ++ [101])) (hL : p + (ents A n).length + 1 ≤ L) (m : Nat) :
    ∀ i f, i + m = n → (ents A n).length - (ents A i).length < f → dictGo D L (parse D L k) f (prevKey i) (p + (ents A i).length) = (p + (ents A n).length + 1, none) := by
  induction m with
  | zero =>
    intro i f hi hf
    obtain rfl : i = n := by omega
    have h1 : D (p + (ents A i).length) = 101 := (Has.app.1 h).2.1
    cases f with
    | zero => omega
    | succ f => rw [dictGo, if_neg (fun hh => hh.2 h1), if_pos (by omega)]
  | succ m ih =>
    intro i f hi hf
    obtain ⟨he, hl1, hl2⟩ := has_ent (A := A) (n := n) (i := i) (by omega) h
    obtain ⟨hs, hk, hne, hv⟩ := ent_key (L := L) he (by omega)
    have hl := ent_length i (A i)
    have hel : (ent i (A i)).length = 4 + (enc (.inl (A i))).length := by simp [ent]; omega
    cases f with
    | zero => omega
    | succ f =>
      have hp := item_parse (D := D) (L := L) (it := .inl (A i)) (hA i (by omega)) hv (by omega) k
      rw [dictGo, if_pos ⟨by omega, hne⟩, hs]
      simp only
      rw [show p + (ents A i).length + 4 - 2 = p + (ents A i).length + 2 by omega, hk, if_neg (by rw [keyBad_key (by omega)]; decide), hp]
      simp only
      rw [show p + (ents A i).length + 4 + (enc (.inl (A i))).length = p + (ents A (i + 1)).length by omega]
      exact ih (i + 1) f (by omega) (by omega)
end
end

end Go.Proofs.YbulkacdeFmt
