import Derived.Test.YbulkacdeFmtItemList
import Derived.Test.YbulkacdeFmtAInt
import Derived.Test.YbulkacdeFmtWell
import Derived.Lib.AppendStr
namespace Go.Proofs.YbulkacdeFmt
open Go.RowKit

/-- A string's bytes as numbers. -/
def nums (s : ByteArray) : List Int := s.data.toList.map fun b => (b.toNat : Int)
theorem nums_length (s : ByteArray) : (nums s).length = s.size := by
  rw [nums, List.length_map, Array.length_toList]; rfl
theorem nums_mem {s : ByteArray} : ∀ z ∈ nums s, 0 ≤ z ∧ z ≤ 255 := by
  intro z hz
  simp only [nums, List.mem_map] at hz
  obtain ⟨b, _, rfl⟩ := hz
  have := b.toNat_lt
  omega
theorem nums_back (s : ByteArray) : strOfNums (nums s) = s := by
  have h : (strOfNums (nums s)).data.toList = s.data.toList := by
    rw [strOfNums_data, nums, List.map_map]
    conv => rhs; rw [← List.map_id s.data.toList]
    apply List.map_congr_left
    intro b _
    simp
  exact ByteArray.ext (Array.ext' h)
theorem nums_cells (s : ByteArray) : (nums s).map (Value.int .u8) = Lib.strCells s := by
  simp [nums, Lib.strCells]

/-- The items of rounds 0 to i. -/
def its (A : Nat → Int) (T : Nat → ByteArray) (n k : Nat) : Nat → List (Int ⊕ List Int)
  | 0 => []
  | i + 1 => its A T n k i ++ ((if i < n then [.inl (A i)] else []) ++ (if i < k then [.inr (nums (T i))] else []))

section
variable {A : Nat → Int} {T : Nat → ByteArray} {n k : Nat}

theorem its_length (i : Nat) : (its A T n k i).length = min i n + min i k := by
  induction i with
  | zero => simp [its]
  | succ i ih =>
    rw [its, List.length_append, ih, List.length_append]
    split <;> split <;> simp <;> omega

theorem its_ok (hA : ∀ i, i < n → -9223372036854775808 ≤ A i ∧ A i ≤ 9223372036854775807) (hT : ∀ i, i < k → (T i).size ≤ 4096) (i : Nat) : ∀ it ∈ its A T n k i, OkItem it := by
  induction i with
  | zero => intro it h; cases h
  | succ i ih =>
    intro it h
    rw [its, List.mem_append, List.mem_append] at h
    rcases h with h | h | h
    · exact ih it h
    · split at h
      · rename_i hi
        simp at h
        subst h
        exact hA i hi
      · cases h
    · split at h
      · rename_i hi
        simp at h
        subst h
        exact ⟨by rw [nums_length]; exact hT i hi, nums_mem⟩
      · cases h

theorem enc_length {it : Int ⊕ List Int} (h : OkItem it) : (enc it).length ≤ 4120 := by
  cases it with
  | inl n => have := dec_length n; simp only [enc, List.length_cons, List.length_append, List.length_nil]; omega
  | inr s => have := dec_length s.length; have := h.1; simp only [enc, List.length_cons, List.length_append]; omega

theorem encAll_length : ∀ {l : List (Int ⊕ List Int)}, (∀ it ∈ l, OkItem it) → (encAll l).length ≤ 4120 * l.length
  | [], _ => by simp [encAll]
  | it :: l, h => by
    have h1 := enc_length (h it (by simp))
    have h2 := encAll_length (l := l) (fun x hx => h x (by simp [hx]))
    rw [encAll_cons, List.length_append, List.length_cons]
    omega

theorem enc_mem {it : Int ⊕ List Int} (h : OkItem it) : ∀ z ∈ enc it, 0 ≤ z ∧ z ≤ 255 := by
  cases it with
  | inl n =>
    intro z hz
    simp only [enc, List.mem_cons, List.mem_append] at hz
    rcases hz with rfl | hz | hz
    · omega
    · have := dec_mem h.1 h.2 z hz
      omega
    · simp at hz; omega
  | inr s =>
    intro z hz
    simp only [enc, List.mem_cons, List.mem_append] at hz
    rcases hz with hz | rfl | hz
    · have h1 := h.1
      have := dec_mem (n := s.length) (by omega) (by omega) z hz
      omega
    · omega
    · exact h.2 z hz

theorem encAll_mem {l : List (Int ⊕ List Int)} (h : ∀ it ∈ l, OkItem it) : ∀ z ∈ encAll l, 0 ≤ z ∧ z ≤ 255 := by
  intro z hz
  simp only [encAll, List.mem_flatMap] at hz
  obtain ⟨it, hit, hz⟩ := hz
  exact enc_mem (h it hit) z hz

/-- What is before round i stays before. -/
theorem its_prefix {i m : Nat} (h : i ≤ m) : ∃ r, its A T n k m = its A T n k i ++ r := by
  induction m with
  | zero => exact ⟨[], by simp [Nat.le_zero.1 h]⟩
  | succ m ih =>
    rcases Nat.lt_or_ge i (m + 1) with h1 | h1
    · obtain ⟨r, hr⟩ := ih (by omega)
      exact ⟨r ++ ((if m < n then [.inl (A m)] else []) ++ (if m < k then [.inr (nums (T m))] else [])), by rw [its, hr, List.append_assoc]⟩
    · exact ⟨[], by rw [show m + 1 = i by omega]; simp⟩

theorem its_int {i m : Nat} (h : i < m) (hn : i < n) : ((its A T n k m).map itemV)[(its A T n k i).length]? = some (.iface 2 (.int .i64 (A i))) := by
  obtain ⟨r, hr⟩ := its_prefix (A := A) (T := T) (n := n) (k := k) (i := i + 1) (m := m) h
  rw [hr, its, if_pos hn]
  simp [itemV]

theorem its_str {i m : Nat} (h : i < m) (hk : i < k) : ((its A T n k m).map itemV)[(its A T n k i).length + (if i < n then 1 else 0)]? = some (.iface 9 (.string (T i))) := by
  obtain ⟨r, hr⟩ := its_prefix (A := A) (T := T) (n := n) (k := k) (i := i + 1) (m := m) h
  rw [hr, its, if_pos hk]
  split
  · rename_i hn
    rw [show its A T n k i ++ ([.inl (A i)] ++ [.inr (nums (T i))]) ++ r = (its A T n k i ++ [.inl (A i)]) ++ (.inr (nums (T i)) :: r) by simp, List.map_append, List.getElem?_append_right (by simp)]
    simp [itemV, nums_back]
  · simp [itemV, nums_back]
end

theorem Ybaf.underlying9 : Ybaf.prog.underlying 9 = some .string := by kernel_rfl

/-- append(buf, s...), s a string. -/
theorem wpList_appStr {ops : Array Oper} {rest : List Oper} {o : Oper} {a : Act} {Q : Exit → Act → World → Prop} (W : World) (hg : o.guard = none) (s y : Operand)
    (hop : o.op = .call { callee := .builtin .append, args := #[s, y], argTypes := #[24, 9] }) (N : Nat) (v : Value) (bs : List Int) (hs : a.eval s = v) (hb : Buf N W v bs)
    (t : ByteArray) (hy : a.eval y = .string t) (hsz : bs.length + t.size ≤ 100000000) (hN : N ≤ W.heap.size)
    (h : ∀ v' w', Buf N w' v' (bs ++ nums t) → Below N W w' → wpList Ybaf.prog ops Q rest (a.put o.dst v') w') : wpList Ybaf.prog ops Q (o :: rest) a W := by
  obtain ⟨i0, hi, hz0, hz1, hz2⟩ := info_parts Ybaf.infoU8
  refine Lib.wpList_append_own_string _ hg s y 24 9 hop N 5 i0 Ybaf.underlying24 Ybaf.underlying9 hi hz0 hz1 hz2 v bs.length (bs.map (Value.int .u8)) hs hb t hy (by unfold maxLen; omega) (by omega) hN ?_
  intro v' w' hown hgrow _
  refine h v' w' ?_ ?_
  · show w'.ownsRow N 5 1 v' (bs ++ nums t).length ((bs ++ nums t).map (Value.int .u8))
    rw [List.length_append, List.map_append, nums_length, nums_cells]; exact hown
  · refine Below.grown (Below.refl N W) hgrow hN ?_
    intro j hk
    obtain ⟨_, h2⟩ := hb
    rcases h2 with ⟨rfl, _⟩ | ⟨g, cap, cur, rfl, hg', _⟩
    · cases hk
    · simp [Value.ownBlock] at hk; omega

theorem Ybaf.assert33 (x : Value) (w : World) : (Instr.typeAssert (.iface 33 x) 20 33 true).run Ybaf.prog w = .ok (.tuple #[x, .bool true]) w := by kernel_rfl
theorem Ybaf.assert2 (x : Value) (w : World) : (Instr.typeAssert (.iface 2 x) 20 2 true).run Ybaf.prog w = .ok (.tuple #[x, .bool true]) w := by kernel_rfl
theorem Ybaf.assert9 (x : Value) (w : World) : (Instr.typeAssert (.iface 9 x) 20 9 true).run Ybaf.prog w = .ok (.tuple #[x, .bool true]) w := by kernel_rfl
end Go.Proofs.YbulkacdeFmt
