import Derived.Test.YbulkacdeFmtItems
import Derived.Test.YbulkacdeFmtTop
namespace Go.Proofs.YbulkacdeFmt
open Go.RowKit

/-- The text of an item: an integer, or a byte string. -/
def enc : Int ⊕ List Int → List Int
  | .inl n => 105 :: (dec n ++ [101])
  | .inr s => dec (s.length : Int) ++ 58 :: s

/-- The value of an item. -/
def itemV : Int ⊕ List Int → Value
  | .inl n => .iface 2 (.int .i64 n)
  | .inr s => .iface 9 (.string (strOfNums s))

def OkItem : Int ⊕ List Int → Prop
  | .inl n => -9223372036854775808 ≤ n ∧ n ≤ 9223372036854775807
  | .inr s => s.length ≤ 4096 ∧ ∀ z ∈ s, 0 ≤ z ∧ z ≤ 255

def encAll (l : List (Int ⊕ List Int)) : List Int := l.flatMap enc
theorem encAll_app (a b : List (Int ⊕ List Int)) : encAll (a ++ b) = encAll a ++ encAll b := by simp [encAll]
theorem encAll_cons (x : Int ⊕ List Int) (l : List (Int ⊕ List Int)) : encAll (x :: l) = enc x ++ encAll l := by simp [encAll]
theorem encAll_one (x : Int ⊕ List Int) : encAll [x] = enc x := by simp [encAll]

section
variable {D : Nat → Int} {L : Nat}

theorem nums_of_has {s : List Int} : ∀ {p : Nat}, Has D p s → numsAt D p s.length = s := by
  intro p h
  have key : ∀ (s : List Int) (p : Nat), Has D p s → ∀ j (hj : j < s.length), D (p + j) = s[j] := by
    intro s
    induction s with
    | nil => intro p _ j hj; simp at hj
    | cons x s ih =>
      intro p h j hj
      cases j with
      | zero => exact h.1
      | succ j =>
        have := ih (p + 1) h.2 j (by simpa using hj)
        rw [show p + (j + 1) = p + 1 + j by omega]; simpa using this
  apply List.ext_getElem
  · simp [numsAt]
  · intro j h1 h2
    simp [numsAt]
    exact key s p h j h2

theorem has_assoc {p : Nat} {a : List Int} {x : Int} {s : List Int} (h : Has D p (a ++ x :: s)) : Has D p (a ++ [x]) ∧ Has D (p + a.length + 1) s := by
  have h1 := Has.app.1 h
  exact ⟨Has.app.2 ⟨h1.1, h1.2.1, trivial⟩, h1.2.2⟩

theorem item_body {it : Int ⊕ List Int} (hok : OkItem it) {p : Nat} (h : Has D p (enc it)) (hL : p + (enc it).length ≤ L) (g : Option (Nat → Nat × Option Nat)) :
    body D L g p = (p + (enc it).length, none) ∧ D p ≠ 101 ∧ D p ≠ 108 ∧ D p ≠ 100 ∧ 1 ≤ (enc it).length ∧ ∀ v, VLeaf D L p v → v = itemV it := by
  cases it with
  | inl n =>
    obtain ⟨h1, h2⟩ := h
    simp only [enc, List.length_cons, List.length_append, List.length_nil] at *
    have hi := intAt_dec (D := D) (L := L) hok.1 hok.2 h2 (by omega)
    refine ⟨?_, by omega, by omega, by omega, by omega, fun v hv => ?_⟩
    · rw [body_int (by omega) h1, hi]
      simp; omega
    · rw [hv.2.1 (by omega) h1, hi]; rfl
  | inr s =>
    simp only [enc, List.length_cons, List.length_append] at *
    have h' := has_assoc h
    have hs := strAt_dec (D := D) (L := L) (m := s.length) (p := p) (by have := hok.1; omega) h'.1 (by omega)
    have hd : dec (s.length : Int) = digs 19 s.length := by unfold dec; rw [if_neg (by omega)]; simp
    have hf := digs_first (D := D) (p := p) 19 (u := s.length) (by have := hok.1; omega) (by rw [← hd]; exact (Has.app.1 h).1)
    refine ⟨?_, by omega, by omega, by omega, by omega, fun v hv => ?_⟩
    · rw [body_str (by omega) hf.1 hf.2, hs]
      simp; omega
    · rw [hv.2.2 (by omega) hf.1 hf.2 (by rw [hs]), hs]
      simp only [itemV, strOf]
      rw [show p + (dec (s.length : Int)).length + 1 + s.length - s.length = p + (dec (s.length : Int)).length + 1 by omega, nums_of_has h'.2]

theorem item_parse {it : Int ⊕ List Int} (hok : OkItem it) {p : Nat} (h : Has D p (enc it)) (hL : p + (enc it).length ≤ L) (k : Nat) : parse D L k p = (p + (enc it).length, none) := by
  cases k with
  | zero => exact (item_body hok h hL none).1
  | succ k => exact (item_body hok h hL _).1

theorem items_listGo (k : Nat) : ∀ (l : List (Int ⊕ List Int)) (p f : Nat), (∀ it ∈ l, OkItem it) → Has D p (encAll l ++ [101]) → p + (encAll l).length + 1 ≤ L → (encAll l).length < f → listGo D L (parse D L k) f p = (p + (encAll l).length + 1, none)
  | [], p, f, _, h, hL, hf => by
    simp only [encAll, List.flatMap_nil, List.nil_append, List.length_nil, Has] at *
    cases f with
    | zero => omega
    | succ f => rw [listGo, if_neg (fun hh => hh.2 h.1), if_pos (by omega)]
  | it :: l, p, f, hok, h, hL, hf => by
    have he : encAll (it :: l) = enc it ++ encAll l := by simp [encAll]
    rw [he, List.append_assoc] at h
    rw [he, List.length_append] at hL hf ⊢
    have h' := Has.app.1 h
    obtain ⟨_, hne, _, _, hpos, _⟩ := item_body (hok it (by simp)) h'.1 (show p + (enc it).length ≤ L by omega) none
    cases f with
    | zero => omega
    | succ f =>
      rw [listGo, if_pos ⟨by omega, hne⟩, item_parse (hok it (by simp)) h'.1 (by omega) k]
      simp only
      rw [items_listGo k l (p + (enc it).length) f (fun x hx => hok x (by simp [hx])) h'.2 (by omega) (by omega)]
      congr 1
      omega

/-- Where item number j begins. -/
theorem has_item {l : List (Int ⊕ List Int)} {j : Nat} (hj : j < l.length) {p : Nat} (h : Has D p (encAll l ++ [101])) :
    Has D (p + (encAll (l.take j)).length) (enc l[j]) ∧ (encAll (l.take (j + 1))).length = (encAll (l.take j)).length + (enc l[j]).length ∧ (encAll (l.take (j + 1))).length ≤ (encAll l).length := by
  have hl : l = l.take j ++ l[j] :: l.drop (j + 1) := by simp
  have he : encAll l = encAll (l.take j) ++ (enc l[j] ++ encAll (l.drop (j + 1))) := by
    have : encAll l = encAll (l.take j ++ l[j] :: l.drop (j + 1)) := by rw [← hl]
    rw [this, encAll_app, encAll_cons]
  have ht : encAll (l.take (j + 1)) = encAll (l.take j) ++ enc l[j] := by
    rw [List.take_succ_eq_append_getElem hj, encAll_app, encAll_one]
  refine ⟨?_, by rw [ht]; simp, by rw [ht, he]; simp⟩
  rw [he] at h
  have h1 := (Has.app.1 (Has.app.1 h).1).2
  exact (Has.app.1 h1).1
end

section
variable {w : World} {b ab ao L cap : Nat} {D : Nat → Int}

set_option maxHeartbeats 400000 in
/-- value at a flat list: what it gathers. -/
theorem value_items (l : List (Int ⊕ List Int)) (hok : ∀ it ∈ l, OkItem it) (hne : ab ≠ b) (hL : L ≤ 100000000) (hcap : L ≤ cap) (hD : ∀ i, i < L → 0 ≤ D i ∧ D i ≤ 255)
    (hlen : L = (encAll l).length + 2) (hhas : Has D 0 (108 :: (encAll l ++ [101]))) (hdec : Dec w b (.slice (some ⟨ab, ao, none⟩) L cap) ((0 : Nat) : Int) 0) (hby : Bytes w ab ao L D) :
    Calls Ybaf.prog 11 #[.pointer (some ⟨b, 0, none⟩)] w fun e z => ∃ ls, e = .returned (.tuple #[.iface 33 ls, .nilIface]) ∧ Dec z b (.slice (some ⟨ab, ao, none⟩) L cap) L 0 ∧ LInv w b z ls (l.map itemV) := by
  obtain ⟨h108, hit⟩ := hhas
  have hblt := hdec.lt
  have hgo := items_listGo (L := L) 99 l 1 (L + 1) hok hit (by omega) (by omega)
  have hcnt : ∀ j, j ≤ l.length → j ≤ (encAll (l.take j)).length := by
    intro j
    induction j with
    | zero => intro _; omega
    | succ j ih =>
      intro hj
      have h1 := has_item (l := l) (j := j) (by omega) hit
      have h2 := (item_body (L := L) (hok _ (List.getElem_mem (show j < l.length by omega))) h1.1 (by omega) none).2.2.2.2.1
      have := ih (by omega)
      omega
  refine value_list 0 (by omega) h108 _ hdec hby fun n => ?_
  refine (list_any (B := w.heap.size) (parse D L 99) (fun q x => ∃ ls j, LInv w b x ls ((l.take j).map itemV) ∧ j ≤ l.length ∧ q = 1 + (encAll (l.take j)).length) (fun x => Turn b w x) 20 #[] #[.pointer (some ⟨w.heap.size, 0, none⟩), .pointer (some ⟨w.heap.size + 1 + 1, 0, none⟩)] 0 hL hD (by omega) (by omega) (by omega) (parse_bounds D L 99)
    (fun _ _ _ ⟨ls, j, h, hq⟩ t => ⟨ls, j, h.go t, hq⟩) (fun _ _ ⟨_, _, h, _⟩ => h.turn) (fun _ _ h t => h.trans t) (fun _ _ ⟨_, _, h, _⟩ => hby.turn h.turn hne) (fun _ _ ⟨_, _, h, _⟩ => h.turn.size) hblt ?_ Ybaf.enter20 ((((hdec.alloc _).drewN n).alloc _).alloc _) ⟨_, 0, LInv.start w b n hblt, Nat.zero_le _, by simp [encAll]⟩).mono ?_
  · rintro q x _ hq hq101 ⟨ls, j, hinv, hj, rfl⟩ hdx
    have hjl : j < l.length := by
      rcases Nat.lt_or_ge j l.length with h | h
      · exact h
      · exfalso
        have hjl : j = l.length := by omega
        rw [hjl, List.take_length] at hq101
        exact hq101 (Has.app.1 hit).2.1
    have hi := has_item hjl hit
    have hib := item_body (L := L) (hok _ (List.getElem_mem hjl)) hi.1 (by omega) none
    have hp := item_parse (L := L) (hok _ (List.getElem_mem hjl)) hi.1 (by omega) 99
    have hc := hcnt j (by omega)
    refine (value1_any ls _ _ (VLeaf D L (1 + (encAll (l.take j)).length)) hinv (by simp; omega) (fun v hv => hv.1) (value_any hne hL hcap hD 99 x _ (by omega) (by omega) (Dec.castD rfl (by omega) hdx) (hby.turn hinv.turn hne))).mono ?_
    rintro e z ⟨v, u, rfl, herr, hdz, hleaf, ls', hinv'⟩
    refine ⟨u, rfl, herr.mono hinv.turn.size, Dec.castD rfl (by omega) hdz, fun _ => ⟨ls', j + 1, ?_, by omega, ?_⟩, hinv'.turn⟩
    · rw [hib.2.2.2.2.2 v hleaf] at hinv'
      rw [List.take_succ_eq_append_getElem hjl, List.map_append]
      exact hinv'
    · rw [hp, hi.2.1]
      simp only
      omega
  · rintro e z ⟨u, rfl, herr, hdz, hgood, hE⟩
    simp only [Nat.zero_add] at herr hdz hgood
    rw [hgo] at herr hdz hgood
    obtain rfl : u = .nilIface := herr
    obtain ⟨q, hq, ls, j, hinv, hj, hqj⟩ := hgood rfl
    have hjl : j = l.length := by
      rcases Nat.lt_or_ge j l.length with h | h
      · exfalso
        have hi := has_item h hit
        have := (item_body (L := L) (hok _ (List.getElem_mem h)) hi.1 (by omega) none).2.2.2.2.1
        simp only at hq
        omega
      · omega
    rw [hjl, List.take_length] at hinv
    obtain ⟨oa, m, c, rfl⟩ := ownsRow_slice hinv.own
    exact ⟨_, rfl, Or.inl ⟨rfl, oa, m, c, cell_of_one hinv.lv, _, rfl, Dec.castD (by simp only; omega) rfl hdz, hinv⟩⟩
end
end Go.Proofs.YbulkacdeFmt
