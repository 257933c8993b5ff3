import Derived.Test.YbulkacdeFmtADictPlain
namespace Go.Proofs.YbulkacdeFmt
open Go.RowKit

section
variable {w : World} {b ab ao L cap : Nat} {D : Nat → Int}

set_option maxHeartbeats 400000 in
/-- value at a flat dictionary: what it gathers. -/
theorem value_ents (A : Nat → Int) (n : Nat) (hn : n ≤ 1024) (hA : ∀ i, i < n → -9223372036854775808 ≤ A i ∧ A i ≤ 9223372036854775807) (hne : ab ≠ b) (hL : L ≤ 100000000) (hcap : L ≤ cap) (hD : ∀ i, i < L → 0 ≤ D i ∧ D i ≤ 255)
    (hlen : L = (ents A n).length + 2) (hhas : Has D 0 (100 :: (ents A n ++ [101]))) (hdec : Dec w b (.slice (some ⟨ab, ao, none⟩) L cap) ((0 : Nat) : Int) 0) (hby : Bytes w ab ao L D) :
    Calls Ybaf.prog 11 #[.pointer (some ⟨b, 0, none⟩)] w fun e z => e = .returned (.tuple #[.iface 39 (.map (some (w.heap.size + 1))), .nilIface]) ∧ Dec z b (.slice (some ⟨ab, ao, none⟩) L cap) L 0 ∧ MInv w b z n (mapOf A n) := by
  obtain ⟨h100, hit⟩ := hhas
  have hblt := hdec.lt
  have hgo := ents_dictGo (L := L) 99 hA hn hit (by omega) n 0 (L + 1) (by omega) (by simp [ents]; omega)
  simp only [ents, List.length_nil, Nat.add_zero, Nat.zero_add, prevKey] at hgo
  refine value_dict 0 (by omega) h100 _ hdec hby fun m => ?_
  refine (dict_any (B := w.heap.size) (parse D L 99) (fun q x => ∃ j, MInv w b x j (mapOf A j) ∧ j ≤ n ∧ q = 1 + (ents A j).length) (fun x => Turn b w x) 22 #[.pointer (some ⟨w.heap.size, 0, none⟩), .pointer (some ⟨w.heap.size + 1 + 1, 0, none⟩)] 0 hne hL hcap hD (by omega) (by omega) (by omega) (parse_bounds D L 99)
    (fun _ _ _ ⟨j, h, hq⟩ t => ⟨j, h.go t, hq⟩) (fun _ _ ⟨_, h, _⟩ => h.turn) (fun _ _ h t => h.trans t) (fun _ _ ⟨_, h, _⟩ => hby.turn h.turn hne) (fun _ _ ⟨_, h, _⟩ => h.turn.size) hblt ?_ Ybaf.enter22 ((((hdec.alloc _).drewN m).alloc _).alloc _) ⟨0, MInv.start w b m hblt, Nat.zero_le _, by simp [ents]⟩).mono ?_
  · rintro q x a c _ hq hq101 hsn ha ⟨j, hinv, hj, rfl⟩ hdx
    have hjl : j < n := by
      rcases Nat.lt_or_ge j n with h | h
      · exact h
      · exfalso
        have hjl : j = n := by omega
        rw [hjl] at hq101
        exact hq101 (Has.app.1 hit).2.1
    obtain ⟨he, hl1, hl2⟩ := has_ent (A := A) (n := n) hjl hit
    simp only [Nat.zero_add] at he
    obtain ⟨hs, hk, _, hv⟩ := ent_key (L := L) he (by omega)
    have hl := ent_length j (A j)
    have hel : (ent j (A j)).length = 4 + (enc (.inl (A j))).length := by simp [ent]; omega
    have hib := item_body (D := D) (L := L) (it := .inl (A j)) (hA j hjl) hv (by omega) none
    have hp := item_parse (D := D) (L := L) (it := .inl (A j)) (hA j hjl) hv (by omega) 99
    have hlj := ents_length (A := A) j
    rw [hs] at hsn ha hdx ⊢
    refine (value2_any a (1 + (ents A j).length + 4 - 2) 2 c j (mapOf A j) _ (VLeaf D L (1 + (ents A j).length + 4)) hinv (by omega) hL hne (hby.turn hinv.turn hne) (by omega) ha (value_any hne hL hcap hD 99 x (1 + (ents A j).length + 4) (by omega) (by omega) (Dec.castD rfl (by omega) hdx) (hby.turn hinv.turn hne))).mono ?_
    rintro e z ⟨v, u, rfl, herr, hdz, hleaf, hinv'⟩
    refine ⟨u, rfl, herr.mono hinv.turn.size, Dec.castD rfl (by omega) hdz, fun _ => ⟨j + 1, ?_, by omega, ?_⟩, hinv'.turn⟩
    · rw [hib.2.2.2.2.2 v hleaf, show 1 + (ents A j).length + 4 - 2 = 1 + (ents A j).length + 2 by omega, hk] at hinv'
      exact hinv'
    · rw [hp]
      simp only
      omega
  · rintro e z ⟨u, rfl, herr, hdz, hgood, hE⟩
    simp only [Nat.zero_add] at herr hdz hgood
    rw [hgo] at herr hdz hgood
    obtain rfl : u = .nilIface := herr
    obtain ⟨q, hq, j, hinv, hj, hqj⟩ := hgood rfl
    have hjl : j = n := by
      rcases Nat.lt_or_ge j n with h | h
      · exfalso
        have h1 := has_ent (A := A) (n := n) h hit
        have h2 := ent_length j (A j)
        simp only at hq
        omega
      · omega
    rw [hjl] at hinv
    exact ⟨_, rfl, Or.inl ⟨rfl, _, cell_of_one hinv.mv, rfl, Dec.castD (by simp only; omega) rfl hdz, hinv⟩⟩
end
end Go.Proofs.YbulkacdeFmt
