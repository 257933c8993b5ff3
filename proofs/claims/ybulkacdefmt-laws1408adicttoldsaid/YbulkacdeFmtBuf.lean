import Derived.Test.YbulkacdeFmtSkip
namespace Go.Proofs.YbulkacdeFmt
open Go.RowKit

/-- v is a slice of bytes of the call's own, from block N on, and holds bs. -/
def Buf (N : Nat) (x : World) (v : Value) (bs : List Int) : Prop := x.ownsRow N 5 1 v bs.length (bs.map (Value.int .u8))

theorem Buf.nil (N : Nat) (x : World) : Buf N x (.slice none 0 0) [] := ⟨rfl, Or.inl ⟨rfl, rfl⟩⟩
theorem Buf.empty (x : World) : Buf x.heap.size (x.alloc (.cells #[] 5)) (.slice (some ⟨x.heap.size, 0, none⟩) 0 0) [] :=
  ⟨rfl, Or.inr ⟨x.heap.size, 0, #[], rfl, Nat.le_refl _, by show (x.heap.push _)[x.heap.size]? = _; rw [Array.getElem?_push_size], Nat.le_refl _, Nat.zero_le _, rfl, rfl⟩⟩
theorem Buf.alloc {N : Nat} {x : World} {v : Value} {bs : List Int} (h : Buf N x v bs) (o : Obj) : Buf N (x.alloc o) v bs := World.ownsRow.alloc h o
theorem Buf.mono {N N' : Nat} {x : World} {v : Value} {bs : List Int} (h : Buf N x v bs) (hN : N' ≤ N) : Buf N' x v bs := by
  obtain ⟨h1, h2⟩ := h
  refine ⟨h1, ?_⟩
  rcases h2 with h2 | ⟨g, cap, cur, hv, hg, r⟩
  · exact Or.inl h2
  · exact Or.inr ⟨g, cap, cur, hv, Nat.le_trans hN hg, r⟩
theorem Buf.setBelow {N : Nat} {x : World} {v : Value} {bs : List Int} (h : Buf N x v bs) {a : Addr} (ha : a.block < N) (u : Value) : Buf N (x.setCell a u) v bs := ownsRow_setCell_below h ha u
theorem Buf.slice {N : Nat} {x : World} {v : Value} {bs : List Int} (h : Buf N x v bs) : ∃ oa c, v = .slice oa bs.length c := by
  obtain ⟨_, h2⟩ := h
  rcases h2 with ⟨rfl, hn⟩ | ⟨g, cap, cur, rfl, _⟩
  · exact ⟨_, _, by rw [hn]⟩
  · exact ⟨_, _, rfl⟩

theorem Ybaf.infoU8 : (Ybaf.prog.info? 5).map (fun i => (i.zero, i.size, i.bytes)) = some (some (.int .u8 0), 1, 1) := by kernel_rfl

/-- append(buf, b0, b1 ..): the bytes have just been laid in a new block. -/
theorem wpList_app {ops : Array Oper} {rest : List Oper} {o : Oper} {a : Act} {Q : Exit → Act → World → Prop} (W : World) (cs : Array Value) (hg : o.guard = none) (s y : Operand)
    (hop : o.op = .call { callee := .builtin .append, args := #[s, y], argTypes := #[24, 24] }) (N : Nat) (v : Value) (bs news : List Int) (hs : a.eval s = v) (hb : Buf N W v bs)
    (hcs : cs = (news.map (Value.int .u8)).toArray) (m : Nat) (hm : m = news.length) (B : Nat) (hB : B = W.heap.size) (hy : a.eval y = .slice (some ⟨B, 0, none⟩) m m) (hsz : bs.length + m ≤ 100000000) (hN : N ≤ W.heap.size)
    (h : ∀ v' w', Buf N w' v' (bs ++ news) → Below N W w' → wpList Ybaf.prog ops Q rest (a.put o.dst v') w') : wpList Ybaf.prog ops Q (o :: rest) a (W.alloc (.cells cs 5)) := by
  obtain ⟨i0, hi, hz0, hz1, hz2⟩ := info_parts Ybaf.infoU8
  subst hcs hm hB
  refine wpList_append_own _ hg s y 24 hop N 5 i0 (.int .u8 0) 1 1 Ybaf.underlying24 hi hz0 hz1 hz2 rfl (by decide) v bs.length (bs.map (Value.int .u8)) hs (World.ownsRow.alloc hb _) ⟨W.heap.size, 0, none⟩ news.length news.length (news.map (Value.int .u8)) hy (by simp) ?_ ?_ (by unfold maxLen; omega) (by omega) (by simp; omega) ?_
  · intro j u hj
    rw [Go.WideShapes.add_plain]
    simp only [Nat.zero_add]
    rw [World.cell?_alloc_at _ _ _ _ rfl]
    simpa using hj
  · intro u hu
    simp at hu
    obtain ⟨z, _, rfl⟩ := hu
    rfl
  · intro v' w' hown hgrow _
    refine h v' w' ?_ ?_
    · show w'.ownsRow N 5 1 v' (bs ++ news).length ((bs ++ news).map (Value.int .u8))
      rw [List.length_append, List.map_append]; exact hown
    · refine Below.grown ((Below.refl N W).alloc hN _) hgrow (by simp; omega) ?_
      intro k hk
      obtain ⟨_, h2⟩ := hb
      rcases h2 with ⟨rfl, _⟩ | ⟨g, cap, cur, rfl, hg', _⟩
      · cases hk
      · simp [Value.ownBlock] at hk; omega

/-- append(buf, src...) -/
theorem wpList_appSrc {ops : Array Oper} {rest : List Oper} {o : Oper} {a : Act} {Q : Exit → Act → World → Prop} (W : World) (hg : o.guard = none) (s y : Operand)
    (hop : o.op = .call { callee := .builtin .append, args := #[s, y], argTypes := #[24, 24] }) (N : Nat) (v : Value) (bs news : List Int) (hs : a.eval s = v) (hb : Buf N W v bs)
    (ad : Addr) (m c : Nat) (hm : news.length = m) (hy : a.eval y = .slice (some ad) m c) (hc : ∀ j u, (news.map (Value.int .u8))[j]? = some u → W.cell? (ad.add j) = some u) (hsz : bs.length + m ≤ 100000000) (hN : N ≤ W.heap.size)
    (h : ∀ v' w', Buf N w' v' (bs ++ news) → Below N W w' → wpList Ybaf.prog ops Q rest (a.put o.dst v') w') : wpList Ybaf.prog ops Q (o :: rest) a W := by
  obtain ⟨i0, hi, hz0, hz1, hz2⟩ := info_parts Ybaf.infoU8
  subst hm
  refine wpList_append_own _ hg s y 24 hop N 5 i0 (.int .u8 0) 1 1 Ybaf.underlying24 hi hz0 hz1 hz2 rfl (by decide) v bs.length (bs.map (Value.int .u8)) hs hb ad news.length c (news.map (Value.int .u8)) hy (by simp) hc ?_ (by unfold maxLen; omega) (by omega) hN ?_
  · intro u hu
    simp at hu
    obtain ⟨z, _, rfl⟩ := hu
    rfl
  · intro v' w' hown hgrow _
    refine h v' w' ?_ ?_
    · show w'.ownsRow N 5 1 v' (bs ++ news).length ((bs ++ news).map (Value.int .u8))
      rw [List.length_append, List.map_append]; exact hown
    · refine Below.grown (Below.refl N W) hgrow hN ?_
      intro k hk
      obtain ⟨_, h2⟩ := hb
      rcases h2 with ⟨rfl, _⟩ | ⟨g, cap, cur, rfl, hg', _⟩
      · cases hk
      · simp [Value.ownBlock] at hk; omega

end Go.Proofs.YbulkacdeFmt
