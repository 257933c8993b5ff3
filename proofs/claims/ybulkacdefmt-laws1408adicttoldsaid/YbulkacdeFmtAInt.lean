import Derived.Test.YbulkacdeFmtBuf
import Derived.Test.YbulkacdeFmtItems
import Derived.Deep.CutBlock
import Derived.Deep.DeepCutAuto
namespace Go.Proofs.YbulkacdeFmt
open Go.RowKit

theorem Buf.below {N : Nat} {x y : World} {v : Value} {bs : List Int} (h : Buf N x v bs) (hw : Below x.heap.size x y) : Buf N y v bs := by
  obtain ⟨h1, h2⟩ := h
  refine ⟨h1, ?_⟩
  rcases h2 with h2 | ⟨g, cap, cur, hv, hg, hh, r⟩
  · exact Or.inl h2
  · exact Or.inr ⟨g, cap, cur, hv, hg, (hw.block g (Array.getElem?_eq_some_iff.1 hh).1).trans hh, r⟩

/-- The twenty bytes in which the digits are laid, from place r on. -/
def DigBuf (B : Nat) (x : World) (r : Nat) (l : List Int) : Prop := ∃ cur, x.heap[B]? = some (.cells cur 56) ∧ cur.size = 20 ∧ cur.toList.drop r = l.map (Value.int .u8)

theorem DigBuf.cell {B : Nat} {x : World} {r : Nat} {l : List Int} (h : DigBuf B x r l) {t : Nat} (ht : t < 20) : ∃ c, x.cell? ⟨B, t, none⟩ = some c := by
  obtain ⟨cur, hh, hs, _⟩ := h
  exact ⟨cur[t], by simp [World.cell?, hh, hs, ht]⟩
theorem DigBuf.fr {B : Nat} {x : World} {r : Nat} {l : List Int} (h : DigBuf B x r l) (t : Nat) : x.frozen? ⟨B, t, none⟩ = false := by
  obtain ⟨cur, hh, _⟩ := h
  simp [World.frozen?, hh]
theorem DigBuf.set {B : Nat} {x : World} {t : Nat} {l : List Int} (h : DigBuf B x (t + 1) l) (ht : t < 20) (c : Int) : DigBuf B (x.setCell ⟨B, t, none⟩ (.int .u8 c)) t (c :: l) := by
  obtain ⟨cur, hh, hs, hd⟩ := h
  refine ⟨cur.setIfInBounds t (.int .u8 c), ?_, by simp [hs], ?_⟩
  · simp [World.setCell, Array.getElem?_modify, hh]
  · rw [Array.toList_setIfInBounds, List.drop_eq_getElem_cons (by simp [hs]; omega)]
    simp only [List.getElem_set_self, List.map_cons]
    congr 1
    rw [List.drop_set_of_lt (by omega)]
    exact hd
theorem DigBuf.src {B : Nat} {x : World} {t : Nat} {l : List Int} (h : DigBuf B x t l) : ∀ j u, (l.map (Value.int .u8))[j]? = some u → x.cell? ((⟨B, t, none⟩ : Addr).add j) = some u := by
  obtain ⟨cur, hh, hs, hd⟩ := h
  intro j u hj
  rw [Go.WideShapes.add_plain]
  rw [← hd, List.getElem?_drop] at hj
  simpa [World.cell?, hh] using hj
theorem DigBuf.len {B : Nat} {x : World} {t : Nat} {l : List Int} (h : DigBuf B x t l) : l.length = 20 - t := by
  obtain ⟨cur, hh, hs, hd⟩ := h
  have := congrArg List.length hd
  simp [hs] at this
  omega
theorem DigBuf.lt {B : Nat} {x : World} {t : Nat} {l : List Int} (h : DigBuf B x t l) : B < x.heap.size := by
  obtain ⟨cur, hh, _⟩ := h
  exact (Array.getElem?_eq_some_iff.1 hh).1
theorem DigBuf.below {B M : Nat} {x y : World} {t : Nat} {l : List Int} (h : DigBuf B x t l) (hw : Below M x y) (hB : B < M) : DigBuf B y t l := by
  obtain ⟨cur, hh, r⟩ := h
  exact ⟨cur, (hw.block B hB).trans hh, r⟩

theorem digs_small {f u : Nat} (h : u < 10) : digs f u = [48 + (u : Int)] := by
  cases f with
  | zero => simp [digs]; omega
  | succ f => rw [digs, if_pos h]
theorem digs_big {f u : Nat} (h : 10 ≤ u) : digs (f + 1) u = digs f (u / 10) ++ [48 + ((u % 10 : Nat) : Int)] := by
  rw [digs, if_neg (by omega)]

theorem Buf.own {N : Nat} {x : World} {v : Value} {bs : List Int} (h : Buf N x v bs) : v.ownBlock ≠ some x.heap.size := by
  obtain ⟨_, h2⟩ := h
  rcases h2 with ⟨rfl, _⟩ | ⟨g, cap, cur, rfl, _, hh, _⟩
  · intro h; cases h
  · intro h
    have := (Array.getElem?_eq_some_iff.1 hh).1
    simp [Value.ownBlock] at h
    omega

/-- append(buf, b0, b1 ..), and every block but the buffer's own is as it was. -/
theorem wpList_app2 {ops : Array Oper} {rest : List Oper} {o : Oper} {a : Act} {Q : Exit → Act → World → Prop} (W : World) (cs : Array Value) (hg : o.guard = none) (s y : Operand)
    (hop : o.op = .call { callee := .builtin .append, args := #[s, y], argTypes := #[24, 24] }) (N : Nat) (v : Value) (bs news : List Int) (hs : a.eval s = v) (hb : Buf N W v bs)
    (hcs : cs = (news.map (Value.int .u8)).toArray) (m : Nat) (hm : m = news.length) (B : Nat) (hB : B = W.heap.size) (hy : a.eval y = .slice (some ⟨B, 0, none⟩) m m) (hsz : bs.length + m ≤ 100000000) (hN : N ≤ W.heap.size)
    (h : ∀ v' w', Buf N w' v' (bs ++ news) → Below N W w' → (∀ k, k < W.heap.size → v.ownBlock ≠ some k → w'.heap[k]? = W.heap[k]?) → wpList Ybaf.prog ops Q rest (a.put o.dst v') w') : wpList Ybaf.prog ops Q (o :: rest) a (W.alloc (.cells cs 5)) := by
  obtain ⟨i0, hi, hz0, hz1, hz2⟩ := info_parts Ybaf.infoU8
  subst hcs hm hB
  refine wpList_append_own _ hg s y 24 hop N 5 i0 (.int .u8 0) 1 1 Ybaf.underlying24 hi hz0 hz1 hz2 rfl (by decide) v bs.length (bs.map (Value.int .u8)) hs (World.ownsRow.alloc hb _) ⟨W.heap.size, 0, none⟩ news.length news.length (news.map (Value.int .u8)) hy (by simp) ?_ ?_ (by unfold maxLen; omega) (by omega) (by simp; omega) ?_
  · intro j u hj
    rw [Go.WideShapes.add_plain]
    simp only [Nat.zero_add]
    rw [World.cell?_alloc_at _ _ _ _ rfl]
    simpa using hj
  · intro u hu
    simp at hu
    obtain ⟨z, _, rfl⟩ := hu
    rfl
  · intro v' w' hown hgrow _
    refine h v' w' ?_ ?_ ?_
    · show w'.ownsRow N 5 1 v' (bs ++ news).length ((bs ++ news).map (Value.int .u8))
      rw [List.length_append, List.map_append]; exact hown
    · refine Below.grown ((Below.refl N W).alloc hN _) hgrow (by simp; omega) ?_
      intro k hk
      obtain ⟨_, h2⟩ := hb
      rcases h2 with ⟨rfl, _⟩ | ⟨g, cap, cur, rfl, hg', _⟩
      · cases hk
      · simp [Value.ownBlock] at hk; omega
    · intro k hk hne
      rw [hgrow.block k (by simp; omega) (fun e => hne e.symm)]
      show (W.heap.push _)[k]? = _
      rw [Array.getElem?_push_lt hk, Array.getElem?_eq_getElem hk]

theorem Ybaf.underlying56 : Ybaf.prog.underlying 56 = some (.array 20 5) := by kernel_rfl

theorem run_tail (B t : Nat) (ht : t ≤ 19) (w : World) : (Instr.sliceAt 56 (.pointer (some ⟨B, 0, none⟩)) (some (.int .i64 t)) none none).run Ybaf.prog w = .ok (.slice (some ⟨B, t, none⟩) (20 - t) (20 - t)) w := by
  have hz : ∀ w, (sizeOf 5).run Ybaf.prog w = .ok 1 w := fun w => by simp [sizeOf]; rfl
  have h2 : ¬ 20 = t := by omega
  have hb : ∀ w, (Instr.sliceBound (.int .i64 t) 20 .sliceB).run Ybaf.prog w = .ok t w := fun w => by
    have := run_sliceBound (P := Ybaf.prog) w .i64 (t : Int) 20 .sliceB (by omega) (by omega)
    simpa using this
  simp [Instr.sliceAt, Instr.sureAddr, run_underlying Ybaf.underlying56, Instr.sliceBounds, hb, hz, h2, Go.WideShapes.add_plain]

set_option maxHeartbeats 1000000 in
theorem aint_any (N : Nat) (x : World) (v : Value) (bs : List Int) (n : Int) (h0 : -9223372036854775808 ≤ n) (h1 : n ≤ 9223372036854775807) (hb : Buf N x v bs) (hlen : bs.length ≤ 50000000) (hN : N ≤ x.heap.size) :
    Calls Ybaf.prog 10 #[v, .int .i64 n] x fun e y => ∃ v', e = .returned v' ∧ Buf N y v' (bs ++ dec n) ∧ Below N x y := by
  have HB := hide hb
  clear hb
  obtain ⟨U, hU⟩ : ∃ U, U = n.natAbs := ⟨_, rfl⟩
  have HU := hide hU
  have hU2 : U ≤ 9223372036854775808 := by omega
  have hst : DigBuf x.heap.size (x.alloc (.cells #[.int .u8 0, .int .u8 0, .int .u8 0, .int .u8 0, .int .u8 0, .int .u8 0, .int .u8 0, .int .u8 0, .int .u8 0, .int .u8 0, .int .u8 0, .int .u8 0, .int .u8 0, .int .u8 0, .int .u8 0, .int .u8 0, .int .u8 0, .int .u8 0, .int .u8 0, .int .u8 0] 56)) 20 [] :=
    ⟨_, by show (x.heap.push _)[x.heap.size]? = _; rw [Array.getElem?_push_size], rfl, rfl⟩
  have HST := hide hst
  have hpow : U < 10 ^ 20 := by omega
  have HPW := hide hpow
  clear hst hpow
  by_cases hn : n < 0
  · have hn1 : -9223372036854775808 ≤ -(n + 1) := by omega
    have hn2 : -(n + 1) ≤ 9223372036854775807 := by omega
    have hn3 : 0 ≤ -(n + 1) := by omega
    have hUn : -(n + 1) + 1 = (U : Int) := by omega
    have HUN := hide hUn
    clear hU hUn
    go_enter Ybaf.func10, Ybaf.ntmps10
    go_upto_block 0 with fail
    go_cut [6] (fun ti wc => ∃ t : Nat, t ≤ 19 ∧ ti = .int .i64 t ∧ DigBuf x.heap.size wc t (digs 19 U) ∧ Below x.heap.size x wc)
    case first =>
      go_wp2_with fail
      go_loopg [6, 7] 20 (fun k ti tu wr => ∃ (r u : Nat) (suf : List Int), k = r ∧ 1 ≤ r ∧ r ≤ 20 ∧ ti = .int .i64 r ∧ tu = .int .u64 u ∧ u ≤ 9223372036854775808 ∧ u < 10 ^ r ∧ DigBuf x.heap.size wr r suf ∧ Below x.heap.size x wr ∧ digs 19 U = digs (r - 1) u ++ suf)
      case atStart => exact ⟨20, U, [], rfl, by omega, by omega, rfl, congrArg (Value.int .u64) HUN.out, hU2, HPW.out, HST.out, (Below.refl _ _).alloc (Nat.le_refl _) _, by simp⟩
      case round =>
        obtain ⟨r, u, suf, rfl, hr1, hr2, rfl, rfl, hu1, hu2, hdb, hw, hd⟩ := hrel
        obtain ⟨t, rfl⟩ : ∃ t, gk = t + 1 := ⟨gk - 1, by omega⟩
        obtain ⟨c0, hc0⟩ := hdb.cell (show t < 20 by omega)
        have hf0 := hdb.fr t
        have HDB := hide hdb
        have HD := hide hd
        have HP2 := hide hu2
        clear hdb hd hu2 HST HPW
        by_cases hu10 : u < 10
        · have hq : ((u : Int) / 10 == 0) = true := by simp; omega
          go_wp2
          go_meet
          case rel =>
            refine ⟨t, by omega, rfl, ?_, hw.setCell (Nat.le_refl _) _⟩
            rw [HD.out, digs_small hu10]
            have h9 : (u : Int) % 10 = u := by omega
            rw [h9]
            exact HDB.out.set (by omega) _
        · have hq : ((u : Int) / 10 == 0) = false := by simp; omega
          have ht1 : 1 ≤ t := by
            cases t with
            | zero => exact absurd HP2.out (by simp; omega)
            | succ t => omega
          have HT := hide ht1
          clear ht1
          go_wp2
          go_roundg t
          refine ⟨t, u / 10, (48 + ((u % 10 : Nat) : Int)) :: suf, rfl, HT.out, by omega, rfl, congrArg (Value.int .u64) (by omega), by omega, ?_, ?_, hw.setCell (Nat.le_refl _) _, ?_⟩
          · have := HP2.out
            rw [Nat.pow_succ] at this
            omega
          · have h9 : 48 + ((u % 10 : Nat) : Int) = 48 + (u : Int) % 10 := by omega
            rw [h9]
            exact HDB.out.set (by omega) _
          · have h1 := HT.out
            rw [HD.out]
            obtain ⟨s, rfl⟩ : ∃ s, t = s + 1 := ⟨t - 1, by omega⟩
            show digs (s + 1) u ++ suf = _
            rw [digs_big (by omega)]
            simp
          case measure => omega
    case rest =>
      obtain ⟨t, ht, rfl, hdb, hw⟩ := hcut
      have HW := hide hw
      have HDB := hide hdb
      have htail := run_tail x.heap.size t ht
      clear hw hdb HST HPW
      have hbw := HB.out.below HW.out
      have hs0 : x.heap.size < wc.heap.size := HDB.out.lt
      have HBW := hide hbw
      clear hbw
      go_wp2_with (at_builtin; refine wpList_app2 wc _ rfl (.tmp 31) (.tmp 32) rfl N _ _ [45] rfl HBW.out rfl 1 rfl _ rfl rfl (by omega) (by omega) ?_)
      intro v1 w1 hb1 hw1 hk1
      have hs1 := hw1.size
      have hd1 : DigBuf x.heap.size w1 t (digs 19 U) := by
        obtain ⟨cur, hh, r⟩ := HDB.out
        exact ⟨cur, (hk1 x.heap.size hs0 HB.out.own).trans hh, r⟩
      have HW1 := hide hw1
      have HB1 := hide hb1
      have HD1 := hide hd1
      clear hw1 hb1 hd1 hk1
      go_wp2_with (at_builtin; refine wpList_appSrc w1 rfl (.tmp 34) (.tmp 36) rfl N _ _ (digs 19 U) rfl HB1.out ⟨x.heap.size, t, none⟩ (20 - t) (20 - t) HD1.out.len (rfl) HD1.out.src (by simp; omega) (by omega) ?_)
      intro v2 w2 hb2 hw2
      have HB2 := hide hb2
      have HW2 := hide hw2
      clear hb2 hw2
      go_wp2_with fail
      go_ret
      refine ⟨v2, rfl, ?_, ?_⟩
      · have h := HB2.out
        rw [dec, if_pos hn, ← HU.out]
        simpa using h
      · exact ((HW.out.mono hN).trans HW1.out).trans HW2.out
  · have hn3 : 0 ≤ n := by omega
    have hUn : n = (U : Int) := by omega
    have HUN := hide hUn
    clear hU hUn
    go_enter Ybaf.func10, Ybaf.ntmps10
    go_upto_block 0 with fail
    go_cut [6] (fun ti wc => ∃ t : Nat, t ≤ 19 ∧ ti = .int .i64 t ∧ DigBuf x.heap.size wc t (digs 19 U) ∧ Below x.heap.size x wc)
    case first =>
      go_wp2_with fail
      go_loopg [6, 7] 20 (fun k ti tu wr => ∃ (r u : Nat) (suf : List Int), k = r ∧ 1 ≤ r ∧ r ≤ 20 ∧ ti = .int .i64 r ∧ tu = .int .u64 u ∧ u ≤ 9223372036854775808 ∧ u < 10 ^ r ∧ DigBuf x.heap.size wr r suf ∧ Below x.heap.size x wr ∧ digs 19 U = digs (r - 1) u ++ suf)
      case atStart => exact ⟨20, U, [], rfl, by omega, by omega, rfl, congrArg (Value.int .u64) HUN.out, hU2, HPW.out, HST.out, (Below.refl _ _).alloc (Nat.le_refl _) _, by simp⟩
      case round =>
        obtain ⟨r, u, suf, rfl, hr1, hr2, rfl, rfl, hu1, hu2, hdb, hw, hd⟩ := hrel
        obtain ⟨t, rfl⟩ : ∃ t, gk = t + 1 := ⟨gk - 1, by omega⟩
        obtain ⟨c0, hc0⟩ := hdb.cell (show t < 20 by omega)
        have hf0 := hdb.fr t
        have HDB := hide hdb
        have HD := hide hd
        have HP2 := hide hu2
        clear hdb hd hu2 HST HPW
        by_cases hu10 : u < 10
        · have hq : ((u : Int) / 10 == 0) = true := by simp; omega
          go_wp2
          go_meet
          case rel =>
            refine ⟨t, by omega, rfl, ?_, hw.setCell (Nat.le_refl _) _⟩
            rw [HD.out, digs_small hu10]
            have h9 : (u : Int) % 10 = u := by omega
            rw [h9]
            exact HDB.out.set (by omega) _
        · have hq : ((u : Int) / 10 == 0) = false := by simp; omega
          have ht1 : 1 ≤ t := by
            cases t with
            | zero => exact absurd HP2.out (by simp; omega)
            | succ t => omega
          have HT := hide ht1
          clear ht1
          go_wp2
          go_roundg t
          refine ⟨t, u / 10, (48 + ((u % 10 : Nat) : Int)) :: suf, rfl, HT.out, by omega, rfl, congrArg (Value.int .u64) (by omega), by omega, ?_, ?_, hw.setCell (Nat.le_refl _) _, ?_⟩
          · have := HP2.out
            rw [Nat.pow_succ] at this
            omega
          · have h9 : 48 + ((u % 10 : Nat) : Int) = 48 + (u : Int) % 10 := by omega
            rw [h9]
            exact HDB.out.set (by omega) _
          · have h1 := HT.out
            rw [HD.out]
            obtain ⟨s, rfl⟩ : ∃ s, t = s + 1 := ⟨t - 1, by omega⟩
            show digs (s + 1) u ++ suf = _
            rw [digs_big (by omega)]
            simp
          case measure => omega
    case rest =>
      obtain ⟨t, ht, rfl, hdb, hw⟩ := hcut
      have HW := hide hw
      have HDB := hide hdb
      have htail := run_tail x.heap.size t ht
      clear hw hdb HST HPW
      have hbw := HB.out.below HW.out
      have hs0 : x.heap.size < wc.heap.size := HDB.out.lt
      have HBW := hide hbw
      clear hbw
      go_wp2_with (at_builtin; refine wpList_appSrc wc rfl (.tmp 34) (.tmp 36) rfl N _ _ (digs 19 U) rfl HBW.out ⟨x.heap.size, t, none⟩ (20 - t) (20 - t) HDB.out.len rfl HDB.out.src (by omega) (by omega) ?_)
      intro v2 w2 hb2 hw2
      have HB2 := hide hb2
      have HW2 := hide hw2
      clear hb2 hw2
      go_wp2_with fail
      go_ret
      refine ⟨v2, rfl, ?_, ?_⟩
      · have h := HB2.out
        rw [dec, if_neg (by omega), ← HU.out]
        simpa using h
      · exact (HW.out.mono hN).trans HW2.out
end Go.Proofs.YbulkacdeFmt
