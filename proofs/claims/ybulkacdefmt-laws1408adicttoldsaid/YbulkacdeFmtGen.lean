import Derived.Test.YbulkacdeFmtBuf
import Derived.Test.YbulkacdeFmtGenPlain
namespace Go.Proofs.YbulkacdeFmt
open Go.RowKit

theorem Buf.cast {N : Nat} {x : World} {v : Value} {bs bs' : List Int} (h : bs = bs') (hb : Buf N x v bs) : Buf N x v bs' := h ▸ hb

set_option maxHeartbeats 400000 in
/-- zzs1408cint at a small number. -/
theorem cint_any (N : Nat) (x : World) (v : Value) (bs : List Int) (n : Int) (h0 : -32 ≤ n) (h1 : n ≤ 31) (hb : Buf N x v bs) (hlen : bs.length ≤ 200000) (hN : N ≤ x.heap.size) :
    Calls Ybaf.prog 25 #[v, .int .i64 n] x fun e y => ∃ v', e = .returned v' ∧ Buf N y v' (bs ++ genInt n) ∧ Below N x y := by
  have HB := hide hb
  clear hb
  by_cases hn : n < 0
  · obtain ⟨m, rfl⟩ : ∃ m, n = -m := ⟨-n, by omega⟩
    have hm0 : 0 < m := by omega
    have hm1 : m ≤ 32 := by omega
    by_cases ht : 10 ≤ m
    · have hG : genInt (-m) = [45, 48 + m / 10, 48 + m % 10] := by unfold genInt; rw [if_pos hn, if_pos hn, Int.neg_neg, if_pos ht]; rfl
      rw [hG]
      clear hG
      go_enter Ybaf.func25, Ybaf.ntmps25
      go_wp2_with (at_builtin; refine wpList_app x _ rfl (.tmp 7) (.tmp 8) rfl N _ _ [45] rfl HB.out rfl 1 rfl _ rfl rfl (by simp; omega) hN ?_)
      intro v1 w1 hb1 hw1
      have HB1 := hide hb1
      have hs1 : N ≤ w1.heap.size := by have := hw1.size; omega
      clear hb1
      go_wp2_with (at_builtin; refine wpList_app w1 _ rfl (.tmp 14) (.tmp 19) rfl N _ _ [48 + m / 10] rfl HB1.out rfl 1 rfl _ rfl rfl (by simp; omega) hs1 ?_)
      intro v2 w2 hb2 hw2
      have HB2 := hide hb2
      have hs2 : N ≤ w2.heap.size := by have := hw2.size; omega
      clear hb2
      go_wp2_with (at_builtin; refine wpList_app w2 _ rfl (.tmp 21) (.tmp 26) rfl N _ _ [48 + m % 10] rfl HB2.out rfl 1 rfl _ rfl rfl (by simp; omega) hs2 ?_)
      intro v3 w3 hb3 hw3
      have HB3 := hide hb3
      have hs3 : N ≤ w3.heap.size := by have := hw3.size; omega
      clear hb3
      go_wp2
      go_ret
      exact ⟨_, rfl, Buf.cast (by simp) HB3.out, (hw1.trans hw2).trans hw3⟩
    · have hG : genInt (-m) = [45, 48 + m % 10] := by unfold genInt; rw [if_pos hn, if_pos hn, Int.neg_neg, if_neg ht]; rfl
      rw [hG]
      clear hG
      go_enter Ybaf.func25, Ybaf.ntmps25
      go_wp2_with (at_builtin; refine wpList_app x _ rfl (.tmp 7) (.tmp 8) rfl N _ _ [45] rfl HB.out rfl 1 rfl _ rfl rfl (by simp; omega) hN ?_)
      intro v1 w1 hb1 hw1
      have HB1 := hide hb1
      have hs1 : N ≤ w1.heap.size := by have := hw1.size; omega
      clear hb1
      go_wp2_with (at_builtin; refine wpList_app w1 _ rfl (.tmp 21) (.tmp 26) rfl N _ _ [48 + m % 10] rfl HB1.out rfl 1 rfl _ rfl rfl (by simp; omega) hs1 ?_)
      intro v2 w2 hb2 hw2
      have HB2 := hide hb2
      have hs2 : N ≤ w2.heap.size := by have := hw2.size; omega
      clear hb2
      go_wp2
      go_ret
      exact ⟨_, rfl, Buf.cast (by simp) HB2.out, hw1.trans hw2⟩
  · by_cases ht : 10 ≤ n
    · have hG : genInt n = [48 + n / 10, 48 + n % 10] := by unfold genInt; rw [if_neg hn, if_neg hn, if_pos ht]; rfl
      rw [hG]
      clear hG
      go_enter Ybaf.func25, Ybaf.ntmps25
      go_wp2_with (at_builtin; refine wpList_app x _ rfl (.tmp 14) (.tmp 19) rfl N _ _ [48 + n / 10] rfl HB.out rfl 1 rfl _ rfl rfl (by simp; omega) hN ?_)
      intro v1 w1 hb1 hw1
      have HB1 := hide hb1
      have hs1 : N ≤ w1.heap.size := by have := hw1.size; omega
      clear hb1
      go_wp2_with (at_builtin; refine wpList_app w1 _ rfl (.tmp 21) (.tmp 26) rfl N _ _ [48 + n % 10] rfl HB1.out rfl 1 rfl _ rfl rfl (by simp; omega) hs1 ?_)
      intro v2 w2 hb2 hw2
      have HB2 := hide hb2
      have hs2 : N ≤ w2.heap.size := by have := hw2.size; omega
      clear hb2
      go_wp2
      go_ret
      exact ⟨_, rfl, Buf.cast (by simp) HB2.out, hw1.trans hw2⟩
    · have hG : genInt n = [48 + n % 10] := by unfold genInt; rw [if_neg hn, if_neg hn, if_neg ht]; rfl
      rw [hG]
      clear hG
      go_enter Ybaf.func25, Ybaf.ntmps25
      go_wp2_with (at_builtin; refine wpList_app x _ rfl (.tmp 21) (.tmp 26) rfl N _ _ [48 + n % 10] rfl HB.out rfl 1 rfl _ rfl rfl (by simp; omega) hN ?_)
      intro v1 w1 hb1 hw1
      have HB1 := hide hb1
      have hs1 : N ≤ w1.heap.size := by have := hw1.size; omega
      clear hb1
      go_wp2
      go_ret
      exact ⟨_, rfl, Buf.cast (by simp) HB1.out, hw1⟩
end Go.Proofs.YbulkacdeFmt
