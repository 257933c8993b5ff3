import Derived.Test.YbulkacdeFmtGen
import Derived.Deep.LoopGhost
namespace Go.Proofs.YbulkacdeFmt
open Go.RowKit

/-- While the generator runs: its place in the script lies in block N, its text is a slice of its own, the script is where it was. -/
structure GSt (N sb sa n : Nat) (S : Nat → Int) (x : World) (i : Nat) (v : Value) (bs : List Int) : Prop where
  iv : x.heap[N]? = some (.cells #[.int .i64 i] 3)
  buf : Buf (N + 1) x v bs
  src : ∀ j, j < n → x.cell? ⟨sb, sa + j, none⟩ = some (.int .u8 (S j))

section
variable {N sb sa n : Nat} {S : Nat → Int} {x y : World} {i : Nat} {v v' : Value} {bs bs' : List Int}

theorem GSt.lt (h : GSt N sb sa n S x i v bs) : N < x.heap.size := (Array.getElem?_eq_some_iff.1 h.iv).1
theorem GSt.app (h : GSt N sb sa n S x i v bs) (hb : Buf (N + 1) y v' bs') (hw : Below (N + 1) x y) (hsb : 0 < n → sb < N) : GSt N sb sa n S y i v' bs' :=
  ⟨(hw.block N (by omega)).trans h.iv, hb, fun j hj => (hw.cell (p := ⟨sb, sa + j, none⟩) (by have := hsb (by omega); simp; omega)).trans (h.src j hj)⟩
theorem GSt.cell (h : GSt N sb sa n S x i v bs) : x.cell? ⟨N, 0, none⟩ = some (.int .i64 i) := by simp [World.cell?, h.iv]
theorem GSt.fr (h : GSt N sb sa n S x i v bs) : x.frozen? ⟨N, 0, none⟩ = false := by simp [World.frozen?, h.iv]
theorem GSt.step (h : GSt N sb sa n S x i v bs) (hsb : sb < N) : GSt N sb sa n S (x.setCell ⟨N, 0, none⟩ (.int .i64 ((i : Int) + 1))) (i + 1) v bs := by
  refine ⟨?_, h.buf.setBelow (by simp) _, fun j hj => ?_⟩
  · have : ((i + 1 : Nat) : Int) = (i : Int) + 1 := by omega
    rw [this]
    simp [World.setCell, Array.getElem?_modify, h.iv]
  · exact (World.cell?_of_block (a := ⟨sb, sa + j, none⟩) (Below.heap_setCell _ _ _ _ (by simp; omega))).trans (h.src j hj)
end

section
variable {N sb sa n sc : Nat} {S : Nat → Int} {so : Option Addr}

set_option maxHeartbeats 400000 in
/-- At the script's end. -/
theorem gen_end (x : World) (i : Nat) (v : Value) (bs : List Int) (dp : Int) (hi : n ≤ i) (hsb : 0 < n → sb < N) (hg : GSt N sb sa n S x i v bs) (hlen : bs.length + 30 * (n - i) ≤ 100000) :
    Calls Ybaf.prog 16 #[.slice so n sc, .pointer (some ⟨N, 0, none⟩), .int .i64 dp, v] x fun e y => ∃ v', e = .returned v' ∧ GSt N sb sa n S y i v' (bs ++ [48, 58]) ∧ Below N x y := by
  have e0 := hg.cell
  have hlt := hg.lt
  have HG := hide hg
  clear hg
  go_enter Ybaf.func16, Ybaf.ntmps16
  go_wp2_with (at_builtin; refine wpList_app x _ rfl (.tmp 22) (.tmp 23) rfl (N + 1) _ _ [48, 58] rfl HG.out.buf rfl 2 rfl _ rfl rfl (by omega) (by omega) ?_)
  intro v1 w1 hb1 hw1
  have HB1 := hide (HG.out.app hb1 hw1 hsb)
  clear hb1
  go_wp2
  go_ret
  exact ⟨_, rfl, HB1.out, hw1.mono (by omega)⟩

set_option maxHeartbeats 400000 in
/-- A leaf at the greatest depth. -/
theorem gen_flat (x : World) (i : Nat) (v : Value) (bs : List Int) (hn : n ≤ 512) (hin : i < n) (hso : so = some ⟨sb, sa, none⟩) (hsb : sb < N) (hS : 0 ≤ S i ∧ S i ≤ 255) (hc : 2 ≤ S i % 4) (hg : GSt N sb sa n S x i v bs) (hlen : bs.length + 30 * (n - i) ≤ 100000) :
    Calls Ybaf.prog 16 #[.slice so n sc, .pointer (some ⟨N, 0, none⟩), .int .i64 40, v] x fun e y => ∃ v', e = .returned v' ∧ GSt N sb sa n S y (i + 1) v' (bs ++ [48, 58]) ∧ Below N x y := by
  subst hso
  have e0 := hg.cell
  have f0 := hg.fr
  have hlt := hg.lt
  have es := hg.src i hin
  have hne : ¬ sb = N := by omega
  have HG := hide (hg.step hsb)
  have k0 : (S i % 4 == 0) = false := by simp; omega
  have k1 : (S i % 4 == 1) = false := by simp; omega
  clear hg
  go_enter Ybaf.func16, Ybaf.ntmps16
  go_wp2_with (at_builtin; refine wpList_app (x.setCell ⟨N, 0, none⟩ (.int .i64 ((i : Int) + 1))) _ rfl (.tmp 41) (.tmp 42) rfl (N + 1) _ _ [48, 58] rfl HG.out.buf rfl 2 rfl x.heap.size (by simp) rfl (by omega) (by simp; omega) ?_)
  intro v1 w1 hb1 hw1
  have HB1 := hide (HG.out.app hb1 hw1 (fun _ => hsb))
  clear hb1
  go_wp2
  go_ret
  exact ⟨_, rfl, HB1.out, ((Below.refl N x).setCell (by simp) _).trans (hw1.mono (by omega))⟩

set_option maxHeartbeats 400000 in
/-- An integer. -/
theorem gen_int (x : World) (i : Nat) (v : Value) (bs : List Int) (dp : Int) (hn : n ≤ 512) (hin : i < n) (hso : so = some ⟨sb, sa, none⟩) (hsb : sb < N) (hS : 0 ≤ S i ∧ S i ≤ 255) (hc : S i % 4 = 0) (hg : GSt N sb sa n S x i v bs) (hlen : bs.length + 30 * (n - i) ≤ 100000) :
    Calls Ybaf.prog 16 #[.slice so n sc, .pointer (some ⟨N, 0, none⟩), .int .i64 dp, v] x fun e y => ∃ v', e = .returned v' ∧ GSt N sb sa n S y (i + 1) v' (bs ++ (105 :: (genInt (S i / 4 - 32) ++ [101]))) ∧ Below N x y := by
  subst hso
  have e0 := hg.cell
  have f0 := hg.fr
  have hlt := hg.lt
  have es := hg.src i hin
  have hne : ¬ sb = N := by omega
  have HG := hide (hg.step hsb)
  have k0 : (S i % 4 == 0) = true := by simpa using hc
  have hgl := genInt_length (S i / 4 - 32)
  clear hg hc
  go_enter Ybaf.func16, Ybaf.ntmps16
  go_wp2_with (at_builtin; refine wpList_app (x.setCell ⟨N, 0, none⟩ (.int .i64 ((i : Int) + 1))) _ rfl (.tmp 89) (.tmp 90) rfl (N + 1) _ _ [105] rfl HG.out.buf rfl 1 rfl x.heap.size (by simp) rfl (by omega) (by simp; omega) ?_)
  intro v1 w1 hb1 hw1
  have HB1 := hide (HG.out.app hb1 hw1 (fun _ => hsb))
  have hl1 := HB1.out.lt
  clear hb1
  go_wp2_with fail
  refine (cint_any (N + 1) w1 v1 _ (S i / 4 - 32) (by omega) (by omega) HB1.out.buf (by simp; omega) (by omega)).mono ?_
  rintro e w2 ⟨v2, rfl, hb2, hw2⟩
  have HB2 := hide (HB1.out.app hb2 hw2 (fun _ => hsb))
  have hl2 := HB2.out.lt
  clear hb2
  go_wp2_with (at_builtin; refine wpList_app w2 _ rfl (.tmp 98) (.tmp 99) rfl (N + 1) _ _ [101] rfl HB2.out.buf rfl 1 rfl _ rfl rfl (by simp; omega) (by omega) ?_)
  intro v3 w3 hb3 hw3
  have HB3 := hide (HB2.out.app hb3 hw3 (fun _ => hsb))
  clear hb3
  go_wp2
  go_ret
  refine ⟨_, rfl, ?_, ((Below.refl N x).setCell (by simp) _).trans (((hw1.trans hw2).trans hw3).mono (by omega))⟩
  have := HB3.out
  simpa using this

theorem GSt.cast {N sb sa n : Nat} {S : Nat → Int} {x : World} {i : Nat} {v : Value} {bs bs' : List Int} (h : bs = bs') (hg : GSt N sb sa n S x i v bs) : GSt N sb sa n S x i v bs' := h ▸ hg

set_option maxHeartbeats 400000 in
/-- A string. -/
theorem gen_str (x : World) (i : Nat) (v : Value) (bs : List Int) (dp : Int) (hn : n ≤ 512) (hin : i < n) (hso : so = some ⟨sb, sa, none⟩) (hsb : sb < N) (hS : 0 ≤ S i ∧ S i ≤ 255) (hc : S i % 4 = 1) (hg : GSt N sb sa n S x i v bs) (hlen : bs.length + 30 * (n - i) ≤ 100000) :
    Calls Ybaf.prog 16 #[.slice so n sc, .pointer (some ⟨N, 0, none⟩), .int .i64 dp, v] x fun e y => ∃ v', e = .returned v' ∧ GSt N sb sa n S y (i + 1) v' (bs ++ ((48 + S i / 4 % 10) :: 58 :: List.replicate (S i / 4 % 10).toNat 120)) ∧ Below N x y := by
  subst hso
  have e0 := hg.cell
  have f0 := hg.fr
  have hlt := hg.lt
  have es := hg.src i hin
  have hne : ¬ sb = N := by omega
  have HG := hide (hg.step hsb)
  have k0 : (S i % 4 == 0) = false := by simp; omega
  have k1 : (S i % 4 == 1) = true := by simpa using hc
  obtain ⟨m, hm⟩ : ∃ m : Nat, S i / 4 % 10 = m := ⟨(S i / 4 % 10).toNat, by omega⟩
  have hm9 : m ≤ 9 := by omega
  rw [hm]
  clear hg hc
  go_enter Ybaf.func16, Ybaf.ntmps16
  go_wp2_with (at_builtin; refine wpList_app (x.setCell ⟨N, 0, none⟩ (.int .i64 ((i : Int) + 1))) _ rfl (.tmp 107) (.tmp 111) rfl (N + 1) _ _ [48 + (m : Int), 58] rfl HG.out.buf rfl 2 rfl x.heap.size (by simp) rfl (by omega) (by simp; omega) ?_)
  intro v1 w1 hb1 hw1
  have HB1 := hide (HG.out.app hb1 hw1 (fun _ => hsb))
  have hw1' : Below N x w1 := ((Below.refl N x).setCell (by simp) _).trans (hw1.mono (by omega))
  clear hb1 hw1 e0 f0 es
  go_wp2
  go_loopg [3, 11] m (fun k tv tk wr => ∃ j : Nat, k = m - j ∧ j ≤ m ∧ tk = .int .i64 j ∧ GSt N sb sa n S wr (i + 1) tv (bs ++ ((48 + (m : Int)) :: 58 :: List.replicate j 120)) ∧ Below N x wr)
  case atStart => exact ⟨0, rfl, Nat.zero_le _, rfl, HB1.out, hw1'⟩
  case round =>
    obtain ⟨j, rfl, hj, rfl, hgj, hwj⟩ := hrel
    have HJ := hide hgj
    have hlj := hgj.lt
    clear hgj HB1 HG
    by_cases hjm : j < m
    · go_wp2_with (at_builtin; refine wpList_app wr _ rfl (.tmp 118) (.tmp 119) rfl (N + 1) _ _ [120] rfl HJ.out.buf rfl 1 rfl _ rfl rfl (by simp; omega) (by omega) ?_)
      intro v2 w2 hb2 hw2
      have HB2 := hide (HJ.out.app hb2 hw2 (fun _ => hsb))
      clear hb2
      go_wp2
      go_roundg (m - (j + 1))
      case measure => omega
      case rel => exact ⟨j + 1, rfl, by omega, by go_num, HB2.out.cast (by simp [List.replicate_succ']), hwj.trans (hw2.mono (by omega))⟩
    · have hjm' : j = m := by omega
      subst hjm'
      go_wp2
      go_ret
      exact ⟨_, rfl, by simpa using HJ.out, hwj⟩
end
end Go.Proofs.YbulkacdeFmt
