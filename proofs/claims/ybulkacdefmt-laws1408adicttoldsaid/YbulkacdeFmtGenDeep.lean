import Derived.Test.YbulkacdeFmtGenWalk
namespace Go.Proofs.YbulkacdeFmt
open Go.RowKit

theorem genLoop_take {g : Nat → List Int × Nat} {d : Bool} {m k i : Nat} (hm : 0 < m) :
    genLoop g d m k i = (genKey d k ++ (g i).1 ++ (genLoop g d (m - 1) (k + 1) (g i).2).1, (genLoop g d (m - 1) (k + 1) (g i).2).2) := by
  cases m with
  | zero => omega
  | succ m => rw [genLoop]; rfl

section
variable {N sb sa n sc : Nat} {S : Nat → Int} {so : Option Addr}

set_option maxHeartbeats 1000000 in
/-- A list. -/
theorem gen_list (g : Nat → List Int × Nat) (x : World) (i : Nat) (v : Value) (bs : List Int) (dp : Int) (hd0 : 0 ≤ dp) (hd1 : dp < 40) (hn : n ≤ 512) (hin : i < n) (hso : so = some ⟨sb, sa, none⟩) (hsb : sb < N) (hS : 0 ≤ S i ∧ S i ≤ 255) (hc : S i % 4 = 2) (hg : GSt N sb sa n S x i v bs) (hlen : bs.length + 30 * (n - i) ≤ 100000)
    (hgb : ∀ i, i ≤ (g i).2 ∧ (i ≤ n → (g i).2 ≤ n) ∧ (g i).1.length ≤ 30 * ((g i).2 - i) + 2)
    (hih : ∀ x i v bs, i ≤ n → GSt N sb sa n S x i v bs → bs.length + 30 * (n - i) ≤ 100000 → Calls Ybaf.prog 16 #[.slice so n sc, .pointer (some ⟨N, 0, none⟩), .int .i64 (dp + 1), v] x fun e y => ∃ v', e = .returned v' ∧ GSt N sb sa n S y (g i).2 v' (bs ++ (g i).1) ∧ Below N x y) :
    Calls Ybaf.prog 16 #[.slice so n sc, .pointer (some ⟨N, 0, none⟩), .int .i64 dp, v] x fun e y => ∃ v', e = .returned v' ∧ GSt N sb sa n S y (genLoop g false (S i / 4 % 4).toNat 0 (i + 1)).2 v' (bs ++ (108 :: ((genLoop g false (S i / 4 % 4).toNat 0 (i + 1)).1 ++ [101]))) ∧ Below N x y := by
  subst hso
  have e0 := hg.cell
  have f0 := hg.fr
  have hlt := hg.lt
  have es := hg.src i hin
  have hne : ¬ sb = N := by omega
  have HG := hide (hg.step hsb)
  have HI := hide hih
  have k0 : (S i % 4 == 0) = false := by simp; omega
  have k1 : (S i % 4 == 1) = false := by simp; omega
  have k3 : (S i % 4 == 3) = false := by simp; omega
  obtain ⟨m, hm⟩ : ∃ m : Nat, S i / 4 % 4 = m := ⟨(S i / 4 % 4).toNat, by omega⟩
  have hm3 : m ≤ 3 := by omega
  rw [hm]
  simp only [Int.toNat_natCast]
  clear hg hc hih
  go_enter Ybaf.func16, Ybaf.ntmps16
  go_wp2_with (at_builtin; refine wpList_app (x.setCell ⟨N, 0, none⟩ (.int .i64 ((i : Int) + 1))) _ rfl (.tmp 55) (.tmp 56) rfl (N + 1) _ _ [108] rfl HG.out.buf rfl 1 rfl x.heap.size (by simp) rfl (by omega) (by simp; omega) ?_)
  intro v1 w1 hb1 hw1
  have HB1 := hide (HG.out.app hb1 hw1 (fun _ => hsb))
  have hw1' : Below N x w1 := ((Below.refl N x).setCell (by simp) _).trans (hw1.mono (by omega))
  clear hb1 hw1 e0 f0 es
  go_wp2
  go_loopg [3, 14] m (fun q tv tk wr => ∃ (k i' : Nat) (bs' : List Int), q = m - k ∧ k ≤ m ∧ tk = .int .i64 k ∧ GSt N sb sa n S wr i' tv bs' ∧ i' ≤ n ∧ bs'.length + 30 * (n - i') + 29 ≤ 100000 + 1 + 8 * k ∧ Below N x wr ∧
    bs ++ (108 :: (genLoop g false m 0 (i + 1)).1) = bs' ++ (genLoop g false (m - k) k i').1 ∧ (genLoop g false m 0 (i + 1)).2 = (genLoop g false (m - k) k i').2)
  case atStart => exact ⟨0, i + 1, _, rfl, Nat.zero_le _, rfl, HB1.out, by omega, by simp; omega, hw1', by simp, rfl⟩
  case round =>
    obtain ⟨k, i', bs', rfl, hk, rfl, hgk, hi', hlk, hwk, hq1, hq2⟩ := hrel
    have HQ1 := hide hq1
    have HQ2 := hide hq2
    have HK := hide hgk
    have hlk' := hgk.lt
    clear hgk HB1 HG hq1 hq2
    by_cases hkm : k < m
    · have hgi := hgb i'
      go_wp2_with fail
      refine (HI.out wr i' _ bs' hi' HK.out (by omega)).mono ?_
      rintro e y ⟨v2, rfl, hg2, hw2⟩
      have HG2 := hide hg2
      clear hg2
      go_wp2
      go_roundg (m - (k + 1))
      case measure => omega
      case rel =>
        have ht := genLoop_take (g := g) (d := false) (m := m - k) (k := k) (i := i') (by omega)
        refine ⟨k + 1, (g i').2, bs' ++ (g i').1, rfl, by omega, by go_num, HG2.out, hgi.2.1 hi', by simp; omega, hwk.trans hw2, ?_, ?_⟩
        · rw [HQ1.out, ht]
          simp [genKey, Nat.sub_sub]
        · rw [HQ2.out, ht]
          simp [Nat.sub_sub]
    · have hkm' : k = m := by omega
      subst hkm'
      go_wp2_with (at_builtin; refine wpList_app wr _ rfl (.tmp 84) (.tmp 85) rfl (N + 1) _ _ [101] rfl HK.out.buf rfl 1 rfl _ rfl rfl (by omega) (by omega) ?_)
      intro v3 w3 hb3 hw3
      have HB3 := hide (HK.out.app hb3 hw3 (fun _ => hsb))
      clear hb3
      go_wp2
      go_ret
      have h1 := HQ1.out
      have h2 := HQ2.out
      rw [Nat.sub_self] at h1 h2
      simp only [genLoop, List.append_nil] at h1 h2
      refine ⟨_, rfl, ?_, hwk.trans (hw3.mono (by omega))⟩
      rw [h2]
      exact HB3.out.cast (by rw [← h1]; simp)

set_option maxHeartbeats 1000000 in
/-- A dictionary. -/
theorem gen_dict (g : Nat → List Int × Nat) (x : World) (i : Nat) (v : Value) (bs : List Int) (dp : Int) (hd0 : 0 ≤ dp) (hd1 : dp < 40) (hn : n ≤ 512) (hin : i < n) (hso : so = some ⟨sb, sa, none⟩) (hsb : sb < N) (hS : 0 ≤ S i ∧ S i ≤ 255) (hc : S i % 4 = 3) (hg : GSt N sb sa n S x i v bs) (hlen : bs.length + 30 * (n - i) ≤ 100000)
    (hgb : ∀ i, i ≤ (g i).2 ∧ (i ≤ n → (g i).2 ≤ n) ∧ (g i).1.length ≤ 30 * ((g i).2 - i) + 2)
    (hih : ∀ x i v bs, i ≤ n → GSt N sb sa n S x i v bs → bs.length + 30 * (n - i) ≤ 100000 → Calls Ybaf.prog 16 #[.slice so n sc, .pointer (some ⟨N, 0, none⟩), .int .i64 (dp + 1), v] x fun e y => ∃ v', e = .returned v' ∧ GSt N sb sa n S y (g i).2 v' (bs ++ (g i).1) ∧ Below N x y) :
    Calls Ybaf.prog 16 #[.slice so n sc, .pointer (some ⟨N, 0, none⟩), .int .i64 dp, v] x fun e y => ∃ v', e = .returned v' ∧ GSt N sb sa n S y (genLoop g true (S i / 4 % 4).toNat 0 (i + 1)).2 v' (bs ++ (100 :: ((genLoop g true (S i / 4 % 4).toNat 0 (i + 1)).1 ++ [101]))) ∧ Below N x y := by
  subst hso
  have e0 := hg.cell
  have f0 := hg.fr
  have hlt := hg.lt
  have es := hg.src i hin
  have hne : ¬ sb = N := by omega
  have HG := hide (hg.step hsb)
  have HI := hide hih
  have k0 : (S i % 4 == 0) = false := by simp; omega
  have k1 : (S i % 4 == 1) = false := by simp; omega
  have k3 : (S i % 4 == 3) = true := by simpa using hc
  obtain ⟨m, hm⟩ : ∃ m : Nat, S i / 4 % 4 = m := ⟨(S i / 4 % 4).toNat, by omega⟩
  have hm3 : m ≤ 3 := by omega
  rw [hm]
  simp only [Int.toNat_natCast]
  clear hg hc hih
  go_enter Ybaf.func16, Ybaf.ntmps16
  go_wp2_with (at_builtin; refine wpList_app (x.setCell ⟨N, 0, none⟩ (.int .i64 ((i : Int) + 1))) _ rfl (.tmp 52) (.tmp 53) rfl (N + 1) _ _ [100] rfl HG.out.buf rfl 1 rfl x.heap.size (by simp) rfl (by omega) (by simp; omega) ?_)
  intro v1 w1 hb1 hw1
  have HB1 := hide (HG.out.app hb1 hw1 (fun _ => hsb))
  have hw1' : Below N x w1 := ((Below.refl N x).setCell (by simp) _).trans (hw1.mono (by omega))
  clear hb1 hw1 e0 f0 es
  go_wp2
  go_loopg [3, 14] m (fun q tv tk wr => ∃ (k i' : Nat) (bs' : List Int), q = m - k ∧ k ≤ m ∧ tk = .int .i64 k ∧ GSt N sb sa n S wr i' tv bs' ∧ i' ≤ n ∧ bs'.length + 30 * (n - i') + 29 ≤ 100000 + 1 + 8 * k ∧ Below N x wr ∧
    bs ++ (100 :: (genLoop g true m 0 (i + 1)).1) = bs' ++ (genLoop g true (m - k) k i').1 ∧ (genLoop g true m 0 (i + 1)).2 = (genLoop g true (m - k) k i').2)
  case atStart => exact ⟨0, i + 1, _, rfl, Nat.zero_le _, rfl, HB1.out, by omega, by simp; omega, hw1', by simp, rfl⟩
  case round =>
    obtain ⟨k, i', bs', rfl, hk, rfl, hgk, hi', hlk, hwk, hq1, hq2⟩ := hrel
    have HQ1 := hide hq1
    have HQ2 := hide hq2
    have HK := hide hgk
    have hlk' := hgk.lt
    clear hgk HB1 HG hq1 hq2
    by_cases hkm : k < m
    · have hgi := hgb i'
      go_wp2_with (at_builtin; refine wpList_app wr _ rfl (.tmp 64) (.tmp 68) rfl (N + 1) _ _ [49 + (k : Int), 58] rfl HK.out.buf rfl 2 rfl _ rfl rfl (by omega) (by omega) ?_)
      intro v4 w4 hb4 hw4
      have HB4 := hide (HK.out.app hb4 hw4 (fun _ => hsb))
      have hw4' : Below N x w4 := hwk.trans (hw4.mono (by omega))
      clear hb4 hw4 HK
      go_wp2
      go_loopg [3, 15] (k + 1) (fun q tv tj wq => ∃ jj : Nat, q = k + 1 - jj ∧ jj ≤ k + 1 ∧ tj = .int .i64 jj ∧ GSt N sb sa n S wq i' tv (bs' ++ ((49 + (k : Int)) :: 58 :: List.replicate jj 107)) ∧ Below N x wq)
      case atStart => exact ⟨0, rfl, Nat.zero_le _, rfl, HB4.out.cast (by simp), hw4'⟩
      case round =>
        obtain ⟨jj, rfl, hjj, rfl, hgj, hwj⟩ := hrel
        have HJ := hide hgj
        have hlj := hgj.lt
        clear hgj HB4
        by_cases hjm : jj < k + 1
        · go_wp2_with (at_builtin; refine wpList_app _ _ rfl (.tmp 75) (.tmp 76) rfl (N + 1) _ _ [107] rfl HJ.out.buf rfl 1 rfl _ rfl rfl (by simp; omega) (by omega) ?_)
          intro v5 w5 hb5 hw5
          have HB5 := hide (HJ.out.app hb5 hw5 (fun _ => hsb))
          clear hb5
          go_wp2
          go_roundg (k + 1 - (jj + 1))
          case measure => omega
          case rel => exact ⟨jj + 1, rfl, by omega, by go_num, HB5.out.cast (by simp [List.replicate_succ']), hwj.trans (hw5.mono (by omega))⟩
        · have hjm' : jj = k + 1 := by omega
          subst hjm'
          go_wp2_with fail
          refine (HI.out _ i' _ _ hi' HJ.out (by simp; omega)).mono ?_
          rintro e y ⟨v2, rfl, hg2, hw2⟩
          have HG2 := hide hg2
          clear hg2
          go_wp2
          go_roundg (m - (k + 1))
          case measure => omega
          case rel =>
            have ht := genLoop_take (g := g) (d := true) (m := m - k) (k := k) (i := i') (by omega)
            refine ⟨k + 1, (g i').2, _, rfl, by omega, by go_num, HG2.out, hgi.2.1 hi', by simp; omega, hwj.trans hw2, ?_, ?_⟩
            · rw [HQ1.out, ht]
              simp [genKey, Nat.sub_sub]
            · rw [HQ2.out, ht]
              simp [Nat.sub_sub]
    · have hkm' : k = m := by omega
      subst hkm'
      go_wp2_with (at_builtin; refine wpList_app wr _ rfl (.tmp 84) (.tmp 85) rfl (N + 1) _ _ [101] rfl HK.out.buf rfl 1 rfl _ rfl rfl (by omega) (by omega) ?_)
      intro v3 w3 hb3 hw3
      have HB3 := hide (HK.out.app hb3 hw3 (fun _ => hsb))
      clear hb3
      go_wp2
      go_ret
      have h1 := HQ1.out
      have h2 := HQ2.out
      rw [Nat.sub_self] at h1 h2
      simp only [genLoop, List.append_nil] at h1 h2
      refine ⟨_, rfl, ?_, hwk.trans (hw3.mono (by omega))⟩
      rw [h2]
      exact HB3.out.cast (by rw [← h1]; simp)
end
end Go.Proofs.YbulkacdeFmt
