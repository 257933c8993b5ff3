import Derived.Test.YbulkacdeFmtAListPlain
import Derived.Deep.CutBlock
import Derived.Deep.DeepCutAuto
import Derived.Deep.Cut
namespace Go.Proofs.YbulkacdeFmt
open Go.RowKit

theorem Buf.lit (x : World) (bs : List Int) (h : bs.length ≤ 1000) : Buf x.heap.size (x.alloc (.cells (bs.map (Value.int .u8)).toArray 5)) (.slice (some ⟨x.heap.size, 0, none⟩) bs.length bs.length) bs :=
  ⟨by simp, Or.inr ⟨x.heap.size, bs.length, (bs.map (Value.int .u8)).toArray, rfl, Nat.le_refl _, by show (x.heap.push _)[x.heap.size]? = _; rw [Array.getElem?_push_size], Nat.le_refl _, by unfold maxLen; omega, by simp, by simp; rw [← List.map_take, List.take_length]⟩⟩

theorem row_cells {N e n : Nat} {z : World} {v : Value} {xs : List Value} (h : z.ownsRow N e 1 v n xs) : ∃ oa c g, v = .slice oa n c ∧ ∀ j u, xs[j]? = some u → oa = some ⟨g, 0, none⟩ ∧ z.cell? ⟨g, j, none⟩ = some u := by
  obtain ⟨h1, h2⟩ := h
  rcases h2 with ⟨rfl, hn⟩ | ⟨g, cap, cur, rfl, hg, hh, hn, _, hs, hc⟩
  · refine ⟨none, 0, 0, by rw [hn], fun j u hj => ?_⟩
    have := (List.getElem?_eq_some_iff.1 hj).1
    omega
  · refine ⟨some ⟨g, 0, none⟩, cap, g, rfl, fun j u hj => ⟨rfl, ?_⟩⟩
    have hjn : j < n := by
      have := (List.getElem?_eq_some_iff.1 hj).1
      omega
    rw [← hc, Nat.mul_one, List.getElem?_take_of_lt hjn] at hj
    simpa [World.cell?, hh] using hj

set_option maxHeartbeats 2000000 in
set_option maxRecDepth 100000 in
theorem alist_any (no so : Option Addr) (nb na n nc sb sa k sc : Nat) (A : Nat → Int) (T : Nat → ByteArray) (w : World) (hn : n ≤ 1024) (hk : k ≤ 1024)
    (hA : ∀ i, i < n → -9223372036854775808 ≤ A i ∧ A i ≤ 9223372036854775807)
    (hno : 0 < n → no = some ⟨nb, na, none⟩) (hso : 0 < k → so = some ⟨sb, sa, none⟩)
    (hnc : ∀ j, j < n → w.cell? ⟨nb, na + j, none⟩ = some (.int .i64 (A j))) (hsc : ∀ j, j < k → w.cell? ⟨sb, sa + j, none⟩ = some (.string (T j))) :
    Calls Ybaf.prog 3 #[.slice no n nc, .slice so k sc] w fun e w' => e = .returned (.bool true) ∧ Below w.heap.size w w' := by
  have HA := hide hA
  have HNC := hide hnc
  have HSC := hide hsc
  have HNO := hide hno
  have HSO := hide hso
  clear hA hnc hsc hno hso
  go_enter Ybaf.func3, Ybaf.ntmps3
  go_upto_block 0 with fail
  go_cut [] (fun wc => w = wc ∧ ∀ j, j < k → (T j).size ≤ 4096)
  case first =>
    go_wp2_with fail
    go_loopg [31] k (fun gk ti wr => ∃ i, gk = k - i ∧ i ≤ k ∧ ti = .int .i64 i ∧ wr = w ∧ ∀ j, j < i → (T j).size ≤ 4096)
    case atStart => exact ⟨0, by omega, by omega, rfl, rfl, fun j h => by omega⟩
    case round =>
      obtain ⟨i, rfl, hi, rfl, rfl, hall⟩ := hrel
      have HALL := hide hall
      clear hall
      by_cases hik : i < k
      · have hc := HSC.out i hik
        obtain rfl := HSO.out (by omega)
        by_cases hsz : (T i).size ≤ 4096
        · have hsz' : ((T i).size : Int) ≤ 4096 := by omega
          go_wp2
          go_roundg (k - (i + 1))
          case rel =>
            refine ⟨i + 1, rfl, by omega, rfl, rfl, fun j hj => ?_⟩
            rcases Nat.lt_or_ge j i with h | h
            · exact HALL.out j h
            · rw [show j = i by omega]; exact hsz
          case measure => omega
        · have hsz' : (4096 : Int) < (T i).size := by omega
          go_wp2
          go_ret
          exact ⟨rfl, Below.refl _ _⟩
      · go_wp2
        go_meet
        case rel => exact ⟨rfl, fun j hj => HALL.out j (by omega)⟩
  case rest =>
    obtain ⟨hwc, hT⟩ := hcut
    subst hwc
    have HT := hide hT
    clear hT
    obtain ⟨M, hM⟩ : ∃ M, M = max n k := ⟨_, rfl⟩
    have hMn : n ≤ M := by omega
    have hMk : k ≤ M := by omega
    have hM1 : M ≤ 1024 := by omega
    have hMe : M = n ∨ M = k := by omega
    go_upto_if 44 with fail
    go_cut [7] (fun tm wc => tm = .int .i64 M ∧ w = wc)
    case first =>
      by_cases hkn : n < k
      · go_wp2
        go_meet
        case rel => exact ⟨by rw [show M = k by omega], rfl⟩
      · go_wp2
        go_meet
        case rel => exact ⟨by rw [show M = n by omega], rfl⟩
    obtain ⟨rfl, rfl⟩ := hcut
    have HME := hide hMe
    clear hM hMe
    have hok := its_ok (n := n) (k := k) HA.out HT.out
    have HOK := hide hok
    clear hok
    go_upto_block 2 with fail
    go_cut [8] (fun td wc => Buf w.heap.size wc td (108 :: encAll (its A T n k M)) ∧ Below w.heap.size w wc)
    case first =>
      go_wp2_with fail
      go_loopg [8, 9] M (fun gk td ti wr => ∃ i, gk = M - i ∧ i ≤ M ∧ ti = .int .i64 i ∧ Buf w.heap.size wr td (108 :: encAll (its A T n k i)) ∧ Below w.heap.size w wr)
      case atStart => exact ⟨0, by omega, by omega, rfl, Buf.lit w [108] (by simp), (Below.refl _ _).alloc (Nat.le_refl _) _⟩
      case round =>
        obtain ⟨i, rfl, hi, rfl, hb, hw⟩ := hrel
        have HB := hide hb
        have HW := hide hw
        have hws := hw.size
        have hel : (encAll (its A T n k i)).length ≤ 8500000 := by
          have h1 := encAll_length (HOK.out i)
          rw [its_length] at h1
          omega
        have hbl : (108 :: encAll (its A T n k i)).length ≤ 8500001 := by simp; exact hel
        clear hb hw
        by_cases hiM : i < M
        · by_cases hin : i < n
          · by_cases hik : i < k
            · have hcn := HNC.out i hin
              obtain rfl := HNO.out (by omega)
              have hcA : wr.cell? ⟨nb, na + i, none⟩ = some (.int .i64 (A i)) := (HW.out.cell (World.block_lt_of_cell? _ _ hcn)).trans hcn
              have hAi := HA.out i hin
              go_wp2_with (at_builtin; refine wpList_app wr _ rfl (.tmp 57) (.tmp 58) rfl w.heap.size _ _ [105] rfl HB.out rfl 1 rfl _ rfl rfl (by omega) hws ?_)
              intro v1 w1 hb1 hw1
              have hs1 := hw1.size
              have HB1 := hide hb1
              have HW1 := hide (HW.out.trans hw1)
              have hcA1 : w1.cell? ⟨nb, na + i, none⟩ = some (.int .i64 (A i)) := (HW1.out.cell (World.block_lt_of_cell? _ _ hcn)).trans hcn
              clear hb1 hw1 hcA
              go_wp2_with fail
              refine (aint_any w.heap.size _ _ _ (A i) hAi.1 hAi.2 HB1.out (by simp; omega) (by omega)).mono ?_
              rintro e w2 ⟨v2, rfl, hb2, hw2⟩
              have hs2 := hw2.size
              have HB2 := hide hb2
              have HW2 := hide (HW1.out.trans hw2)
              clear hb2 hw2
              have hdl := dec_length (A i)
              go_wp2_with (at_builtin; refine wpList_app w2 _ rfl (.tmp 66) (.tmp 67) rfl w.heap.size _ _ [101] rfl HB2.out rfl 1 rfl _ rfl rfl (by simp; omega) (by omega) ?_)
              intro v3 w3 hb3 hw3
              have hs3 := hw3.size
              have HB3 := hide hb3
              have HW3 := hide (HW2.out.trans hw3)
              clear hb3 hw3
              have hck := HSC.out i hik
              obtain rfl := HSO.out (by omega)
              have hcT : w3.cell? ⟨sb, sa + i, none⟩ = some (.string (T i)) := (HW3.out.cell (World.block_lt_of_cell? _ _ hck)).trans hck
              have hTi := HT.out i hik
              have hdl2 := dec_length ((T i).size : Int)
              go_wp2_with fail
              refine (aint_any w.heap.size _ _ _ ((T i).size : Int) (by omega) (by omega) HB3.out (by simp; omega) (by omega)).mono ?_
              rintro e w4 ⟨v4, rfl, hb4, hw4⟩
              have hs4 := hw4.size
              have HB4 := hide hb4
              have HW4 := hide (HW3.out.trans hw4)
              clear hb4 hw4 hcT
              go_wp2_with (at_builtin; refine wpList_app w4 _ rfl (.tmp 80) (.tmp 81) rfl w.heap.size _ _ [58] rfl HB4.out rfl 1 rfl _ rfl rfl (by simp; omega) (by omega) ?_)
              intro v5 w5 hb5 hw5
              have hs5 := hw5.size
              have HB5 := hide hb5
              have HW5 := hide (HW4.out.trans hw5)
              clear hb5 hw5
              have hcT5 : w5.cell? ⟨sb, sa + i, none⟩ = some (.string (T i)) := (HW5.out.cell (World.block_lt_of_cell? _ _ hck)).trans hck
              go_wp2_with (at_builtin; refine wpList_appStr w5 rfl (.tmp 83) (.tmp 87) rfl w.heap.size _ _ rfl HB5.out (T i) rfl (by simp; omega) (by omega) ?_)
              intro v6 w6 hb6 hw6
              have HB6 := hide hb6
              have HW6 := hide (HW5.out.trans hw6)
              clear hb6 hw6
              go_wp2
              go_roundg (M - (i + 1))
              case rel =>
                refine ⟨i + 1, rfl, by omega, rfl, ?_, HW6.out⟩
                have h := HB6.out
                rw [its, encAll_app, encAll_app, if_pos hin, if_pos hik]
                simpa [encAll, enc, nums_length] using h
              case measure => omega
            · have hcn := HNC.out i hin
              obtain rfl := HNO.out (by omega)
              have hcA : wr.cell? ⟨nb, na + i, none⟩ = some (.int .i64 (A i)) := (HW.out.cell (World.block_lt_of_cell? _ _ hcn)).trans hcn
              have hAi := HA.out i hin
              go_wp2_with (at_builtin; refine wpList_app wr _ rfl (.tmp 57) (.tmp 58) rfl w.heap.size _ _ [105] rfl HB.out rfl 1 rfl _ rfl rfl (by omega) hws ?_)
              intro v1 w1 hb1 hw1
              have hs1 := hw1.size
              have HB1 := hide hb1
              have HW1 := hide (HW.out.trans hw1)
              have hcA1 : w1.cell? ⟨nb, na + i, none⟩ = some (.int .i64 (A i)) := (HW1.out.cell (World.block_lt_of_cell? _ _ hcn)).trans hcn
              clear hb1 hw1 hcA
              go_wp2_with fail
              refine (aint_any w.heap.size _ _ _ (A i) hAi.1 hAi.2 HB1.out (by simp; omega) (by omega)).mono ?_
              rintro e w2 ⟨v2, rfl, hb2, hw2⟩
              have hs2 := hw2.size
              have HB2 := hide hb2
              have HW2 := hide (HW1.out.trans hw2)
              clear hb2 hw2
              have hdl := dec_length (A i)
              go_wp2_with (at_builtin; refine wpList_app w2 _ rfl (.tmp 66) (.tmp 67) rfl w.heap.size _ _ [101] rfl HB2.out rfl 1 rfl _ rfl rfl (by simp; omega) (by omega) ?_)
              intro v3 w3 hb3 hw3
              have hs3 := hw3.size
              have HB3 := hide hb3
              have HW3 := hide (HW2.out.trans hw3)
              clear hb3 hw3
              go_wp2
              go_roundg (M - (i + 1))
              case rel =>
                refine ⟨i + 1, rfl, by omega, rfl, ?_, HW3.out⟩
                have h := HB3.out
                rw [its, encAll_app, encAll_app, if_pos hin, if_neg hik]
                simpa [encAll, enc, nums_length] using h
              case measure => omega
          · by_cases hik : i < k
            · have HB3 := HB
              have HW3 := HW
              have hck := HSC.out i hik
              obtain rfl := HSO.out (by omega)
              have hcT : wr.cell? ⟨sb, sa + i, none⟩ = some (.string (T i)) := (HW3.out.cell (World.block_lt_of_cell? _ _ hck)).trans hck
              have hTi := HT.out i hik
              have hdl2 := dec_length ((T i).size : Int)
              go_wp2_with fail
              refine (aint_any w.heap.size _ _ _ ((T i).size : Int) (by omega) (by omega) HB3.out (by simp; omega) (by omega)).mono ?_
              rintro e w4 ⟨v4, rfl, hb4, hw4⟩
              have hs4 := hw4.size
              have HB4 := hide hb4
              have HW4 := hide (HW3.out.trans hw4)
              clear hb4 hw4 hcT
              go_wp2_with (at_builtin; refine wpList_app w4 _ rfl (.tmp 80) (.tmp 81) rfl w.heap.size _ _ [58] rfl HB4.out rfl 1 rfl _ rfl rfl (by simp; omega) (by omega) ?_)
              intro v5 w5 hb5 hw5
              have hs5 := hw5.size
              have HB5 := hide hb5
              have HW5 := hide (HW4.out.trans hw5)
              clear hb5 hw5
              have hcT5 : w5.cell? ⟨sb, sa + i, none⟩ = some (.string (T i)) := (HW5.out.cell (World.block_lt_of_cell? _ _ hck)).trans hck
              go_wp2_with (at_builtin; refine wpList_appStr w5 rfl (.tmp 83) (.tmp 87) rfl w.heap.size _ _ rfl HB5.out (T i) rfl (by simp; omega) (by omega) ?_)
              intro v6 w6 hb6 hw6
              have HB6 := hide hb6
              have HW6 := hide (HW5.out.trans hw6)
              clear hb6 hw6
              go_wp2
              go_roundg (M - (i + 1))
              case rel =>
                refine ⟨i + 1, rfl, by omega, rfl, ?_, HW6.out⟩
                have h := HB6.out
                rw [its, encAll_app, encAll_app, if_neg hin, if_pos hik]
                simpa [encAll, enc, nums_length] using h
              case measure => omega
            · exact absurd hiM (by have := HME.out; omega)
        · go_wp2
          go_meet
          case rel =>
            have h := HB.out
            rw [show i = M by omega] at h
            exact ⟨h, HW.out⟩
    obtain ⟨hb, hw⟩ := hcut
    have hws := hw.size
    have hel : (encAll (its A T n k M)).length ≤ 8500000 := by
      have h1 := encAll_length (HOK.out M)
      rw [its_length] at h1
      omega
    have hmem := encAll_mem (HOK.out M)
    have hil := its_length (A := A) (T := T) (n := n) (k := k) M
    rw [show min M n + min M k = n + k by omega] at hil
    have HIL := hide hil
    have HMEM := hide hmem
    have HB := hide hb
    have HW := hide hw
    clear hb hw hmem hil
    go_wp2_with (at_builtin; refine wpList_app wc _ rfl (.tmp 89) (.tmp 90) rfl w.heap.size _ _ [101] rfl HB.out rfl 1 rfl _ rfl rfl (by simp; omega) hws ?_)
    intro v1 w1 hb1 hw1
    have hs1 := hw1.size
    obtain ⟨L, hL⟩ : ∃ L, L = (108 :: (encAll (its A T n k M) ++ [101])).length := ⟨_, rfl⟩
    have hL' : L = (encAll (its A T n k M)).length + 2 := by rw [hL]; simp
    obtain ⟨oa, c, ab, hv1, hab, hlt, hwh⟩ := hb1.whole (by rw [← hL]; omega) (fun z hz => by
      rcases List.mem_cons.1 hz with rfl | hz
      · omega
      · rcases List.mem_append.1 hz with hz | hz
        · exact HMEM.out z hz
        · simp at hz; omega)
    rw [← hL] at hv1 hlt hwh
    subst hv1
    have hww1 : Below w.heap.size w w1 := HW.out.trans hw1
    have hhas : Has (fun i => (108 :: (encAll (its A T n k M) ++ [101])).getD i 0) 0 (108 :: (encAll (its A T n k M) ++ [101])) := by
      have := has_take (bs := 108 :: (encAll (its A T n k M) ++ [101])) (l := [])
      simpa using this
    have HH := hide hhas
    have HWH : Hid (∀ o, Whole (w1.alloc o) w1.heap.size ab 0 L c (fun i => (108 :: (encAll (its A T n k M) ++ [101])).getD i 0) oa) := fun o => hwh (w1.alloc o) w1.heap.size (fun h => by have := hlt h; omega) (fun h => Below.heap_alloc _ _ _ (hlt h))
    have HWW := hide hww1
    obtain rfl := (HWH.out (.cells #[] 5)).at_ (by omega)
    have HLL := hide hL'
    have hLs : L ≤ 100000000 := by omega
    clear hb1 hw1 hwh hhas hww1 HB HW HMEM hL hL' hel hlt
    go_wp2_with fail
    have hwo := HWH.out
    refine (value_items (its A T n k M) (HOK.out M) ((hwo (.cells #[] 5)).ne (by have := HLL.out; omega)) hLs (hwo (.cells #[] 5)).cap (hwo (.cells #[] 5)).byte HLL.out HH.out (Dec.new w1 _ _ _) ((hwo _).bytes (by have := HLL.out; omega))).mono ?_
    rintro e z ⟨ls, rfl, hdz, hinv⟩
    have e1 := hdz.c1
    have e2 := hdz.c2
    have hbz : Below w.heap.size w z := (HWW.out.alloc (by omega) _).trans (hinv.turn.below (by omega) (by simp; omega))
    obtain ⟨lo, lc, g, rfl, hcells⟩ := row_cells hinv.own
    rw [List.length_map, HIL.out]
    have HCE := hide hcells
    have HBZ := hide hbz
    have ha33 := Ybaf.assert33
    have ha2 := Ybaf.assert2
    have ha9 := Ybaf.assert9
    clear hwo HWH HLL HH HWW hdz hinv hcells hbz
    go_upto_block 4 with fail
    go_wp2_with fail
    go_loopg [15, 16] M (fun gk tk ti wr => ∃ i p, gk = M - i ∧ i ≤ M ∧ p = (its A T n k i).length ∧ ti = .int .i64 i ∧ tk = .int .i64 p ∧ z = wr)
    case atStart => exact ⟨0, 0, by omega, by omega, rfl, rfl, rfl, rfl⟩
    case round =>
      obtain ⟨i, p, rfl, hi, hp0, rfl, rfl, rfl⟩ := hrel
      have hp := hide hp0
      clear hp0
      by_cases hiM : i < M
      · by_cases hin : i < n
        · by_cases hik : i < k
          · have hcn := HNC.out i hin
            obtain rfl := HNO.out (by omega)
            have hcA : z.cell? ⟨nb, na + i, none⟩ = some (.int .i64 (A i)) := (HBZ.out.cell (World.block_lt_of_cell? _ _ hcn)).trans hcn
            obtain ⟨hlo, hce⟩ := HCE.out _ _ (its_int (A := A) (T := T) (k := k) hiM hin)
            rw [← hp.out] at hce
            have hck := HSC.out i hik
            obtain rfl := HSO.out (by omega)
            have hcT : z.cell? ⟨sb, sa + i, none⟩ = some (.string (T i)) := (HBZ.out.cell (World.block_lt_of_cell? _ _ hck)).trans hck
            obtain ⟨hlo, hce2⟩ := HCE.out _ _ (its_str (A := A) (T := T) (n := n) hiM hik)
            rw [← hp.out, if_pos hin] at hce2
            subst hlo
            have hpl := hp.out
            rw [its_length] at hpl
            have hpb : p + 1 < n + k := by omega
            have HPL := hide hpl
            clear hpl
            go_wp2
            go_roundg (M - (i + 1))
            case rel =>
              refine ⟨i + 1, (its A T n k (i + 1)).length, rfl, by omega, rfl, rfl, ?_, rfl⟩
              rw [its_length]
              exact congrArg (Value.int .i64) (by have := HPL.out; omega)
            case measure => omega
          · have hcn := HNC.out i hin
            obtain rfl := HNO.out (by omega)
            have hcA : z.cell? ⟨nb, na + i, none⟩ = some (.int .i64 (A i)) := (HBZ.out.cell (World.block_lt_of_cell? _ _ hcn)).trans hcn
            obtain ⟨hlo, hce⟩ := HCE.out _ _ (its_int (A := A) (T := T) (k := k) hiM hin)
            rw [← hp.out] at hce
            subst hlo
            have hpl := hp.out
            rw [its_length] at hpl
            have hpb : p + 0 < n + k := by omega
            have HPL := hide hpl
            clear hpl
            go_wp2
            go_roundg (M - (i + 1))
            case rel =>
              refine ⟨i + 1, (its A T n k (i + 1)).length, rfl, by omega, rfl, rfl, ?_, rfl⟩
              rw [its_length]
              exact congrArg (Value.int .i64) (by have := HPL.out; omega)
            case measure => omega
        · by_cases hik : i < k
          · have hck := HSC.out i hik
            obtain rfl := HSO.out (by omega)
            have hcT : z.cell? ⟨sb, sa + i, none⟩ = some (.string (T i)) := (HBZ.out.cell (World.block_lt_of_cell? _ _ hck)).trans hck
            obtain ⟨hlo, hce2⟩ := HCE.out _ _ (its_str (A := A) (T := T) (n := n) hiM hik)
            rw [← hp.out, if_neg hin, Nat.add_zero] at hce2
            subst hlo
            have hpl := hp.out
            rw [its_length] at hpl
            have hpb : p + 0 < n + k := by omega
            have HPL := hide hpl
            clear hpl
            go_wp2
            go_roundg (M - (i + 1))
            case rel =>
              refine ⟨i + 1, (its A T n k (i + 1)).length, rfl, by omega, rfl, rfl, ?_, rfl⟩
              rw [its_length]
              exact congrArg (Value.int .i64) (by have := HPL.out; omega)
            case measure => omega
          · exact absurd hiM (by have := HME.out; omega)
      · go_wp2
        go_ret
        exact ⟨rfl, HBZ.out⟩
end Go.Proofs.YbulkacdeFmt
