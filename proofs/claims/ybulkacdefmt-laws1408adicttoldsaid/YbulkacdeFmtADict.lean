import Derived.Test.YbulkacdeFmtEnts
import Derived.Deep.CutBlock
import Derived.Deep.DeepCutAuto
import Derived.Deep.Cut
namespace Go.Proofs.YbulkacdeFmt
open Go.RowKit

theorem Buf.one (x : World) (c : Int) : Buf x.heap.size (x.alloc (.cells #[.int .u8 c] 5)) (.slice (some ⟨x.heap.size, 0, none⟩) 1 1) [c] :=
  ⟨by simp, Or.inr ⟨x.heap.size, 1, #[.int .u8 c], rfl, Nat.le_refl _, by show (x.heap.push _)[x.heap.size]? = _; rw [Array.getElem?_push_size], Nat.le_refl _, by unfold maxLen; omega, by simp, by simp⟩⟩

theorem Ybaf.assert39 (x : Value) (w : World) : (Instr.typeAssert (.iface 39 x) 20 39 true).run Ybaf.prog w = .ok (.tuple #[x, .bool true]) w := by kernel_rfl
theorem Ybaf.assertInt (x : Value) (w : World) : (Instr.typeAssert (.iface 2 x) 20 2 true).run Ybaf.prog w = .ok (.tuple #[x, .bool true]) w := by kernel_rfl
theorem Ybaf.zeroAny (w : World) : (zeroValue 20).run Ybaf.prog w = .ok .nilIface w := by kernel_rfl

/-- string([]byte{byte(i >> 8), byte(i)}) -/
theorem conv_two (x : World) (i : Nat) : (convert 24 9 (.slice (some ⟨x.heap.size, 0, none⟩) 2 2)).run Ybaf.prog (x.alloc (.cells #[.int .u8 ((i : Int) / 256), .int .u8 ((i : Int) % 256)] 5)) = .ok (.string (keyStr i)) (x.alloc (.cells #[.int .u8 ((i : Int) / 256), .int .u8 ((i : Int) % 256)] 5)) := by
  have hb : Bytes (x.alloc (.cells #[.int .u8 ((i : Int) / 256), .int .u8 ((i : Int) % 256)] 5)) x.heap.size 0 2 (fun j => [((i / 256 : Nat) : Int), ((i % 256 : Nat) : Int)].getD j 0) := by
    refine ⟨by simp, fun j hj => ?_⟩
    rw [World.cell?_alloc_at _ _ _ _ rfl]
    match j, hj with
    | 0, _ => simp
    | 1, _ => simp
  have h := conv_key (lo := 0) (n := 2) (c := 2) (a := ⟨x.heap.size, 0, none⟩) hb (by omega) (fun _ => rfl)
  exact h

/-- mp[key] at entry i's key. -/
theorem look_key {x : World} {r n i : Nat} {A : Nat → Int} (h : x.ownsMap Ybaf.prog 9 anyR r n (mapOf A n)) (hn : n ≤ 1024) (hi : i < n) :
    (Instr.lookup 39 (.map (some r)) (.string (keyStr i)) false).run Ybaf.prog x = .ok (.iface 2 (.int .i64 (A i))) x := by
  have hkey : keyOf Ybaf.prog 9 (.string (keyStr i)) = some (keyLit i) := Go.WideMaps.keyOf_string_mk Ybaf.underlying9 (by unfold keyStr; rw [strOfNums_size]; simp [maxLen])
  obtain ⟨v, ps, hrun, hv⟩ := h.lookup (e := 20) (Maps.string_keyed Ybaf.underlying9) Ybaf.underlying39 (Ybaf.zeroAny x) (zd := .nil) (zp := []) rfl hkey
  rw [mapOf_at _ n hn hi] at hv
  rw [hrun, anyR_inv hv]

set_option maxHeartbeats 2000000 in
set_option maxRecDepth 100000 in
theorem adict_any (no : Option Addr) (nb na n nc : Nat) (A : Nat → Int) (w : World) (hn : n ≤ 1024)
    (hA : ∀ i, i < n → -9223372036854775808 ≤ A i ∧ A i ≤ 9223372036854775807) (hno : 0 < n → no = some ⟨nb, na, none⟩)
    (hnc : ∀ j, j < n → w.cell? ⟨nb, na + j, none⟩ = some (.int .i64 (A j))) :
    Calls Ybaf.prog 4 #[.slice no n nc] w fun e w' => e = .returned (.bool true) ∧ Below w.heap.size w w' := by
  have HA := hide hA
  have HNC := hide hnc
  have HNO := hide hno
  clear hA hnc hno
  go_enter Ybaf.func4, Ybaf.ntmps4
  go_upto_block 0 with fail
  go_cut [3] (fun td wc => Buf w.heap.size wc td (100 :: ents A n) ∧ Below w.heap.size w wc)
  case first =>
    go_wp2_with fail
    go_loopg [3, 4] n (fun gk td ti wr => ∃ i, gk = n - i ∧ i ≤ n ∧ ti = .int .i64 i ∧ Buf w.heap.size wr td (100 :: ents A i) ∧ Below w.heap.size w wr)
    case atStart => exact ⟨0, by omega, by omega, rfl, Buf.one w 100, (Below.refl _ _).alloc (Nat.le_refl _) _⟩
    case round =>
      obtain ⟨i, rfl, hi, rfl, hb, hw⟩ := hrel
      have HB := hide hb
      have HW := hide hw
      have hws := hw.size
      have hel := ents_length (A := A) i
      have hbl : (100 :: ents A i).length ≤ 28000 := by simp; omega
      have HEL := hide hel
      have hel2 : (ents A i).length ≤ 27900 := by omega
      clear hb hw hel
      by_cases hin : i < n
      · have hcn := HNC.out i hin
        obtain rfl := HNO.out (by omega)
        have hAi := HA.out i hin
        have hdl := dec_length (A i)
        go_wp2_with (at_builtin; refine wpList_app wr _ rfl (.tmp 24) (.tmp 30) rfl w.heap.size _ _ [50, 58, (i : Int) / 256, (i : Int) % 256] rfl HB.out rfl 4 rfl _ rfl rfl (by omega) hws ?_)
        intro v0 w0 hb0 hw0
        have hs0 := hw0.size
        have HB0 := hide hb0
        have HW0 := hide (HW.out.trans hw0)
        clear hb0 hw0
        go_wp2_with (at_builtin; refine wpList_app w0 _ rfl (.tmp 32) (.tmp 33) rfl w.heap.size _ _ [105] rfl HB0.out rfl 1 rfl _ rfl rfl (by simp; omega) (by omega) ?_)
        intro v1 w1 hb1 hw1
        have hs1 := hw1.size
        have HB1 := hide hb1
        have HW1 := hide (HW0.out.trans hw1)
        have hcA1 : w1.cell? ⟨nb, na + i, none⟩ = some (.int .i64 (A i)) := (HW1.out.cell (World.block_lt_of_cell? _ _ hcn)).trans hcn
        clear hb1 hw1
        go_wp2_with fail
        refine (aint_any w.heap.size _ _ _ (A i) hAi.1 hAi.2 HB1.out (by simp; omega) (by omega)).mono ?_
        rintro e w2 ⟨v2, rfl, hb2, hw2⟩
        have hs2 := hw2.size
        have HB2 := hide hb2
        have HW2 := hide (HW1.out.trans hw2)
        clear hb2 hw2
        go_wp2_with (at_builtin; refine wpList_app w2 _ rfl (.tmp 41) (.tmp 42) rfl w.heap.size _ _ [101] rfl HB2.out rfl 1 rfl _ rfl rfl (by simp; omega) (by omega) ?_)
        intro v3 w3 hb3 hw3
        have HB3 := hide hb3
        have HW3 := hide (HW2.out.trans hw3)
        clear hb3 hw3
        go_wp2
        go_roundg (n - (i + 1))
        case rel =>
          refine ⟨i + 1, rfl, by omega, rfl, ?_, HW3.out⟩
          have h := HB3.out
          rw [ents, ent]
          simpa [enc] using h
        case measure => omega
      · go_wp2
        go_meet
        case rel =>
          have h := HB.out
          rw [show i = n by omega] at h
          exact ⟨h, HW.out⟩
  obtain ⟨hb, hw⟩ := hcut
  have hws := hw.size
  have hel := ents_length (A := A) n
  have hmem := ents_mem HA.out n (Nat.le_refl _) hn
  have hsz := mapOf_size (A := A) n hn
  have HSZ := hide hsz
  have HEL := hide hel
  have HMEM := hide hmem
  have HB := hide hb
  have HW := hide hw
  have hbl : (100 :: ents A n).length ≤ 28000 := by simp; omega
  clear hb hw hmem hel hsz
  go_wp2_with (at_builtin; refine wpList_app wc _ rfl (.tmp 44) (.tmp 45) rfl w.heap.size _ _ [101] rfl HB.out rfl 1 rfl _ rfl rfl (by omega) hws ?_)
  intro v1 w1 hb1 hw1
  have hs1 := hw1.size
  obtain ⟨L, hL⟩ : ∃ L, L = (100 :: (ents A n ++ [101])).length := ⟨_, rfl⟩
  have hL' : L = (ents A n).length + 2 := by rw [hL]; simp
  have hel := HEL.out
  obtain ⟨oa, c, ab, hv1, hab, hlt, hwh⟩ := hb1.whole (by rw [← hL]; omega) (fun z hz => by
    rcases List.mem_cons.1 hz with rfl | hz
    · omega
    · rcases List.mem_append.1 hz with hz | hz
      · exact HMEM.out z hz
      · simp at hz; omega)
  rw [← hL] at hv1 hlt hwh
  subst hv1
  have hww1 : Below w.heap.size w w1 := HW.out.trans hw1
  have hhas : Has (fun i => (100 :: (ents A n ++ [101])).getD i 0) 0 (100 :: (ents A n ++ [101])) := by
    have := has_take (bs := 100 :: (ents A n ++ [101])) (l := [])
    simpa using this
  have HH := hide hhas
  have HWH : Hid (∀ o, Whole (w1.alloc o) w1.heap.size ab 0 L c (fun i => (100 :: (ents A n ++ [101])).getD i 0) oa) := fun o => hwh (w1.alloc o) w1.heap.size (fun h => by have := hlt h; omega) (fun h => Below.heap_alloc _ _ _ (hlt h))
  have HWW := hide hww1
  obtain rfl := (HWH.out (.cells #[] 5)).at_ (by omega)
  have HLL := hide hL'
  have hLs : L ≤ 100000000 := by omega
  clear hb1 hw1 hwh hhas hww1 HB HW HMEM hL hL' hel hlt
  go_wp2_with fail
  have hwo := HWH.out
  refine (value_ents A n hn HA.out ((hwo (.cells #[] 5)).ne (by have := HLL.out; omega)) hLs (hwo (.cells #[] 5)).cap (hwo (.cells #[] 5)).byte HLL.out HH.out (Dec.new w1 _ _ _) ((hwo _).bytes (by have := HLL.out; omega))).mono ?_
  rintro e z ⟨rfl, hdz, hinv⟩
  have e1 := hdz.c1
  have e2 := hdz.c2
  have hbz : Below w.heap.size w z := (HWW.out.alloc (by omega) _).trans (hinv.turn.below (by omega) (by simp; omega))
  have hzs := hbz.size
  have HBZ := hide hbz
  have ha39 := Ybaf.assert39
  have hown : z.ownsMap Ybaf.prog 9 anyR (w1.heap.size + 1 + 1) n (mapOf A n) := by simpa using hinv.own
  have hlen := fun ty => (hown.len (e := 20) Ybaf.underlying39 ty)
  rw [HSZ.out] at hlen
  have HOWN := hide hown
  clear hwo HWH HLL HH HWW hdz hinv hbz hown
  go_upto_block 2 with fail
  go_wp2_with fail
  go_loopg [10] n (fun gk ti wr => ∃ i, gk = n - i ∧ i ≤ n ∧ ti = .int .i64 i ∧ wr.ownsMap Ybaf.prog 9 anyR (w1.heap.size + 1 + 1) n (mapOf A n) ∧ Below w.heap.size w wr)
  case atStart => exact ⟨0, by omega, by omega, rfl, HOWN.out, HBZ.out⟩
  case round =>
    obtain ⟨i, rfl, hi, rfl, hown, hw⟩ := hrel
    have HO := hide hown
    have HW := hide hw
    have hws := hw.size
    clear hown hw e1 e2 hlen HOWN HBZ
    by_cases hin : i < n
    · have hcn := HNC.out i hin
      obtain rfl := HNO.out (by omega)
      have hcx : (wr.alloc (.cells #[.int .u8 ((i : Int) / 256), .int .u8 ((i : Int) % 256)] 5)).cell? ⟨nb, na + i, none⟩ = some (.int .i64 (A i)) := by
        have hlt := World.block_lt_of_cell? _ _ hcn
        rw [World.cell?_alloc_past _ _ _ (Nat.lt_of_lt_of_le hlt hws)]
        exact (HW.out.cell hlt).trans hcn
      have hconv := conv_two wr i
      have hlook := look_key (HO.out.alloc (.cells #[.int .u8 ((i : Int) / 256), .int .u8 ((i : Int) % 256)] 5)) hn hin
      have ha2 := Ybaf.assertInt
      go_wp2
      go_roundg (n - (i + 1))
      case rel => exact ⟨i + 1, rfl, by omega, rfl, HO.out.alloc _, HW.out.alloc (by omega) _⟩
      case measure => omega
    · go_wp2
      go_ret
      exact ⟨rfl, HW.out⟩
end Go.Proofs.YbulkacdeFmt
