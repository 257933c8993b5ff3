import Derived.Test.YbulkacdeFmtGenDeep
import Derived.Test.YbulkacdeFmtTop
import Derived.Laws.AppendOwnNone
namespace Go.Proofs.YbulkacdeFmt
open Go.RowKit

section
variable {N sb sa n sc : Nat} {S : Nat → Int} {so : Option Addr}

theorem genBody_end {g : Option (Nat → List Int × Nat)} {i : Nat} (h : n ≤ i) : genBody S n g i = ([48, 58], i) := by
  unfold genBody; rw [if_pos h]
theorem genBody_int {g : Option (Nat → List Int × Nat)} {i : Nat} (h : i < n) (hc : S i % 4 = 0) : genBody S n g i = (105 :: (genInt (S i / 4 - 32) ++ [101]), i + 1) := by
  unfold genBody; rw [if_neg (by omega), if_pos hc]
theorem genBody_str {g : Option (Nat → List Int × Nat)} {i : Nat} (h : i < n) (hc : S i % 4 = 1) : genBody S n g i = ((48 + S i / 4 % 10) :: 58 :: List.replicate (S i / 4 % 10).toNat 120, i + 1) := by
  unfold genBody; rw [if_neg (by omega), if_neg (by omega), if_pos hc]
theorem genBody_flat {i : Nat} (h : i < n) (hc : 2 ≤ S i % 4) : genBody S n none i = ([48, 58], i + 1) := by
  unfold genBody; rw [if_neg (by omega), if_neg (by omega), if_neg (by omega)]
theorem genBody_list {g : Nat → List Int × Nat} {i : Nat} (h : i < n) (hc : S i % 4 = 2) : genBody S n (some g) i = (108 :: ((genLoop g false (S i / 4 % 4).toNat 0 (i + 1)).1 ++ [101]), (genLoop g false (S i / 4 % 4).toNat 0 (i + 1)).2) := by
  have hb : (S i % 4 == 3) = false := by simp; omega
  unfold genBody; rw [if_neg (by omega), if_neg (by omega), if_neg (by omega)]
  simp only
  rw [if_neg (by omega), hb]
theorem genBody_dict {g : Nat → List Int × Nat} {i : Nat} (h : i < n) (hc : S i % 4 = 3) : genBody S n (some g) i = (100 :: ((genLoop g true (S i / 4 % 4).toNat 0 (i + 1)).1 ++ [101]), (genLoop g true (S i / 4 % 4).toNat 0 (i + 1)).2) := by
  have hb : (S i % 4 == 3) = true := by simpa using hc
  unfold genBody; rw [if_neg (by omega), if_neg (by omega), if_neg (by omega)]
  simp only
  rw [if_pos hc, hb]

/-- zzs1408cgen, k levels still to open. -/
theorem gen_any (hn : n ≤ 512) (hso : 0 < n → so = some ⟨sb, sa, none⟩) (hsb : 0 < n → sb < N) (hS : ∀ i, i < n → 0 ≤ S i ∧ S i ≤ 255) (k : Nat) :
    ∀ (x : World) (i : Nat) (v : Value) (bs : List Int), k ≤ 40 → i ≤ n → GSt N sb sa n S x i v bs → bs.length + 30 * (n - i) ≤ 100000 →
    Calls Ybaf.prog 16 #[.slice so n sc, .pointer (some ⟨N, 0, none⟩), .int .i64 (40 - k), v] x fun e y => ∃ v', e = .returned v' ∧ GSt N sb sa n S y (gen S n k i).2 v' (bs ++ (gen S n k i).1) ∧ Below N x y := by
  induction k with
  | zero =>
    intro x i v bs _ hi hg hlen
    show Calls Ybaf.prog 16 #[.slice so n sc, .pointer (some ⟨N, 0, none⟩), .int .i64 40, v] x fun e y => ∃ v', e = .returned v' ∧ GSt N sb sa n S y (genBody S n none i).2 v' (bs ++ (genBody S n none i).1) ∧ Below N x y
    by_cases hin : i < n
    · by_cases c0 : S i % 4 = 0
      · rw [genBody_int hin c0]
        exact gen_int x i v bs _ hn hin (hso (by omega)) (hsb (by omega)) (hS i hin) c0 hg hlen
      · by_cases c1 : S i % 4 = 1
        · rw [genBody_str hin c1]
          exact gen_str x i v bs _ hn hin (hso (by omega)) (hsb (by omega)) (hS i hin) c1 hg hlen
        · have := hS i hin
          rw [genBody_flat hin (by omega)]
          exact gen_flat x i v bs hn hin (hso (by omega)) (hsb (by omega)) (hS i hin) (by omega) hg hlen
    · rw [genBody_end (by omega)]
      exact gen_end x i v bs _ (by omega) hsb hg hlen
  | succ k ih =>
    intro x i v bs hk hi hg hlen
    show Calls Ybaf.prog 16 #[.slice so n sc, .pointer (some ⟨N, 0, none⟩), .int .i64 (40 - ((k + 1 : Nat) : Int)), v] x fun e y => ∃ v', e = .returned v' ∧ GSt N sb sa n S y (genBody S n (some (gen S n k)) i).2 v' (bs ++ (genBody S n (some (gen S n k)) i).1) ∧ Below N x y
    have hih : ∀ x i v bs, i ≤ n → GSt N sb sa n S x i v bs → bs.length + 30 * (n - i) ≤ 100000 → Calls Ybaf.prog 16 #[.slice so n sc, .pointer (some ⟨N, 0, none⟩), .int .i64 (40 - ((k + 1 : Nat) : Int) + 1), v] x fun e y => ∃ v', e = .returned v' ∧ GSt N sb sa n S y (gen S n k i).2 v' (bs ++ (gen S n k i).1) ∧ Below N x y := by
      intro x i v bs h1 h2 h3
      have := ih x i v bs (by omega) h1 h2 h3
      rw [show (40 - ((k + 1 : Nat) : Int) + 1) = 40 - (k : Int) by omega]
      exact this
    by_cases hin : i < n
    · by_cases c0 : S i % 4 = 0
      · rw [genBody_int hin c0]
        exact gen_int x i v bs _ hn hin (hso (by omega)) (hsb (by omega)) (hS i hin) c0 hg hlen
      · by_cases c1 : S i % 4 = 1
        · rw [genBody_str hin c1]
          exact gen_str x i v bs _ hn hin (hso (by omega)) (hsb (by omega)) (hS i hin) c1 hg hlen
        · have := hS i hin
          by_cases c2 : S i % 4 = 2
          · rw [genBody_list hin c2]
            exact gen_list (gen S n k) x i v bs _ (by omega) (by omega) hn hin (hso (by omega)) (hsb (by omega)) (hS i hin) c2 hg hlen (gen_bound S n k) hih
          · rw [genBody_dict hin (by omega)]
            exact gen_dict (gen S n k) x i v bs _ (by omega) (by omega) hn hin (hso (by omega)) (hsb (by omega)) (hS i hin) (by omega) hg hlen (gen_bound S n k) hih
    · rw [genBody_end (by omega)]
      exact gen_end x i v bs _ (by omega) hsb hg hlen
end

/-- append(buf, src...), src nil or not. -/
theorem wpList_appAny {ops : Array Oper} {rest : List Oper} {o : Oper} {a : Act} {Q : Exit → Act → World → Prop} (W : World) (hg : o.guard = none) (s y : Operand)
    (hop : o.op = .call { callee := .builtin .append, args := #[s, y], argTypes := #[24, 24] }) (N : Nat) (v : Value) (bs news : List Int) (hs : a.eval s = v) (hb : Buf N W v bs)
    (oa : Option Addr) (m c : Nat) (hm : news.length = m) (hy : a.eval y = .slice oa m c) (hz : oa = none → m = 0 ∧ c = 0) (hc : ∀ ad, oa = some ad → ∀ j u, (news.map (Value.int .u8))[j]? = some u → W.cell? (ad.add j) = some u) (hsz : bs.length + m ≤ 100000000) (hN : N ≤ W.heap.size)
    (h : ∀ v' w', Buf N w' v' (bs ++ news) → Below N W w' → wpList Ybaf.prog ops Q rest (a.put o.dst v') w') : wpList Ybaf.prog ops Q (o :: rest) a W := by
  cases oa with
  | some ad => exact wpList_appSrc W hg s y hop N v bs news hs hb ad m c hm hy (hc ad rfl) hsz hN h
  | none =>
    obtain ⟨rfl, rfl⟩ := hz rfl
    obtain ⟨i0, hi, _⟩ := info_parts Ybaf.infoU8
    refine wpList_append_own_none hg s y 24 hop N 5 i0 1 Ybaf.underlying24 hi v _ _ hs hb hy (h v W ?_ (Below.refl _ _))
    rw [List.length_eq_zero_iff.1 hm, List.append_nil]; exact hb

/-- The bytes of a buffer lie where its slice says. -/
theorem Buf.cells {N : Nat} {x : World} {ad : Addr} {n c : Nat} {bs : List Int} (h : Buf N x (.slice (some ad) n c) bs) : N ≤ ad.block ∧ ad.block < x.heap.size ∧ ad = ⟨ad.block, 0, none⟩ ∧ bs.length ≤ c ∧ ∀ j u, (bs.map (Value.int .u8))[j]? = some u → x.cell? (ad.add j) = some u := by
  obtain ⟨_, h2⟩ := h
  rcases h2 with ⟨h2, _⟩ | ⟨g, cap, cur, hv, hg, hh, hn, _, hs, hc⟩
  · cases h2
  · injection hv with hv hv2 hv3
    injection hv with hv
    subst hv hv3
    refine ⟨hg, (Array.getElem?_eq_some_iff.1 hh).1, rfl, hn, fun j u hj => ?_⟩
    rw [Go.WideShapes.add_plain]
    have hjn : j < bs.length := by
      have := (List.getElem?_eq_some_iff.1 hj).1
      simpa using this
    rw [← hc, Nat.mul_one, List.getElem?_take_of_lt hjn] at hj
    simpa [World.cell?, hh] using hj

theorem Buf.isNil {N : Nat} {x : World} {oa : Option Addr} {n c : Nat} {bs : List Int} (h : Buf N x (.slice oa n c) bs) (ho : oa = none) : n = 0 ∧ c = 0 := by
  subst ho
  obtain ⟨_, h2⟩ := h
  rcases h2 with ⟨h2, _⟩ | ⟨g, cap, cur, hv, _⟩
  · injection h2 with _ h2 h3
    exact ⟨h2, h3⟩
  · cases hv

/-- A buffer as a decoder's data. -/
theorem Buf.whole {N : Nat} {x : World} {v : Value} {bs : List Int} (h : Buf N x v bs) (hl : bs.length ≤ 100000000) (hb : ∀ z ∈ bs, 0 ≤ z ∧ z ≤ 255) :
    ∃ oa c ab, v = .slice oa bs.length c ∧ N ≤ ab ∧ (0 < bs.length → ab < x.heap.size) ∧ ∀ (y : World) (b : Nat), (0 < bs.length → ab ≠ b) → (0 < bs.length → y.heap[ab]? = x.heap[ab]?) → Whole y b ab 0 bs.length c (fun i => bs.getD i 0) oa := by
  have hby : ∀ i, i < bs.length → 0 ≤ bs.getD i 0 ∧ bs.getD i 0 ≤ 255 := fun i hi => by
    rw [List.getD_eq_getElem?_getD, List.getElem?_eq_getElem hi, Option.getD_some]
    exact hb _ (List.getElem_mem hi)
  obtain ⟨oa, c, rfl⟩ := h.slice
  cases oa with
  | none =>
    obtain ⟨_, h2⟩ := h
    rcases h2 with ⟨h2, hn⟩ | ⟨g, cap, cur, hv, _⟩
    · injection h2 with _ _ h3
      subst h3
      exact ⟨none, 0, N, rfl, Nat.le_refl _, fun h => by omega, fun y b _ _ => ⟨hl, by omega, hby, fun h => by omega, fun h => by omega, fun h => by omega⟩⟩
    · cases hv
  | some ad =>
    obtain ⟨h1, h2, h3, h4, h5⟩ := h.cells
    refine ⟨some ad, c, ad.block, rfl, h1, fun _ => h2, fun y b hne hy => ⟨hl, h4, hby, fun _ => by rw [← h3], hne, fun hp => ⟨?_, fun i hi => ?_⟩⟩⟩
    · have := hy hp
      rcases Nat.lt_or_ge ad.block y.heap.size with h | h
      · exact h
      · rw [Array.getElem?_eq_none h, Array.getElem?_eq_getElem h2] at this
        cases this
    · have := h5 i (.int .u8 (bs.getD i 0)) (by simp [hi])
      rw [h3, Go.WideShapes.add_plain] at this
      exact (World.cell?_of_block (a := ⟨ad.block, 0 + i, none⟩) (hy hp)).trans this

theorem genLoop_bytes (g : Nat → List Int × Nat) (hg : ∀ i, ∀ z ∈ (g i).1, 0 ≤ z ∧ z ≤ 255) (d : Bool) (m : Nat) : ∀ k i, k + m ≤ 3 → ∀ z ∈ (genLoop g d m k i).1, 0 ≤ z ∧ z ≤ 255 := by
  induction m with
  | zero => intro k i _ z hz; simp [genLoop] at hz
  | succ m ih =>
    intro k i hk z hz
    simp only [genLoop, List.mem_append] at hz
    rcases hz with (hz | hz) | hz
    · unfold genKey at hz
      split at hz
      · simp at hz
        rcases hz with rfl | rfl | ⟨_, rfl⟩ <;> omega
      · cases hz
    · exact hg i z hz
    · exact ih (k + 1) _ (by omega) z hz

theorem genBody_bytes (S : Nat → Int) (n : Nat) (hS : ∀ i, i < n → 0 ≤ S i ∧ S i ≤ 255) (g : Option (Nat → List Int × Nat)) (hg : ∀ f, g = some f → ∀ i, ∀ z ∈ (f i).1, 0 ≤ z ∧ z ≤ 255) : ∀ i, ∀ z ∈ (genBody S n g i).1, 0 ≤ z ∧ z ≤ 255 := by
  intro i z hz
  unfold genBody at hz
  split at hz
  · simp at hz; omega
  · have hs := hS i (by omega)
    split at hz
    · simp at hz
      rcases hz with rfl | hz | rfl
      · omega
      · rcases genInt_form (S i / 4 - 32) (by omega) (by omega) with ⟨a, ha, hb, e⟩ | ⟨a, b, ha, hb, hc, hd, e⟩ | ⟨a, ha, hb, e⟩ | ⟨a, b, ha, hb, hc, hd, e⟩
        all_goals
          rw [e] at hz
          simp at hz
          omega
      · omega
    · split at hz
      · simp at hz
        rcases hz with rfl | rfl | ⟨_, rfl⟩ <;> omega
      · cases g with
        | none => simp at hz; omega
        | some f =>
          simp only [List.mem_cons, List.mem_append] at hz
          rcases hz with rfl | hz | hz
          · split <;> omega
          · exact genLoop_bytes f (hg f rfl) _ _ 0 (i + 1) (by omega) z hz
          · simp at hz; omega

theorem gen_bytes (S : Nat → Int) (n : Nat) (hS : ∀ i, i < n → 0 ≤ S i ∧ S i ≤ 255) (k : Nat) : ∀ i, ∀ z ∈ (gen S n k i).1, 0 ≤ z ∧ z ≤ 255 := by
  induction k with
  | zero => exact genBody_bytes S n hS none (fun _ h => by cases h)
  | succ k ih => exact genBody_bytes S n hS _ (fun f h => by cases h; exact ih)

theorem has_take {bs l : List Int} : Has (fun i => (bs ++ l).getD i 0) 0 bs := by
  refine Has.of fun j hj => ?_
  simp only [Nat.zero_add]
  simp [List.getD_eq_getElem?_getD, List.getElem?_append_left hj]

set_option maxHeartbeats 400000 in
theorem well_any (so ro : Option Addr) (sb sa n sc m tc : Nat) (S T : Nat → Int) (w : World) (hn : n ≤ 512) (hm : m ≤ 1024) (hS : ∀ i, i < n → 0 ≤ S i ∧ S i ≤ 255) (hT : ∀ i, i < m → 0 ≤ T i ∧ T i ≤ 255)
    (hso : 0 < n → so = some ⟨sb, sa, none⟩) (htz : ro = none → m = 0 ∧ tc = 0) (hto : ∀ ad, ro = some ad → ∀ j, j < m → w.cell? (ad.add j) = some (.int .u8 (T j))) (hsw : 0 < n → Bytes w sb sa n S) :
    Calls Ybaf.prog 8 #[.slice so n sc, .slice ro m tc] w fun e w' => e = .returned (.bool true) ∧ Below w.heap.size w w' := by
  have hgp := gen_parse (D := fun i => ((gen S n 40 0).1 ++ (List.range m).map T).getD i 0) (L := ((gen S n 40 0).1 ++ (List.range m).map T).length) S n hS 40 0 0 has_take (by simp)
  have hgl := gen_bound S n 40 0
  have hgy := gen_bytes S n hS 40 0
  have hst : GSt w.heap.size sb sa n S (w.alloc (.cells #[.int .i64 0] 3)) 0 (.slice none 0 0) [] :=
    ⟨by show (w.heap.push _)[w.heap.size]? = _; rw [Array.getElem?_push_size]; rfl, Buf.nil _ _, fun j hj => by
      rw [World.cell?_alloc_past _ _ _ (hsw (by omega)).lt]; exact (hsw (by omega)).cell j hj⟩
  have hcall := gen_any (N := w.heap.size) (sc := sc) hn hso (fun h => (hsw h).lt) hS 40 _ 0 _ [] (Nat.le_refl _) (Nat.zero_le _) hst (by simp; omega)
  obtain ⟨bs, hbs⟩ : ∃ bs, bs = (gen S n 40 0).1 := ⟨_, rfl⟩
  rw [← hbs] at hgp hgl hgy hcall
  have hlen : bs.length ≤ 15362 := by have := hgl.2.1 (Nat.zero_le _); omega
  have hlen1 := hgp.2.2
  have HP := hide hgp.1
  have HC := hide hcall
  have HT := hide hto
  have HY := hide hgy
  obtain ⟨i0, hi, hz0, hz1, hz2⟩ := info_parts Ybaf.infoU8
  clear hbs hgp hgl hgy hcall hst hto
  go_enter Ybaf.func8, Ybaf.ntmps8
  go_wp2_with fail
  refine (HC.out).mono ?_
  rintro e y ⟨v1, rfl, hg1, hw1⟩
  have hb1 : Buf (w.heap.size + 1) y v1 bs := by simpa using hg1.buf
  have HB1 := hide hb1
  have hwy : Below w.heap.size w y := ((Below.refl w.heap.size w).alloc (Nat.le_refl _) _).trans hw1
  have hyl : w.heap.size + 1 ≤ y.heap.size := hg1.lt
  clear hg1 hw1 HC hb1
  obtain ⟨oa1, c1, rfl⟩ := HB1.out.slice
  go_wp2_with (at_make; refine wpList_make_own y rfl _ _ 24 rfl y.heap.size 5 i0 (.int .u8 0) 1 Ybaf.underlying24 hi hz0 hz1 .i64 .i64 _ (bs.length + m) rfl rfl (by simp) (by rw [hz2]; omega) (by unfold maxLen; omega) (Nat.le_refl _) ?_)
  intro w2 hown2 hgrow2
  have hy2 : Below y.heap.size y w2 := (Below.refl _ _).grown hgrow2 (Nat.le_refl _) (fun k e => by cases e)
  have HB2 : Hid (Buf y.heap.size w2 (.slice (some ⟨y.heap.size, 0, none⟩) 0 (bs.length + m)) []) := hown2
  have HE2 : Hid (Buf (w.heap.size + 1) w2 (.slice oa1 bs.length c1) bs) := ownsRow_turn HB1.out (Turn.ofBelow (b := w.heap.size) hy2) (by omega)
  have hs2 := hy2.size
  clear hown2 hgrow2 HB1
  go_wp2_with (at_builtin; refine wpList_appAny w2 rfl (.tmp 28) (.tmp 29) rfl y.heap.size _ [] bs rfl HB2.out oa1 bs.length c1 rfl rfl (fun h => HE2.out.isNil h) (fun ad h => by subst h; exact HE2.out.cells.2.2.2.2) (by simp; omega) hs2 ?_)
  intro v3 w3 hb3 hw3
  have HB3 : Hid (Buf y.heap.size w3 v3 bs) := hb3
  have hs3 := hw3.size
  have hww3 : Below w.heap.size w w3 := (hwy.trans (hy2.mono (by omega))).trans (hw3.mono (by omega))
  have HT3 : Hid (∀ ad, ro = some ad → ∀ j u, (((List.range m).map T).map (Value.int .u8))[j]? = some u → w3.cell? (ad.add j) = some u) := by
    intro ad had j u hj
    have hjm : j < m := by
      have := (List.getElem?_eq_some_iff.1 hj).1
      simpa using this
    have h1 := HT.out ad had j hjm
    simp [hjm] at hj
    rw [hww3.cell (World.block_lt_of_cell? _ _ h1), h1, hj]
  clear hb3 HT HB2 HE2
  go_wp2_with (at_builtin; refine wpList_appAny w3 rfl (.tmp 31) (.tmp 32) rfl y.heap.size _ bs ((List.range m).map T) rfl HB3.out ro m tc (by simp) rfl htz HT3.out (by omega) (by omega) ?_)
  intro v4 w4 hb4 hw4
  have hs4 := hw4.size
  obtain ⟨oa4, c4, ab4, rfl, hM4, hlt4, hwh⟩ := hb4.whole (by simp; omega) (fun z hz => by
    rcases List.mem_append.1 hz with hz | hz
    · exact HY.out z hz
    · simp at hz
      obtain ⟨j, hj, rfl⟩ := hz
      exact hT j hj)
  have hww4 : Below w.heap.size w w4 := hww3.trans (hw4.mono (by omega))
  have hlb : (bs ++ (List.range m).map T).length = bs.length + m := by simp
  have HW : Hid (∀ o, Whole (w4.alloc o) w4.heap.size ab4 0 (bs.length + m) c4 (fun i => (bs ++ (List.range m).map T).getD i 0) oa4) := fun o => by
    have := hwh (w4.alloc o) w4.heap.size (fun h => by have := hlt4 h; omega) (fun h => Below.heap_alloc _ _ _ (hlt4 h))
    rw [hlb] at this
    exact this
  have HP2 : Hid (parse (fun i => (bs ++ (List.range m).map T).getD i 0) (bs.length + m) 100 0 = (bs.length, none)) := by
    have := HP.out
    rw [hlb] at this
    exact this.trans (by rw [Nat.zero_add])
  clear hb4 hw4 hw3 hwh HB3 HT3 hi hz0 hz1 hz2 hlb HP
  go_wp2_with fail
  refine (skip_top (HW.out _) 0 (Nat.zero_le _) (Dec.new w4 _ _ _)).mono ?_
  rintro e z ⟨u, rfl, herr, hdz, htz'⟩
  rw [HP2.out] at herr hdz
  obtain rfl : u = .nilIface := herr
  have e1 := hdz.c1
  have e2 := hdz.c2
  have hbz : Below w.heap.size w z := (hww4.alloc (by omega) _).trans (htz'.below (by omega) (by simp; omega))
  clear HW HP2 hdz
  go_wp2
  go_ret
  exact ⟨rfl, hbz⟩

theorem well_long (so ro : Option Addr) (n sc m tc : Nat) (w : World) (h : 512 < n ∨ 1024 < m) :
    Calls Ybaf.prog 8 #[.slice so n sc, .slice ro m tc] w fun e w' => e = .returned (.bool true) ∧ Below w.heap.size w w' := by
  by_cases h1 : 512 < n
  · have h1' : (512 : Int) < n := by omega
    go_enter Ybaf.func8, Ybaf.ntmps8
    go_wp2
    go_ret
    exact ⟨rfl, Below.refl _ _⟩
  · have h2 : (1024 : Int) < m := by omega
    have h1' : ¬ (512 : Int) < n := by omega
    go_enter Ybaf.func8, Ybaf.ntmps8
    go_wp2
    go_ret
    exact ⟨rfl, Below.refl _ _⟩
end Go.Proofs.YbulkacdeFmt
