import Derived.Test.YbulkacdeFmtFacts
import Derived.WalkKit
import Derived.WalkSpells
import Derived.WalkLawsBesides
import Derived.Deep.QuietTactic
import Derived.BigQuiet
import Derived.Deep.RegionLaw
import Derived.Defers
namespace Go.Proofs.YbulkacdeFmt
open Go.RowKit Go.Extern.Stop Go.Stop Go.Extern

/-- fmt.Sprintf at the format f and the operands' slice v: it gives some text and draws once. -/
def Says (f : ByteArray) (v : Value) (w : World) : Prop :=
  ∃ (ps : List (Nat × UInt8 × Bool)) (s : ByteArray), (callFunc 26 #[.string f, v]).run Ybaf.prog w = .ok (.row FmtCalls.turnsRow (FmtCalls.save 0 0 v f [] ps)) w ∧
    (FmtCalls.begun #[] #[] (FmtCalls.save 0 0 v f [] ps)).run Ybaf.prog w = .ok (.value (.string s)) w.drew

theorem step_sprintf {ops : Array Oper} {o : Oper} {a : Act} {w : World} {K : Act → World → Prop} {Q : Exit → Act → World → Prop} {E : Prop}
    (hg : o.guard = none) (s x : Operand) (hop : o.op = Op.call { callee := Callee.value (.func 26), args := #[s, x], argTypes := #[9, 33] })
    (f : ByteArray) (v : Value) (hs : a.eval s = .string f) (hx : a.eval x = v) (hsay : Says f v w)
    (hK : ∀ t : ByteArray, K (a.put o.dst (.string t)) w.drew) :
    if Region.wanted o (yielded ops a.tmps) = true then Oper.wp Ybaf.prog o a w K Q else E := by
  have hw : Region.wanted o (yielded ops a.tmps) = true := by simp [Region.wanted, hg]
  rw [if_pos hw]
  obtain ⟨ps, t, hrun, hR⟩ := hsay
  unfold Oper.wp
  have hfn : a.eval (Operand.func 26) = .func (.func 26) #[] #[] := rfl
  simp [execOp, hop, resolve, invoke, Deferred.ofValue, hs, hx, hfn, hrun]
  exact rows_value Ybaf.nextTurns hR (hK t)

theorem wpList_sprintf {ops : Array Oper} {rest : List Oper} {o : Oper} {a : Act} {w : World} {Q : Exit → Act → World → Prop}
    (hg : o.guard = none) (s x : Operand) (hop : o.op = Op.call { callee := Callee.value (.func 26), args := #[s, x], argTypes := #[9, 33] })
    (f : ByteArray) (v : Value) (hs : a.eval s = .string f) (hx : a.eval x = v) (hsay : Says f v w)
    (hK : ∀ t : ByteArray, wpList Ybaf.prog ops Q rest (a.put o.dst (.string t)) w.drew) : wpList Ybaf.prog ops Q (o :: rest) a w := by
  refine wpList_plain hg fun K hK' => ?_
  obtain ⟨ps, t, hrun, hR⟩ := hsay
  unfold Oper.wp
  have hfn : a.eval (Operand.func 26) = .func (.func 26) #[] #[] := rfl
  simp [execOp, hop, resolve, invoke, Deferred.ofValue, hs, hx, hfn, hrun]
  exact rows_value Ybaf.nextTurns hR (hK' _ _ (hK t))

section
attribute [local go_sem] Ybaf.call26 Ybaf.guard Ybaf.fmtEnd Ybaf.fmtByte Ybaf.fmtFound Ybaf.fmtMalInt Ybaf.fmtMalLen Ybaf.fmtPast Ybaf.fmtOrder Ybaf.fmtDeep Ybaf.act3_100 Ybaf.act5_113 Ybaf.act24_113 Ybaf.op3_100 Ybaf.op5_113

theorem says_end (w : World) : Says ⟨#[117, 110, 101, 120, 112, 101, 99, 116, 101, 100, 32, 101, 110, 100, 32, 111, 102, 32, 100, 97, 116, 97]⟩ (.slice none 0 0) w := by
  refine ⟨[], ?_⟩
  go_simp

theorem says_deep (x : Nat) (w : World) (hc : w.cell? ⟨x, 0, none⟩ = some (.iface 3 (.int .i64 100))) : Says ⟨#[108, 105, 115, 116, 115, 32, 97, 110, 100, 32, 100, 105, 99, 116, 105, 111, 110, 97, 114, 105, 101, 115, 32, 110, 101, 115, 116, 101, 100, 32, 109, 111, 114, 101, 32, 116, 104, 97, 110, 32, 37, 100, 32, 100, 101, 101, 112]⟩ (.slice (some ⟨x, 0, none⟩) 1 1) w := by
  refine ⟨[(0, 100, false)], ?_⟩
  go_simp

theorem says_byte (x : Nat) (c : Int) (w : World) (hc : w.cell? ⟨x, 0, none⟩ = some (.iface 5 (.int .u8 c))) : Says ⟨#[117, 110, 101, 120, 112, 101, 99, 116, 101, 100, 32, 98, 121, 116, 101, 32, 37, 113]⟩ (.slice (some ⟨x, 0, none⟩) 1 1) w := by
  refine ⟨[(0, 113, false)], ?_⟩
  go_simp

theorem says_found (x : Nat) (c : Int) (w : World) (hc : w.cell? ⟨x, 0, none⟩ = some (.iface 5 (.int .u8 c))) : Says ⟨#[101, 120, 112, 101, 99, 116, 101, 100, 32, 97, 32, 98, 121, 116, 101, 32, 115, 116, 114, 105, 110, 103, 44, 32, 102, 111, 117, 110, 100, 32, 37, 113]⟩ (.slice (some ⟨x, 0, none⟩) 1 1) w := by
  refine ⟨[(0, 113, false)], ?_⟩
  go_simp

theorem says_past (x : Nat) (n : Int) (w : World) (hc : w.cell? ⟨x, 0, none⟩ = some (.iface 3 (.int .i64 n))) : Says ⟨#[115, 116, 114, 105, 110, 103, 32, 108, 101, 110, 103, 116, 104, 32, 37, 100, 32, 112, 97, 115, 116, 32, 116, 104, 101, 32, 101, 110, 100, 32, 111, 102, 32, 100, 97, 116, 97]⟩ (.slice (some ⟨x, 0, none⟩) 1 1) w := by
  refine ⟨[(0, 100, false)], ?_⟩
  go_simp

theorem says_malInt (x : Nat) (a : Addr) (n cap : Nat) (xs : List Int) (hn : xs.length = n) (w : World) (hc : w.cell? ⟨x, 0, none⟩ = some (.iface 24 (.slice (some a) n cap)))
    (hl : ∀ j v, (xs.map (Value.int .u8))[j]? = some v → w.cell? (a.add j) = some v) : Says ⟨#[109, 97, 108, 102, 111, 114, 109, 101, 100, 32, 105, 110, 116, 101, 103, 101, 114, 32, 37, 113]⟩ (.slice (some ⟨x, 0, none⟩) 1 1) w := by
  subst hn
  refine ⟨[(0, 113, false)], ?_⟩
  have hop := fun name => Ybaf.opBytes_113 name a cap xs w hl
  clear hl
  go_simp

theorem says_malLen (x : Nat) (a : Addr) (n cap : Nat) (xs : List Int) (hn : xs.length = n) (w : World) (hc : w.cell? ⟨x, 0, none⟩ = some (.iface 24 (.slice (some a) n cap)))
    (hl : ∀ j v, (xs.map (Value.int .u8))[j]? = some v → w.cell? (a.add j) = some v) : Says ⟨#[109, 97, 108, 102, 111, 114, 109, 101, 100, 32, 115, 116, 114, 105, 110, 103, 32, 108, 101, 110, 103, 116, 104, 32, 37, 113]⟩ (.slice (some ⟨x, 0, none⟩) 1 1) w := by
  subst hn
  refine ⟨[(0, 113, false)], ?_⟩
  have hop := fun name => Ybaf.opBytes_113 name a cap xs w hl
  clear hl
  go_simp

theorem says_order (x : Nat) (a : Addr) (n cap : Nat) (xs : List Int) (hn : xs.length = n) (w : World) (hc : w.cell? ⟨x, 0, none⟩ = some (.iface 24 (.slice (some a) n cap)))
    (hl : ∀ j v, (xs.map (Value.int .u8))[j]? = some v → w.cell? (a.add j) = some v) : Says ⟨#[100, 105, 99, 116, 105, 111, 110, 97, 114, 121, 32, 107, 101, 121, 32, 37, 113, 32, 111, 117, 116, 32, 111, 102, 32, 111, 114, 100, 101, 114]⟩ (.slice (some ⟨x, 0, none⟩) 1 1) w := by
  subst hn
  refine ⟨[(0, 113, false)], ?_⟩
  have hop := fun name => Ybaf.opBytes_113 name a cap xs w hl
  clear hl
  go_simp
end

/-- errorf: a new SyntaxError at the place where the decoder stands. -/
theorem errorf_any (f : ByteArray) (v : Value) (b : Nat) (p : Int) (w : World) (hp : w.cell? ⟨b, 1, none⟩ = some (.int .i64 p)) (hsay : Says f v w.drew) :
    Calls Ybaf.prog 17 #[.pointer (some ⟨b, 0, none⟩), .string f, v] w
      fun e w' => ∃ s, e = .returned (.iface 44 (.pointer (some ⟨w.heap.size, 0, none⟩))) ∧ w' = (w.alloc (.cells #[.int .i64 p, .string s] 47)).drew.drew := by
  go_enter Ybaf.func17, Ybaf.ntmps17
  go_wp2
  go_region_law (refine step_sprintf rfl _ _ rfl _ _ rfl rfl hsay ?_; intro t)
  all_goals go_wp2
  all_goals go_ret
  all_goals exact ⟨_, rfl, rfl⟩

/-- open at the greatest depth: an error, the decoder as it was. -/
theorem open_deep (b : Nat) (p : Int) (w : World) (hp : w.cell? ⟨b, 1, none⟩ = some (.int .i64 p)) (hd : w.cell? ⟨b, 2, none⟩ = some (.int .i64 100)) (hb : b < w.heap.size) :
    Calls Ybaf.prog 14 #[.pointer (some ⟨b, 0, none⟩)] w
      fun e w' => ∃ s, e = .returned (.iface 44 (.pointer (some ⟨w.heap.size + 1, 0, none⟩))) ∧
        w' = ((w.alloc (.cells #[.iface 3 (.int .i64 100)] 20)).alloc (.cells #[.int .i64 p, .string s] 47)).drew.drew := by
  have hbs : ¬ b = w.heap.size := by omega
  go_enter Ybaf.func14, Ybaf.ntmps14
  go_wp2_with fail
  refine (errorf_any _ _ b p _ (by go_simp) (says_deep w.heap.size _ (by go_simp))).mono ?_
  rintro e w' ⟨s, rfl, rfl⟩
  go_wp2
  go_ret
  exact ⟨_, rfl, rfl⟩

/-- open elsewhere: one on, one deeper. -/
theorem open_any (b : Nat) (p d : Int) (w : World) (hp : w.cell? ⟨b, 1, none⟩ = some (.int .i64 p)) (hd : w.cell? ⟨b, 2, none⟩ = some (.int .i64 d)) (hne : (d == 100) = false)
    (f1 : w.frozen? ⟨b, 1, none⟩ = false) (f2 : w.frozen? ⟨b, 2, none⟩ = false) :
    Calls Ybaf.prog 14 #[.pointer (some ⟨b, 0, none⟩)] w
      fun e w' => e = .returned .nilIface ∧ w' = (w.setCell ⟨b, 1, none⟩ (.int .i64 (wrap64 (p + 1)))).setCell ⟨b, 2, none⟩ (.int .i64 (wrap64 (d + 1))) := by
  go_enter Ybaf.func14, Ybaf.ntmps14
  go_wp2
  go_ret
  exact ⟨rfl, rfl⟩

theorem close_any (b : Nat) (d : Int) (w : World) (hd : w.cell? ⟨b, 2, none⟩ = some (.int .i64 d)) (f2 : w.frozen? ⟨b, 2, none⟩ = false) :
    Calls Ybaf.prog 15 #[.pointer (some ⟨b, 0, none⟩)] w
      fun e w' => e = .returned (.tuple #[]) ∧ w' = w.setCell ⟨b, 2, none⟩ (.int .i64 (wrap64 (d - 1))) := by
  go_enter Ybaf.func15, Ybaf.ntmps15
  go_wp2
  go_end0
  exact ⟨rfl, rfl⟩

theorem close_deferred (b : Nat) (d : Int) (u : FrameMode) (w : World) (hd : w.cell? ⟨b, 2, none⟩ = some (.int .i64 d)) (f2 : w.frozen? ⟨b, 2, none⟩ = false) :
    CallsD Ybaf.prog 15 #[.pointer (some ⟨b, 0, none⟩)] u w
      fun e u' w' => u' = u ∧ (e = .returned (.tuple #[]) ∧ w' = w.setCell ⟨b, 2, none⟩ (.int .i64 (wrap64 (d - 1)))) := by
  go_enter_d Ybaf.func15, Ybaf.ntmps15
  go_wp2
  go_end0
  exact ⟨rfl, rfl⟩
end Go.Proofs.YbulkacdeFmt
