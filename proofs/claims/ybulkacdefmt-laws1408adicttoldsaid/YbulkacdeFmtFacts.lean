/-
  THE CLOSED FACTS over fmt.Sprintf's stop in this dump, by the kernel's evaluation.
-/
import Derived.Test.YbulkacdeFmtProg
import Derived.Stop.CallBack
import Derived.Stop.IfaceNil
import GoSem.ClaimData
import Derived.Laws.Cells
import Derived.Stop.FmtTextSlices
namespace Go.Proofs
open Go.Extern.Stop Go.Stop Go.Extern

theorem Ybaf.call26 (args : Array Value) (w : World) : (callFunc 26 args).run Ybaf.prog w = (FmtCalls.sprintf #[9, 33] #[9] args).run Ybaf.prog w :=
  run_callFunc_next Ybaf.func26 (by kernel_rfl) (by kernel_rfl) (by kernel_rfl) args w

theorem Ybaf.guard (name : String) (w : World) : (FmtStop.guard name).run Ybaf.prog w = .ok () w := by kernel_rfl
theorem Ybaf.nextTurns : Extern.next FmtCalls.turnsRow = some (FmtCalls.begun #[] #[]) := by kernel_rfl

-- the assertions
theorem Ybaf.assert44 (x : Value) (w : World) : (Instr.typeAssert (.iface 44 x) 30 44 true).run Ybaf.prog w = .ok (.tuple #[x, .bool true]) w := by kernel_rfl

-- the formats
theorem Ybaf.fmtEnd : FmtStop.printed? ⟨#[117, 110, 101, 120, 112, 101, 99, 116, 101, 100, 32, 101, 110, 100, 32, 111, 102, 32, 100, 97, 116, 97]⟩ 0 = some [] := by kernel_rfl
theorem Ybaf.fmtByte : FmtStop.printed? ⟨#[117, 110, 101, 120, 112, 101, 99, 116, 101, 100, 32, 98, 121, 116, 101, 32, 37, 113]⟩ 1 = some [(0, 113, false)] := by kernel_rfl
theorem Ybaf.fmtFound : FmtStop.printed? ⟨#[101, 120, 112, 101, 99, 116, 101, 100, 32, 97, 32, 98, 121, 116, 101, 32, 115, 116, 114, 105, 110, 103, 44, 32, 102, 111, 117, 110, 100, 32, 37, 113]⟩ 1 = some [(0, 113, false)] := by kernel_rfl
theorem Ybaf.fmtMalInt : FmtStop.printed? ⟨#[109, 97, 108, 102, 111, 114, 109, 101, 100, 32, 105, 110, 116, 101, 103, 101, 114, 32, 37, 113]⟩ 1 = some [(0, 113, false)] := by kernel_rfl
theorem Ybaf.fmtMalLen : FmtStop.printed? ⟨#[109, 97, 108, 102, 111, 114, 109, 101, 100, 32, 115, 116, 114, 105, 110, 103, 32, 108, 101, 110, 103, 116, 104, 32, 37, 113]⟩ 1 = some [(0, 113, false)] := by kernel_rfl
theorem Ybaf.fmtPast : FmtStop.printed? ⟨#[115, 116, 114, 105, 110, 103, 32, 108, 101, 110, 103, 116, 104, 32, 37, 100, 32, 112, 97, 115, 116, 32, 116, 104, 101, 32, 101, 110, 100, 32, 111, 102, 32, 100, 97, 116, 97]⟩ 1 = some [(0, 100, false)] := by kernel_rfl
theorem Ybaf.fmtOrder : FmtStop.printed? ⟨#[100, 105, 99, 116, 105, 111, 110, 97, 114, 121, 32, 107, 101, 121, 32, 37, 113, 32, 111, 117, 116, 32, 111, 102, 32, 111, 114, 100, 101, 114]⟩ 1 = some [(0, 113, false)] := by kernel_rfl

theorem Ybaf.fmtDeep : FmtStop.printed? ⟨#[108, 105, 115, 116, 115, 32, 97, 110, 100, 32, 100, 105, 99, 116, 105, 111, 110, 97, 114, 105, 101, 115, 32, 110, 101, 115, 116, 101, 100, 32, 109, 111, 114, 101, 32, 116, 104, 97, 110, 32, 37, 100, 32, 100, 101, 101, 112]⟩ 1 = some [(0, 100, false)] := by kernel_rfl

-- the operands
theorem Ybaf.act3_100 (name : String) (x : Value) (w : World) : (FmtCalls.act name false 100 false (.iface 3 x)).run Ybaf.prog w = .ok (.closed false) w := by kernel_rfl
theorem Ybaf.act5_113 (name : String) (x : Value) (w : World) : (FmtCalls.act name false 113 false (.iface 5 x)).run Ybaf.prog w = .ok (.closed false) w := by kernel_rfl
theorem Ybaf.act24_113 (name : String) (x : Value) (w : World) : (FmtCalls.act name false 113 false (.iface 24 x)).run Ybaf.prog w = .ok (.closed false) w := by kernel_rfl
def Ybaf.shape3 : List UInt8 := [5, 3, 0, 0, 0, 0, 0, 0, 0, 105, 110, 116]
def Ybaf.shape5 : List UInt8 := [6, 5, 0, 0, 0, 0, 0, 0, 0, 117, 105, 110, 116, 56]
theorem Ybaf.op3_100 (name : String) (x : Int) (w : World) : (FmtStop.operand name false 100 false (.iface 3 (.int .i64 x))).run Ybaf.prog w = .ok (Ybaf.shape3, digits 8 (x % 2 ^ 64).toNat) w := by kernel_rfl
theorem Ybaf.op5_113 (name : String) (x : Int) (w : World) : (FmtStop.operand name false 113 false (.iface 5 (.int .u8 x))).run Ybaf.prog w = .ok (Ybaf.shape5, digits 8 (x % 2 ^ 64).toNat) w := by kernel_rfl

/-- The name of the type of byte slices, spelt by its signs' numbers. -/
def Ybaf.name24 : String := String.ofList [Char.ofNat 91, Char.ofNat 93, Char.ofNat 117, Char.ofNat 105, Char.ofNat 110, Char.ofNat 116, Char.ofNat 56]
def Ybaf.shape24 : List UInt8 := 13 :: (FmtStop.pack Ybaf.name24.toUTF8.data.toList ++ 6 :: FmtStop.pack "uint8".toUTF8.data.toList)

theorem Ybaf.value5 (name : String) (x : Int) (w : World) : (FmtStop.value name FmtStop.depth 5 [.int .u8 x]).run Ybaf.prog w = .ok (digits 8 (x % 2 ^ 64).toNat) w := by kernel_rfl

theorem Ybaf.values5 (name : String) (w : World) : ∀ xs : List Int, (List.mapM ((fun c => FmtStop.value name FmtStop.depth 5 [c]) ∘ Value.int IntKind.u8) xs).run Ybaf.prog w = .ok (xs.map fun x => digits 8 (x % 18446744073709551616).toNat) w
  | [] => by simp [List.mapM_nil]
  | x :: xs => by
    have ih := Ybaf.values5 name w xs
    have h := Ybaf.value5 name x w
    simp [List.mapM_cons, h, ih, Result.andThen]

theorem Ybaf.opBytes_113 (name : String) (a : Addr) (cap : Nat) (xs : List Int) (w : World) (hc : ∀ j v, (xs.map (Value.int .u8))[j]? = some v → w.cell? (a.add j) = some v) :
    (FmtStop.operand name false 113 false (.iface 24 (.slice (some a) xs.length cap))).run Ybaf.prog w = .ok (Ybaf.shape24, 1 :: (digits 8 xs.length ++ FmtText.intValues xs)) w := by
  have h1 : (typeStr 24).run Ybaf.prog w = .ok Ybaf.name24 w := by kernel_rfl
  have hb : (FmtStop.bare (FmtStop.asked false 113 false) 24).run Ybaf.prog w = .ok true w := by kernel_rfl
  have hs : (FmtStop.scalar 5).run Ybaf.prog w = .ok true w := by kernel_rfl
  have hy : (Extern.Stop.isByte 5).run Ybaf.prog w = .ok true w := by kernel_rfl
  have hw : Ybaf.prog.funcs.any (·.name == FmtStop.writeWord) = true := by kernel_rfl
  have hsh : (FmtStop.shape name (FmtStop.asked false 113 false) FmtStop.depth 5).run Ybaf.prog w = .ok (6 :: FmtStop.pack "uint8".toUTF8.data.toList) w := by kernel_rfl
  have hl := run_loadCells_list (P := Ybaf.prog) w a (xs.map (Value.int .u8)) hc
  rw [List.length_map] at hl
  simp [FmtStop.operand, h1, hb, hs, hy, hsh, hl, Ybaf.values5, Ybaf.shape24, FmtText.intValues]
  intro hno
  obtain ⟨i, hi, _, _, he⟩ := Array.any_iff_exists.1 hw
  exact absurd (by simpa using he) (hno i hi)

end Go.Proofs
