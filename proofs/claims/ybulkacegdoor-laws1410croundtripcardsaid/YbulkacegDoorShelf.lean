import Derived.Shelf.Small.Wraps
import Derived.Shelf.Strconv.Itoa0
import Derived.Shelf.Strconv.Itoa1
import Derived.Shelf.LaysM
import Derived.Shelf.Strconv.Itoa2
import Derived.Shelf.Strconv.Itoa3
import Derived.Ground.MpProg
import Derived.Shelf.Pu.ParseUintPublic10
import Derived.Test.YbulkacegDoorRows
namespace Go.Proofs.YbulkacegDoor
open Go.Shelf

/-- The name of the table of powers of ten (the first that the row names). -/
def tabName : String := Rows.lawS1410CRoundTripRow.named.headD default

def Ybad.lays103_ren : Go.Shelf.Ren := ⟨fun | 103 => 12 | 210 => 16 | 206 => 21 | n => n, fun | 9 => 9 | 4 => 4 | 24 => 38 | 3 => 3 | n => n, fun | n => n⟩
theorem Ybad.lays103 : Go.Proofs.Lays.n103 Ybad.prog Ybad.lays103_ren := {
  mixed := by kernel_rfl
  f103 := Ybad.func12.trans (congrArg some (by kernel_rfl))
  f206 := Ybad.func21.trans (congrArg some (by kernel_rfl))
  f210 := Ybad.func16.trans (congrArg some (by kernel_rfl))
  t3 := Ybad.underlying3
  a3 := Ybad.isAgg3
  z3 := Ybad.sizeOf3
  v3 := Ybad.zeroValue3
  t4 := Ybad.underlying4
  a4 := Ybad.isAgg4
  z4 := Ybad.sizeOf4
  v4 := Ybad.zeroValue4
  t9 := Ybad.underlying9
  a9 := Ybad.isAgg9
  z9 := Ybad.sizeOf9
  v9 := Ybad.zeroValue9
  t24 := Ybad.underlying38
  a24 := Ybad.isAgg38
  z24 := Ybad.sizeOf38
  v24 := Ybad.zeroValue38 }
open Go.RowKit in
theorem Ybad.strings_CutPrefix (s p : ByteArray) (w : World) :
    Calls Ybad.prog 12 #[.string s, .string p] w fun e w' => e = .returned (.tuple #[.string ⟨(Lib.trimPrefix s.data.toList p.data.toList).toArray⟩, .bool (Lib.hasPrefix s.data.toList p.data.toList)]) ∧ w' = w := Any.strings_CutPrefix Ybad.lays103 s p w
def Ybad.lays283_ren : Go.Shelf.Ren := ⟨fun | 283 => 28 | n => n, fun | 3 => 3 | 9 => 9 | 4 => 4 | n => n, fun | n => n⟩
theorem Ybad.lays283 : Go.Proofs.Lays.n283 Ybad.prog Ybad.lays283_ren := {
  mixed := by kernel_rfl
  f283 := Ybad.func28.trans (congrArg some (by kernel_rfl))
  t3 := Ybad.underlying3
  a3 := Ybad.isAgg3
  z3 := Ybad.sizeOf3
  v3 := Ybad.zeroValue3
  t4 := Ybad.underlying4
  a4 := Ybad.isAgg4
  z4 := Ybad.sizeOf4
  v4 := Ybad.zeroValue4
  t9 := Ybad.underlying9
  a9 := Ybad.isAgg9
  z9 := Ybad.sizeOf9
  v9 := Ybad.zeroValue9 }
open Go.Lib in
theorem Ybad.internal_strconv_small (i : Nat) (h : i < 100) (w : World) :
    Calls Ybad.prog 28 #[.int .i64 i] w fun e w' => e = .returned (.string ⟨(Lib.decDigits i).toArray⟩) ∧ w' = w := Any.internal_strconv_small Ybad.lays283 i h w
def Ybad.laysM284_ren : Go.Shelf.Ren := ⟨fun | 284 => 29 | 129 => 36 | 317 => 35 | 318 => 37 | n => n, fun | 53 => 35 | 3 => 3 | 212 => 66 | 0 => 0 | 4 => 4 | 46 => 50 | 5 => 5 | 9 => 9 | n => n, fun | 17 => 2 | n => n⟩
theorem Ybad.laysM284 : Go.Proofs.LaysM.n284 Ybad.prog Ybad.laysM284_ren := {
  mixed := by kernel_rfl
  f129 := Ybad.func36.trans (congrArg some (by kernel_rfl))
  f284 := Ybad.func29.trans (congrArg some (by kernel_rfl))
  f317 := Ybad.func35.trans (congrArg some (by kernel_rfl))
  f318 := Ybad.func37.trans (congrArg some (by kernel_rfl))
  t0 := Ybad.underlying0
  a0 := Ybad.isAgg0
  z0 := Ybad.sizeOf0
  v0 := Ybad.zeroValue0
  t3 := Ybad.underlying3
  a3 := Ybad.isAgg3
  z3 := Ybad.sizeOf3
  v3 := Ybad.zeroValue3
  t4 := Ybad.underlying4
  a4 := Ybad.isAgg4
  z4 := Ybad.sizeOf4
  v4 := Ybad.zeroValue4
  t5 := Ybad.underlying5
  a5 := Ybad.isAgg5
  z5 := Ybad.sizeOf5
  v5 := Ybad.zeroValue5
  t9 := Ybad.underlying9
  a9 := Ybad.isAgg9
  z9 := Ybad.sizeOf9
  v9 := Ybad.zeroValue9
  t46 := Ybad.underlying50
  a46 := Ybad.isAgg50
  z46 := Ybad.sizeOf50
  v46 := Ybad.zeroValue50
  t53 := Ybad.underlying35
  a53 := Ybad.isAgg35
  z53 := Ybad.sizeOf35
  v53 := Ybad.zeroValue35
  t212 := Ybad.underlying66
  a212 := Ybad.isAgg66
  z212 := Ybad.sizeOf66
  v212 := Ybad.zeroValue66
  g17 := by kernel_rfl
  i0 := by kernel_rfl
  i3 := by kernel_rfl
  i4 := by kernel_rfl
  i5 := by kernel_rfl
  i9 := by kernel_rfl
  i46 := by kernel_rfl
  i53 := by kernel_rfl
  i212 := by kernel_rfl
  m17 := by kernel_rfl }
open Go.Lib in
theorem Ybad.internal_strconv_numDigits (u : Nat) (h1 : 1 ≤ u) (h2 : u < 18446744073709551616) (w : World) (htab : Lib.TabIs Ybad.prog w tabName .u64 Lib.pow10Tab) :
    Calls Ybad.prog 29 #[.int .u64 u] w fun e w' => e = .returned (.int .i64 (Lib.nDigits u)) ∧ w' = w := Any.internal_strconv_numDigits Ybad.laysM284 u h1 h2 w htab
def Ybad.lays285_ren : Go.Shelf.Ren := ⟨fun | 285 => 30 | n => n, fun | 37 => 23 | 53 => 35 | 3 => 3 | 4 => 4 | 51 => 67 | 9 => 9 | 5 => 5 | 0 => 0 | n => n, fun | n => n⟩
theorem Ybad.lays285 : Go.Proofs.Lays.n285 Ybad.prog Ybad.lays285_ren := {
  mixed := by kernel_rfl
  f285 := Ybad.func30.trans (congrArg some (by kernel_rfl))
  t0 := Ybad.underlying0
  a0 := Ybad.isAgg0
  z0 := Ybad.sizeOf0
  v0 := Ybad.zeroValue0
  t3 := Ybad.underlying3
  a3 := Ybad.isAgg3
  z3 := Ybad.sizeOf3
  v3 := Ybad.zeroValue3
  t4 := Ybad.underlying4
  a4 := Ybad.isAgg4
  z4 := Ybad.sizeOf4
  v4 := Ybad.zeroValue4
  t5 := Ybad.underlying5
  a5 := Ybad.isAgg5
  z5 := Ybad.sizeOf5
  v5 := Ybad.zeroValue5
  t9 := Ybad.underlying9
  a9 := Ybad.isAgg9
  z9 := Ybad.sizeOf9
  v9 := Ybad.zeroValue9
  t37 := Ybad.underlying23
  a37 := Ybad.isAgg23
  z37 := Ybad.sizeOf23
  v37 := Ybad.zeroValue23
  t51 := Ybad.underlying67
  a51 := Ybad.isAgg67
  z51 := Ybad.sizeOf67
  v51 := Ybad.zeroValue67
  t53 := Ybad.underlying35
  a53 := Ybad.isAgg35
  z53 := Ybad.sizeOf35
  v53 := Ybad.zeroValue35 }
open Go.RowKit Go.Sort Go.Lib in
theorem Ybad.internal_strconv_formatBase10 (blk off cap : Nat) (u : Nat) (d : Array UInt8) (w : World) (hH : Holds (fun (b : UInt8) => Value.int .u8 (b.toNat : Int)) w blk off d) (hu : u < 10 ^ d.size) (hu64 : u < 18446744073709551616) (hsz : d.size < 4611686018427387904) :
    Calls Ybad.prog 30 #[.slice (some ⟨blk, off, none⟩) d.size cap, .int .u64 u] w fun e w' =>
      e = .returned (.tuple #[]) ∧ ∃ (n v' : Nat) (dk : Array UInt8), w' = (putRow (fun (b : UInt8) => Value.int .u8 (b.toNat : Int)) w blk off dk).drewN n ∧ FmtInv d.size u 0 v' dk := Any.internal_strconv_formatBase10 Ybad.lays285 blk off cap u d w hH hu hu64 hsz
def Ybad.laysPu14_ren : Go.Shelf.Ren := ⟨fun | 14 => 13 | 16 => 17 | 17 => 18 | 19 => 22 | 20 => 23 | 21 => 24 | 22 => 25 | 23 => 26 | 24 => 27 | 25 => 32 | 27 => 34 | 26 => 33 | 28 => 40 | 29 => 43 | 30 => 28 | 31 => 29 | 32 => 30 | 33 => 31 | 35 => 36 | 34 => 35 | 36 => 37 | 37 => 38 | 38 => 39 | 39 => 41 | 40 => 42 | n => n, fun | 9 => 9 | 3 => 3 | 22 => 35 | 24 => 29 | 25 => 40 | 4 => 4 | 34 => 48 | 5 => 5 | 36 => 50 | 37 => 23 | 0 => 0 | 39 => 51 | 21 => 21 | 44 => 62 | 47 => 42 | 50 => 73 | 48 => 71 | 2 => 2 | 52 => 55 | 55 => 58 | 59 => 66 | 60 => 67 | 20 => 20 | 61 => 68 | 65 => 76 | 66 => 77 | 67 => 33 | n => n, fun | 0 => 0 | 1 => 1 | 2 => 2 | 3 => 3 | 4 => 4 | n => n⟩
theorem Ybad.laysPu14 : Go.Proofs.LaysPu.n14 Ybad.prog Ybad.laysPu14_ren := {
  mixed := by kernel_rfl
  f14 := Ybad.func13.trans (congrArg some (by kernel_rfl))
  f16 := Ybad.func17.trans (congrArg some (by kernel_rfl))
  f17 := Ybad.func18.trans (congrArg some (by kernel_rfl))
  f19 := Ybad.func22.trans (congrArg some (by kernel_rfl))
  f20 := Ybad.func23.trans (congrArg some (by kernel_rfl))
  f21 := Ybad.func24.trans (congrArg some (by kernel_rfl))
  f22 := Ybad.func25.trans (congrArg some (by kernel_rfl))
  f23 := Ybad.func26.trans (congrArg some (by kernel_rfl))
  f24 := Ybad.func27.trans (congrArg some (by kernel_rfl))
  f25 := Ybad.func32.trans (congrArg some (by kernel_rfl))
  f26 := Ybad.func33.trans (congrArg some (by kernel_rfl))
  f27 := Ybad.func34.trans (congrArg some (by kernel_rfl))
  f28 := Ybad.func40.trans (congrArg some (by kernel_rfl))
  f29 := Ybad.func43.trans (congrArg some (by kernel_rfl))
  f30 := Ybad.func28.trans (congrArg some (by kernel_rfl))
  f31 := Ybad.func29.trans (congrArg some (by kernel_rfl))
  f32 := Ybad.func30.trans (congrArg some (by kernel_rfl))
  f33 := Ybad.func31.trans (congrArg some (by kernel_rfl))
  f34 := Ybad.func35.trans (congrArg some (by kernel_rfl))
  f35 := Ybad.func36.trans (congrArg some (by kernel_rfl))
  f36 := Ybad.func37.trans (congrArg some (by kernel_rfl))
  f37 := Ybad.func38.trans (congrArg some (by kernel_rfl))
  f38 := Ybad.func39.trans (congrArg some (by kernel_rfl))
  f39 := Ybad.func41.trans (congrArg some (by kernel_rfl))
  f40 := Ybad.func42.trans (congrArg some (by kernel_rfl))
  t0 := Ybad.underlying0
  a0 := Ybad.isAgg0
  z0 := Ybad.sizeOf0
  v0 := Ybad.zeroValue0
  i0 := by kernel_rfl
  t2 := Ybad.underlying2
  a2 := Ybad.isAgg2
  z2 := Ybad.sizeOf2
  v2 := Ybad.zeroValue2
  i2 := by kernel_rfl
  t3 := Ybad.underlying3
  a3 := Ybad.isAgg3
  z3 := Ybad.sizeOf3
  v3 := Ybad.zeroValue3
  i3 := by kernel_rfl
  t4 := Ybad.underlying4
  a4 := Ybad.isAgg4
  z4 := Ybad.sizeOf4
  v4 := Ybad.zeroValue4
  i4 := by kernel_rfl
  t5 := Ybad.underlying5
  a5 := Ybad.isAgg5
  z5 := Ybad.sizeOf5
  v5 := Ybad.zeroValue5
  i5 := by kernel_rfl
  t9 := Ybad.underlying9
  a9 := Ybad.isAgg9
  z9 := Ybad.sizeOf9
  v9 := Ybad.zeroValue9
  i9 := by kernel_rfl
  t20 := Ybad.underlying20
  a20 := Ybad.isAgg20
  z20 := Ybad.sizeOf20
  v20 := Ybad.zeroValue20
  i20 := by kernel_rfl
  t21 := Ybad.underlying21
  a21 := Ybad.isAgg21
  z21 := Ybad.sizeOf21
  v21 := Ybad.zeroValue21
  i21 := by kernel_rfl
  t22 := Ybad.underlying35
  a22 := Ybad.isAgg35
  z22 := Ybad.sizeOf35
  v22 := Ybad.zeroValue35
  i22 := by kernel_rfl
  t24 := Ybad.underlying29
  a24 := Ybad.isAgg29
  z24 := Ybad.sizeOf29
  v24 := Ybad.zeroValue29
  i24 := by kernel_rfl
  t25 := Ybad.underlying40
  a25 := Ybad.isAgg40
  z25 := Ybad.sizeOf40
  v25 := Ybad.zeroValue40
  i25 := by kernel_rfl
  t34 := Ybad.underlying48
  a34 := Ybad.isAgg48
  z34 := Ybad.sizeOf48
  v34 := Ybad.zeroValue48
  i34 := by kernel_rfl
  c34 := by kernel_rfl
  t36 := Ybad.underlying50
  a36 := Ybad.isAgg50
  z36 := Ybad.sizeOf50
  v36 := Ybad.zeroValue50
  i36 := by kernel_rfl
  t37 := Ybad.underlying23
  a37 := Ybad.isAgg23
  z37 := Ybad.sizeOf23
  v37 := Ybad.zeroValue23
  i37 := by kernel_rfl
  t39 := Ybad.underlying51
  a39 := Ybad.isAgg51
  z39 := Ybad.sizeOf51
  v39 := Ybad.zeroValue51
  i39 := by kernel_rfl
  t44 := Ybad.underlying62
  a44 := Ybad.isAgg62
  z44 := Ybad.sizeOf62
  v44 := Ybad.zeroValue62
  i44 := by kernel_rfl
  t47 := Ybad.underlying42
  a47 := Ybad.isAgg42
  z47 := Ybad.sizeOf42
  v47 := Ybad.zeroValue42
  i47 := by kernel_rfl
  t48 := Ybad.underlying71
  a48 := Ybad.isAgg71
  z48 := Ybad.sizeOf71
  v48 := Ybad.zeroValue71
  i48 := by kernel_rfl
  t50 := Ybad.underlying73
  a50 := Ybad.isAgg73
  z50 := Ybad.sizeOf73
  v50 := Ybad.zeroValue73
  i50 := by kernel_rfl
  t52 := Ybad.underlying55
  a52 := Ybad.isAgg55
  z52 := Ybad.sizeOf55
  v52 := Ybad.zeroValue55
  i52 := by kernel_rfl
  t55 := Ybad.underlying58
  a55 := Ybad.isAgg58
  z55 := Ybad.sizeOf58
  v55 := Ybad.zeroValue58
  i55 := by kernel_rfl
  t59 := Ybad.underlying66
  a59 := Ybad.isAgg66
  z59 := Ybad.sizeOf66
  v59 := Ybad.zeroValue66
  i59 := by kernel_rfl
  t60 := Ybad.underlying67
  a60 := Ybad.isAgg67
  z60 := Ybad.sizeOf67
  v60 := Ybad.zeroValue67
  i60 := by kernel_rfl
  t61 := Ybad.underlying68
  a61 := Ybad.isAgg68
  z61 := Ybad.sizeOf68
  t65 := Ybad.underlying76
  a65 := Ybad.isAgg76
  z65 := Ybad.sizeOf76
  v65 := Ybad.zeroValue76
  i65 := by kernel_rfl
  t66 := Ybad.underlying77
  a66 := Ybad.isAgg77
  z66 := Ybad.sizeOf77
  v66 := Ybad.zeroValue77
  i66 := by kernel_rfl
  t67 := Ybad.underlying33
  a67 := Ybad.isAgg33
  z67 := Ybad.sizeOf33
  v67 := Ybad.zeroValue33
  i67 := by kernel_rfl
  g0 := by kernel_rfl
  m0 := by kernel_rfl
  g1 := by kernel_rfl
  m1 := by kernel_rfl
  g2 := by kernel_rfl
  m2 := by kernel_rfl
  g3 := by kernel_rfl
  m3 := by kernel_rfl
  g4 := by kernel_rfl
  m4 := by kernel_rfl }
open Go.RowKit in
theorem Ybad.strconv_ParseUint_10_at64_ok (s : ByteArray) (hmax : s.size ≤ 9223372036854775806) (u : Nat) (h : Lib.parseUintB 64 s.data.toList = .ok u) (w : World) :
    Calls Ybad.prog 13 #[.string s, .int .i64 10, .int .i64 64] w fun e w' => e = .returned (.tuple #[.int .u64 u, .nilIface]) ∧ (w' = w ∨ w' = Lib.bytesWorld w 5 s) := Any.strconv_ParseUint_10_at64_ok Ybad.laysPu14 s hmax u h w
end Go.Proofs.YbulkacegDoor
