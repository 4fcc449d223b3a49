/-
  DERIVED: THE SHELF's CONTRACTS AT THIS DUMP, IN PLAIN WORDS (tools/lay-plain.mjs out of 'TryfShelf.lean', which tools/lay-shelf.mjs wrote): THE SAME DECLARATIONS UNDER THE SAME NAMES: 'import', 'namespace', 'open', 'def', 'theorem' AND NOTHING ELSE: no command of the shelf's: FOR A HAND-IN. Each laying: the table of numbers ('.._ren') and one theorem, a field a fact of the dump's own or the kernel's comparison; each contract: ONE APPLICATION.
-/
import Derived.Shelf.Strings.Prefix
import Derived.Shelf.Strings.Count
import Derived.Shelf.Unicode.Decode
import Derived.Shelf.Unicode.DecodeSlow
import Derived.Shelf.Unicode.DecodeAny
import Derived.Test.Qxb6614930aFmtProg
namespace Go.Proofs
open Go.Shelf
def Tryf.lays99_ren : Go.Shelf.Ren := ⟨fun | 99 => 19 | 206 => 24 | n => n, fun | 9 => 9 | 4 => 4 | 3 => 3 | n => n, fun | n => n⟩
theorem Tryf.lays99 : Go.Proofs.Lays.n99 Tryf.prog Tryf.lays99_ren := {
  mixed := by kernel_rfl
  f99 := Tryf.func19.trans (congrArg some (by kernel_rfl))
  f206 := Tryf.func24.trans (congrArg some (by kernel_rfl))
  t3 := Tryf.underlying3
  a3 := Tryf.isAgg3
  z3 := Tryf.sizeOf3
  v3 := Tryf.zeroValue3
  t4 := Tryf.underlying4
  a4 := Tryf.isAgg4
  z4 := Tryf.sizeOf4
  v4 := Tryf.zeroValue4
  t9 := Tryf.underlying9
  a9 := Tryf.isAgg9
  z9 := Tryf.sizeOf9
  v9 := Tryf.zeroValue9 }
open Go.RowKit Go.Lib in
theorem Tryf.strings_HasPrefix (s p : ByteArray) (w : World) :
    Calls Tryf.prog 19 #[.string s, .string p] w fun e w' => e = .returned (.bool (Lib.hasPrefix s.data.toList p.data.toList)) ∧ w' = w := Any.strings_HasPrefix Tryf.lays99 s p w
def Tryf.lays138_ren : Go.Shelf.Ren := ⟨fun | 138 => 25 | 195 => 29 | 218 => 30 | 143 => 31 | 219 => 37 | 217 => 40 | 225 => 41 | 224 => 42 | 267 => 43 | 266 => 46 | 314 => 47 | n => n, fun | 9 => 9 | 3 => 3 | 4 => 4 | 5 => 5 | 0 => 0 | 46 => 61 | 146 => 73 | 51 => 48 | n => n, fun | 1 => 3 | n => n⟩
theorem Tryf.lays138 : Go.Proofs.Lays.n138 Tryf.prog Tryf.lays138_ren := {
  mixed := by kernel_rfl
  f138 := Tryf.func25.trans (congrArg some (by kernel_rfl))
  f143 := Tryf.func31.trans (congrArg some (by kernel_rfl))
  f195 := Tryf.func29.trans (congrArg some (by kernel_rfl))
  f217 := Tryf.func40.trans (congrArg some (by kernel_rfl))
  f218 := Tryf.func30.trans (congrArg some (by kernel_rfl))
  f219 := Tryf.func37.trans (congrArg some (by kernel_rfl))
  f224 := Tryf.func42.trans (congrArg some (by kernel_rfl))
  f225 := Tryf.func41.trans (congrArg some (by kernel_rfl))
  f266 := Tryf.func46.trans (congrArg some (by kernel_rfl))
  f267 := Tryf.func43.trans (congrArg some (by kernel_rfl))
  f314 := Tryf.func47.trans (congrArg some (by kernel_rfl))
  t0 := Tryf.underlying0
  a0 := Tryf.isAgg0
  z0 := Tryf.sizeOf0
  v0 := Tryf.zeroValue0
  t3 := Tryf.underlying3
  a3 := Tryf.isAgg3
  z3 := Tryf.sizeOf3
  v3 := Tryf.zeroValue3
  t4 := Tryf.underlying4
  a4 := Tryf.isAgg4
  z4 := Tryf.sizeOf4
  v4 := Tryf.zeroValue4
  t5 := Tryf.underlying5
  a5 := Tryf.isAgg5
  z5 := Tryf.sizeOf5
  v5 := Tryf.zeroValue5
  t9 := Tryf.underlying9
  a9 := Tryf.isAgg9
  z9 := Tryf.sizeOf9
  v9 := Tryf.zeroValue9
  t46 := Tryf.underlying61
  a46 := Tryf.isAgg61
  z46 := Tryf.sizeOf61
  v46 := Tryf.zeroValue61
  t51 := Tryf.underlying48
  a51 := Tryf.isAgg48
  z51 := Tryf.sizeOf48
  v51 := Tryf.zeroValue48
  t146 := Tryf.underlying73
  a146 := Tryf.isAgg73
  z146 := Tryf.sizeOf73
  v146 := Tryf.zeroValue73
  g1 := by kernel_rfl }
open Go.RowKit Go.Lib in
theorem Tryf.strings_Count_one (s : ByteArray) (c : UInt8) (w : World) :
    Calls Tryf.prog 25 #[.string s, .string ⟨#[c]⟩] w fun e w' => e = .returned (.int .i64 (Lib.countByte s.data.toList c)) ∧ w' = w := Any.strings_Count_one Tryf.lays138 s c w
def Tryf.lays197_ren : Go.Shelf.Ren := ⟨fun | 197 => 21 | 260 => 28 | n => n, fun | 9 => 9 | 21 => 21 | 3 => 3 | 4 => 4 | 5 => 5 | 105 => 42 | 119 => 49 | 0 => 0 | 46 => 61 | 139 => 64 | 138 => 63 | n => n, fun | 3 => 1 | 4 => 2 | n => n⟩
theorem Tryf.lays197 : Go.Proofs.Lays.n197 Tryf.prog Tryf.lays197_ren := {
  mixed := by kernel_rfl
  f197 := Tryf.func21.trans (congrArg some (by kernel_rfl))
  f260 := Tryf.func28.trans (congrArg some (by kernel_rfl))
  t0 := Tryf.underlying0
  a0 := Tryf.isAgg0
  z0 := Tryf.sizeOf0
  v0 := Tryf.zeroValue0
  t3 := Tryf.underlying3
  a3 := Tryf.isAgg3
  z3 := Tryf.sizeOf3
  v3 := Tryf.zeroValue3
  t4 := Tryf.underlying4
  a4 := Tryf.isAgg4
  z4 := Tryf.sizeOf4
  v4 := Tryf.zeroValue4
  t5 := Tryf.underlying5
  a5 := Tryf.isAgg5
  z5 := Tryf.sizeOf5
  v5 := Tryf.zeroValue5
  t9 := Tryf.underlying9
  a9 := Tryf.isAgg9
  z9 := Tryf.sizeOf9
  v9 := Tryf.zeroValue9
  t21 := Tryf.underlying21
  a21 := Tryf.isAgg21
  z21 := Tryf.sizeOf21
  v21 := Tryf.zeroValue21
  t46 := Tryf.underlying61
  a46 := Tryf.isAgg61
  z46 := Tryf.sizeOf61
  v46 := Tryf.zeroValue61
  t105 := Tryf.underlying42
  a105 := Tryf.isAgg42
  z105 := Tryf.sizeOf42
  v105 := Tryf.zeroValue42
  t119 := Tryf.underlying49
  a119 := Tryf.isAgg49
  z119 := Tryf.sizeOf49
  t138 := Tryf.underlying63
  a138 := Tryf.isAgg63
  z138 := Tryf.sizeOf63
  v138 := Tryf.zeroValue63
  t139 := Tryf.underlying64
  a139 := Tryf.isAgg64
  z139 := Tryf.sizeOf64
  v139 := Tryf.zeroValue64
  g3 := by kernel_rfl
  g4 := by kernel_rfl }
def Tryf.lays260_ren : Go.Shelf.Ren := ⟨fun | 260 => 28 | n => n, fun | 9 => 9 | 21 => 21 | 3 => 3 | 4 => 4 | 5 => 5 | 119 => 49 | 0 => 0 | 46 => 61 | 139 => 64 | 138 => 63 | n => n, fun | 3 => 1 | 4 => 2 | n => n⟩
theorem Tryf.lays260 : Go.Proofs.Lays.n260 Tryf.prog Tryf.lays260_ren := {
  mixed := by kernel_rfl
  f260 := Tryf.func28.trans (congrArg some (by kernel_rfl))
  t0 := Tryf.underlying0
  a0 := Tryf.isAgg0
  z0 := Tryf.sizeOf0
  v0 := Tryf.zeroValue0
  t3 := Tryf.underlying3
  a3 := Tryf.isAgg3
  z3 := Tryf.sizeOf3
  v3 := Tryf.zeroValue3
  t4 := Tryf.underlying4
  a4 := Tryf.isAgg4
  z4 := Tryf.sizeOf4
  v4 := Tryf.zeroValue4
  t5 := Tryf.underlying5
  a5 := Tryf.isAgg5
  z5 := Tryf.sizeOf5
  v5 := Tryf.zeroValue5
  t9 := Tryf.underlying9
  a9 := Tryf.isAgg9
  z9 := Tryf.sizeOf9
  v9 := Tryf.zeroValue9
  t21 := Tryf.underlying21
  a21 := Tryf.isAgg21
  z21 := Tryf.sizeOf21
  v21 := Tryf.zeroValue21
  t46 := Tryf.underlying61
  a46 := Tryf.isAgg61
  z46 := Tryf.sizeOf61
  v46 := Tryf.zeroValue61
  t119 := Tryf.underlying49
  a119 := Tryf.isAgg49
  z119 := Tryf.sizeOf49
  t138 := Tryf.underlying63
  a138 := Tryf.isAgg63
  z138 := Tryf.sizeOf63
  v138 := Tryf.zeroValue63
  t139 := Tryf.underlying64
  a139 := Tryf.isAgg64
  z139 := Tryf.sizeOf64
  v139 := Tryf.zeroValue64
  g3 := by kernel_rfl
  g4 := by kernel_rfl }
open Go.RowKit Go.Lib in
theorem Tryf.utf8_DecodeRuneInString (s : ByteArray) (w : World) (hT : Lib.Utf8Tabs 1 2 w) :
    Calls Tryf.prog 21 #[.string s] w fun e w' => e = .returned (.tuple #[.int .i32 (Lib.decodeGo s).1, .int .i64 (Lib.decodeGo s).2]) ∧ Below w.heap.size w w' := Any.utf8_DecodeRuneInString Tryf.lays197 s w hT
end Go.Proofs
