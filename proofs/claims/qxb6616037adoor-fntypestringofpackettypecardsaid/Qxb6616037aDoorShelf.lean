/-
  DERIVED: THE SHELF's CONTRACTS AT THIS DUMP, IN PLAIN WORDS (tools/lay-plain.mjs out of 'TrydShelf37.lean', which tools/lay-shelf.mjs wrote): THE SAME DECLARATIONS UNDER THE SAME NAMES: 'import', 'namespace', 'open', 'def', 'theorem' AND NOTHING ELSE: no command of the shelf's: FOR A HAND-IN. Each laying: the table of numbers ('.._ren') and one theorem, a field a fact of the dump's own or the kernel's comparison; each contract: ONE APPLICATION.
-/
import Derived.Shelf.Small.Wraps
import Derived.Shelf.Strings.Trim
import Derived.Test.Qxb6616037aDoorProg
namespace Go.Proofs
open Go.Shelf
def Tryd.lays103_ren : Go.Shelf.Ren := ⟨fun | 103 => 10 | 210 => 12 | 206 => 17 | n => n, fun | 9 => 9 | 4 => 4 | 24 => 29 | 3 => 3 | n => n, fun | n => n⟩
theorem Tryd.lays103 : Go.Proofs.Lays.n103 Tryd.prog Tryd.lays103_ren := {
  mixed := by kernel_rfl
  f103 := Tryd.func10.trans (congrArg some (by kernel_rfl))
  f206 := Tryd.func17.trans (congrArg some (by kernel_rfl))
  f210 := Tryd.func12.trans (congrArg some (by kernel_rfl))
  t3 := Tryd.underlying3
  a3 := Tryd.isAgg3
  z3 := Tryd.sizeOf3
  v3 := Tryd.zeroValue3
  t4 := Tryd.underlying4
  a4 := Tryd.isAgg4
  z4 := Tryd.sizeOf4
  v4 := Tryd.zeroValue4
  t9 := Tryd.underlying9
  a9 := Tryd.isAgg9
  z9 := Tryd.sizeOf9
  v9 := Tryd.zeroValue9
  t24 := Tryd.underlying29
  a24 := Tryd.isAgg29
  z24 := Tryd.sizeOf29
  v24 := Tryd.zeroValue29 }
open Go.RowKit Go.Lib in
theorem Tryd.strings_CutPrefix (s p : ByteArray) (w : World) :
    Calls Tryd.prog 10 #[.string s, .string p] w fun e w' => e = .returned (.tuple #[.string ⟨(Lib.trimPrefix s.data.toList p.data.toList).toArray⟩, .bool (Lib.hasPrefix s.data.toList p.data.toList)]) ∧ w' = w := Any.strings_CutPrefix Tryd.lays103 s p w
def Tryd.lays162_ren : Go.Shelf.Ren := ⟨fun | 162 => 11 | 232 => 13 | 227 => 14 | 234 => 15 | 236 => 16 | 228 => 18 | 271 => 19 | 151 => 20 | 120 => 21 | 197 => 22 | 152 => 23 | 260 => 24 | 137 => 25 | 119 => 26 | 224 => 27 | 225 => 28 | 217 => 29 | 266 => 30 | n => n, fun | 9 => 9 | 4 => 4 | 3 => 3 | 5 => 5 | 117 => 36 | 116 => 35 | 0 => 0 | 124 => 39 | 21 => 21 | 105 => 42 | 46 => 49 | 119 => 51 | 139 => 54 | 138 => 53 | n => n, fun | 3 => 0 | 4 => 1 | n => n⟩
theorem Tryd.lays162 : Go.Proofs.Lays.n162 Tryd.prog Tryd.lays162_ren := {
  mixed := by kernel_rfl
  f119 := Tryd.func26.trans (congrArg some (by kernel_rfl))
  f120 := Tryd.func21.trans (congrArg some (by kernel_rfl))
  f137 := Tryd.func25.trans (congrArg some (by kernel_rfl))
  f151 := Tryd.func20.trans (congrArg some (by kernel_rfl))
  f152 := Tryd.func23.trans (congrArg some (by kernel_rfl))
  f162 := Tryd.func11.trans (congrArg some (by kernel_rfl))
  f197 := Tryd.func22.trans (congrArg some (by kernel_rfl))
  f217 := Tryd.func29.trans (congrArg some (by kernel_rfl))
  f224 := Tryd.func27.trans (congrArg some (by kernel_rfl))
  f225 := Tryd.func28.trans (congrArg some (by kernel_rfl))
  f227 := Tryd.func14.trans (congrArg some (by kernel_rfl))
  f228 := Tryd.func18.trans (congrArg some (by kernel_rfl))
  f232 := Tryd.func13.trans (congrArg some (by kernel_rfl))
  f234 := Tryd.func15.trans (congrArg some (by kernel_rfl))
  f236 := Tryd.func16.trans (congrArg some (by kernel_rfl))
  f260 := Tryd.func24.trans (congrArg some (by kernel_rfl))
  f266 := Tryd.func30.trans (congrArg some (by kernel_rfl))
  f271 := Tryd.func19.trans (congrArg some (by kernel_rfl))
  t0 := Tryd.underlying0
  a0 := Tryd.isAgg0
  z0 := Tryd.sizeOf0
  v0 := Tryd.zeroValue0
  t3 := Tryd.underlying3
  a3 := Tryd.isAgg3
  z3 := Tryd.sizeOf3
  v3 := Tryd.zeroValue3
  t4 := Tryd.underlying4
  a4 := Tryd.isAgg4
  z4 := Tryd.sizeOf4
  v4 := Tryd.zeroValue4
  t5 := Tryd.underlying5
  a5 := Tryd.isAgg5
  z5 := Tryd.sizeOf5
  v5 := Tryd.zeroValue5
  t9 := Tryd.underlying9
  a9 := Tryd.isAgg9
  z9 := Tryd.sizeOf9
  v9 := Tryd.zeroValue9
  t21 := Tryd.underlying21
  a21 := Tryd.isAgg21
  z21 := Tryd.sizeOf21
  v21 := Tryd.zeroValue21
  t46 := Tryd.underlying49
  a46 := Tryd.isAgg49
  z46 := Tryd.sizeOf49
  v46 := Tryd.zeroValue49
  t105 := Tryd.underlying42
  a105 := Tryd.isAgg42
  z105 := Tryd.sizeOf42
  v105 := Tryd.zeroValue42
  t116 := Tryd.underlying35
  a116 := Tryd.isAgg35
  z116 := Tryd.sizeOf35
  t117 := Tryd.underlying36
  a117 := Tryd.isAgg36
  z117 := Tryd.sizeOf36
  v117 := Tryd.zeroValue36
  t119 := Tryd.underlying51
  a119 := Tryd.isAgg51
  z119 := Tryd.sizeOf51
  t124 := Tryd.underlying39
  a124 := Tryd.isAgg39
  z124 := Tryd.sizeOf39
  v124 := Tryd.zeroValue39
  t138 := Tryd.underlying53
  a138 := Tryd.isAgg53
  z138 := Tryd.sizeOf53
  v138 := Tryd.zeroValue53
  t139 := Tryd.underlying54
  a139 := Tryd.isAgg54
  z139 := Tryd.sizeOf54
  v139 := Tryd.zeroValue54
  g3 := by kernel_rfl
  g4 := by kernel_rfl }
open Go.RowKit Go.Lib in
theorem Tryd.strings_TrimRight_one (s : ByteArray) (c : UInt8) (hc : c.toNat < 128) (w : World) (hs : s.size ≤ 9223372036854775807) :
    Calls Tryd.prog 11 #[.string s, .string ⟨#[c]⟩] w fun e w' => e = .returned (.string ⟨(Lib.trimRightB s.data.toList c).toArray⟩) ∧ w' = w := Any.strings_TrimRight_one Tryd.lays162 s c hc w hs
end Go.Proofs
