/-
  DERIVED: THE SHELF's CONTRACTS AT THIS DUMP, IN PLAIN WORDS (tools/lay-plain.mjs out of 'TrydShelf18.lean', which tools/lay-shelf.mjs wrote): THE SAME DECLARATIONS UNDER THE SAME NAMES: 'import', 'namespace', 'open', 'def', 'theorem' AND NOTHING ELSE: no command of the shelf's: FOR A HAND-IN. Each laying: the table of numbers ('.._ren') and one theorem, a field a fact of the dump's own or the kernel's comparison; each contract: ONE APPLICATION.
-/
import Derived.Shelf.Strings.Search2
import Derived.Shelf.Strings.Search3
import Derived.Test.Qxb6616118aDoorProg
namespace Go.Proofs
open Go.Shelf
def Tryd.lays219_ren : Go.Shelf.Ren := ⟨fun | 219 => 43 | 217 => 51 | 225 => 52 | 224 => 53 | 267 => 54 | 266 => 56 | 314 => 57 | n => n, fun | 9 => 9 | 3 => 3 | 4 => 4 | 5 => 5 | 46 => 92 | 146 => 99 | 51 => 72 | n => n, fun | 1 => 2 | n => n⟩
theorem Tryd.lays219 : Go.Proofs.Lays.n219 Tryd.prog Tryd.lays219_ren := {
  mixed := by kernel_rfl
  f217 := Tryd.func51.trans (congrArg some (by kernel_rfl))
  f219 := Tryd.func43.trans (congrArg some (by kernel_rfl))
  f224 := Tryd.func53.trans (congrArg some (by kernel_rfl))
  f225 := Tryd.func52.trans (congrArg some (by kernel_rfl))
  f266 := Tryd.func56.trans (congrArg some (by kernel_rfl))
  f267 := Tryd.func54.trans (congrArg some (by kernel_rfl))
  f314 := Tryd.func57.trans (congrArg some (by kernel_rfl))
  t3 := Tryd.underlying3
  a3 := Tryd.isAgg3
  z3 := Tryd.sizeOf3
  v3 := Tryd.zeroValue3
  t4 := Tryd.underlying4
  a4 := Tryd.isAgg4
  z4 := Tryd.sizeOf4
  v4 := Tryd.zeroValue4
  t5 := Tryd.underlying5
  a5 := Tryd.isAgg5
  z5 := Tryd.sizeOf5
  v5 := Tryd.zeroValue5
  t9 := Tryd.underlying9
  a9 := Tryd.isAgg9
  z9 := Tryd.sizeOf9
  v9 := Tryd.zeroValue9
  t46 := Tryd.underlying92
  a46 := Tryd.isAgg92
  z46 := Tryd.sizeOf92
  v46 := Tryd.zeroValue92
  t51 := Tryd.underlying72
  a51 := Tryd.isAgg72
  z51 := Tryd.sizeOf72
  v51 := Tryd.zeroValue72
  t146 := Tryd.underlying99
  a146 := Tryd.isAgg99
  z146 := Tryd.sizeOf99
  v146 := Tryd.zeroValue99
  g1 := by kernel_rfl }
open Go.RowKit Go.Lib in
theorem Tryd.stringslite_Index_one (s : ByteArray) (c : UInt8) (w : World) :
    Calls Tryd.prog 43 #[.string s, .string ⟨#[c]⟩] w fun e w' => e = .returned (.int .i64 (Lib.indexByte s.data.toList c)) ∧ w' = w := Any.stringslite_Index_one Tryd.lays219 s c w
def Tryd.lays143_ren : Go.Shelf.Ren := ⟨fun | 143 => 39 | 219 => 43 | 217 => 51 | 225 => 52 | 224 => 53 | 267 => 54 | 266 => 56 | 314 => 57 | n => n, fun | 9 => 9 | 3 => 3 | 4 => 4 | 5 => 5 | 46 => 92 | 146 => 99 | 51 => 72 | n => n, fun | 1 => 2 | n => n⟩
theorem Tryd.lays143 : Go.Proofs.Lays.n143 Tryd.prog Tryd.lays143_ren := {
  mixed := by kernel_rfl
  f143 := Tryd.func39.trans (congrArg some (by kernel_rfl))
  f217 := Tryd.func51.trans (congrArg some (by kernel_rfl))
  f219 := Tryd.func43.trans (congrArg some (by kernel_rfl))
  f224 := Tryd.func53.trans (congrArg some (by kernel_rfl))
  f225 := Tryd.func52.trans (congrArg some (by kernel_rfl))
  f266 := Tryd.func56.trans (congrArg some (by kernel_rfl))
  f267 := Tryd.func54.trans (congrArg some (by kernel_rfl))
  f314 := Tryd.func57.trans (congrArg some (by kernel_rfl))
  t3 := Tryd.underlying3
  a3 := Tryd.isAgg3
  z3 := Tryd.sizeOf3
  v3 := Tryd.zeroValue3
  t4 := Tryd.underlying4
  a4 := Tryd.isAgg4
  z4 := Tryd.sizeOf4
  v4 := Tryd.zeroValue4
  t5 := Tryd.underlying5
  a5 := Tryd.isAgg5
  z5 := Tryd.sizeOf5
  v5 := Tryd.zeroValue5
  t9 := Tryd.underlying9
  a9 := Tryd.isAgg9
  z9 := Tryd.sizeOf9
  v9 := Tryd.zeroValue9
  t46 := Tryd.underlying92
  a46 := Tryd.isAgg92
  z46 := Tryd.sizeOf92
  v46 := Tryd.zeroValue92
  t51 := Tryd.underlying72
  a51 := Tryd.isAgg72
  z51 := Tryd.sizeOf72
  v51 := Tryd.zeroValue72
  t146 := Tryd.underlying99
  a146 := Tryd.isAgg99
  z146 := Tryd.sizeOf99
  v146 := Tryd.zeroValue99
  g1 := by kernel_rfl }
open Go.RowKit Go.Lib in
theorem Tryd.strings_Index_one (s : ByteArray) (c : UInt8) (w : World) :
    Calls Tryd.prog 39 #[.string s, .string ⟨#[c]⟩] w fun e w' => e = .returned (.int .i64 (Lib.indexByte s.data.toList c)) ∧ w' = w := Any.strings_Index_one Tryd.lays143 s c w
end Go.Proofs
