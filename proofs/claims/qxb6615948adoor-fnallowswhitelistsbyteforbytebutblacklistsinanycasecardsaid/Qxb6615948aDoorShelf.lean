/-
  The library's contracts at this dump, in plain words: strings.Builder's Grow, WriteString, WriteRune, String; unicode.lookupCaseRange, convertCase. Each is one application of a theorem of the guide's shelf.
-/
import Derived.Shelf.Strings.Builder2
import Derived.Shelf.Strings.BuilderK
import Derived.Shelf.Strings.BuilderRune
import Derived.Shelf.Unicode.CaseLookup
import Derived.Shelf.Unicode.CaseConvert
import Derived.Test.Qxb6615948aDoorProg
namespace Go.Proofs
open Go.Shelf
def Tryd.lays169_ren : Go.Shelf.Ren := ⟨fun | 169 => 25 | n => n, fun | 70 => 41 | 9 => 9 | 0 => 0 | 72 => 44 | 37 => 42 | 127 => 57 | 3 => 3 | 5 => 5 | n => n, fun | n => n⟩
theorem Tryd.lays169 : Go.Proofs.Lays.n169 Tryd.prog Tryd.lays169_ren := {
  mixed := by kernel_rfl
  f169 := Tryd.func25.trans (congrArg some (by kernel_rfl))
  t0 := Tryd.underlying0
  a0 := Tryd.isAgg0
  z0 := Tryd.sizeOf0
  v0 := Tryd.zeroValue0
  t3 := Tryd.underlying3
  a3 := Tryd.isAgg3
  z3 := Tryd.sizeOf3
  v3 := Tryd.zeroValue3
  t9 := Tryd.underlying9
  a9 := Tryd.isAgg9
  z9 := Tryd.sizeOf9
  v9 := Tryd.zeroValue9
  t37 := Tryd.underlying42
  a37 := Tryd.isAgg42
  z37 := Tryd.sizeOf42
  v37 := Tryd.zeroValue42
  t70 := Tryd.underlying41
  a70 := Tryd.isAgg41
  z70 := Tryd.sizeOf41
  v70 := Tryd.zeroValue41
  t72 := Tryd.underlying44
  a72 := Tryd.isAgg44
  z72 := Tryd.sizeOf44
  v72 := Tryd.zeroValue44
  t127 := Tryd.underlying57
  a127 := Tryd.isAgg57
  z127 := Tryd.sizeOf57
  v127 := Tryd.zeroValue57 }
theorem Tryd.Builder_Extra_169 : Builder.Extra Tryd.prog Tryd.lays169_ren := {
  sizeBuilder := by kernel_rfl
  liesBuilder := by kernel_rfl
  t5 := Tryd.underlying5
  a5 := Tryd.isAgg5
  z5 := Tryd.sizeOf5
  v5 := Tryd.zeroValue5
  infoByte := by kernel_rfl
  cellsByte := by kernel_rfl
  sizeByte := by kernel_rfl
  neB5 := by decide }
def Tryd.lays165_ren : Go.Shelf.Ren := ⟨fun | 165 => 21 | 240 => 27 | 241 => 28 | 276 => 31 | 277 => 32 | n => n, fun | 70 => 41 | 3 => 3 | 0 => 0 | 4 => 4 | 9 => 9 | 20 => 20 | 72 => 44 | 37 => 42 | 164 => 58 | 5 => 5 | n => n, fun | n => n⟩
theorem Tryd.lays165 : Go.Proofs.Lays.n165 Tryd.prog Tryd.lays165_ren := {
  mixed := by kernel_rfl
  f165 := Tryd.func21.trans (congrArg some (by kernel_rfl))
  f240 := Tryd.func27.trans (congrArg some (by kernel_rfl))
  f241 := Tryd.func28.trans (congrArg some (by kernel_rfl))
  f276 := Tryd.func31.trans (congrArg some (by kernel_rfl))
  f277 := Tryd.func32.trans (congrArg some (by kernel_rfl))
  t0 := Tryd.underlying0
  a0 := Tryd.isAgg0
  z0 := Tryd.sizeOf0
  v0 := Tryd.zeroValue0
  t3 := Tryd.underlying3
  a3 := Tryd.isAgg3
  z3 := Tryd.sizeOf3
  v3 := Tryd.zeroValue3
  t4 := Tryd.underlying4
  a4 := Tryd.isAgg4
  z4 := Tryd.sizeOf4
  v4 := Tryd.zeroValue4
  t9 := Tryd.underlying9
  a9 := Tryd.isAgg9
  z9 := Tryd.sizeOf9
  v9 := Tryd.zeroValue9
  t20 := Tryd.underlying20
  a20 := Tryd.isAgg20
  z20 := Tryd.sizeOf20
  v20 := Tryd.zeroValue20
  t37 := Tryd.underlying42
  a37 := Tryd.isAgg42
  z37 := Tryd.sizeOf42
  v37 := Tryd.zeroValue42
  t70 := Tryd.underlying41
  a70 := Tryd.isAgg41
  z70 := Tryd.sizeOf41
  v70 := Tryd.zeroValue41
  t72 := Tryd.underlying44
  a72 := Tryd.isAgg44
  z72 := Tryd.sizeOf44
  v72 := Tryd.zeroValue44
  t164 := Tryd.underlying58
  a164 := Tryd.isAgg58
  z164 := Tryd.sizeOf58
  v164 := Tryd.zeroValue58 }
theorem Tryd.Builder_Extra_165 : Builder.Extra Tryd.prog Tryd.lays165_ren := {
  sizeBuilder := by kernel_rfl
  liesBuilder := by kernel_rfl
  t5 := Tryd.underlying5
  a5 := Tryd.isAgg5
  z5 := Tryd.sizeOf5
  v5 := Tryd.zeroValue5
  infoByte := by kernel_rfl
  cellsByte := by kernel_rfl
  sizeByte := by kernel_rfl
  neB5 := by decide }
def Tryd.lays274_ren : Go.Shelf.Ren := ⟨fun | 274 => 34 | n => n, fun | 21 => 21 | 162 => 70 | 160 => 68 | 3 => 3 | 4 => 4 | 46 => 65 | 0 => 0 | 208 => 75 | 51 => 61 | 206 => 73 | n => n, fun | n => n⟩
theorem Tryd.lays274 : Go.Proofs.Lays.n274 Tryd.prog Tryd.lays274_ren := {
  mixed := by kernel_rfl
  f274 := Tryd.func34.trans (congrArg some (by kernel_rfl))
  t0 := Tryd.underlying0
  a0 := Tryd.isAgg0
  z0 := Tryd.sizeOf0
  v0 := Tryd.zeroValue0
  t3 := Tryd.underlying3
  a3 := Tryd.isAgg3
  z3 := Tryd.sizeOf3
  v3 := Tryd.zeroValue3
  t4 := Tryd.underlying4
  a4 := Tryd.isAgg4
  z4 := Tryd.sizeOf4
  v4 := Tryd.zeroValue4
  t21 := Tryd.underlying21
  a21 := Tryd.isAgg21
  z21 := Tryd.sizeOf21
  v21 := Tryd.zeroValue21
  t46 := Tryd.underlying65
  a46 := Tryd.isAgg65
  z46 := Tryd.sizeOf65
  v46 := Tryd.zeroValue65
  t51 := Tryd.underlying61
  a51 := Tryd.isAgg61
  z51 := Tryd.sizeOf61
  v51 := Tryd.zeroValue61
  t160 := Tryd.underlying68
  a160 := Tryd.isAgg68
  z160 := Tryd.sizeOf68
  v160 := Tryd.zeroValue68
  t162 := Tryd.underlying70
  a162 := Tryd.isAgg70
  z162 := Tryd.sizeOf70
  v162 := Tryd.zeroValue70
  t208 := Tryd.underlying75
  a208 := Tryd.isAgg75
  z208 := Tryd.sizeOf75
  v208 := Tryd.zeroValue75 }
def Tryd.lays275_ren : Go.Shelf.Ren := ⟨fun | 275 => 35 | n => n, fun | 3 => 3 | 21 => 21 | 160 => 68 | 0 => 0 | 208 => 75 | 206 => 73 | 4 => 4 | 51 => 61 | n => n, fun | n => n⟩
theorem Tryd.lays275 : Go.Proofs.Lays.n275 Tryd.prog Tryd.lays275_ren := {
  mixed := by kernel_rfl
  f275 := Tryd.func35.trans (congrArg some (by kernel_rfl))
  t0 := Tryd.underlying0
  a0 := Tryd.isAgg0
  z0 := Tryd.sizeOf0
  v0 := Tryd.zeroValue0
  t3 := Tryd.underlying3
  a3 := Tryd.isAgg3
  z3 := Tryd.sizeOf3
  v3 := Tryd.zeroValue3
  t4 := Tryd.underlying4
  a4 := Tryd.isAgg4
  z4 := Tryd.sizeOf4
  v4 := Tryd.zeroValue4
  t21 := Tryd.underlying21
  a21 := Tryd.isAgg21
  z21 := Tryd.sizeOf21
  v21 := Tryd.zeroValue21
  t51 := Tryd.underlying61
  a51 := Tryd.isAgg61
  z51 := Tryd.sizeOf61
  v51 := Tryd.zeroValue61
  t160 := Tryd.underlying68
  a160 := Tryd.isAgg68
  z160 := Tryd.sizeOf68
  v160 := Tryd.zeroValue68
  t206 := Tryd.underlying73
  a206 := Tryd.isAgg73
  z206 := Tryd.sizeOf73
  v206 := Tryd.zeroValue73
  t208 := Tryd.underlying75
  a208 := Tryd.isAgg75
  z208 := Tryd.sizeOf75
  v208 := Tryd.zeroValue75 }
def Tryd.lays166_ren : Go.Shelf.Ren := ⟨fun | 166 => 22 | 240 => 27 | 276 => 31 | n => n, fun | 0 => 0 | 3 => 3 | 4 => 4 | 5 => 5 | 9 => 9 | 20 => 20 | 37 => 42 | 70 => 41 | 72 => 44 | 75 => 47 | 80 => 52 | 164 => 58 | n => n, fun | n => n⟩
theorem Tryd.lays166 : Go.Proofs.Lays.n166 Tryd.prog Tryd.lays166_ren := {
  mixed := by kernel_rfl
  f166 := Tryd.func22.trans (congrArg some (by kernel_rfl))
  f240 := Tryd.func27.trans (congrArg some (by kernel_rfl))
  f276 := Tryd.func31.trans (congrArg some (by kernel_rfl))
  t0 := Tryd.underlying0
  a0 := Tryd.isAgg0
  z0 := Tryd.sizeOf0
  v0 := Tryd.zeroValue0
  t3 := Tryd.underlying3
  a3 := Tryd.isAgg3
  z3 := Tryd.sizeOf3
  v3 := Tryd.zeroValue3
  t4 := Tryd.underlying4
  a4 := Tryd.isAgg4
  z4 := Tryd.sizeOf4
  v4 := Tryd.zeroValue4
  t9 := Tryd.underlying9
  a9 := Tryd.isAgg9
  z9 := Tryd.sizeOf9
  v9 := Tryd.zeroValue9
  t20 := Tryd.underlying20
  a20 := Tryd.isAgg20
  z20 := Tryd.sizeOf20
  v20 := Tryd.zeroValue20
  t37 := Tryd.underlying42
  a37 := Tryd.isAgg42
  z37 := Tryd.sizeOf42
  v37 := Tryd.zeroValue42
  t70 := Tryd.underlying41
  a70 := Tryd.isAgg41
  z70 := Tryd.sizeOf41
  v70 := Tryd.zeroValue41
  t72 := Tryd.underlying44
  a72 := Tryd.isAgg44
  z72 := Tryd.sizeOf44
  v72 := Tryd.zeroValue44
  t75 := Tryd.underlying47
  a75 := Tryd.isAgg47
  z75 := Tryd.sizeOf47
  v75 := Tryd.zeroValue47
  t164 := Tryd.underlying58
  a164 := Tryd.isAgg58
  z164 := Tryd.sizeOf58
  v164 := Tryd.zeroValue58 }
def Tryd.lays168_ren : Go.Shelf.Ren := ⟨fun | 168 => 23 | 240 => 27 | 242 => 29 | 276 => 31 | 278 => 33 | n => n, fun | 0 => 0 | 3 => 3 | 4 => 4 | 5 => 5 | 9 => 9 | 20 => 20 | 21 => 21 | 37 => 42 | 46 => 65 | 51 => 61 | 70 => 41 | 72 => 44 | 75 => 47 | 80 => 52 | 164 => 58 | n => n, fun | n => n⟩
theorem Tryd.lays168 : Go.Proofs.Lays.n168 Tryd.prog Tryd.lays168_ren := {
  mixed := by kernel_rfl
  f168 := Tryd.func23.trans (congrArg some (by kernel_rfl))
  f240 := Tryd.func27.trans (congrArg some (by kernel_rfl))
  f242 := Tryd.func29.trans (congrArg some (by kernel_rfl))
  f276 := Tryd.func31.trans (congrArg some (by kernel_rfl))
  f278 := Tryd.func33.trans (congrArg some (by kernel_rfl))
  t0 := Tryd.underlying0
  a0 := Tryd.isAgg0
  z0 := Tryd.sizeOf0
  v0 := Tryd.zeroValue0
  t3 := Tryd.underlying3
  a3 := Tryd.isAgg3
  z3 := Tryd.sizeOf3
  v3 := Tryd.zeroValue3
  t4 := Tryd.underlying4
  a4 := Tryd.isAgg4
  z4 := Tryd.sizeOf4
  v4 := Tryd.zeroValue4
  t5 := Tryd.underlying5
  a5 := Tryd.isAgg5
  z5 := Tryd.sizeOf5
  v5 := Tryd.zeroValue5
  t9 := Tryd.underlying9
  a9 := Tryd.isAgg9
  z9 := Tryd.sizeOf9
  v9 := Tryd.zeroValue9
  t20 := Tryd.underlying20
  a20 := Tryd.isAgg20
  z20 := Tryd.sizeOf20
  v20 := Tryd.zeroValue20
  t21 := Tryd.underlying21
  a21 := Tryd.isAgg21
  z21 := Tryd.sizeOf21
  v21 := Tryd.zeroValue21
  t37 := Tryd.underlying42
  a37 := Tryd.isAgg42
  z37 := Tryd.sizeOf42
  v37 := Tryd.zeroValue42
  t46 := Tryd.underlying65
  a46 := Tryd.isAgg65
  z46 := Tryd.sizeOf65
  v46 := Tryd.zeroValue65
  t51 := Tryd.underlying61
  a51 := Tryd.isAgg61
  z51 := Tryd.sizeOf61
  v51 := Tryd.zeroValue61
  t70 := Tryd.underlying41
  a70 := Tryd.isAgg41
  z70 := Tryd.sizeOf41
  v70 := Tryd.zeroValue41
  t72 := Tryd.underlying44
  a72 := Tryd.isAgg44
  z72 := Tryd.sizeOf44
  v72 := Tryd.zeroValue44
  t75 := Tryd.underlying47
  a75 := Tryd.isAgg47
  z75 := Tryd.sizeOf47
  v75 := Tryd.zeroValue47
  t164 := Tryd.underlying58
  a164 := Tryd.isAgg58
  z164 := Tryd.sizeOf58
  v164 := Tryd.zeroValue58 }
theorem Tryd.Builder_Extra_166 : Builder.Extra Tryd.prog Tryd.lays166_ren := {
  sizeBuilder := by kernel_rfl
  liesBuilder := by kernel_rfl
  t5 := Tryd.underlying5
  a5 := Tryd.isAgg5
  z5 := Tryd.sizeOf5
  v5 := Tryd.zeroValue5
  infoByte := by kernel_rfl
  cellsByte := by kernel_rfl
  sizeByte := by kernel_rfl
  neB5 := by decide }
theorem Tryd.Builder_Extra_168 : Builder.Extra Tryd.prog Tryd.lays168_ren := {
  sizeBuilder := by kernel_rfl
  liesBuilder := by kernel_rfl
  t5 := Tryd.underlying5
  a5 := Tryd.isAgg5
  z5 := Tryd.sizeOf5
  v5 := Tryd.zeroValue5
  infoByte := by kernel_rfl
  cellsByte := by kernel_rfl
  sizeByte := by kernel_rfl
  neB5 := by decide }
open Go.RowKit in
theorem Tryd.Builder_Grow_fresh (B b n : Nat) (w : World) (hB : B ≤ b) (hbk : w.heap[b]? = some (.cells #[.pointer none, .slice none 0 0] 44 (0, 0))) (hBw : B ≤ w.heap.size) (hn : n ≤ 281474976710656) :
    Calls Tryd.prog 21 #[.pointer (some ⟨b, 0, none⟩), .int .i64 n] w fun e w' => e = .returned (.tuple #[]) ∧ (Lib.BuilderAt 44 5 B b (.pointer (some ⟨b, 0, none⟩)) [] w' ∧ Below B w w') := Any.Builder_Grow_fresh Tryd.lays165 Tryd.Builder_Extra_165 B b n w hB hbk hBw hn
open Go.RowKit in
theorem Tryd.Builder_String_any_k (B b : Nat) (l : List UInt8) (w : World) (h : Lib.IsBuilderF 44 5 B b (Lib.byteCells l) w) (hBw : B ≤ w.heap.size) :
    Calls Tryd.prog 25 #[.pointer (some ⟨b, 0, none⟩)] w fun e w' => e = .returned (.string ⟨l.toArray⟩) ∧ (Lib.IsBuilderF 44 5 B b (Lib.byteCells l) w' ∧ Below B w w' ∧ Lib.OthersKept 5 (some b) w w') := Any.Builder_String_any_k Tryd.lays169 Tryd.Builder_Extra_169 B b l w h hBw
open Go.RowKit Go.Lib in
theorem Tryd.unicode_lookupCaseRange (T : Array CaseRow) (R oR cap : Nat) (r : Int) (w : World) (hT : CaseTab R oR T w) (hok : CaseOk T) (hn : T.size ≤ 1000000000) :
    Calls Tryd.prog 34 #[.int .i32 r, .slice (some ⟨R, oR, none⟩) T.size cap] w fun e w' =>
      e = .returned (match lookupIdx T r (T.size + 1) 0 T.size with | some i => .pointer (some ⟨R, oR + i * 5, none⟩) | none => .pointer none) ∧ w' = w := Any.unicode_lookupCaseRange Tryd.lays274 T R oR cap r w hT hok hn
open Go.RowKit Go.Lib in
theorem Tryd.unicode_convertCase (c : Nat) (hc : c < 3) (r : Int) (A o : Nat) (x : CaseRow) (w : World) (hlo : (x.1 : Int) ≤ r) (hhi : r ≤ (x.2.1 : Int)) (hH : x.2.1 < 2147483647) (c0 : w.cell? ⟨A, o, none⟩ = some (.int .u32 x.1)) (cD : w.cell? ⟨A, o + 2 + c, none⟩ = some (.int .i32 (x.delta c))) :
    Calls Tryd.prog 35 #[.int .i64 c, .int .i32 r, .pointer (some ⟨A, o, none⟩)] w fun e w' => e = .returned (.int .i32 (wrap32 (convertR c r x))) ∧ ∃ q, w' = w.drewN q := Any.unicode_convertCase Tryd.lays275 c hc r A o x w hlo hhi hH c0 cD
open Go.RowKit in
theorem Tryd.Builder_WriteString_k (B b : Nat) (bs : List Value) (s : ByteArray) (w : World) (h : Lib.IsBuilderF 44 5 B b bs w) (hlen : bs.length + s.size ≤ 140737488355328) (hBw : B ≤ w.heap.size) :
    Calls Tryd.prog 22 #[.pointer (some ⟨b, 0, none⟩), .string s] w fun e w' => e = .returned (.tuple #[.int .i64 s.size, .nilIface]) ∧ (Lib.BuilderAtF 44 5 B b (.pointer (some ⟨b, 0, none⟩)) (bs ++ Lib.strCells s) w' ∧ Below B w w' ∧ Lib.OthersKept 5 (some b) w w') :=
  Any.Builder_WriteString_k Tryd.lays166 Tryd.Builder_Extra_166 B b bs s w h hlen hBw
open Go.RowKit in
theorem Tryd.Builder_WriteRune_k (B b : Nat) (bs : List Value) (r : Int) (hr0 : -2147483648 ≤ r) (hr1 : r ≤ 2147483647) (w : World) (h : Lib.IsBuilderF 44 5 B b bs w) (hlen : bs.length + 4 ≤ 140737488355328) (hBw : B ≤ w.heap.size) :
    Calls Tryd.prog 23 #[.pointer (some ⟨b, 0, none⟩), .int .i32 r] w fun e w' => e = .returned (.tuple #[.int .i64 ((Lib.runeCells r).length : Nat), .nilIface]) ∧ (Lib.BuilderAtF 44 5 B b (.pointer (some ⟨b, 0, none⟩)) (bs ++ Lib.runeCells r) w' ∧ Below B w w' ∧ Lib.OthersKept 5 (some b) w w') :=
  Any.Builder_WriteRune_k Tryd.lays168 Tryd.Builder_Extra_168 B b bs r hr0 hr1 w h hlen hBw
end Go.Proofs
