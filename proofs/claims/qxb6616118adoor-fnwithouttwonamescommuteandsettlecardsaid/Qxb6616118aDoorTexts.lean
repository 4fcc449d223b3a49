/-
  What a field's cookies are, and the walks of TrimSpace, Cut, SplitSeq at this dump.
-/
import Derived.Test.Qxb6616118aDoorSplit
import Derived.Test.Qxb6616118aDoorShelf2
import Derived.Lib.SmallJoins
import Derived.Lib.SpaceUEq
import Derived.Deep.QuietTactic
import Derived.BigQuiet
namespace Go.Proofs.Qxb6616118aDoor
open Go.RowKit

/-- The tables that strings.TrimSpace reads. -/
def Tabs (w : World) : Prop := Lib.TabIs Tryd.prog w "strings.asciiSpace" .u8 Lib.asciiSpaceTab ∧ Lib.Utf8Tabs (Tryd.lays163_ren.g 3) (Tryd.lays163_ren.g 4) w ∧ Lib.WhiteTab (Tryd.lays163_ren.g 6) w
theorem Tabs.below {w w' : World} (h : Tabs w) (hb : Below w.heap.size w w') : Tabs w' :=
  ⟨Joins.tab_stays Tryd.Space_Extra_163.gNamed h.1 hb (Nat.le_refl _), Utf8Tabs_below h.2.1 hb, WhiteTab_below h.2.2 hb⟩

theorem trim_any (s : ByteArray) (w : World) (hs : s.size ≤ 8388608) (hT : Tabs w) : Calls Tryd.prog 25 #[.string s] w fun e w' => e = .returned (.string (trimB s)) ∧ Below w.heap.size w w' :=
  Any.strings_TrimSpace_any Tryd.lays163 Tryd.Space_Extra_163 s w (by omega) hT.1 hT.2.1 hT.2.2

theorem cutLite_any (s : ByteArray) (w : World) (hs : s.size ≤ 8388608) : Calls Tryd.prog 34 #[.string s, .string ⟨#[61]⟩] w fun e w' => e = .returned (.tuple #[.string (beforeB s), .string (afterB s), .bool (foundB s)]) ∧ ∃ n, w' = w.drewN n := by
  unfold beforeB afterB foundB
  have HI := hide (fun w => Tryd.stringslite_Index_one s 61 w)
  rcases indexByte_cases 61 s.data.toList with ⟨h1, -⟩ | ⟨i, h1, h2, -⟩
  · rw [h1] at HI ⊢
    go_enter Tryd.func34, Tryd.ntmps34
    go_wp2_with (first | (go_at_call 43; refine (HI.out _).mono ?_; rintro e w' ⟨rfl, rfl⟩) | fail)
    go_ret3
    exact ⟨rfl, 0, rfl⟩
  · rw [h1] at HI ⊢
    have h3 : i < s.size := by simpa using h2
    have hiz : (i : Int) < (s.size : Int) := by omega
    have hiz2 : (i : Int) + 1 ≤ (s.size : Int) := by omega
    have hne : ¬ ((i : Int) = -1) := by omega
    rw [if_neg hne, if_neg hne, if_neg hne]
    go_enter Tryd.func34, Tryd.ntmps34
    go_wp2_with (first | (go_at_call 43; refine (HI.out _).mono ?_; rintro e w' ⟨rfl, rfl⟩) | fail)
    go_quiet (fail)
    go_wp2
    go_ret3
    exact ⟨rfl, _, rfl⟩
theorem cut_any (s : ByteArray) (w : World) (hs : s.size ≤ 8388608) : Calls Tryd.prog 26 #[.string s, .string ⟨#[61]⟩] w fun e w' => e = .returned (.tuple #[.string (beforeB s), .string (afterB s), .bool (foundB s)]) ∧ ∃ n, w' = w.drewN n := by
  go_enter Tryd.func26, Tryd.ntmps26
  go_wp2_with (first | (go_at_call 34; refine (cutLite_any s _ hs).mono ?_; rintro e w' ⟨rfl, n, rfl⟩) | fail)
  go_ret3
  exact ⟨rfl, n, rfl⟩

theorem splitSeq_any (f : ByteArray) (w : World) : Calls Tryd.prog 30 #[.string f, .string ⟨#[59]⟩, .int .i64 0] w fun e w' =>
    e = .returned (.func (.func 37) #[] #[.pointer (some ⟨w.heap.size + 1, 0, none⟩), .pointer (some ⟨w.heap.size, 0, none⟩), .pointer (some ⟨w.heap.size + 2, 0, none⟩)]) ∧ w' = ((w.alloc (.cells #[.string f] 9)).alloc (.cells #[.string ⟨#[59]⟩] 9)).alloc (.cells #[.int .i64 0] 3) := by
  go_enter Tryd.func30, Tryd.ntmps30
  go_wp2
  go_ret
  exact ⟨rfl, rfl⟩
theorem SplitSeq_any (f : ByteArray) (w : World) : Calls Tryd.prog 24 #[.string f, .string ⟨#[59]⟩] w fun e w' =>
    e = .returned (.func (.func 37) #[] #[.pointer (some ⟨w.heap.size + 1, 0, none⟩), .pointer (some ⟨w.heap.size, 0, none⟩), .pointer (some ⟨w.heap.size + 2, 0, none⟩)]) ∧ w' = ((w.alloc (.cells #[.string f] 9)).alloc (.cells #[.string ⟨#[59]⟩] 9)).alloc (.cells #[.int .i64 0] 3) := by
  go_enter Tryd.func24, Tryd.ntmps24
  go_wp2_with (first | (go_at_call 30; refine (splitSeq_any f _).mono ?_; rintro e w' ⟨rfl, rfl⟩) | fail)
  go_ret
  exact ⟨rfl, rfl⟩
end Go.Proofs.Qxb6616118aDoor
