/-
  From the rows' listed variables to the tables in memory.
-/
import Derived.Test.Qxb6616118aDoorTexts
import Derived.PinnedBridge
import Derived.Lib.LaidTab
import Derived.Lib.LaidU8
namespace Go.Proofs.Qxb6616118aDoor
open Go.RowKit Go.Lib Go.Shelf

/-- The variables that both rows list. -/
def laidL : List (String × DataW Unit) := Rows.fnWithoutDropsExactlyTheNamedCookiesRow.laid
theorem laid_two : Rows.fnWithoutTwoNamesCommuteAndSettleRow.laid = laidL := rfl
theorem lays199 : Lays.n199 Tryd.prog Tryd.lays163_ren := { Tryd.lays163 with }
theorem lays260 : Lays.n260 Tryd.prog Tryd.lays163_ren := { Tryd.lays163 with }
theorem u8X : U8Extra Tryd.prog Tryd.lays163_ren := ⟨by kernel_rfl, by kernel_rfl, by kernel_rfl, by kernel_rfl, by kernel_rfl, by kernel_rfl, by kernel_rfl⟩
theorem whiteX : WhiteExtra Tryd.prog Tryd.lays163_ren := ⟨by kernel_rfl, by kernel_rfl, by kernel_rfl, by kernel_rfl, by kernel_rfl, by kernel_rfl, by kernel_rfl, by kernel_rfl⟩
theorem acc_data : (Rows.laid_unicode_utf8_acceptRanges : DataW Unit) = acceptData := by kernel_rfl
theorem white_data : (Rows.laid_unicode_White_Space : DataW Unit) = whiteData := by kernel_rfl
theorem asc_data : (Rows.laid_strings_asciiSpace : DataW Unit) = tabData .u8 asciiSpaceTab := by kernel_rfl
theorem first_data : Rows.laid_unicode_utf8_first = firstData := Pinned.utf8First_eq
theorem tabIs_of_reads {P : Program} {W : World} {name : String} {k : IntKind} {zs : List Int} {g : Nat} {t e : TypeId} {n : Nat}
    (hg : P.globalNamed name = some g) (hty : (P.globals[g]?).map (·.type) = some t) (ht : P.underlying t = some (.array n e)) (he : P.underlying e = some (.int k)) (hce : P.cellsOf e = 1) (hct : P.cellsOf t = n)
    (h : VarReads P W name (tabData k zs)) : TabIs P W name k zs := by
  obtain ⟨g', t', cs, fuel, p, hg', ht', hvar, hd⟩ := h
  obtain rfl := Option.some.inj (hg.symm.trans hg')
  obtain rfl := Option.some.inj (hty.symm.trans ht')
  unfold TabIs
  rw [hvar]
  congr 1
  apply Array.toList_inj.1
  rw [cells_of_tab ht he hce hct hd]
theorem tabs_of_laid {W : World} (h : laidMet Tryd.prog laidL W) : Tabs W := by
  refine ⟨?_, ?_, ?_⟩
  · have h2 : VarReads Tryd.prog W "strings.asciiSpace" Rows.laid_strings_asciiSpace := laidMet.reads h (List.mem_of_getElem? (i := 2) rfl)
    rw [asc_data] at h2
    exact tabIs_of_reads (g := 0) (t := 66) (by kernel_rfl) (by kernel_rfl) Tryd.underlying66 Tryd.underlying5 (by kernel_rfl) (by kernel_rfl) h2
  · refine utf8Tabs_of_reads lays260 u8X ?_ ?_
    · rw [← first_data]
      exact laidMet.reads h (List.mem_of_getElem? (i := 3) rfl)
    · rw [← acc_data]
      exact laidMet.reads h (List.mem_of_getElem? (i := 0) rfl)
  · refine whiteTab_of_reads lays199 whiteX ?_
    rw [← white_data]
    exact laidMet.reads h (List.mem_of_getElem? (i := 1) rfl)
end Go.Proofs.Qxb6616118aDoor
