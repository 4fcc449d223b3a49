/-
  From the row's listed variables to the tables in memory.
-/
import Derived.Test.Qxb6615948aDoorFoldWalk
import Derived.PinnedBridge
import Derived.Lib.LaidCase
namespace Go.Proofs
open Go.Shelf
def Tryd.lays274g_ren : Go.Shelf.Ren := ⟨fun | 274 => 34 | n => n, fun | 21 => 21 | 162 => 70 | 160 => 68 | 3 => 3 | 4 => 4 | 46 => 65 | 0 => 0 | 208 => 75 | 51 => 61 | 206 => 73 | n => n, fun | 13 => 2 | n => n⟩
theorem Tryd.lays274g : Go.Proofs.Lays.n274 Tryd.prog Tryd.lays274g_ren := {
  mixed := by kernel_rfl
  f274 := Tryd.func34.trans (congrArg some (by kernel_rfl))
  t0 := Tryd.underlying0
  a0 := Tryd.isAgg0
  z0 := Tryd.sizeOf0
  v0 := Tryd.zeroValue0
  t3 := Tryd.underlying3
  a3 := Tryd.isAgg3
  z3 := Tryd.sizeOf3
  v3 := Tryd.zeroValue3
  t4 := Tryd.underlying4
  a4 := Tryd.isAgg4
  z4 := Tryd.sizeOf4
  v4 := Tryd.zeroValue4
  t21 := Tryd.underlying21
  a21 := Tryd.isAgg21
  z21 := Tryd.sizeOf21
  v21 := Tryd.zeroValue21
  t46 := Tryd.underlying65
  a46 := Tryd.isAgg65
  z46 := Tryd.sizeOf65
  v46 := Tryd.zeroValue65
  t51 := Tryd.underlying61
  a51 := Tryd.isAgg61
  z51 := Tryd.sizeOf61
  v51 := Tryd.zeroValue61
  t160 := Tryd.underlying68
  a160 := Tryd.isAgg68
  z160 := Tryd.sizeOf68
  v160 := Tryd.zeroValue68
  t162 := Tryd.underlying70
  a162 := Tryd.isAgg70
  z162 := Tryd.sizeOf70
  v162 := Tryd.zeroValue70
  t208 := Tryd.underlying75
  a208 := Tryd.isAgg75
  z208 := Tryd.sizeOf75
  v208 := Tryd.zeroValue75 }
end Go.Proofs
namespace Go.Proofs.Qxb6615948aDoor
open Go.RowKit Go.Lib Go.Shelf

/-- The variables that both rows list. -/
def laid3 : List (String × DataW Unit) := [("unicode.asciiFold", Rows.laid_unicode_asciiFold), ("unicode.caseOrbit", Rows.laid_unicode_caseOrbit), ("unicode.CaseRanges", Rows.laid_unicode_CaseRanges)]

theorem asc_data : (Rows.laid_unicode_asciiFold : DataW Unit) = tabData .u16 (ascL.map fun (n : Nat) => (n : Int)) := by kernel_rfl
theorem orb_data : (Rows.laid_unicode_caseOrbit : DataW Unit) = .slice (orbL.map fun p => .agg ([(p.1 : Int), (p.2 : Int)].map fun z => .lit (.int .u16 z))) [] := by kernel_rfl
theorem g_asc : Tryd.prog.globalNamed "unicode.asciiFold" = some 0 := by kernel_rfl
theorem g_orb : Tryd.prog.globalNamed "unicode.caseOrbit" = some 1 := by kernel_rfl
theorem y_asc : (Tryd.prog.globals[0]?).map (·.type) = some 63 := by kernel_rfl
theorem y_orb : (Tryd.prog.globals[1]?).map (·.type) = some 64 := by kernel_rfl
theorem cells62 : Tryd.prog.cellsOf 62 = 1 := by kernel_rfl
theorem cells63 : Tryd.prog.cellsOf 63 = 128 := by kernel_rfl
theorem cells67 : Tryd.prog.cellsOf 67 = 2 := by kernel_rfl
theorem ascL_128 : ascL.length = 128 := by kernel_rfl
theorem caseX : CaseExtra Tryd.prog Tryd.lays274g_ren := ⟨by kernel_rfl, by kernel_rfl, by kernel_rfl, by kernel_rfl, by kernel_rfl, by kernel_rfl⟩

theorem foldTabs_of_laid {W : World} (h : laidMet Tryd.prog laid3 W) : FoldTabs W := by
  have h0 : VarReads Tryd.prog W "unicode.asciiFold" Rows.laid_unicode_asciiFold := laidMet.reads h (by simp [laid3])
  have h1 : VarReads Tryd.prog W "unicode.caseOrbit" Rows.laid_unicode_caseOrbit := laidMet.reads h (by simp [laid3])
  have h2 : VarReads Tryd.prog W "unicode.CaseRanges" Rows.laid_unicode_CaseRanges := laidMet.reads h (by simp [laid3])
  refine ⟨fun i hi => ?_, ?_, ?_⟩
  · rw [asc_data] at h0
    obtain ⟨g, t, cs, fuel, p, hg, hty, hvar, hd⟩ := h0
    obtain rfl := Option.some.inj (g_asc.symm.trans hg)
    obtain rfl := Option.some.inj (y_asc.symm.trans hty)
    have hcs := cells_of_tab Tryd.underlying63 Tryd.underlying62 cells62 cells63 hd
    rw [World.var?_cell hg hvar i, ← Array.getElem?_toList, hcs]
    have hi' : i < ascL.length := by rw [ascL_128]; exact hi
    simp [List.getD, List.getElem?_eq_getElem hi']
  · rw [orb_data] at h1
    obtain ⟨g, t, cs, fuel, p, hg, hty, hvar, hd⟩ := h1
    obtain rfl := Option.some.inj (g_orb.symm.trans hg)
    obtain rfl := Option.some.inj (y_orb.symm.trans hty)
    rcases DataW.trod_slice Tryd.underlying64 hd with ⟨_, hx'⟩ | ⟨a', len, cap, el, rs, m, rfl, hc0, hx', _, hlc, _, hel, helem, hsp, _⟩
    · cases hx'
    have e0 := congrArg Prod.fst hx'
    simp only [DataW.slice.injEq] at e0
    obtain ⟨eE, eR⟩ := e0
    have hlen : len = 94 := by
      have := congrArg List.length eE
      rw [List.length_map, List.length_map, orbL_94] at this
      omega
    subst hlen
    have hrow : ∀ i, i < 94 → ∀ j, j < 2 → W.cell? ((a'.add (i * 2)).add j) = ([.int .u16 ((orbFrom i : Nat) : Int), .int .u16 ((orbTo i : Nat) : Int)] : List Value)[j]? := by
      intro i hi j hj
      have h1 := helem i hi
      rw [cells67] at h1
      obtain ⟨b, hb⟩ : ∃ b, el[i]? = some b := ⟨el[i]'(by omega), List.getElem?_eq_getElem (by omega)⟩
      rw [hb] at h1
      obtain ⟨ce, hce, hte⟩ := Option.bind_eq_some_iff.1 h1
      have hb1 : b.1 = .agg ([((orbFrom i : Nat) : Int), ((orbTo i : Nat) : Int)].map fun z => .lit (.int .u16 z)) := by
        have := congrArg (·[i]?) eE
        have hi' : i < orbL.length := by rw [orbL_94]; exact hi
        simp only [List.getElem?_map, hb, Option.map_some, List.getElem?_eq_getElem hi', Option.some.injEq] at this
        rw [← this]
        unfold orbFrom orbTo
        rw [List.getD, List.getElem?_eq_getElem hi']
        rfl
      obtain ⟨b0, b1⟩ := b
      simp only at hb1
      subst hb1
      have hcs := ints_of_struct Tryd.underlying67 (fun j f hj => by
        match j, hj with
        | 0, hj => simp at hj; subst hj; exact ⟨Tryd.underlying62, rfl, cells62⟩
        | 1, hj => simp at hj; subst hj; exact ⟨Tryd.underlying62, rfl, cells62⟩
        | j + 2, hj => simp at hj) (by rw [cells67]; rfl) hte
      obtain ⟨_, _, hcc⟩ := World.cells?_some hce
      rw [hcc j hj, hcs]
      rfl
    obtain ⟨R, oR, sR⟩ := a'
    obtain rfl : sR = none := by
      have h00 := hrow 0 (by omega) 0 (by omega)
      have : (Addr.add (Addr.add ⟨R, oR, sR⟩ (0 * 2)) 0) = ⟨R, oR, sR⟩ := by simp [Addr.add]
      rw [this] at h00
      exact cell_spot h00
    refine ⟨R, oR, cap, ?_, fun i hi => ?_⟩
    · rw [World.var?_cell hg hvar 0, ← Array.getElem?_toList, hc0]
      rfl
    · have k0 := hrow i hi 0 (by omega)
      have k1 := hrow i hi 1 (by omega)
      rw [Addr.add_lit, Addr.add_lit] at k0 k1
      exact ⟨by simpa using k0, by simpa using k1⟩
  · have h2' : VarReads Tryd.prog W "unicode.CaseRanges" caseData := Pinned.caseRanges_eq ▸ h2
    exact caseVar_of_reads Tryd.lays274g (by kernel_rfl) caseX h2'
end Go.Proofs.Qxb6615948aDoor
