/-
  The row and the card of FnEndLineAgreesWithLineModel.
-/
import Derived.Test.Qxb6614930aFmtCards
import Derived.Test.Qxb6614930aFmtTie
import Derived.Test.Qxb6614930aFmtLaw
import Derived.ProofKit
import Derived.Lay
import Derived.SevenTiedAt
import Derived.Stop.JoinedTold
import Derived.Stop.JoinedAt
import Derived.Lib.LaidU8
import Derived.Lib.Props
import Derived.PinnedBridge
import Derived.SliceStrings
namespace Go.Proofs.Qxb6614930aFmt
open Go.RowKit Go.Shelf Go.Lib Go.ChangeShapes Go.WideShapes Go.ChangeAt
open Go.WideMaps Go.WideElems
open Go.ChangeMaps (open_string shut_string)

theorem own : ownKnob Tryf.prog.godebug = none := by kernel_rfl
theorem Tryf.laidOut : laidOutB Tryf.pinned.checked.prog = true := by kernel_rfl
theorem Tryf.laidOutP : laidOutB Tryf.prog = true := by kernel_rfl
theorem Tryf.stopKnobs : Tryf.pinned.checked.prog.stopKnobs = [] := by kernel_rfl
theorem Tryf.quiet (os : Os) : Stop.quiet Tryf.pinned.checked.prog os := by
  intro k hk
  rw [Tryf.stopKnobs] at hk
  cases hk
theorem rd9 : Tryf.prog.readableRec 9 = true := by kernel_rfl
theorem rd3 : Tryf.prog.readableRec 3 = true := by kernel_rfl
theorem lt9 : 9 < Tryf.prog.types.size := of_decide_eq_true (by kernel_rfl)
theorem lt3 : 3 < Tryf.prog.types.size := of_decide_eq_true (by kernel_rfl)
theorem cons_mk {H : Type} {enc : TypeId × Value → H} {P : Program} {w : World} {base : Nat} {spare : Nat → Bool} {held : Bool} {t : TypeId} {ts : List TypeId} {v : Value} {vs : List Value} {d : DataW H} {ds : List (DataW H)} {p p' : List MemPlace}
    (h : DataW.Trod enc P w base spare held t v d p) (hs : DataW.TrodAll enc P w base spare held ts vs ds p') : DataW.TrodAll enc P w base spare held (t :: ts) (v :: vs) (d :: ds) (p ++ p') := ⟨p, p', h, hs, rfl⟩

theorem prop_data : (Rows.laid_unicode_properties : DataW Unit) = tabData .u8 propertiesTab := by kernel_rfl
theorem acc_data : (Rows.laid_unicode_utf8_acceptRanges : DataW Unit) = acceptData := by kernel_rfl
theorem first_data : Rows.laid_unicode_utf8_first = firstData := Pinned.utf8First_eq
theorem g_prop : Tryf.prog.globalNamed "unicode.properties" = some 0 := by kernel_rfl
theorem y_prop : (Tryf.prog.globals[0]?).map (·.type) = some 49 := by kernel_rfl
theorem cells5 : Tryf.prog.cellsOf 5 = 1 := by kernel_rfl
theorem cells49 : Tryf.prog.cellsOf 49 = 256 := by kernel_rfl
def laidL : List (String × DataW Unit) := Rows.fnEndLineAgreesWithLineModelRow.laid
theorem u8x : U8Extra Tryf.prog Tryf.lays260_ren := ⟨by kernel_rfl, by kernel_rfl, by kernel_rfl, by kernel_rfl, by kernel_rfl, by kernel_rfl, by kernel_rfl⟩
theorem prop_small : ∀ i : _root_.Fin 256, 0 ≤ propertiesTab.getD i.val 0 ∧ propertiesTab.getD i.val 0 ≤ 255 := by decide +kernel

theorem tabs_of_laid {W : World} (h : laidMet Tryf.prog laidL W) : Tabs W := by
  have h0 : VarReads Tryf.prog W "unicode.properties" Rows.laid_unicode_properties := laidMet.reads h (by simp [laidL, Rows.fnEndLineAgreesWithLineModelRow])
  refine ⟨utf8Tabs_of_reads (ρ := Tryf.lays260_ren) Tryf.lays260 u8x (laidMet.reads h (by rw [← first_data]; simp [laidL, Rows.fnEndLineAgreesWithLineModelRow])) (laidMet.reads h (by rw [← acc_data]; simp [laidL, Rows.fnEndLineAgreesWithLineModelRow])), fun i hi => ?_⟩
  rw [prop_data] at h0
  obtain ⟨g, t, cs, fuel, p, hg, hty, hvar, hd⟩ := h0
  obtain rfl := Option.some.inj (g_prop.symm.trans hg)
  obtain rfl := Option.some.inj (y_prop.symm.trans hty)
  have hcs := cells_of_tab Tryf.underlying49 Tryf.underlying5 cells5 cells49 hd
  refine ⟨propertiesTab.getD i 0, (prop_small ⟨i, hi⟩).1, (prop_small ⟨i, hi⟩).2, ?_⟩
  rw [World.var?_cell hg hvar i, ← Array.getElem?_toList, hcs]
  have hi' : i < propertiesTab.length := by rw [propertiesTab_length]; exact hi
  simp [List.getD, List.getElem?_eq_getElem hi']

theorem witness_row (os : Os) {H : Type} (enc : TypeId × Value → H) :
    (OpenSpec.ofChange Rows.fnEndLineAgreesWithLineModelSpec).preRow enc Tryf.prog Tryf.f3 [] false laidL ((World.laidAll Tryf.prog os laidL).forCall (fun _ _ => 0) ⟨#[], #[.string ⟨#[]⟩, .int .i64 0], []⟩).memory #[.string ⟨#[]⟩, .int .i64 0] := by
  have hw : (DataW.whole enc Tryf.prog ((World.laidAll Tryf.prog os laidL).forCall (fun _ _ => 0) ⟨#[], #[.string ⟨#[]⟩, .int .i64 0], []⟩).memory Tryf.f3.params.toList (OpenSpec.ofChange Rows.fnEndLineAgreesWithLineModelSpec).vars false #[Value.string ⟨#[]⟩, .int .i64 0].toList 8).map (fun x => (x.1, x.2.1)) =
      some ([.lit (.string []), .lit (.int .i64 0)], []) := by kernel_rfl
  obtain ⟨⟨x1, x2, x3⟩, hx, hx1⟩ := Option.map_eq_some_iff.1 hw
  simp only [Prod.mk.injEq] at hx1
  obtain ⟨rfl, rfl⟩ := hx1
  exact OpenSpec.preRow_of_cond 8 hx (by kernel_rfl) (fun k hk => by cases hk) (by kernel_rfl) (by rw [MakeChecks.laidMetH_plain _ _ _ (by kernel_rfl)]; exact laidMet_laidAll _ (by kernel_rfl) (by kernel_rfl))

set_option maxRecDepth 100000 in
theorem lifted (os : Os) (started : os.Started) (H : Type) (enc : TypeId × Value → H) :
    ReturnsInTold none {} Tryf.checked os 3 .any Input.okWide ((OpenSpec.ofChange Rows.fnEndLineAgreesWithLineModelSpec).preRow enc Tryf.prog Tryf.f3 [] false laidL) (fun F => ((OpenSpec.ofChange Rows.fnEndLineAgreesWithLineModelSpec).at F).post enc Tryf.prog Tryf.f3 false true false false) (aloneAtReturn Tryf.prog) nothingAlways := by
  refine returnsInTold_of_row (C := Tryf.checked) (s := OpenSpec.ofChange Rows.fnEndLineAgreesWithLineModelSpec) (by kernel_rfl) own started (by kernel_rfl) Tryf.func3
    (OpenSpec.witness_stopped_at (enc := enc) (C := Tryf.checked) false (World.laidAll Tryf.prog os laidL) #[.string ⟨#[]⟩, .int .i64 0] (World.laidAll_os _ _ _) (by kernel_rfl) (by kernel_rfl) (by kernel_rfl) (witness_row os enc)) ?_
  intro F W base args ds gs before _ _ hval0 hW _ _ _ hL _
  have hval : ∀ (j : Nat) t v, Tryf.f3.params[j]? = some t → args[j]? = some v → Value.okWide Tryf.prog W .any base t v := hval0
  have hW' := hW
  obtain ⟨p, q, hA0, hV, rfl, _, _⟩ := hW
  have hA : DataW.TrodAll enc Tryf.prog W 0 (fun _ => true) true Tryf.f3.params.toList args.toList ds p := hA0
  rw [Tryf.params3] at hA hval
  obtain ⟨v0, vs0, d0, ds0, p0, q0, hargs, rfl, rfl, h0, r0⟩ := trodAll_cons hA
  obtain ⟨v1, vs1, d1, ds1, p1, q1, rfl, rfl, rfl, h1, r1⟩ := trodAll_cons r0
  obtain ⟨rfl, rfl, rfl⟩ := trodAll_nil r1
  obtain rfl : args = #[v0, v1] := by apply Array.toList_inj.1; exact hargs
  obtain ⟨rfl, rfl⟩ := trodVars_none hV
  simp only [List.append_nil] at hW'
  have hlt := hW'.lt
  have hL1 : laidMetH Tryf.prog laidL W := hL
  rw [MakeChecks.laidMetH_plain _ _ _ (by kernel_rfl)] at hL1
  have hT := tabs_of_laid hL1
  have g0 := h0
  have g1 := h1
  obtain ⟨t, rfl, _, _, ht⟩ := open_string Tryf.underlying9 (hval 0 9 v0 rfl rfl) h0
  obtain ⟨k, rfl, _, _, wi⟩ := open_int Tryf.underlying3 (hval 1 3 v1 rfl rfl) h1
  have h2 : 2 < W.heap.size := block_lt_of_cell (hT.1.2 0 (by omega)).1
  refine (law_any t k W hT h2).mono fun e W' ⟨he, hb⟩ => ?_
  subst he
  refine ⟨_, rfl, _, _, _, [], p0 ++ (p1 ++ []), [], hW', trodAll_mk1 (shut_bool Tryf.underlying4 _), ?_, rfl, hb.frame _, fun h => by cases h⟩
  have l0 : ∀ y ∈ p0, y.block < W.heap.size := fun y hy => by simpa using hlt y (by simp [hy])
  have l1 : ∀ y ∈ p1, y.block < W.heap.size := fun y hy => by simpa using hlt y (by simp [hy])
  exact cons_mk (Below.trod Tryf.laidOutP rd9 lt9 g0 hb l0) (cons_mk (Below.trod Tryf.laidOutP rd3 lt3 g1 hb l1) trodAll_mk0)

theorem card1 : Rows.FnEndLineAgreesWithLineModelToldSaid :=
  Claim7.holds_of_told_tied_any_at .later 3 Tryf.f3 "fmt.Sprintf, its operands' methods called" ["fmt.errorf"] [] _ _ _ _ _ (by kernel_rfl) rfl rfl rfl Tryf.laidOut (by kernel_rfl) rfl ⟨rfl, rfl, rfl, rfl, rfl, rfl, rfl⟩ rfl rfl (by kernel_rfl) (by kernel_rfl) Tryf.func3 (by kernel_rfl)
    (of_decide_eq_true (by kernel_rfl)) (by unfold Func.isWrapper; first | (rw [if_pos (by decide +kernel)]; kernel_rfl) | (rw [if_neg (by decide +kernel)]; exact ⟨rfl, rfl⟩)) (by kernel_rfl) rfl Tryf.stopKnobs.symm (by kernel_rfl)
    (by kernel_rfl) (by kernel_rfl) (by kernel_rfl) (by kernel_rfl) (by kernel_rfl) (by kernel_rfl) (by kernel_rfl) (by kernel_rfl) (by kernel_rfl) rfl (by kernel_rfl) rfl rfl
    rfl rfl
    rfl (by kernel_rfl) (by kernel_rfl) (by kernel_rfl) (by decide) (by kernel_rfl) fnEndLineAgreesWithLineModel_row_tie
    (OpenClaim.moreEntering_of (by kernel_rfl) (by kernel_rfl) (by kernel_rfl) (by kernel_rfl) (by kernel_rfl) (by kernel_rfl) (by kernel_rfl) (by kernel_rfl) (by kernel_rfl) (by kernel_rfl))
    ⟨_, WideRow.started_initial, Tryf.quiet _⟩
    (fun os started _ H enc _ => lifted os started H enc)
end Go.Proofs.Qxb6614930aFmt
