/-
  The row and the card of FnWithoutTwoNamesCommuteAndSettle.
-/
import Derived.Test.Qxb6616118aDoorCards
import Derived.Test.Qxb6616118aDoorTie
import Derived.Test.Qxb6616118aDoorLawTwo
import Derived.Test.Qxb6616118aDoorRowOne
import Derived.ProofKit
import Derived.Lay
import Derived.SevenTiedAt
import Derived.SliceStrings
namespace Go.Proofs.Qxb6616118aDoor
open Go.RowKit Go.Shelf Go.Lib Go.ChangeShapes Go.WideShapes Go.ChangeAt
open Go.WideMaps Go.WideElems
open Go.ChangeMaps (open_string shut_string)

set_option maxRecDepth 100000 in
theorem liftedTwo (os : Os) (started : os.Started) (H : Type) (enc : TypeId × Value → H) :
    ReturnsInHanded {} Tryd.checked os 4 .any (fun w args => (Rows.fnWithoutTwoNamesCommuteAndSettleSpec.pre enc Tryd.prog Tryd.f4 [] false w args ∧ laidMetH Tryd.prog laidL w) ∧ sizedMet enc Tryd.prog Tryd.f4 (OpenSpec.ofChange Rows.fnWithoutTwoNamesCommuteAndSettleSpec) false w args)
      (Rows.fnWithoutTwoNamesCommuteAndSettleSpec.post enc Tryd.prog Tryd.f4 false true false false) := by
  refine returnsInHanded_of_change_and (C := Tryd.checked) (X := fun w _ => laidMetH Tryd.prog laidL w) (fun _ _ _ hh h => h.of_heap hh) own started (by kernel_rfl) Tryd.func4
    (ChangeSpec.witness_shaped (enc := enc) (C := Tryd.checked) (os := os) (X := fun w _ => laidMetH Tryd.prog laidL w) false (World.laidAll Tryd.prog os laidL) #[.string ByteArray.empty, .bool false, .string ByteArray.empty, .bool false, .slice none 0 0] 8 (World.laidAll_os _ _ _)
      (World.shaped_of_ZipB (by kernel_rfl) (by kernel_rfl)) (by kernel_rfl) (by kernel_rfl) (by kernel_rfl)
      (by rw [MakeChecks.laidMetH_plain _ _ _ (by kernel_rfl)]; exact laidMet_laidAll _ (by kernel_rfl) (by kernel_rfl))) ?_
  intro W base args ds gs before hval0 hW _ _ hL _
  have hval : ∀ (j : Nat) t v, Tryd.f4.params[j]? = some t → args[j]? = some v → Value.okWide Tryd.prog W .any base t v := hval0
  have hW' := hW
  obtain ⟨p, q, hA0, hV, rfl, _, _⟩ := hW
  have hA : DataW.TrodAll enc Tryd.prog W 0 (fun _ => true) true Tryd.f4.params.toList args.toList ds p := hA0
  rw [Tryd.params4] at hA hval
  obtain ⟨v0, vs0, d0, ds0, p0, q0, hargs, rfl, rfl, h0, r0⟩ := trodAll_cons hA
  obtain ⟨v1, vs1, d1, ds1, p1, q1, rfl, rfl, rfl, h1, r1⟩ := trodAll_cons r0
  obtain ⟨v2, vs2, d2, ds2, p2, q2, rfl, rfl, rfl, h2, r2⟩ := trodAll_cons r1
  obtain ⟨v3, vs3, d3, ds3, p3, q3, rfl, rfl, rfl, h3, r3⟩ := trodAll_cons r2
  obtain ⟨v4, vs4, d4, ds4, p4, q4, rfl, rfl, rfl, h4, r4⟩ := trodAll_cons r3
  obtain ⟨rfl, rfl, rfl⟩ := trodAll_nil r4
  obtain rfl : args = #[v0, v1, v2, v3, v4] := by apply Array.toList_inj.1; exact hargs
  obtain ⟨rfl, rfl⟩ := trodVars_none hV
  simp only [List.append_nil] at hW'
  have hlt := hW'.lt
  rw [MakeChecks.laidMetH_plain _ _ _ (by kernel_rfl)] at hL
  have hT := tabs_of_laid hL
  have g0 := h0
  have g1 := h1
  have g2 := h2
  have g3 := h3
  have g4 := h4
  obtain ⟨t0, rfl, _, _, z0⟩ := open_string Tryd.underlying9 (hval 0 9 v0 rfl rfl) h0
  obtain ⟨c1, rfl, _, _⟩ := open_bool Tryd.underlying4 (hval 1 4 v1 rfl rfl) h1
  obtain ⟨t2, rfl, _, _, z2⟩ := open_string Tryd.underlying9 (hval 2 9 v2 rfl rfl) h2
  obtain ⟨c3, rfl, _, _⟩ := open_bool Tryd.underlying4 (hval 3 4 v3 rfl rfl) h3
  obtain ⟨a4, len4, cap4, e4⟩ := okWide_slice Tryd.underlying22 (hval 4 22 v4 rfl rfl)
  obtain ⟨f4, h4⟩ := h4
  obtain ⟨s4, r4, m4, q4⟩ := open_strSl e4 h4
  refine (law2_any t0 c1 t2 c3 v4 s4 W hT r4 m4 z0 z2 q4).mono fun e W' ⟨he, hb⟩ => ?_
  subst he
  refine ⟨_, rfl, _, _, _, [], p0 ++ (p1 ++ (p2 ++ (p3 ++ (p4 ++ [])))), [], hW', trodAll_mk1 (shut_bool Tryd.underlying4 _), ?_, rfl, hb.frame _, fun h => by cases h⟩
  have l0 : ∀ y ∈ p0, y.block < W.heap.size := fun y hy => by simpa using hlt y (by simp [hy])
  have l1 : ∀ y ∈ p1, y.block < W.heap.size := fun y hy => by simpa using hlt y (by simp [hy])
  have l2 : ∀ y ∈ p2, y.block < W.heap.size := fun y hy => by simpa using hlt y (by simp [hy])
  have l3 : ∀ y ∈ p3, y.block < W.heap.size := fun y hy => by simpa using hlt y (by simp [hy])
  have l4 : ∀ y ∈ p4, y.block < W.heap.size := fun y hy => by simpa using hlt y (by simp [hy])
  exact cons_mk (Below.trod Tryd.laidOut rd9 lt9 g0 hb l0) (cons_mk (Below.trod Tryd.laidOut rd4 lt4 g1 hb l1) (cons_mk (Below.trod Tryd.laidOut rd9 lt9 g2 hb l2) (cons_mk (Below.trod Tryd.laidOut rd4 lt4 g3 hb l3) (cons_mk (Below.trod Tryd.laidOut rd22 lt22 g4 hb l4) trodAll_mk0))))

theorem holdsTwo : Rows.FnWithoutTwoNamesCommuteAndSettleSaid :=
  OpenClaim.holds_of_wide 4 Tryd.f4 rfl rfl rfl rfl rfl rfl rfl ⟨rfl, rfl, rfl, rfl, rfl⟩ rfl rfl rfl rfl rfl (by kernel_rfl) Tryd.func4 (by kernel_rfl)
    (of_decide_eq_true (by kernel_rfl)) (by unfold Func.isWrapper; first | (rw [if_pos (by decide +kernel)]; kernel_rfl) | (rw [if_neg (by decide +kernel)]; exact ⟨rfl, rfl⟩))
    (fun os started H enc _ => liftedTwo os started H enc)

theorem named4 : Tryd.prog.funcNamed Rows.fnWithoutTwoNamesCommuteAndSettleRow.func = some 4 := by kernel_rfl
theorem card2 : Rows.FnWithoutTwoNamesCommuteAndSettleCardSaid :=
  Claim7.holds_tied_plain_at .later [] _ true _ false holdsTwo (fun _ h => by cases h) (by kernel_rfl) (fun _ h => by cases h) fnWithoutTwoNamesCommuteAndSettle_row_tie rfl ⟨rfl, rfl⟩ (by kernel_rfl) rfl
    (fun f fn hf hfn => by
      obtain rfl : f = 4 := Option.some.inj (named4.symm.trans hf) |>.symm
      obtain rfl : fn = Tryd.f4 := (Option.some.inj (Tryd.func4.symm.trans hfn)).symm
      exact ⟨by kernel_rfl, fun j t ht => by
        rw [Tryd.params4] at ht
        have hm : t ∈ [9, 4, 9, 4, 22] := by simpa using Array.mem_of_getElem? ht
        have hall : ([9, 4, 9, 4, 22].all fun u => !Tryd.prog.wantsStandIn u) = true := by kernel_rfl
        exact (show Tryd.prog.wantsStandIn t = false by simpa using List.all_eq_true.1 hall t hm)⟩)
    (by kernel_rfl)
end Go.Proofs.Qxb6616118aDoor
