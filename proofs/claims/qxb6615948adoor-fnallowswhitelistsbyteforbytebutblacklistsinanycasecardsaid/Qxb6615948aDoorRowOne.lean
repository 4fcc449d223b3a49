/-
  The row and the card of FnAllowsLosesJustTheFoldOfANewBlacklistEntry.
-/
import Derived.Test.Qxb6615948aDoorCards
import Derived.Test.Qxb6615948aDoorTie
import Derived.Test.Qxb6615948aDoorLaw1
import Derived.Test.Qxb6615948aDoorTabs
import Derived.ProofKit
import Derived.Lay
import Derived.SevenTiedAt
import Derived.SliceStrings
namespace Go.Proofs.Qxb6615948aDoor
open Go.RowKit Go.Shelf Go.Lib Go.ChangeShapes Go.WideShapes Go.ChangeAt
open Go.WideMaps Go.WideElems
open Go.ChangeMaps (open_string shut_string)

theorem Tryd.cells9 : Tryd.prog.cellsOf 9 = 1 := by kernel_rfl
theorem own : ownKnob Tryd.prog.godebug = none := by kernel_rfl

/-- A slice of strings that came in. -/
theorem open_strSl {H : Type} {enc : TypeId × Value → H} {W : World} {fuel : Nat} {v : Value} {x : DataW H × List MemPlace} {a : Option Addr} {len cap : Nat} (hv : v = .slice a len cap)
    (h : DataW.trod enc Tryd.prog W 0 (fun _ => true) true fuel 22 v.cells.toList = some x) : ∃ ss : List ByteArray, StrSl W v ss ∧ ss.length ≤ maxLen ∧ ∀ s ∈ ss, s.size ≤ maxLen := by
  subst hv
  rcases open_strings Tryd.underlying22 Tryd.underlying9 Tryd.cells9 h with ⟨hcs, hx⟩ | ⟨ad, len', cap', ss, hcs, _, hl, hm, hz, hx, hcell, hws⟩
  · simp [Value.cells] at hcs
    obtain ⟨rfl, rfl, rfl⟩ := hcs
    exact ⟨[], StrSl.nil W, by simp, by simp⟩
  · simp [Value.cells] at hcs
    obtain ⟨rfl, rfl, rfl⟩ := hcs
    simp at hz
    refine ⟨ss.take len, ?_, by simp; omega, fun s hs => hws s (List.mem_of_mem_take hs)⟩
    have hlen : (ss.take len).length = len := by simp; omega
    refine ⟨some ad, cap, by rw [hlen], fun j hj => ?_⟩
    rw [hlen] at hj
    have hcj := hcell j (by omega)
    obtain ⟨b, off, sp⟩ := ad
    have hsp : sp = none := by
      have h0 := hcell 0 (by omega)
      simp [Addr.add] at h0
      exact cell_spot h0
    subst hsp
    have e : (ss.take len).getD j ByteArray.empty = ss.getD j ByteArray.empty := by simp [List.getD, hj]
    rw [e]
    rw [Addr.add_lit] at hcj
    exact ⟨b, off, rfl, block_lt_of_cell hcj, hcj⟩

theorem cons_mk {H : Type} {enc : TypeId × Value → H} {P : Program} {w : World} {base : Nat} {spare : Nat → Bool} {held : Bool} {t : TypeId} {ts : List TypeId} {v : Value} {vs : List Value} {d : DataW H} {ds : List (DataW H)} {p p' : List MemPlace}
    (h : DataW.Trod enc P w base spare held t v d p) (hs : DataW.TrodAll enc P w base spare held ts vs ds p') : DataW.TrodAll enc P w base spare held (t :: ts) (v :: vs) (d :: ds) (p ++ p') := ⟨p, p', h, hs, rfl⟩
theorem Tryd.laidOut : laidOutB Tryd.prog = true := by kernel_rfl
theorem rd22 : Tryd.prog.readableRec 22 = true := by kernel_rfl
theorem rd9 : Tryd.prog.readableRec 9 = true := by kernel_rfl
theorem rd3 : Tryd.prog.readableRec 3 = true := by kernel_rfl
theorem lt22 : 22 < Tryd.prog.types.size := of_decide_eq_true (by kernel_rfl)
theorem lt9 : 9 < Tryd.prog.types.size := of_decide_eq_true (by kernel_rfl)
theorem lt3 : 3 < Tryd.prog.types.size := of_decide_eq_true (by kernel_rfl)

set_option maxRecDepth 100000 in
theorem lifted1 (os : Os) (started : os.Started) (H : Type) (enc : TypeId × Value → H) :
    ReturnsInHanded {} Tryd.checked os 3 .any (fun w args => (Rows.fnAllowsLosesJustTheFoldOfANewBlacklistEntrySpec.pre enc Tryd.prog Tryd.f3 [] false w args ∧ laidMetH Tryd.prog laid3 w) ∧ sizedMet enc Tryd.prog Tryd.f3 (OpenSpec.ofChange Rows.fnAllowsLosesJustTheFoldOfANewBlacklistEntrySpec) false w args)
      (Rows.fnAllowsLosesJustTheFoldOfANewBlacklistEntrySpec.post enc Tryd.prog Tryd.f3 false true false false) := by
  refine returnsInHanded_of_change_and (C := Tryd.checked) (X := fun w _ => laidMetH Tryd.prog laid3 w) (fun _ _ _ hh h => h.of_heap hh) own started (by kernel_rfl) Tryd.func3
    (ChangeSpec.witness_shaped (enc := enc) (C := Tryd.checked) (os := os) (X := fun w _ => laidMetH Tryd.prog laid3 w) false (World.laidAll Tryd.prog os laid3) #[.slice none 0 0, .slice none 0 0, .int .i64 0, .string ByteArray.empty, .string ByteArray.empty] 8 (World.laidAll_os _ _ _)
      (World.shaped_of_ZipB (by kernel_rfl) (by kernel_rfl)) (by kernel_rfl) (by kernel_rfl) (by kernel_rfl)
      (by rw [MakeChecks.laidMetH_plain _ _ _ (by kernel_rfl)]; exact laidMet_laidAll _ (by kernel_rfl) (by kernel_rfl))) ?_
  intro W base args ds gs before hval0 hW _ _ hL _
  have hval : ∀ (j : Nat) t v, Tryd.f3.params[j]? = some t → args[j]? = some v → Value.okWide Tryd.prog W .any base t v := hval0
  have hW' := hW
  obtain ⟨p, q, hA0, hV, rfl, _, _⟩ := hW
  have hA : DataW.TrodAll enc Tryd.prog W 0 (fun _ => true) true Tryd.f3.params.toList args.toList ds p := hA0
  rw [Tryd.params3] at hA hval
  obtain ⟨v0, vs0, d0, ds0, p0, q0, hargs, rfl, rfl, h0, r0⟩ := trodAll_cons hA
  obtain ⟨v1, vs1, d1, ds1, p1, q1, rfl, rfl, rfl, h1, r1⟩ := trodAll_cons r0
  obtain ⟨v2, vs2, d2, ds2, p2, q2, rfl, rfl, rfl, h2, r2⟩ := trodAll_cons r1
  obtain ⟨v3, vs3, d3, ds3, p3, q3, rfl, rfl, rfl, h3, r3⟩ := trodAll_cons r2
  obtain ⟨v4, vs4, d4, ds4, p4, q4, rfl, rfl, rfl, h4, r4⟩ := trodAll_cons r3
  obtain ⟨rfl, rfl, rfl⟩ := trodAll_nil r4
  obtain rfl : args = #[v0, v1, v2, v3, v4] := by apply Array.toList_inj.1; exact hargs
  obtain ⟨rfl, rfl⟩ := trodVars_none hV
  simp only [List.append_nil] at hW'
  have hlt := hW'.lt
  rw [MakeChecks.laidMetH_plain _ _ _ (by kernel_rfl)] at hL
  have hT := foldTabs_of_laid hL
  have g0 := h0
  have g1 := h1
  have g2 := h2
  have g3 := h3
  have g4 := h4
  obtain ⟨a0, len0, cap0, e0⟩ := okWide_slice Tryd.underlying22 (hval 0 22 v0 rfl rfl)
  obtain ⟨a1, len1, cap1, e1⟩ := okWide_slice Tryd.underlying22 (hval 1 22 v1 rfl rfl)
  obtain ⟨f0, h0⟩ := h0
  obtain ⟨f1, h1⟩ := h1
  obtain ⟨sa, hsa, hla, hza⟩ := open_strSl e0 h0
  obtain ⟨sb, hsb, hlb, hzb⟩ := open_strSl e1 h1
  obtain ⟨i, rfl, _, _, wi⟩ := open_int Tryd.underlying3 (hval 2 3 v2 rfl rfl) h2
  obtain ⟨x, rfl, _, _, hx⟩ := open_string Tryd.underlying9 (hval 3 9 v3 rfl rfl) h3
  obtain ⟨tool, rfl, _, _, ht⟩ := open_string Tryd.underlying9 (hval 4 9 v4 rfl rfl) h4
  have hi : -9223372036854775808 ≤ i ∧ i ≤ 9223372036854775807 := by simpa [Lit.wf, IntKind.min, IntKind.max, IntKind.signed, IntKind.bits] using wi
  refine (law1_any v0 v1 sa sb i x tool W hi hT hsa hsb hla hlb hx ht hza hzb).mono fun e W' ⟨he, hb⟩ => ?_
  subst he
  refine ⟨_, rfl, _, _, _, [], p0 ++ (p1 ++ (p2 ++ (p3 ++ (p4 ++ [])))), [], hW', trodAll_mk1 (shut_bool Tryd.underlying4 _), ?_, rfl, hb.frame _, fun h => by cases h⟩
  have l0 : ∀ y ∈ p0, y.block < W.heap.size := fun y hy => by simpa using hlt y (by simp [hy])
  have l1 : ∀ y ∈ p1, y.block < W.heap.size := fun y hy => by simpa using hlt y (by simp [hy])
  have l2 : ∀ y ∈ p2, y.block < W.heap.size := fun y hy => by simpa using hlt y (by simp [hy])
  have l3 : ∀ y ∈ p3, y.block < W.heap.size := fun y hy => by simpa using hlt y (by simp [hy])
  have l4 : ∀ y ∈ p4, y.block < W.heap.size := fun y hy => by simpa using hlt y (by simp [hy])
  exact cons_mk (Below.trod Tryd.laidOut rd22 lt22 g0 hb l0) (cons_mk (Below.trod Tryd.laidOut rd22 lt22 g1 hb l1) (cons_mk (Below.trod Tryd.laidOut rd3 lt3 g2 hb l2) (cons_mk (Below.trod Tryd.laidOut rd9 lt9 g3 hb l3) (cons_mk (Below.trod Tryd.laidOut rd9 lt9 g4 hb l4) trodAll_mk0))))

theorem holds1 : Rows.FnAllowsLosesJustTheFoldOfANewBlacklistEntrySaid :=
  OpenClaim.holds_of_wide 3 Tryd.f3 rfl rfl rfl rfl rfl rfl rfl ⟨rfl, rfl, rfl, rfl, rfl⟩ rfl rfl rfl rfl rfl (by kernel_rfl) Tryd.func3 (by kernel_rfl)
    (of_decide_eq_true (by kernel_rfl)) (by unfold Func.isWrapper; first | (rw [if_pos (by decide +kernel)]; kernel_rfl) | (rw [if_neg (by decide +kernel)]; exact ⟨rfl, rfl⟩))
    (fun os started H enc _ => lifted1 os started H enc)

theorem named3 : Tryd.prog.funcNamed Rows.fnAllowsLosesJustTheFoldOfANewBlacklistEntryRow.func = some 3 := by kernel_rfl
theorem card1 : Rows.FnAllowsLosesJustTheFoldOfANewBlacklistEntryCardSaid :=
  Claim7.holds_tied_plain_at .later [] [.data, .data, .pinned] true (true, "07c1bf8d73c98064049aa9ee1326b6a5dda9974435adc1e96b37fd5b7f791edd") false holds1 (fun _ h => by cases h) (by kernel_rfl) (fun _ h => by cases h) fnAllowsLosesJustTheFoldOfANewBlacklistEntry_row_tie rfl ⟨rfl, rfl⟩ (by kernel_rfl) rfl
    (fun f fn hf hfn => by
      obtain rfl : f = 3 := Option.some.inj (named3.symm.trans hf) |>.symm
      obtain rfl : fn = Tryd.f3 := (Option.some.inj (Tryd.func3.symm.trans hfn)).symm
      exact ⟨by kernel_rfl, fun j t ht => by
        rw [Tryd.params3] at ht
        have hm : t ∈ [22, 22, 3, 9, 9] := by simpa using Array.mem_of_getElem? ht
        have hall : ([22, 22, 3, 9, 9].all fun u => !Tryd.prog.wantsStandIn u) = true := by kernel_rfl
        exact (show Tryd.prog.wantsStandIn t = false by simpa using List.all_eq_true.1 hall t hm)⟩)
    (by kernel_rfl)
end Go.Proofs.Qxb6615948aDoor
