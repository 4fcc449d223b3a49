/-
  The row and the card of FnWithoutDropsExactlyTheNamedCookies.
-/
import Derived.Test.Qxb6616118aDoorCards
import Derived.Test.Qxb6616118aDoorTie
import Derived.Test.Qxb6616118aDoorLaw
import Derived.Test.Qxb6616118aDoorLaid
import Derived.ProofKit
import Derived.Lay
import Derived.SevenTiedAt
import Derived.SliceStrings
namespace Go.Proofs.Qxb6616118aDoor
open Go.RowKit Go.Shelf Go.Lib Go.ChangeShapes Go.WideShapes Go.ChangeAt
open Go.WideMaps Go.WideElems
open Go.ChangeMaps (open_string shut_string)

theorem Tryd.cells9 : Tryd.prog.cellsOf 9 = 1 := by kernel_rfl
theorem own : ownKnob Tryd.prog.godebug = none := by kernel_rfl

/-- A slice of strings that came in. -/
theorem open_strSl {H : Type} {enc : TypeId × Value → H} {W : World} {fuel : Nat} {v : Value} {x : DataW H × List MemPlace} {a : Option Addr} {len cap : Nat} (hv : v = .slice a len cap)
    (h : DataW.trod enc Tryd.prog W 0 (fun _ => true) true fuel 22 v.cells.toList = some x) : ∃ ss : List ByteArray, StrSl W v ss ∧ ss.length ≤ maxLen ∧ ∀ s ∈ ss, s.size ≤ maxLen := by
  subst hv
  rcases open_strings Tryd.underlying22 Tryd.underlying9 Tryd.cells9 h with ⟨hcs, hx⟩ | ⟨ad, len', cap', ss, hcs, _, hl, hm, hz, hx, hcell, hws⟩
  · simp [Value.cells] at hcs
    obtain ⟨rfl, rfl, rfl⟩ := hcs
    exact ⟨[], StrSl.nil W, by simp, by simp⟩
  · simp [Value.cells] at hcs
    obtain ⟨rfl, rfl, rfl⟩ := hcs
    simp at hz
    refine ⟨ss.take len, ?_, by simp; omega, fun s hs => hws s (List.mem_of_mem_take hs)⟩
    have hlen : (ss.take len).length = len := by simp; omega
    refine ⟨some ad, cap, by rw [hlen], fun j hj => ?_⟩
    rw [hlen] at hj
    have hcj := hcell j (by omega)
    obtain ⟨b, off, sp⟩ := ad
    have hsp : sp = none := by
      have h0 := hcell 0 (by omega)
      simp [Addr.add] at h0
      exact cell_spot h0
    subst hsp
    have e : (ss.take len).getD j ByteArray.empty = ss.getD j ByteArray.empty := by simp [List.getD, hj]
    rw [e]
    rw [Addr.add_lit] at hcj
    exact ⟨b, off, rfl, block_lt_of_cell hcj, hcj⟩

theorem cons_mk {H : Type} {enc : TypeId × Value → H} {P : Program} {w : World} {base : Nat} {spare : Nat → Bool} {held : Bool} {t : TypeId} {ts : List TypeId} {v : Value} {vs : List Value} {d : DataW H} {ds : List (DataW H)} {p p' : List MemPlace}
    (h : DataW.Trod enc P w base spare held t v d p) (hs : DataW.TrodAll enc P w base spare held ts vs ds p') : DataW.TrodAll enc P w base spare held (t :: ts) (v :: vs) (d :: ds) (p ++ p') := ⟨p, p', h, hs, rfl⟩
theorem Tryd.laidOut : laidOutB Tryd.prog = true := by kernel_rfl
theorem rd22 : Tryd.prog.readableRec 22 = true := by kernel_rfl
theorem rd9 : Tryd.prog.readableRec 9 = true := by kernel_rfl
theorem rd4 : Tryd.prog.readableRec 4 = true := by kernel_rfl
theorem lt22 : 22 < Tryd.prog.types.size := of_decide_eq_true (by kernel_rfl)
theorem lt9 : 9 < Tryd.prog.types.size := of_decide_eq_true (by kernel_rfl)
theorem lt4 : 4 < Tryd.prog.types.size := of_decide_eq_true (by kernel_rfl)

set_option maxRecDepth 100000 in
theorem liftedOne (os : Os) (started : os.Started) (H : Type) (enc : TypeId × Value → H) :
    ReturnsInHanded {} Tryd.checked os 3 .any (fun w args => (Rows.fnWithoutDropsExactlyTheNamedCookiesSpec.pre enc Tryd.prog Tryd.f3 [] false w args ∧ laidMetH Tryd.prog laidL w) ∧ sizedMet enc Tryd.prog Tryd.f3 (OpenSpec.ofChange Rows.fnWithoutDropsExactlyTheNamedCookiesSpec) false w args)
      (Rows.fnWithoutDropsExactlyTheNamedCookiesSpec.post enc Tryd.prog Tryd.f3 false true false false) := by
  refine returnsInHanded_of_change_and (C := Tryd.checked) (X := fun w _ => laidMetH Tryd.prog laidL w) (fun _ _ _ hh h => h.of_heap hh) own started (by kernel_rfl) Tryd.func3
    (ChangeSpec.witness_shaped (enc := enc) (C := Tryd.checked) (os := os) (X := fun w _ => laidMetH Tryd.prog laidL w) false (World.laidAll Tryd.prog os laidL) #[.string ByteArray.empty, .bool false, .slice none 0 0, .slice none 0 0] 8 (World.laidAll_os _ _ _)
      (World.shaped_of_ZipB (by kernel_rfl) (by kernel_rfl)) (by kernel_rfl) (by kernel_rfl) (by kernel_rfl)
      (by rw [MakeChecks.laidMetH_plain _ _ _ (by kernel_rfl)]; exact laidMet_laidAll _ (by kernel_rfl) (by kernel_rfl))) ?_
  intro W base args ds gs before hval0 hW _ _ hL _
  have hval : ∀ (j : Nat) t v, Tryd.f3.params[j]? = some t → args[j]? = some v → Value.okWide Tryd.prog W .any base t v := hval0
  have hW' := hW
  obtain ⟨p, q, hA0, hV, rfl, _, _⟩ := hW
  have hA : DataW.TrodAll enc Tryd.prog W 0 (fun _ => true) true Tryd.f3.params.toList args.toList ds p := hA0
  rw [Tryd.params3] at hA hval
  obtain ⟨v0, vs0, d0, ds0, p0, q0, hargs, rfl, rfl, h0, r0⟩ := trodAll_cons hA
  obtain ⟨v1, vs1, d1, ds1, p1, q1, rfl, rfl, rfl, h1, r1⟩ := trodAll_cons r0
  obtain ⟨v2, vs2, d2, ds2, p2, q2, rfl, rfl, rfl, h2, r2⟩ := trodAll_cons r1
  obtain ⟨v3, vs3, d3, ds3, p3, q3, rfl, rfl, rfl, h3, r3⟩ := trodAll_cons r2
  obtain ⟨rfl, rfl, rfl⟩ := trodAll_nil r3
  obtain rfl : args = #[v0, v1, v2, v3] := by apply Array.toList_inj.1; exact hargs
  obtain ⟨rfl, rfl⟩ := trodVars_none hV
  simp only [List.append_nil] at hW'
  have hlt := hW'.lt
  rw [MakeChecks.laidMetH_plain _ _ _ (by kernel_rfl)] at hL
  have hT := tabs_of_laid hL
  have g0 := h0
  have g1 := h1
  have g2 := h2
  have g3 := h3
  obtain ⟨t0, rfl, _, _, z0⟩ := open_string Tryd.underlying9 (hval 0 9 v0 rfl rfl) h0
  obtain ⟨c1, rfl, _, _⟩ := open_bool Tryd.underlying4 (hval 1 4 v1 rfl rfl) h1
  obtain ⟨a2, len2, cap2, e2⟩ := okWide_slice Tryd.underlying22 (hval 2 22 v2 rfl rfl)
  obtain ⟨f2, h2⟩ := h2
  obtain ⟨s2, r2, m2, q2⟩ := open_strSl e2 h2
  obtain ⟨a3, len3, cap3, e3⟩ := okWide_slice Tryd.underlying22 (hval 3 22 v3 rfl rfl)
  obtain ⟨f3, h3⟩ := h3
  obtain ⟨s3, r3, m3, q3⟩ := open_strSl e3 h3
  refine (law1_any t0 c1 v2 v3 s2 s3 W hT r2 r3 m2 m3 z0 q2 q3).mono fun e W' ⟨he, hb⟩ => ?_
  subst he
  refine ⟨_, rfl, _, _, _, [], p0 ++ (p1 ++ (p2 ++ (p3 ++ []))), [], hW', trodAll_mk1 (shut_bool Tryd.underlying4 _), ?_, rfl, hb.frame _, fun h => by cases h⟩
  have l0 : ∀ y ∈ p0, y.block < W.heap.size := fun y hy => by simpa using hlt y (by simp [hy])
  have l1 : ∀ y ∈ p1, y.block < W.heap.size := fun y hy => by simpa using hlt y (by simp [hy])
  have l2 : ∀ y ∈ p2, y.block < W.heap.size := fun y hy => by simpa using hlt y (by simp [hy])
  have l3 : ∀ y ∈ p3, y.block < W.heap.size := fun y hy => by simpa using hlt y (by simp [hy])
  exact cons_mk (Below.trod Tryd.laidOut rd9 lt9 g0 hb l0) (cons_mk (Below.trod Tryd.laidOut rd4 lt4 g1 hb l1) (cons_mk (Below.trod Tryd.laidOut rd22 lt22 g2 hb l2) (cons_mk (Below.trod Tryd.laidOut rd22 lt22 g3 hb l3) trodAll_mk0)))

theorem holdsOne : Rows.FnWithoutDropsExactlyTheNamedCookiesSaid :=
  OpenClaim.holds_of_wide 3 Tryd.f3 rfl rfl rfl rfl rfl rfl rfl ⟨rfl, rfl, rfl, rfl, rfl⟩ rfl rfl rfl rfl rfl (by kernel_rfl) Tryd.func3 (by kernel_rfl)
    (of_decide_eq_true (by kernel_rfl)) (by unfold Func.isWrapper; first | (rw [if_pos (by decide +kernel)]; kernel_rfl) | (rw [if_neg (by decide +kernel)]; exact ⟨rfl, rfl⟩))
    (fun os started H enc _ => liftedOne os started H enc)

theorem named3 : Tryd.prog.funcNamed Rows.fnWithoutDropsExactlyTheNamedCookiesRow.func = some 3 := by kernel_rfl
theorem card1 : Rows.FnWithoutDropsExactlyTheNamedCookiesCardSaid :=
  Claim7.holds_tied_plain_at .later [] _ true _ false holdsOne (fun _ h => by cases h) (by kernel_rfl) (fun _ h => by cases h) fnWithoutDropsExactlyTheNamedCookies_row_tie rfl ⟨rfl, rfl⟩ (by kernel_rfl) rfl
    (fun f fn hf hfn => by
      obtain rfl : f = 3 := Option.some.inj (named3.symm.trans hf) |>.symm
      obtain rfl : fn = Tryd.f3 := (Option.some.inj (Tryd.func3.symm.trans hfn)).symm
      exact ⟨by kernel_rfl, fun j t ht => by
        rw [Tryd.params3] at ht
        have hm : t ∈ [9, 4, 22, 22] := by simpa using Array.mem_of_getElem? ht
        have hall : ([9, 4, 22, 22].all fun u => !Tryd.prog.wantsStandIn u) = true := by kernel_rfl
        exact (show Tryd.prog.wantsStandIn t = false by simpa using List.all_eq_true.1 hall t hm)⟩)
    (by kernel_rfl)
end Go.Proofs.Qxb6616118aDoor
