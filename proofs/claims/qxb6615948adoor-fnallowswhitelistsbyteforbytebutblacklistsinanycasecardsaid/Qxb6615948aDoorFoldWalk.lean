/-
  Walks: unicode.SimpleFold, names.foldRune.
-/
import Derived.Test.Qxb6615948aDoorBase
import Derived.Test.Qxb6615948aDoorFoldPlain
import Derived.Test.Qxb6615948aDoorShelf
import Derived.Shelf.Unicode.CaseLaid
namespace Go.Proofs.Qxb6615948aDoor
open Go.RowKit Go.Lib

/-- The three tables of package unicode lie in the world w. -/
structure FoldTabs (w : World) : Prop where
  asc : ∀ i, i < 128 → w.cell? ⟨0, i, none⟩ = some (.int .u16 ((ascL.getD i 0 : Nat) : Int))
  orb : ∃ R o cap, w.cell? ⟨1, 0, none⟩ = some (.slice (some ⟨R, o, none⟩) 94 cap) ∧ ∀ i, i < 94 → w.cell? ⟨R, o + i * 2, none⟩ = some (.int .u16 ((orbFrom i : Nat) : Int)) ∧ w.cell? ⟨R, o + i * 2 + 1, none⟩ = some (.int .u16 ((orbTo i : Nat) : Int))
  ranges : CaseVar 2 caseA w

theorem cell_lt {w : World} {b o : Nat} {v : Value} (h : w.cell? ⟨b, o, none⟩ = some v) : b < w.heap.size := by
  rcases Nat.lt_or_ge b w.heap.size with h' | h'
  · exact h'
  · simp [World.cell?, Array.getElem?_eq_none h'] at h

theorem FoldTabs.below {w w' : World} (h : FoldTabs w) {B : Nat} (hB : w.heap.size ≤ B) (hb : Below B w w') : FoldTabs w' := by
  have k : ∀ {b o : Nat} {v : Value}, w.cell? ⟨b, o, none⟩ = some v → w'.cell? ⟨b, o, none⟩ = some v := fun {b o v} hc =>
    (hb.cell (p := ⟨b, o, none⟩) (Nat.lt_of_lt_of_le (cell_lt hc) hB)).trans hc
  refine ⟨fun i hi => k (h.asc i hi), ?_, ?_⟩
  · obtain ⟨R, o, cap, h1, h2⟩ := h.orb
    exact ⟨R, o, cap, k h1, fun i hi => ⟨k (h2 i hi).1, k (h2 i hi).2⟩⟩
  · obtain ⟨R, o, cap, h1, h2⟩ := h.ranges
    exact ⟨R, o, cap, k h1, fun i hi => ⟨k (h2 i hi).1, k (h2 i hi).2.1, k (h2 i hi).2.2.1, k (h2 i hi).2.2.2.1, k (h2 i hi).2.2.2.2⟩⟩
theorem FoldTabs.drewN {w : World} (h : FoldTabs w) (q : Nat) : FoldTabs (w.drewN q) := h.below (Nat.le_refl _) (below_drewN (Below.refl _ _) q)

theorem orb16 (i : Nat) : orbFrom i < 65536 ∧ orbTo i < 65536 := by
  have h : orbL.all (fun p => decide (p.1 < 65536 ∧ p.2 < 65536)) = true := by kernel_rfl
  unfold orbFrom orbTo
  by_cases hi : i < orbL.length
  · have hm : orbL.getD i (0, 0) ∈ orbL := by
      rw [List.getD, List.getElem?_eq_getElem hi]
      exact List.getElem_mem _
    simpa using List.all_eq_true.1 h _ hm
  · rw [List.getD, List.getElem?_eq_none (by omega)]
    simp
theorem asc16 (i : Nat) : ascL.getD i 0 < 65536 := by
  have h : ascL.all (fun p => decide (p < 65536)) = true := by kernel_rfl
  by_cases hi : i < ascL.length
  · have hm : ascL.getD i 0 ∈ ascL := by
      rw [List.getD, List.getElem?_eq_getElem hi]
      exact List.getElem_mem _
    simpa using List.all_eq_true.1 h _ hm
  · rw [List.getD, List.getElem?_eq_none (by omega)]
    simp

set_option maxRecDepth 100000 in
set_option maxHeartbeats 400000 in
theorem sfold_ascii (r : Nat) (w : World) (hT : FoldTabs w) (h1 : r < 128) :
    Calls Tryd.prog 30 #[.int .i32 (r : Int)] w fun e w' => e = .returned (.int .i32 (sfold r)) ∧ ∃ q, w' = w.drewN q := by
  have hs : sfold (r : Int) = ((ascL.getD r 0 : Nat) : Int) := by
    unfold sfold
    rw [if_neg (by omega), if_neg (by omega), if_pos (by omega)]
    rfl
  have hb := asc16 r
  have hc := hT.asc r h1
  generalize ascL.getD r 0 = z at hs hb hc
  rw [hs]
  clear hs hT
  go_enter Tryd.func30, Tryd.ntmps30
  go_wp2
  go_ret
  exact ⟨rfl, 0, rfl⟩

theorem sfold_above (r : Int) (h0 : 128 ≤ r) (h1 : r ≤ 1114111) : sfold r = if orbIdx r 95 0 94 < 94 ∧ (orbFrom (orbIdx r 95 0 94) : Int) = r then ((orbTo (orbIdx r 95 0 94) : Nat) : Int) else sfTail r := by
  unfold sfold
  rw [if_neg (by omega), if_neg (by omega), if_neg (by omega)]

set_option maxRecDepth 100000 in
set_option maxHeartbeats 400000 in
theorem sfold_high (r : Int) (w : World) (hT : FoldTabs w) (h0 : 128 ≤ r) (h1 : r ≤ 1114111) :
    Calls Tryd.prog 30 #[.int .i32 r] w fun e w' => e = .returned (.int .i32 (sfold r)) ∧ ∃ q, w' = w.drewN q := by
  obtain ⟨R, o, cap, hg, hR⟩ := hT.orb
  obtain ⟨R2, o2, cap2, hg2, hR2⟩ := hT.ranges
  have hAB := sfold_above r h0 h1
  obtain ⟨b1, b2⟩ := orbIdx_spec r 95 0 94 (by omega) (by omega) (by omega) orb_sorted (fun i hi => by omega) (fun i hi hi' => by omega)
  have hle : ∀ g lo hi, lo ≤ hi → orbIdx r g lo hi ≤ hi := by
    intro g
    induction g with
    | zero => intro lo hi h; exact h
    | succ g ih =>
      intro lo hi h
      unfold orbIdx
      split
      · split
        · exact ih _ _ (by omega)
        · exact Nat.le_trans (ih lo ((lo + hi) / 2) (by omega)) (by omega)
      · exact h
  have hA := hle 95 0 94 (by omega)
  clear b1 b2 hle hT
  generalize hANS : orbIdx r 95 0 94 = ANS at hA hAB
  have HAB := hide hAB
  clear hAB
  go_enter Tryd.func30, Tryd.ntmps30
  go_wp2
  go_loopg [3, 4] 95 (fun g s5 s6 wx => wx = w ∧ ∃ lo hi : Nat, s5 = .int .i64 lo ∧ s6 = .int .i64 hi ∧ lo ≤ hi ∧ hi ≤ 94 ∧ hi - lo < g ∧ orbIdx r g lo hi = ANS)
  case atStart => exact ⟨rfl, 0, 94, rfl, rfl, by omega, by omega, by omega, hANS⟩
  case round =>
    obtain ⟨rfl, lo, hi, rfl, rfl, hlh, hhn, hgk, hl⟩ := hrel
    clear hANS
    by_cases hlt : lo < hi
    · obtain ⟨g', rfl⟩ : ∃ g', gk = g' + 1 := ⟨gk - 1, by omega⟩
      have hz : (lo : Int) < (hi : Int) := by omega
      obtain ⟨m, hm⟩ : ∃ m, (lo + hi) / 2 = m := ⟨_, rfl⟩
      have hmr : lo ≤ m ∧ m < hi := by omega
      have hmz : ((lo : Int) + (hi : Int)) / 2 = (m : Int) := by omega
      obtain ⟨c0, -⟩ := hR m (by omega)
      have hb := (orb16 m).1
      unfold orbIdx at hl
      rw [if_pos hlt, hm] at hl
      generalize orbFrom m = F at c0 hb hl
      clear hR hR2
      by_cases hc : (F : Int) < r
      · rw [if_pos hc] at hl
        go_wp2
        go_roundg g'
        case measure => omega
        case rel => exact ⟨rfl, m + 1, hi, by first | rfl | simp, rfl, by omega, by omega, by omega, hl⟩
      · rw [if_neg hc] at hl
        go_wp2
        go_roundg g'
        case measure => omega
        case rel => exact ⟨rfl, lo, m, rfl, rfl, by omega, by omega, by omega, hl⟩
    · have hz : ¬ ((lo : Int) < (hi : Int)) := by omega
      have hlA : lo = ANS := by
        cases gk with
        | zero => omega
        | succ g => unfold orbIdx at hl; rwa [if_neg hlt] at hl
      clear hl
      subst hlA
      have cL := Tryd.unicode_lookupCaseRange caseA R2 o2 cap2 r wr hR2 caseA_ok2.ok (by rw [caseA_size]; omega)
      have rest : ∀ (i : Nat), lookupIdx caseA r (caseA.size + 1) 0 caseA.size = some i → ∀ (c : Nat), c < 3 → ∀ q, Calls Tryd.prog 35 #[.int .i64 c, .int .i32 r, .pointer (some ⟨R2, o2 + i * 5, none⟩)] (wr.drewN q) fun e w' => e = .returned (.int .i32 (convertR c r (caseA.getD i (0, 0, 0, 0, 0)))) ∧ ∃ q', w' = (wr.drewN q).drewN q' := by
        intro i hi c hc q
        obtain ⟨g1, g2, g3⟩ := lookupIdx_some caseA r (caseA.size + 1) 0 caseA.size i hi
        have := Tryd.unicode_convertCase c hc r R2 (o2 + i * 5) (caseA.getD i (0, 0, 0, 0, 0)) (wr.drewN q) g2 g3 (caseA_ok2 i g1).2 (hR2 i g1).1 (hR2.delta i g1 c hc)
        rwa [convert_fits _ (caseA_row i g1) c hc r g2 g3] at this
      clear hR2
      have two : (sfTail r = r ∧ Calls Tryd.prog 34 #[.int .i32 r, .slice (some ⟨R2, o2, none⟩) caseA.size cap2] wr fun e w' => e = .returned (.pointer none) ∧ w' = wr) ∨
          (∃ (B O : Nat) (c1 c0 : Int), ((c1 == r) = false → sfTail r = c1) ∧ ((c1 == r) = true → sfTail r = c0) ∧ (Calls Tryd.prog 34 #[.int .i32 r, .slice (some ⟨R2, o2, none⟩) caseA.size cap2] wr fun e w' => e = .returned (.pointer (some ⟨B, O, none⟩)) ∧ w' = wr) ∧
            (∀ q, Calls Tryd.prog 35 #[.int .i64 1, .int .i32 r, .pointer (some ⟨B, O, none⟩)] (wr.drewN q) fun e w' => e = .returned (.int .i32 c1) ∧ ∃ q', w' = (wr.drewN q).drewN q') ∧
            (∀ q, Calls Tryd.prog 35 #[.int .i64 0, .int .i32 r, .pointer (some ⟨B, O, none⟩)] (wr.drewN q) fun e w' => e = .returned (.int .i32 c0) ∧ ∃ q', w' = (wr.drewN q).drewN q')) := by
        cases hl : lookupIdx caseA r (caseA.size + 1) 0 caseA.size with
        | none =>
          rw [hl] at cL
          exact Or.inl ⟨sfTail_none hl, cL⟩
        | some i =>
          rw [hl] at cL
          refine Or.inr ⟨R2, o2 + i * 5, convertR 1 r (caseA.getD i (0, 0, 0, 0, 0)), convertR 0 r (caseA.getD i (0, 0, 0, 0, 0)), fun h => ?_, fun h => ?_, cL, rest i hl 1 (by omega), rest i hl 0 (by omega)⟩
          · rw [sfTail_some hl, if_neg (by simpa using h)]
          · rw [sfTail_some hl, if_pos (by simpa using h)]
      clear cL rest
      by_cases h94 : lo < 94
      · obtain ⟨c0, c1⟩ := hR lo h94
        have hb := orb16 lo
        have HAB' := HAB.out
        clear HAB
        generalize orbFrom lo = F at c0 hb HAB'
        generalize orbTo lo = G at c1 hb HAB'
        obtain ⟨hb0, hb1⟩ := hb
        clear hR
        by_cases hF : (F : Int) = r
        · rw [if_pos ⟨h94, hF⟩] at HAB'
          have HAB := hide HAB'
          have hF' : ((F : Int) == r) = true := by simpa using hF
          clear two HAB' hF
          go_wp2
          go_ret
          exact ⟨ret_int HAB.out.symm, 0, rfl⟩
        · rw [if_neg (fun h => hF h.2)] at HAB'
          have HAB := hide HAB'
          clear HAB'
          have hF' : ((F : Int) == r) = false := by simpa using hF
          rcases two with ⟨e1, k1⟩ | ⟨B, O, x1, x0, e1, e0, k1, k2, k3⟩
          · go_wp2_with fail
            refine k1.mono ?_
            rintro e w' ⟨rfl, rfl⟩
            clear k1
            have E1 := hide e1
            clear e1
            go_wp2
            go_ret
            exact ⟨ret_int (by rw [HAB.out, E1.out]), 0, rfl⟩
          · go_wp2_with fail
            refine k1.mono ?_
            rintro e w' ⟨rfl, rfl⟩
            have K2 := k2 0
            have K3 := hide k3
            have E1 := hide e1
            have E0 := hide e0
            clear k1 k2 k3 e1 e0
            go_wp2_with fail
            refine K2.mono ?_
            rintro e w' ⟨rfl, q1, rfl⟩
            clear K2
            cases hx : (x1 == r) with
            | true =>
              have hx' : (x1 != r) = false := by simp [bne, hx]
              go_wp2_with fail
              refine (K3.out _).mono ?_
              rintro e w' ⟨rfl, q2, rfl⟩
              go_wp2
              go_ret
              exact ⟨ret_int (by rw [HAB.out, E0.out hx]), q1 + q2, by simp⟩
            | false =>
              have hx' : (x1 != r) = true := by simp [bne, hx]
              go_wp2
              go_ret
              exact ⟨ret_int (by rw [HAB.out, E1.out hx]), q1, by simp⟩
      · have HAB' := HAB.out
        rw [if_neg (fun h => h94 h.1)] at HAB'
        have HAB := hide HAB'
        clear HAB'
        clear hR
        rcases two with ⟨e1, k1⟩ | ⟨B, O, x1, x0, e1, e0, k1, k2, k3⟩
        · go_wp2_with fail
          refine k1.mono ?_
          rintro e w' ⟨rfl, rfl⟩
          clear k1
          have E1 := hide e1
          clear e1
          go_wp2
          go_ret
          exact ⟨ret_int (by rw [HAB.out, E1.out]), 0, rfl⟩
        · go_wp2_with fail
          refine k1.mono ?_
          rintro e w' ⟨rfl, rfl⟩
          have K2 := k2 0
          have K3 := hide k3
          have E1 := hide e1
          have E0 := hide e0
          clear k1 k2 k3 e1 e0
          go_wp2_with fail
          refine K2.mono ?_
          rintro e w' ⟨rfl, q1, rfl⟩
          clear K2
          cases hx : (x1 == r) with
          | true =>
            have hx' : (x1 != r) = false := by simp [bne, hx]
            go_wp2_with fail
            refine (K3.out _).mono ?_
            rintro e w' ⟨rfl, q2, rfl⟩
            go_wp2
            go_ret
            exact ⟨ret_int (by rw [HAB.out, E0.out hx]), q1 + q2, by simp⟩
          | false =>
            have hx' : (x1 != r) = true := by simp [bne, hx]
            go_wp2
            go_ret
            exact ⟨ret_int (by rw [HAB.out, E1.out hx]), q1, by simp⟩
end Go.Proofs.Qxb6615948aDoor
