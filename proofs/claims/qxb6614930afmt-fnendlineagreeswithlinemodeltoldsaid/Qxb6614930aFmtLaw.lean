/-
  The walk of the law.
-/
import Derived.Test.Qxb6614930aFmtCut
import Derived.Deep.LoopGhost
import Derived.Deep.CutBlock
import Derived.Deep.DeepCutAuto
namespace Go.Proofs.Qxb6614930aFmt
open Go.RowKit Go.PlainAid Go.Extern.Stop Go.Stop Go.Extern

theorem bytes_no (t : ByteArray) (p : Int) (w : World) (ht : ¬ t.size ≤ 1048576) : Calls Tryf.prog 5 #[.string t, .int .i64 p] w fun e w' => e = .returned (.bool false) ∧ w' = w := by
  have h1 : (1048576 : Int) < (t.size : Int) := by omega
  go_enter Tryf.func5, Tryf.ntmps5
  go_wp2
  go_ret
  exact ⟨rfl, rfl⟩
theorem bytes_yes (t : ByteArray) (p : Int) (w : World) (ht : t.size ≤ 1048576) : Calls Tryf.prog 5 #[.string t, .int .i64 p] w fun e w' => e = .returned (.bool true) ∧ w' = w := by
  have h1 : (t.size : Int) ≤ 1048576 := by omega
  go_enter Tryf.func5, Tryf.ntmps5
  go_wp2
  go_ret
  exact ⟨rfl, rfl⟩
theorem law_long (t : ByteArray) (p : Int) (w : World) (ht : ¬ t.size ≤ 1048576) : Calls Tryf.prog 3 #[.string t, .int .i64 p] w fun e w' => e = .returned (.bool true) ∧ Below w.heap.size w w' := by
  have h1 : (1048576 : Int) < (t.size : Int) := by omega
  go_enter Tryf.func3, Tryf.ntmps3
  go_wp2_with (first | (go_at_call 5; refine (bytes_no t p _ ht).mono ?_; rintro e w' ⟨rfl, rfl⟩) | fail)
  go_ret
  exact ⟨rfl, Below.refl _ _⟩
set_option maxRecDepth 100000 in
theorem law_out (t : ByteArray) (p : Int) (w : World) (ht : t.size ≤ 1048576) (hp : p < 0 ∨ (t.size : Int) < p) : Calls Tryf.prog 3 #[.string t, .int .i64 p] w fun e w' => e = .returned (.bool true) ∧ Below w.heap.size w w' := by
  have h1 : (t.size : Int) ≤ 1048576 := by omega
  by_cases h0 : p < 0
  · go_enter Tryf.func3, Tryf.ntmps3
    go_wp2_with (first | (go_at_call 5; refine (bytes_yes t p _ ht).mono ?_; rintro e w' ⟨rfl, rfl⟩) | fail)
    go_ret
    exact ⟨rfl, Below.refl _ _⟩
  · have h2 : (t.size : Int) < p := by omega
    go_enter Tryf.func3, Tryf.ntmps3
    go_wp2_with (first | (go_at_call 5; refine (bytes_yes t p _ ht).mono ?_; rintro e w' ⟨rfl, rfl⟩) | fail)
    go_ret
    exact ⟨rfl, Below.refl _ _⟩

set_option maxHeartbeats 4000000 in
set_option maxRecDepth 100000 in
theorem law_in (t : ByteArray) (p : Nat) (w : World) (hT : Tabs w) (h3 : 2 < w.heap.size) (ht : t.size ≤ 1048576) (hp : p ≤ t.size) : Calls Tryf.prog 3 #[.string t, .int .i64 p] w fun e w' => e = .returned (.bool true) ∧ Below w.heap.size w w' := by
  have h1 : (t.size : Int) ≤ 1048576 := by omega
  have h2 : (p : Int) ≤ (t.size : Int) := by omega
  have hg := get_bt t
  have HT := hide hT
  clear hT
  go_enter Tryf.func3, Tryf.ntmps3
  go_upto_block 0 with (first | (go_at_call 5; refine (bytes_yes t p _ ht).mono ?_; rintro e w' ⟨rfl, rfl⟩) | (go_at_call 6; refine (zz_any t p _ HT.out h3 hp ht).mono ?_; rintro e w1 ⟨bad, q, rfl, hS, hB1⟩) | fail)
  go_cut [7, 8] (fun ve _ wx => wx = w1 ∧ ∃ e : Nat, ve = .int .i64 e ∧ p ≤ e ∧ e ≤ t.size ∧ (∀ i, p ≤ i → i < e → bt t i ≠ 10) ∧ (e < t.size → bt t e = 10))
  case first =>
    go_wp2_with fail
    go_loopg [7, 8] (t.size - p) (fun g ve vi wx => wx = w1 ∧ ∃ i : Nat, p ≤ i ∧ i ≤ t.size ∧ g = t.size - i ∧ ve = .int .i64 t.size ∧ vi = .int .i64 i ∧ ∀ j, p ≤ j → j < i → bt t j ≠ 10)
    case atStart => exact ⟨rfl, p, Nat.le_refl _, hp, rfl, rfl, rfl, fun j h1 h2 => by omega⟩
    case round =>
      obtain ⟨rfl, i, hpi, hin, rfl, rfl, rfl, hno⟩ := hrel
      by_cases hlt : i < t.size
      · have hv := hg i hlt
        have hltz : (i : Int) < (t.size : Int) := by omega
        by_cases hc : bt t i = 10
        · go_wp2
          go_meet
          case rel => exact ⟨rfl, i, rfl, hpi, hin, hno, fun _ => hc⟩
        · have hcb : (bt t i == 10) = false := by simpa using hc
          go_wp2
          go_roundg (t.size - (i + 1))
          case measure => omega
          case rel =>
            refine ⟨rfl, i + 1, by omega, by omega, rfl, rfl, by go_num, fun j g1 g2 => ?_⟩
            by_cases gj : j < i
            · exact hno j g1 gj
            · have : j = i := by omega
              subst this
              exact hc
      · have he : i = t.size := by omega
        subst he
        go_wp2
        go_meet
        case rel => exact ⟨rfl, _, rfl, hpi, Nat.le_refl _, hno, fun h => absurd h (by omega)⟩
  case rest =>
    obtain ⟨rfl, e, rfl, hpe, hen, heno, hee⟩ := hcut
    have HS := hide hS
    have HB1 := hide hB1
    have HEE := hide hee
    have HNO := hide heno
    clear hS hB1 hee heno
    go_upto_if 60 with fail
    go_cut [9] (fun vm wx => wx = wc ∧ ∃ M : Nat, vm = .int .i64 M ∧ ((e < t.size ∧ M = e + 1) ∨ (e = t.size ∧ M = e)))
    case first =>
      by_cases hlt : e < t.size
      · have hltz : (e : Int) < (t.size : Int) := by omega
        go_wp2
        go_meet
        case rel => exact ⟨rfl, e + 1, by go_num, Or.inl ⟨hlt, rfl⟩⟩
      · have he : e = t.size := by omega
        subst he
        go_wp2
        go_meet
        case rel => exact ⟨rfl, _, rfl, by simp⟩
    case rest =>
      obtain ⟨rfl, M, rfl, hM⟩ := hcut
      have hpM : p ≤ M := by omega
      have hMn : M ≤ t.size := by omega
      have hzM := cut_size t M hMn
      have HZ := hide (zz_any (t.extract 0 M) p wc (HT.out.below HB1.out h3) (Nat.lt_of_lt_of_le h3 HB1.out.size) (by omega) (by omega))
      clear hzM
      go_upto_region 19 with (first | (go_at_call 6; refine HZ.out.mono ?_; rintro e w2 ⟨badL, qL, rfl, hSL, hB2⟩) | fail)
      have HSL := hide hSL
      have HB2 := hide (HB1.out.trans (hB2.mono HB1.out.size))
      clear hSL hB2 HZ HT HB1
      go_cut [87] (fun v wx => wx = w2 ∧ ∃ x : Bool, v = .bool x ∧ (x = true ↔ (e < t.size ∧ p < e ∧ bt t (e - 1) = 13)))
      case first =>
        by_cases hA : e < t.size
        · have hAz : (e : Int) < (t.size : Int) := by omega
          by_cases hB : p < e
          · have hBz : (p : Int) < (e : Int) := by omega
            have hv := hg (e - 1) (by omega)
            have he1 : ((e : Int) - 1).toNat = e - 1 := by omega
            have he2 : (e : Int) - 1 < (t.size : Int) := by omega
            have he3 : (0 : Int) ≤ (e : Int) - 1 := by omega
            by_cases hC : bt t (e - 1) = 13
            · go_wp2
              go_meet
              case rel => exact ⟨rfl, true, by simp, by simp [hA, hB, hC]⟩
            · have hCb : (bt t (e - 1) == 13) = false := by simpa using hC
              go_wp2
              go_meet
              case rel => exact ⟨rfl, false, by simp, by simp [hC]⟩
          · have hBz : ¬ (p : Int) < (e : Int) := by omega
            go_wp2
            go_meet
            case rel => exact ⟨rfl, false, by simp, by simp [hB]⟩
        · have hAz : ¬ (e : Int) < (t.size : Int) := by omega
          go_wp2
          go_meet
          case rel => exact ⟨rfl, false, by simp, by simp [hA]⟩
      case rest =>
        obtain ⟨rfl, x, rfl, hx⟩ := hcut
        go_upto_if 87 with fail
        go_cut [12] (fun v wx => wx = wc ∧ ∃ c : Nat, v = .int .i64 c ∧ p ≤ c ∧ c ≤ e ∧ Line t p e M c)
        case first =>
          have HM := hide hM
          clear hM
          cases x with
          | true =>
            have HX := hide (hx.1 rfl)
            clear hx
            go_wp2
            go_meet
            case rel =>
              obtain ⟨a, b, d⟩ := HX.out
              refine ⟨rfl, e - 1, ?_, by omega, by omega, ⟨hpe, HNO.out, ?_, Or.inl ⟨a, b, d, by omega⟩⟩⟩
              · have : ((e - 1 : Nat) : Int) = (e : Int) - 1 := by omega
                rw [this]
              · rcases HM.out with ⟨m1, m2⟩ | ⟨m1, m2⟩
                · exact Or.inl ⟨m1, HEE.out m1, m2⟩
                · exact Or.inr ⟨m1, m2⟩
          | false =>
            have HX := hide (show ¬ (e < t.size ∧ p < e ∧ bt t (e - 1) = 13) from fun h => by have := hx.2 h; cases this)
            clear hx
            go_wp2
            go_meet
            case rel =>
              refine ⟨rfl, e, rfl, hpe, Nat.le_refl _, ⟨hpe, HNO.out, ?_, Or.inr ⟨HX.out, rfl⟩⟩⟩
              · rcases HM.out with ⟨m1, m2⟩ | ⟨m1, m2⟩
                · exact Or.inl ⟨m1, HEE.out m1, m2⟩
                · exact Or.inr ⟨m1, m2⟩
        case rest =>
          obtain ⟨rfl, c, rfl, hpc, hce, hL⟩ := hcut
          have HL := hide hL
          clear hL hx hM HEE HNO
          have hcn : c ≤ t.size := by omega
          go_upto_block 2 with fail
          go_cut [13, 14] (fun v _ wx => wx = wc ∧ ∃ h : Nat, v = .int .i64 h ∧ p ≤ h ∧ h ≤ c ∧ (∀ i, p ≤ i → i < h → bt t i ≠ 35) ∧ (h < c → bt t h = 35))
          case first =>
            go_wp2_with fail
            go_loopg [13, 14] (c - p) (fun g v vi wx => wx = wc ∧ ∃ i : Nat, p ≤ i ∧ i ≤ c ∧ g = c - i ∧ v = .int .i64 c ∧ vi = .int .i64 i ∧ ∀ j, p ≤ j → j < i → bt t j ≠ 35)
            case atStart => exact ⟨rfl, p, Nat.le_refl _, hpc, rfl, rfl, rfl, fun j h1 h2 => by omega⟩
            case round =>
              obtain ⟨rfl, i, hpi, hin, rfl, rfl, rfl, hno⟩ := hrel
              by_cases hlt : i < c
              · have hv := hg i (by omega)
                have hltz : (i : Int) < (c : Int) := by omega
                have hltt : (i : Int) < (t.size : Int) := by omega
                by_cases hc : bt t i = 35
                · go_wp2
                  go_meet
                  case rel => exact ⟨rfl, i, rfl, hpi, hin, hno, fun _ => hc⟩
                · have hcb : (bt t i == 35) = false := by simpa using hc
                  go_wp2
                  go_roundg (c - (i + 1))
                  case measure => omega
                  case rel =>
                    refine ⟨rfl, i + 1, by omega, by omega, rfl, rfl, by go_num, fun j g1 g2 => ?_⟩
                    by_cases gj : j < i
                    · exact hno j g1 gj
                    · have : j = i := by omega
                      subst this
                      exact hc
              · have hltz : ¬ (i : Int) < (c : Int) := by omega
                go_wp2
                go_meet
                case rel =>
                  have hic : i = c := by omega
                  subst hic
                  exact ⟨rfl, _, rfl, hpi, Nat.le_refl _, hno, fun h => absurd h (by omega)⟩
          case rest =>
            obtain ⟨rfl, h, rfl, hph, hhc, hn35, hh35⟩ := hcut
            have HN := hide hn35
            have HH := hide hh35
            clear hn35 hh35
            go_upto_block 4 with fail
            go_cut [15, 16] (fun v _ wx => wx = wc ∧ ((∃ i : Nat, v = .int .i64 i ∧ p ≤ i ∧ i < h ∧ ¬ (bt t i = 32 ∨ bt t i = 9) ∧ (∀ j, p ≤ j → j < i → bt t j = 32 ∨ bt t j = 9)) ∨ (v = .int .i64 (-1) ∧ ∀ j, p ≤ j → j < h → bt t j = 32 ∨ bt t j = 9)))
            case first =>
              go_wp2_with fail
              go_loopg [15, 16] (h - p) (fun g v vi wx => wx = wc ∧ ∃ i : Nat, p ≤ i ∧ i ≤ h ∧ g = h - i ∧ v = .int .i64 (-1) ∧ vi = .int .i64 i ∧ ∀ j, p ≤ j → j < i → bt t j = 32 ∨ bt t j = 9)
              case atStart => exact ⟨rfl, p, Nat.le_refl _, hph, rfl, rfl, rfl, fun j h1 h2 => by omega⟩
              case round =>
                obtain ⟨rfl, i, hpi, hin, rfl, rfl, rfl, hno⟩ := hrel
                have HNO := hide hno
                clear hno
                by_cases hlt : i < h
                · have hv := hg i (by omega)
                  have hltz : (i : Int) < (h : Int) := by omega
                  have hltt : (i : Int) < (t.size : Int) := by omega
                  have HBL := hide (fun w => blank_any (bt t i) w)
                  cases hc : blB (bt t i)
                  · rw [hc] at HBL
                    go_wp2_with (first | (go_at_call 7; refine (HBL.out _).mono ?_; rintro e w' ⟨rfl, rfl⟩) | fail)
                    go_meet
                    case rel => exact ⟨rfl, Or.inl ⟨i, rfl, hpi, hlt, by unfold blB at hc; simpa using hc, HNO.out⟩⟩
                  · rw [hc] at HBL
                    go_wp2_with (first | (go_at_call 7; refine (HBL.out _).mono ?_; rintro e w' ⟨rfl, rfl⟩) | fail)
                    go_roundg (h - (i + 1))
                    case measure => omega
                    case rel =>
                      refine ⟨rfl, i + 1, by omega, by omega, rfl, rfl, by go_num, fun j g1 g2 => ?_⟩
                      by_cases gj : j < i
                      · exact HNO.out j g1 gj
                      · have : j = i := by omega
                        subst this
                        unfold blB at hc
                        simpa using hc
                · have hltz : ¬ (i : Int) < (h : Int) := by omega
                  go_wp2
                  go_meet
                  case rel =>
                    have hic : i = h := by omega
                    subst hic
                    exact ⟨rfl, Or.inr ⟨rfl, HNO.out⟩⟩
            case rest =>
              obtain ⟨rfl, hoff⟩ := hcut
              have HLAW := hide (fun off hF => both_law HL.out hph hhc HN.out HH.out HS.out HSL.out (off := off) hF)
              clear HL HN HH HS HSL
              rcases hoff with ⟨i, rfl, hi1, hi2, hi3, hi4⟩ | ⟨rfl, hall⟩
              · have HF := hide (show Found t p c h i from Or.inl ⟨i, hi1, hi2, hi3, hi4, rfl⟩)
                clear hi3 hi4
                obtain ⟨l1, l2, l3, l4⟩ := (HLAW.out _ HF.out).1 (by omega)
                have l2' : q = i := by omega
                have l4' : qL = i := by omega
                subst l1 l2' l3 l4'
                clear HLAW HF l2 l4
                go_wp2
                go_ret
                exact ⟨rfl, HB2.out⟩
              · have HALL := hide hall
                clear hall
                by_cases hc : h < c
                · have hcz : (h : Int) < (c : Int) := by omega
                  go_wp2
                  go_loopg [15, 17] (c - (h + 1)) (fun g v vi wx => wx = wc ∧ ∃ i : Nat, h < i ∧ i ≤ c ∧ g = c - i ∧ v = .int .i64 (-1) ∧ vi = .int .i64 i ∧ ∀ j, h < j → j < i → ctlB (bt t j) = false)
                  case atStart => exact ⟨rfl, h + 1, by omega, by omega, rfl, rfl, by go_num, fun j h1 h2 => by omega⟩
                  case round =>
                    obtain ⟨rfl, i, hpi, hin, rfl, rfl, rfl, hno⟩ := hrel
                    have HNO := hide hno
                    clear hno
                    by_cases hlt : i < c
                    · have hv := hg i (by omega)
                      have hltz : (i : Int) < (c : Int) := by omega
                      have hltt : (i : Int) < (t.size : Int) := by omega
                      have HBL := hide (fun w => forbidden_any (bt t i) w (bt_nonneg t i) (bt_le t i))
                      cases hct : ctlB (bt t i)
                      · rw [hct] at HBL
                        go_wp2_with (first | (go_at_call 8; refine (HBL.out _).mono ?_; rintro e w' ⟨rfl, rfl⟩) | fail)
                        go_roundg (c - (i + 1))
                        case measure => omega
                        case rel =>
                          refine ⟨rfl, i + 1, by omega, by omega, rfl, rfl, by go_num, fun j g1 g2 => ?_⟩
                          by_cases gj : j < i
                          · exact HNO.out j g1 gj
                          · have : j = i := by omega
                            subst this
                            exact hct
                      · rw [hct] at HBL
                        have HF := hide (show Found t p c h i from Or.inr (Or.inr (Or.inl ⟨HALL.out, hc, i, hpi, hlt, hct, HNO.out, rfl⟩)))
                        obtain ⟨l1, l2, l3, l4⟩ := (HLAW.out _ HF.out).1 (by omega)
                        have l2' : q = i := by omega
                        have l4' : qL = i := by omega
                        subst l1 l2' l3 l4'
                        clear HLAW HF l2 l4
                        go_wp2_with (first | (go_at_call 8; refine (HBL.out _).mono ?_; rintro e w' ⟨rfl, rfl⟩) | fail)
                        go_ret
                        exact ⟨rfl, HB2.out⟩
                    · have hltz : ¬ (i : Int) < (c : Int) := by omega
                      have hic : i = c := by omega
                      have HF := hide (show Found t p c h (-1) from Or.inr (Or.inr (Or.inr ⟨HALL.out, hc, fun j g1 g2 => HNO.out j g1 (by omega), rfl⟩)))
                      obtain ⟨l1, l2, l3, l4⟩ := (HLAW.out _ HF.out).2 (by omega)
                      subst l1 l2 l3 l4
                      clear HLAW HF
                      go_wp2
                      go_ret
                      exact ⟨rfl, HB2.out⟩
                · have hcz : ¬ (h : Int) < (c : Int) := by omega
                  have HF := hide (show Found t p c h (-1) from Or.inr (Or.inl ⟨HALL.out, by omega, rfl⟩))
                  obtain ⟨l1, l2, l3, l4⟩ := (HLAW.out _ HF.out).2 (by omega)
                  subst l1 l2 l3 l4
                  clear HLAW HF
                  go_wp2
                  go_ret
                  exact ⟨rfl, HB2.out⟩

theorem law_any (t : ByteArray) (p : Int) (w : World) (hT : Tabs w) (h3 : 2 < w.heap.size) : Calls Tryf.prog 3 #[.string t, .int .i64 p] w fun e w' => e = .returned (.bool true) ∧ Below w.heap.size w w' := by
  by_cases ht : t.size ≤ 1048576
  · by_cases hp : p < 0 ∨ (t.size : Int) < p
    · exact law_out t p w ht hp
    · obtain ⟨k, rfl⟩ := Int.eq_ofNat_of_zero_le (show 0 ≤ p by omega)
      exact law_in t k w hT h3 ht (by omega)
  · exact law_long t p w ht
end Go.Proofs.Qxb6614930aFmt
