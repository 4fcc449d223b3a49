/-
  Walk: names.foldRune.
-/
import Derived.Test.Qxb6615948aDoorFoldWalk
namespace Go.Proofs.Qxb6615948aDoor
open Go.RowKit Go.Lib

theorem simpleFold_any (r : Int) (w : World) (hT : FoldTabs w) (h0 : 0 ≤ r) (h1 : r ≤ 1114111) :
    Calls Tryd.prog 30 #[.int .i32 r] w fun e w' => e = .returned (.int .i32 (sfold r)) ∧ ∃ q, w' = w.drewN q := by
  by_cases h : r < 128
  · obtain ⟨n, rfl⟩ : ∃ n : Nat, r = (n : Int) := ⟨r.toNat, by omega⟩
    exact sfold_ascii n w hT (by omega)
  · exact sfold_high r w hT (by omega) h1

set_option maxHeartbeats 400000 in
theorem foldRune_any (r : Int) (w : World) (hT : FoldTabs w) (h0 : 0 ≤ r) (h1 : r ≤ 1114111) :
    Calls Tryd.prog 24 #[.int .i32 r] w fun e w' => e = .returned (.int .i32 (foldRuneR r)) ∧ ∃ q, w' = w.drewN q := by
  by_cases h128 : r < 128
  · by_cases h65 : 65 ≤ r
    · by_cases h90 : r ≤ 90
      · have e : foldRuneR r = r + 32 := by unfold foldRuneR lowR; rw [if_pos h128, if_pos ⟨h65, h90⟩]
        rw [e]; clear e
        go_enter Tryd.func24, Tryd.ntmps24
        go_wp2
        go_ret
        exact ⟨rfl, 0, rfl⟩
      · have e : foldRuneR r = r := by unfold foldRuneR lowR; rw [if_pos h128, if_neg (fun h => h90 h.2)]
        rw [e]; clear e
        go_enter Tryd.func24, Tryd.ntmps24
        go_wp2
        go_ret
        exact ⟨rfl, 0, rfl⟩
    · have e : foldRuneR r = r := by unfold foldRuneR lowR; rw [if_pos h128, if_neg (fun h => h65 h.1)]
      rw [e]; clear e
      go_enter Tryd.func24, Tryd.ntmps24
      go_wp2
      go_ret
      exact ⟨rfl, 0, rfl⟩
  · have hbk := sf_back' r (by omega) h1
    have hrg := leastLoop_range r 4 r (sfold r) h0 h1 h0 h1 hbk
    have hE : foldRuneR r = lowR (leastLoop r 4 r (sfold r)) := by unfold foldRuneR; rw [if_neg h128]
    generalize hANS : leastLoop r 4 r (sfold r) = ANS at hE hrg
    rw [hE]
    clear hE
    go_enter Tryd.func24, Tryd.ntmps24
    go_wp2_with fail
    refine (simpleFold_any r w hT h0 h1).mono ?_
    rintro e w' ⟨rfl, q0, rfl⟩
    generalize sfold r = f0 at hbk hANS
    go_wp2
    go_loopg [3, 4] 4 (fun g s3 s4 wx => ∃ (q : Nat) (l f : Int), wx = w.drewN q ∧ s3 = .int .i32 l ∧ s4 = .int .i32 f ∧ 0 ≤ l ∧ l ≤ 1114111 ∧ back r.toNat g f = true ∧ leastLoop r g l f = ANS)
    case atStart => exact ⟨q0, r, f0, rfl, rfl, rfl, h0, h1, hbk, hANS⟩
    case round =>
      obtain ⟨q, l, f, rfl, rfl, rfl, hl0, hl1, hb, hA⟩ := hrel
      clear hbk hANS
      cases gk with
      | zero => simp [back] at hb
      | succ g =>
        obtain ⟨b0, b1, b2⟩ := back_step hb
        unfold leastLoop at hA
        by_cases e : f = r
        · rw [if_pos e] at hA
          subst e hA
          clear b2 hb
          go_wp2
          all_goals go_ret
          all_goals refine ⟨ret_int ?_, q, rfl⟩
          all_goals unfold lowR
          · rw [if_pos ⟨by assumption, by assumption⟩]
          · rw [if_neg (by omega)]
          · rw [if_neg (by omega)]
        · rw [if_neg e] at hA
          have hne : (f != r) = true := by simpa using e
          have hb2 : back r.toNat g (sfold f) = true := by
            rcases b2 with b2 | b2
            · exact absurd (by omega) e
            · exact b2
          clear b2 hb e
          have c := fun q => simpleFold_any f (w.drewN q) (hT.drewN q) b0 b1
          go_wp2_with fail
          refine (c _).mono ?_
          rintro e w' ⟨rfl, q1, rfl⟩
          clear c
          generalize sfold f = f2 at hA hb2
          go_wp2
          go_roundg g
          case measure => omega
          case rel => exact ⟨q + q1, _, _, by simp, rfl, rfl, by omega, by omega, hb2, hA⟩
end Go.Proofs.Qxb6615948aDoor
