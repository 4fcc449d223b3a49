/-
  The model: trimSpaceModel, nextSemicolon, pieceName: the walks.
-/
import Derived.Test.Qxb6616118aDoorSeg
namespace Go.Proofs.Qxb6616118aDoor
open Go.RowKit Go.PlainAid

theorem seg_str (s : ByteArray) (i j : Nat) : (s.extract i j).data.toList = seg s.data.toList i j := by
  simp [ByteArray.data_extract, Array.toList_extract, seg]
theorem seg_all (a : List UInt8) (i : Nat) : seg a i a.length = a.drop i := by
  unfold seg
  exact List.take_of_length_le (by simp)
theorem trimB_of {s : ByteArray} {i j : Nat} (h1 : Lib.stripL s.data.toList.length s.data.toList = s.data.toList.drop i) (h2 : Lib.stripR (s.data.toList.drop i).length (s.data.toList.drop i) = seg s.data.toList i j) : s.extract i j = trimB s := by
  have e : Lib.trimSpaceD s.data.toList = seg s.data.toList i j := by
    rw [← Lib.trimSpaceU_eq]
    show Lib.stripR s.data.toList.length (Lib.stripL s.data.toList.length s.data.toList) = _
    rw [h1, stripR_any (by simp), h2]
  unfold trimB
  rw [e, ← seg_str]

theorem ext_self (s : ByteArray) (j : Nat) : s.extract j j = ByteArray.empty := by simp

set_option maxHeartbeats 2000000 in
theorem trimModel_any (s : ByteArray) (w : World) (hz : s.size ≤ 8388608) : Calls Tryd.prog 13 #[.string s] w fun e w' => e = .returned (.string (trimB s)) ∧ ∃ n, w' = w.drewN n := by
  have hl : s.data.toList.length = s.size := by simp
  go_enter Tryd.func13, Tryd.ntmps13
  go_wp2
  go_loopw [3] (fun v wr => ∃ i n : Nat, v = .int .i64 i ∧ wr = w.drewN n ∧ i ≤ s.size ∧ Lib.stripL s.data.toList.length s.data.toList = Lib.stripL (s.data.toList.drop i).length (s.data.toList.drop i)) (fun v _ => s.size - (intOf v).toNat)
  case atStart => exact ⟨0, 0, rfl, rfl, Nat.zero_le _, by simp⟩
  case round =>
    obtain ⟨i, n, rfl, rfl, hi, hst⟩ := hrel
    have HST := hide hst
    have HL := hide hl
    clear hst hl
    by_cases hlt : i < s.size
    · obtain ⟨k, hk⟩ : ∃ k, k = spAt s i s.size := ⟨_, rfl⟩
      have HC := hide (fun w => spaceAt_any s i s.size w hlt (Nat.le_refl _) hz)
      rw [← hk] at HC
      have hke : k = Lib.headSpace (s.data.toList.drop i) := by rw [hk, spAt_eq s i s.size hlt (Nat.le_refl _), ← HL.out, seg_all]
      have hkl : k ≤ s.size - i := by
        have := head_le (s.data.toList.drop i)
        rw [List.length_drop, HL.out] at this
        omega
      have HK := hide hke
      clear hk hke
      by_cases hk0 : k = 0
      · subst hk0
        have hS1 : Lib.stripL s.data.toList.length s.data.toList = s.data.toList.drop i := by rw [HST.out, stripL_of HK.out.symm]
        clear hkl
        go_wp2_with (first | (go_at_call 17; refine (HC.out _).mono ?_; rintro e w' ⟨rfl, m, rfl⟩) | fail)
        clear HC HK HST
        have HS1 := hide hS1
        clear hS1
        go_wp2
        go_loopw [4] (fun v wr => ∃ j n : Nat, v = .int .i64 j ∧ wr = w.drewN n ∧ i ≤ j ∧ j ≤ s.size ∧ Lib.stripR (s.data.toList.drop i).length (s.data.toList.drop i) = Lib.stripR (seg s.data.toList i j).length (seg s.data.toList i j)) (fun v _ => (intOf v).toNat)
        case atStart => exact ⟨s.size, _, rfl, rfl, hi, Nat.le_refl _, by rw [← HL.out, seg_all]⟩
        case round =>
          obtain ⟨j, n2, rfl, rfl, hij, hj, hst⟩ := hrel
          have HST := hide hst
          clear hst
          by_cases hlt2 : i < j
          · obtain ⟨k2, hk2⟩ : ∃ k2, k2 = spBe s i j := ⟨_, rfl⟩
            have HC2 := hide (fun w => spaceBefore_any s i j w hlt2 hj hz)
            rw [← hk2] at HC2
            have hk2e : k2 = Lib.tailSpace (seg s.data.toList i j) := by rw [hk2, spBe_eq s i j hlt2 hj]
            have hkl2 : k2 ≤ j - i := by
              have := tail_le (seg s.data.toList i j)
              rw [seg_len _ _ _ (by have := HL.out; omega)] at this
              omega
            have HK2 := hide hk2e
            clear hk2 hk2e
            by_cases hk0 : k2 = 0
            · subst hk0
              have hS2 : Lib.stripR (s.data.toList.drop i).length (s.data.toList.drop i) = seg s.data.toList i j := by rw [HST.out, stripR_of HK2.out.symm]
              have HR := hide (trimB_of HS1.out hS2)
              clear hS2
              go_wp2_with (first | (go_at_call 18; refine (HC2.out _).mono ?_; rintro e w' ⟨rfl, m2, rfl⟩) | fail)
              go_ret
              exact ⟨by rw [← HR.out]; rfl, _, rfl⟩
            · have hk0' : ((k2 : Int) == 0) = false := by simpa using hk0
              go_wp2_with (first | (go_at_call 18; refine (HC2.out _).mono ?_; rintro e w' ⟨rfl, m2, rfl⟩) | fail)
              go_roundw
              case rel =>
                refine ⟨j - k2, n2 + m2, by go_num, rfl, by omega, by omega, ?_⟩
                have e1 : (seg s.data.toList i j).take ((seg s.data.toList i j).length - k2) = seg s.data.toList i (j - k2) := by
                  rw [seg_len _ _ _ (by have := HL.out; omega), seg_take _ _ _ _ (by omega)]
                  congr 1
                  omega
                rw [HST.out, stripR_full (by rw [← HK2.out]; exact hk0), ← HK2.out, e1]
              case measure => simp [intOf]; omega
          · have hje : j = i := by omega
            subst hje
            have hS2 : Lib.stripR (s.data.toList.drop j).length (s.data.toList.drop j) = seg s.data.toList j j := by rw [HST.out, seg_nil]; rfl
            have HR := hide (trimB_of HS1.out hS2)
            clear hS2
            go_wp2
            go_ret
            exact ⟨by rw [← HR.out, ext_self]; rfl, _, rfl⟩
      · have hk0' : ((k : Int) == 0) = false := by simpa using hk0
        go_wp2_with (first | (go_at_call 17; refine (HC.out _).mono ?_; rintro e w' ⟨rfl, m, rfl⟩) | fail)
        go_roundw
        case rel =>
          refine ⟨i + k, n + m, by go_num, rfl, by omega, ?_⟩
          rw [HST.out, stripL_full (by rw [← HK.out]; exact hk0), ← HK.out, List.drop_drop]
        case measure => simp [intOf]; omega
    · have hie : i = s.size := by omega
      have hS1 : Lib.stripL s.data.toList.length s.data.toList = s.data.toList.drop i := by
        rw [HST.out]
        have : s.data.toList.drop i = [] := List.drop_eq_nil_of_le (by have := HL.out; omega)
        rw [this]
        rfl
      clear HST
      subst hie
      go_wp2
      go_loopw [4] (fun v wr => v = .int .i64 s.size ∧ wr = w.drewN n) (fun _ _ => 0)
      case atStart => exact ⟨rfl, rfl⟩
      case round =>
        obtain ⟨rfl, rfl⟩ := hrel
        have hS2 : Lib.stripR (s.data.toList.drop s.size).length (s.data.toList.drop s.size) = seg s.data.toList s.size s.size := by
          rw [seg_nil, show s.data.toList.drop s.size = [] from List.drop_eq_nil_of_le (by have := HL.out; omega)]
          rfl
        have HR := hide (trimB_of hS1 hS2)
        clear hS1 hS2
        go_wp2
        go_ret
        exact ⟨by rw [← HR.out, ext_self]; rfl, _, rfl⟩
end Go.Proofs.Qxb6616118aDoor
