/-
  The walk of comment.
-/
import Derived.Test.Qxb6614930aFmtErr
namespace Go.Proofs.Qxb6614930aFmt
open Go.RowKit Go.PlainAid Go.Extern.Stop Go.Stop Go.Extern

/-- Neither a line break begins at i, nor is a control character there. -/
def Plain (t : ByteArray) (i : Nat) : Prop := lfB t i = false ∧ crB t i = false ∧ ctlB (bt t i) = false

set_option maxHeartbeats 2000000 in
theorem comment_any (b : Nat) (t : ByteArray) (p : Nat) (w : World) (hd : Dec b t p w) (hT : Tabs w) (hb3 : 2 < b) (hp : p < t.size) (ht : t.size ≤ 1048576) :
    Calls Tryf.prog 13 #[.pointer (some ⟨b, 0, none⟩)] w fun e w' => ∃ q, p < q ∧ q ≤ t.size ∧ (∀ i, p < i → i < q → Plain t i) ∧ Dec b t q w' ∧ Below b w w' ∧
      ((e = .returned .nilIface ∧ (q = t.size ∨ (lfB t q || crB t q) = true)) ∨ (∃ a, e = .returned (.iface 65 (.pointer (some a))) ∧ q < t.size ∧ lfB t q = false ∧ crB t q = false ∧ ctlB (bt t q) = true)) := by
  have hd1 := hide hd
  obtain ⟨h0, h1, h3, hf, hb⟩ := hd
  go_enter Tryf.func13, Tryf.ntmps13
  go_wp2
  go_loopw [] (fun wr => ∃ q, p < q ∧ q ≤ t.size ∧ (∀ i, p < i → i < q → Plain t i) ∧ Dec b t q wr ∧ Below b w wr) (fun wr => t.size - (intOf ((wr.cell? ⟨b, 1, none⟩).getD .nilIface)).toNat)
  case atStart => exact ⟨p + 1, by omega, by omega, fun i h1 h2 => by omega, hd1.out.set (p + 1), (Below.refl _ _).setCell (p := ⟨b, 1, none⟩) (Nat.le_refl _) _⟩
  case round =>
    obtain ⟨q, hpq, hq, hpl, hD, hB⟩ := hrel
    clear h0 h1 h3 hf hb hd1
    have HD := hide hD
    obtain ⟨h0, h1, h3, hf, hb⟩ := hD
    have hg := get_bt t
    have hm0 : (intOf ((wr.cell? ⟨b, 1, none⟩).getD .nilIface)).toNat = q := by rw [h1]; simp [intOf]
    have hlb : ∀ n, Calls Tryf.prog 17 #[.pointer (some ⟨b, 0, none⟩)] (wr.drewN n) fun e w' => e = .returned (.bool (lfB t q || crB t q)) ∧ ∃ m, w' = (wr.drewN n).drewN m := fun n => atLineBreak_any b t q (wr.drewN n) ⟨h0, h1, h3, hf, hb⟩ hq
    have HLB := hide hlb
    have HPL := hide hpl
    clear hlb hpl
    by_cases hlt : q < t.size
    · have hv := hg q hlt
      cases h5 : (lfB t q || crB t q)
      · rw [h5] at HLB
        have h5' : lfB t q = false ∧ crB t q = false := by simpa using h5
        have hbt0 := bt_nonneg t q
        have hbt1 := bt_le t q
        have hctl := fun w => isControl_any (bt t q) w hbt0 hbt1
        cases h6 : ctlB (bt t q)
        · rw [h6] at hctl
          have HC := hide hctl
          clear hctl
          go_wp2
          go_quiet (first | (go_at_call 17; exact Calls.quiet_of (HLB.out _)) | fail)
          go_wp2
          have HD2 := hide (HD.out.drewN nq)
          have HB2 := below_drewN hB nq
          clear h0 h1 h3 hf hb HD hB HLB
          generalize wr.drewN nq = w1 at HD2 HB2 ⊢
          obtain ⟨h0, h1, h3, hf, hb⟩ := HD2.out
          go_quiet (first | (go_at_call 18; exact Calls.quiet_of_same (HC.out _)) | fail)
          go_wp2
          go_roundw
          case rel =>
            refine ⟨q + 1, by omega, by omega, fun i hi1 hi2 => ?_, (HD2.out.drewN nq).set (q + 1), (below_drewN HB2 nq).setCell (p := ⟨b, 1, none⟩) (Nat.le_refl _) _⟩
            by_cases hi : i < q
            · exact HPL.out i hi1 hi
            · have : i = q := by omega
              subst this
              exact ⟨h5'.1, h5'.2, h6⟩
          case measure =>
            rw [hm0]
            have := ((HD2.out.drewN nq).set (q + 1)).2.1
            have e : ((q + 1 : Nat) : Int) = (q : Int) + 1 := by omega
            rw [e] at this
            rw [this]
            simp [intOf]
            omega
        · rw [h6] at hctl
          have HC := hide hctl
          clear hctl
          go_wp2
          go_quiet (first | (go_at_call 17; exact Calls.quiet_of (HLB.out _)) | fail)
          go_wp2
          have HD2 := hide (HD.out.drewN nq)
          have HB2 := below_drewN hB nq
          clear h0 h1 h3 hf hb HD hB HLB
          generalize wr.drewN nq = w1 at HD2 HB2 ⊢
          obtain ⟨h0, h1, h3, hf, hb⟩ := HD2.out
          go_quiet (first | (go_at_call 18; exact Calls.quiet_of_same (HC.out _)) | fail)
          have HD3 := hide (HD2.out.drewN nq)
          have HB3 := hide (below_drewN HB2 nq)
          clear h0 h1 h3 hf hb HD2 HB2 HC
          generalize w1.drewN nq = w2 at HD3 HB3 ⊢
          have HT3 := hide (hT.below HB3.out hb3)
          have HE := hide (fun B x w (h1 : Dec b t q w) (h2 : w.cell? ⟨B, 0, none⟩ = some (.iface 9 (.string x))) => errorf_any b t q fComment B x w p_c h1 hq h2)
          unfold fComment at HE
          have hb2 : b < w2.heap.size := HD3.out.2.2.2.2
          go_wp2_with (first | (go_at_call 16; refine (describe_any b t q _ HD3.out HT3.out hb3 hq).mono ?_; rintro e w3 ⟨s, rfl, hb4⟩) | fail)
          have HD5 := hide ((HD3.out.below hb4 hb2).below ((Below.refl w3.heap.size w3).alloc (Nat.le_refl _) (.cells #[.iface 9 (.string s)] 20)) (Nat.lt_of_lt_of_le hb2 hb4.size))
          go_wp2_with (first | (go_at_call 15; refine (HE.out _ s _ HD5.out (by simp)).mono ?_; rintro e w5 ⟨a, rfl, hb6⟩) | fail)
          go_ret
          have hs3 : w2.heap.size ≤ w3.heap.size := hb4.size
          have hA : Below b w (w3.alloc (.cells #[.iface 9 (.string s)] 20)) := (HB3.out.trans (hb4.mono (by omega))).alloc (by omega) _
          exact ⟨q, hpq, hq, HPL.out, HD5.out.below hb6 (by simp; omega), hA.trans (hb6.mono (by simp; omega)), Or.inr ⟨a, rfl, hlt, h5'.1, h5'.2, h6⟩⟩
      · rw [h5] at HLB
        go_wp2
        go_quiet (first | (go_at_call 17; exact Calls.quiet_of (HLB.out _)) | fail)
        go_wp2
        go_ret
        exact ⟨q, hpq, hq, HPL.out, HD.out.drewN _, below_drewN hB _, Or.inl ⟨rfl, Or.inr h5⟩⟩
    · have he : q = t.size := by omega
      subst he
      go_wp2
      go_quiet (fail)
      go_wp2
      go_ret
      exact ⟨_, hpq, hq, HPL.out, HD.out.drewN _, below_drewN hB _, Or.inl ⟨rfl, Or.inl rfl⟩⟩
end Go.Proofs.Qxb6614930aFmt
