/-
  The walks of endLine and of its shim ZZendLine.
-/
import Derived.Test.Qxb6614930aFmtComment
namespace Go.Proofs.Qxb6614930aFmt
open Go.RowKit Go.PlainAid Go.Extern.Stop Go.Stop Go.Extern

/-- What the end of a line's reading gives at the place r: is it bad, and where does the reading stop. -/
def Fin (t : ByteArray) (r : Nat) (bad : Bool) (q : Nat) : Prop :=
  (r = t.size ∧ bad = false ∧ q = r) ∨ (r < t.size ∧ lfB t r = true ∧ bad = false ∧ q = r + 1) ∨ (r < t.size ∧ lfB t r = false ∧ crB t r = true ∧ bad = false ∧ q = r + 2) ∨ (r < t.size ∧ lfB t r = false ∧ crB t r = false ∧ bad = true ∧ q = r)
/-- What endLine gives from the place p on. -/
def EndSpec (t : ByteArray) (p : Nat) (bad : Bool) (q : Nat) : Prop :=
  ∃ p1, p ≤ p1 ∧ p1 ≤ t.size ∧ (∀ i, p ≤ i → i < p1 → bt t i = 32 ∨ bt t i = 9) ∧ (p1 < t.size → bt t p1 ≠ 32 ∧ bt t p1 ≠ 9) ∧
    (((p1 = t.size ∨ bt t p1 ≠ 35) ∧ Fin t p1 bad q) ∨
     (p1 < t.size ∧ bt t p1 = 35 ∧ ∃ p2, p1 < p2 ∧ p2 ≤ t.size ∧ (∀ i, p1 < i → i < p2 → Plain t i) ∧
       ((p2 < t.size ∧ lfB t p2 = false ∧ crB t p2 = false ∧ ctlB (bt t p2) = true ∧ bad = true ∧ q = p2) ∨ ((p2 = t.size ∨ (lfB t p2 || crB t p2) = true) ∧ Fin t p2 bad q))))

/-- An error, or none. -/
def errV (bad : Bool) (v : Value) : Prop := (bad = false ∧ v = .nilIface) ∨ (bad = true ∧ ∃ a, v = .iface 65 (.pointer (some a)))

set_option maxHeartbeats 2000000 in
theorem endLine_any (b : Nat) (t : ByteArray) (p : Nat) (w : World) (hd : Dec b t p w) (hT : Tabs w) (hb3 : 2 < b) (hp : p ≤ t.size) (ht : t.size ≤ 1048576) :
    Calls Tryf.prog 11 #[.pointer (some ⟨b, 0, none⟩)] w fun e w' => ∃ bad q v, e = .returned v ∧ errV bad v ∧ EndSpec t p bad q ∧ Dec b t q w' ∧ Below b w w' := by
  have HD0 := hide hd
  have hbz := hd.2.2.2.2
  clear hd
  go_enter Tryf.func11, Tryf.ntmps11
  go_wp2_with (first | (go_at_call 12; refine (skipSpace_any b t p _ HD0.out hp ht).mono ?_; rintro e w1 ⟨p1, rfl, hp1, hp1n, hbl, hnb, hD1, hB1⟩) | fail)
  have HD1 := hide hD1
  have HB1 := hide hB1
  clear hD1 hB1 HD0
  have hz1 : b < w1.heap.size := HD1.out.2.2.2.2
  have hg := get_bt t
  by_cases hA : p1 = t.size
  · have HF := hide (show ∀ bad q, Fin t p1 bad q → EndSpec t p bad q from fun bad q h => ⟨p1, hp1, hp1n, hbl, hnb, Or.inl ⟨Or.inl hA, h⟩⟩)
    have hlt : ¬ ((p1 : Int) < (t.size : Int)) := by omega
    obtain ⟨h0, h1, h3, hf, hb⟩ := HD1.out
    go_quiet (fail)
    go_wp2
    have HD2 := hide (HD1.out.drewN nq)
    have HB2 := hide (below_drewN HB1.out nq)
    have hr := hp1n
    clear hlt h0 h1 h3 hf hb HD1 HB1 hz1 hbl hnb hA
    generalize w1.drewN nq = w2 at HD2 HB2 ⊢
    generalize p1 = r at *
    have hrz : b < w2.heap.size := HD2.out.2.2.2.2
    by_cases hr2 : r = t.size
    · subst hr2
      obtain ⟨h0, h1, h3, hf, hb⟩ := HD2.out
      go_quiet (fail)
      go_wp2
      go_ret
      exact ⟨false, _, _, rfl, Or.inl ⟨rfl, rfl⟩, HF.out _ _ (Or.inl ⟨rfl, rfl, rfl⟩), HD2.out.drewN _, below_drewN HB2.out _⟩
    · have he2 : ((r : Int) == (t.size : Int)) = false := by simp; omega
      have hrl : r < t.size := by omega
      have HL := hide (fun n => lineBreak_any b t r (w2.drewN n) (HD2.out.drewN n) hr ht)
      obtain ⟨h0, h1, h3, hf, hb⟩ := HD2.out
      cases h5 : lfB t r
      · cases h6 : crB t r
        · rw [h5, h6] at HL
          have HF2 := hide (HF.out true r (Or.inr (Or.inr (Or.inr ⟨hrl, h5, h6, rfl, rfl⟩))))
          have HE := hide (fun B x w (h1 : Dec b t r w) (h2 : w.cell? ⟨B, 0, none⟩ = some (.iface 9 (.string x))) => errorf_any b t r fEnd B x w p_e h1 hr h2)
          unfold fEnd at HE
          clear HF
          go_region_with (first | (go_at_call 14; refine (HL.out _).mono ?_; rintro e w3 ⟨rfl, hD3, hB3⟩) | fail)
          all_goals
            have HD3 := hide (show Dec b t r w3 from hD3)
            have HB3 := hide (HB2.out.trans ((below_drewN (Below.refl b w2) 1).trans hB3))
            have hz3 : b < w3.heap.size := HD3.out.2.2.2.2
            clear hD3 hB3 HL HB2 HD2 h0 h1 h3 hf hb
            have HT3 := hide (hT.below HB3.out hb3)
            go_wp2_with (first | (go_at_call 16; refine (describe_any b t r _ HD3.out HT3.out hb3 hr).mono ?_; rintro e w4 ⟨s, rfl, hb4⟩) | fail)
            have HD5 := hide ((HD3.out.below hb4 hz3).below ((Below.refl w4.heap.size w4).alloc (Nat.le_refl _) (.cells #[.iface 9 (.string s)] 20)) (Nat.lt_of_lt_of_le hz3 hb4.size))
            go_wp2_with (first | (go_at_call 15; refine (HE.out _ s _ HD5.out (by simp)).mono ?_; rintro e w5 ⟨a, rfl, hb6⟩) | fail)
            go_ret
            have hs3 : w3.heap.size ≤ w4.heap.size := hb4.size
            have hA : Below b w (w4.alloc (.cells #[.iface 9 (.string s)] 20)) := (HB3.out.trans (hb4.mono (by omega))).alloc (by omega) _
            exact ⟨true, r, _, rfl, Or.inr ⟨rfl, a, rfl⟩, HF2.out, HD5.out.below hb6 (by simp; omega), hA.trans (hb6.mono (by simp; omega))⟩
        · rw [h5, h6] at HL
          have HF2 := hide (HF.out false (r + 2) (Or.inr (Or.inr (Or.inl ⟨hrl, h5, h6, rfl, rfl⟩))))
          clear HF
          go_region_with (first | (go_at_call 14; refine (HL.out _).mono ?_; rintro e w3 ⟨rfl, hD3, hB3⟩) | fail)
          all_goals
            have HD3 := hide (show Dec b t (r + 2) w3 from hD3)
            have HB3 := hide (HB2.out.trans ((below_drewN (Below.refl b w2) 1).trans hB3))
            clear hD3 hB3 HL HB2 HD2 h0 h1 h3 hf hb
            go_wp2
            go_ret
            exact ⟨false, r + 2, _, rfl, Or.inl ⟨rfl, rfl⟩, HF2.out, HD3.out, HB3.out⟩
      · rw [h5] at HL
        have HF2 := hide (HF.out false (r + 1) (Or.inr (Or.inl ⟨hrl, h5, rfl, rfl⟩)))
        clear HF
        have hor : ∀ x, (true || x) = true := fun x => by cases x <;> rfl
        rw [hor] at HL
        go_region_with (first | (go_at_call 14; refine (HL.out _).mono ?_; rintro e w3 ⟨rfl, hD3, hB3⟩) | fail)
        all_goals
          have HD3 := hide (show Dec b t (r + 1) w3 from hD3)
          have HB3 := hide (HB2.out.trans ((below_drewN (Below.refl b w2) 1).trans hB3))
          clear hD3 hB3 HL HB2 HD2 h0 h1 h3 hf hb
          go_wp2
          go_ret
          exact ⟨false, r + 1, _, rfl, Or.inl ⟨rfl, rfl⟩, HF2.out, HD3.out, HB3.out⟩
  · have hlt : p1 < t.size := by omega
    have hv := hg p1 hlt
    by_cases hC : bt t p1 = 35
    · have HF0 := hide (show ∀ bad q p2, p1 < p2 → p2 ≤ t.size → (∀ i, p1 < i → i < p2 → Plain t i) → ((p2 < t.size ∧ lfB t p2 = false ∧ crB t p2 = false ∧ ctlB (bt t p2) = true ∧ bad = true ∧ q = p2) ∨ ((p2 = t.size ∨ (lfB t p2 || crB t p2) = true) ∧ Fin t p2 bad q)) → EndSpec t p bad q from fun bad q p2 g1 g2 g3 g4 => ⟨p1, hp1, hp1n, hbl, hnb, Or.inr ⟨hlt, hC, p2, g1, g2, g3, g4⟩⟩)
      obtain ⟨h0, h1, h3, hf, hb⟩ := HD1.out
      go_quiet (fail)
      have HD1b := hide (HD1.out.drewN nq)
      have HB1b := hide (below_drewN HB1.out nq)
      have HTb := hide (hT.below HB1b.out hb3)
      clear h0 h1 h3 hf hb HD1 HB1 hz1 hbl hnb hA
      generalize w1.drewN nq = w1b at HD1b HB1b HTb ⊢
      go_wp2_with (first | (go_at_call 13; refine (comment_any b t p1 _ HD1b.out HTb.out hb3 hlt ht).mono ?_; rintro e w2 ⟨r, hpr, hr, hpl, hD2, hB2, hcase⟩; rcases hcase with ⟨rfl, hstop⟩ | ⟨a, rfl, hrl, h5, h6, h7⟩) | fail)
      · have HF := hide (show ∀ bad q, Fin t r bad q → EndSpec t p bad q from fun bad q h => HF0.out bad q r hpr hr hpl (Or.inr ⟨hstop, h⟩))
        have HD2 := hide hD2
        have HB2 := hide (HB1b.out.trans hB2)
        clear HF0 hstop hpl hD2 hB2 HD1b HB1b HTb hv hC
        go_wp2
        have hrz : b < w2.heap.size := HD2.out.2.2.2.2
        by_cases hr2 : r = t.size
        · subst hr2
          obtain ⟨h0, h1, h3, hf, hb⟩ := HD2.out
          go_quiet (fail)
          go_wp2
          go_ret
          exact ⟨false, _, _, rfl, Or.inl ⟨rfl, rfl⟩, HF.out _ _ (Or.inl ⟨rfl, rfl, rfl⟩), HD2.out.drewN _, below_drewN HB2.out _⟩
        · have he2 : ((r : Int) == (t.size : Int)) = false := by simp; omega
          have hrl : r < t.size := by omega
          have HL := hide (fun n => lineBreak_any b t r (w2.drewN n) (HD2.out.drewN n) hr ht)
          obtain ⟨h0, h1, h3, hf, hb⟩ := HD2.out
          cases h5 : lfB t r
          · cases h6 : crB t r
            · rw [h5, h6] at HL
              have HF2 := hide (HF.out true r (Or.inr (Or.inr (Or.inr ⟨hrl, h5, h6, rfl, rfl⟩))))
              have HE := hide (fun B x w (h1 : Dec b t r w) (h2 : w.cell? ⟨B, 0, none⟩ = some (.iface 9 (.string x))) => errorf_any b t r fEnd B x w p_e h1 hr h2)
              unfold fEnd at HE
              clear HF
              go_region_with (first | (go_at_call 14; refine (HL.out _).mono ?_; rintro e w3 ⟨rfl, hD3, hB3⟩) | fail)
              all_goals
                have HD3 := hide (show Dec b t r w3 from hD3)
                have HB3 := hide (HB2.out.trans ((below_drewN (Below.refl b w2) 1).trans hB3))
                have hz3 : b < w3.heap.size := HD3.out.2.2.2.2
                clear hD3 hB3 HL HB2 HD2 h0 h1 h3 hf hb
                have HT3 := hide (hT.below HB3.out hb3)
                go_wp2_with (first | (go_at_call 16; refine (describe_any b t r _ HD3.out HT3.out hb3 hr).mono ?_; rintro e w4 ⟨s, rfl, hb4⟩) | fail)
                have HD5 := hide ((HD3.out.below hb4 hz3).below ((Below.refl w4.heap.size w4).alloc (Nat.le_refl _) (.cells #[.iface 9 (.string s)] 20)) (Nat.lt_of_lt_of_le hz3 hb4.size))
                go_wp2_with (first | (go_at_call 15; refine (HE.out _ s _ HD5.out (by simp)).mono ?_; rintro e w5 ⟨a, rfl, hb6⟩) | fail)
                go_ret
                have hs3 : w3.heap.size ≤ w4.heap.size := hb4.size
                have hA : Below b w (w4.alloc (.cells #[.iface 9 (.string s)] 20)) := (HB3.out.trans (hb4.mono (by omega))).alloc (by omega) _
                exact ⟨true, r, _, rfl, Or.inr ⟨rfl, a, rfl⟩, HF2.out, HD5.out.below hb6 (by simp; omega), hA.trans (hb6.mono (by simp; omega))⟩
            · rw [h5, h6] at HL
              have HF2 := hide (HF.out false (r + 2) (Or.inr (Or.inr (Or.inl ⟨hrl, h5, h6, rfl, rfl⟩))))
              clear HF
              go_region_with (first | (go_at_call 14; refine (HL.out _).mono ?_; rintro e w3 ⟨rfl, hD3, hB3⟩) | fail)
              all_goals
                have HD3 := hide (show Dec b t (r + 2) w3 from hD3)
                have HB3 := hide (HB2.out.trans ((below_drewN (Below.refl b w2) 1).trans hB3))
                clear hD3 hB3 HL HB2 HD2 h0 h1 h3 hf hb
                go_wp2
                go_ret
                exact ⟨false, r + 2, _, rfl, Or.inl ⟨rfl, rfl⟩, HF2.out, HD3.out, HB3.out⟩
          · rw [h5] at HL
            have HF2 := hide (HF.out false (r + 1) (Or.inr (Or.inl ⟨hrl, h5, rfl, rfl⟩)))
            clear HF
            have hor : ∀ x, (true || x) = true := fun x => by cases x <;> rfl
            rw [hor] at HL
            go_region_with (first | (go_at_call 14; refine (HL.out _).mono ?_; rintro e w3 ⟨rfl, hD3, hB3⟩) | fail)
            all_goals
              have HD3 := hide (show Dec b t (r + 1) w3 from hD3)
              have HB3 := hide (HB2.out.trans ((below_drewN (Below.refl b w2) 1).trans hB3))
              clear hD3 hB3 HL HB2 HD2 h0 h1 h3 hf hb
              go_wp2
              go_ret
              exact ⟨false, r + 1, _, rfl, Or.inl ⟨rfl, rfl⟩, HF2.out, HD3.out, HB3.out⟩
      · have HF := hide (HF0.out true r r hpr hr hpl (Or.inl ⟨hrl, h5, h6, h7, rfl, rfl⟩))
        have HD2 := hide hD2
        have HB2 := hide (HB1b.out.trans hB2)
        clear HF0 hpl hD2 hB2 HD1b HB1b HTb hv hC h5 h6 h7
        go_wp2
        go_ret
        exact ⟨true, r, _, rfl, Or.inr ⟨rfl, a, rfl⟩, HF.out, HD2.out, HB2.out⟩
    · have hC2 : (bt t p1 == 35) = false := by simpa using hC
      have HF := hide (show ∀ bad q, Fin t p1 bad q → EndSpec t p bad q from fun bad q h => ⟨p1, hp1, hp1n, hbl, hnb, Or.inl ⟨Or.inr hC, h⟩⟩)
      obtain ⟨h0, h1, h3, hf, hb⟩ := HD1.out
      go_quiet (fail)
      go_wp2
      have HD2 := hide (HD1.out.drewN nq)
      have HB2 := hide (below_drewN HB1.out nq)
      have hr := hp1n
      clear hlt hv hC hC2 h0 h1 h3 hf hb HD1 HB1 hz1 hbl hnb hA
      generalize w1.drewN nq = w2 at HD2 HB2 ⊢
      generalize p1 = r at *
      have hrz : b < w2.heap.size := HD2.out.2.2.2.2
      by_cases hr2 : r = t.size
      · subst hr2
        obtain ⟨h0, h1, h3, hf, hb⟩ := HD2.out
        go_quiet (fail)
        go_wp2
        go_ret
        exact ⟨false, _, _, rfl, Or.inl ⟨rfl, rfl⟩, HF.out _ _ (Or.inl ⟨rfl, rfl, rfl⟩), HD2.out.drewN _, below_drewN HB2.out _⟩
      · have he2 : ((r : Int) == (t.size : Int)) = false := by simp; omega
        have hrl : r < t.size := by omega
        have HL := hide (fun n => lineBreak_any b t r (w2.drewN n) (HD2.out.drewN n) hr ht)
        obtain ⟨h0, h1, h3, hf, hb⟩ := HD2.out
        cases h5 : lfB t r
        · cases h6 : crB t r
          · rw [h5, h6] at HL
            have HF2 := hide (HF.out true r (Or.inr (Or.inr (Or.inr ⟨hrl, h5, h6, rfl, rfl⟩))))
            have HE := hide (fun B x w (h1 : Dec b t r w) (h2 : w.cell? ⟨B, 0, none⟩ = some (.iface 9 (.string x))) => errorf_any b t r fEnd B x w p_e h1 hr h2)
            unfold fEnd at HE
            clear HF
            go_region_with (first | (go_at_call 14; refine (HL.out _).mono ?_; rintro e w3 ⟨rfl, hD3, hB3⟩) | fail)
            all_goals
              have HD3 := hide (show Dec b t r w3 from hD3)
              have HB3 := hide (HB2.out.trans ((below_drewN (Below.refl b w2) 1).trans hB3))
              have hz3 : b < w3.heap.size := HD3.out.2.2.2.2
              clear hD3 hB3 HL HB2 HD2 h0 h1 h3 hf hb
              have HT3 := hide (hT.below HB3.out hb3)
              go_wp2_with (first | (go_at_call 16; refine (describe_any b t r _ HD3.out HT3.out hb3 hr).mono ?_; rintro e w4 ⟨s, rfl, hb4⟩) | fail)
              have HD5 := hide ((HD3.out.below hb4 hz3).below ((Below.refl w4.heap.size w4).alloc (Nat.le_refl _) (.cells #[.iface 9 (.string s)] 20)) (Nat.lt_of_lt_of_le hz3 hb4.size))
              go_wp2_with (first | (go_at_call 15; refine (HE.out _ s _ HD5.out (by simp)).mono ?_; rintro e w5 ⟨a, rfl, hb6⟩) | fail)
              go_ret
              have hs3 : w3.heap.size ≤ w4.heap.size := hb4.size
              have hA : Below b w (w4.alloc (.cells #[.iface 9 (.string s)] 20)) := (HB3.out.trans (hb4.mono (by omega))).alloc (by omega) _
              exact ⟨true, r, _, rfl, Or.inr ⟨rfl, a, rfl⟩, HF2.out, HD5.out.below hb6 (by simp; omega), hA.trans (hb6.mono (by simp; omega))⟩
          · rw [h5, h6] at HL
            have HF2 := hide (HF.out false (r + 2) (Or.inr (Or.inr (Or.inl ⟨hrl, h5, h6, rfl, rfl⟩))))
            clear HF
            go_region_with (first | (go_at_call 14; refine (HL.out _).mono ?_; rintro e w3 ⟨rfl, hD3, hB3⟩) | fail)
            all_goals
              have HD3 := hide (show Dec b t (r + 2) w3 from hD3)
              have HB3 := hide (HB2.out.trans ((below_drewN (Below.refl b w2) 1).trans hB3))
              clear hD3 hB3 HL HB2 HD2 h0 h1 h3 hf hb
              go_wp2
              go_ret
              exact ⟨false, r + 2, _, rfl, Or.inl ⟨rfl, rfl⟩, HF2.out, HD3.out, HB3.out⟩
        · rw [h5] at HL
          have HF2 := hide (HF.out false (r + 1) (Or.inr (Or.inl ⟨hrl, h5, rfl, rfl⟩)))
          clear HF
          have hor : ∀ x, (true || x) = true := fun x => by cases x <;> rfl
          rw [hor] at HL
          go_region_with (first | (go_at_call 14; refine (HL.out _).mono ?_; rintro e w3 ⟨rfl, hD3, hB3⟩) | fail)
          all_goals
            have HD3 := hide (show Dec b t (r + 1) w3 from hD3)
            have HB3 := hide (HB2.out.trans ((below_drewN (Below.refl b w2) 1).trans hB3))
            clear hD3 hB3 HL HB2 HD2 h0 h1 h3 hf hb
            go_wp2
            go_ret
            exact ⟨false, r + 1, _, rfl, Or.inl ⟨rfl, rfl⟩, HF2.out, HD3.out, HB3.out⟩
end Go.Proofs.Qxb6614930aFmt
