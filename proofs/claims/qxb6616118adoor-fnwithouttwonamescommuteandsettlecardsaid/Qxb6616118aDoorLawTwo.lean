/-
  FnWithoutTwoNamesCommuteAndSettle: the walk.
-/
import Derived.Test.Qxb6616118aDoorLaw
namespace Go.Proofs.Qxb6616118aDoor
open Go.RowKit

theorem outB_size (n : ByteArray) (fs : List ByteArray) (B : Nat) (h : ∀ s ∈ fs, s.size ≤ B) : ∀ s ∈ outB n fs, s.size ≤ 2 * B := by
  unfold outB
  split
  · exact left_size n fs B h
  · exact fun s hs => Nat.le_trans (h s hs) (by omega)

set_option maxRecDepth 8000 in
set_option maxHeartbeats 4000000 in
theorem law2_any (n1 : ByteArray) (s1 : Bool) (n2 : ByteArray) (s2 : Bool) (va : Value) (sa : List ByteArray) (w : World) (hT : Tabs w) (ha : StrSl w va sa)
    (hla : sa.length ≤ maxLen) (hx : n1.size ≤ maxLen) (hy : n2.size ≤ maxLen) (hsa : ∀ s ∈ sa, s.size ≤ maxLen) :
    Calls Tryd.prog 4 #[.string n1, .bool s1, .string n2, .bool s2, va] w fun e w' => e = .returned (.bool true) ∧ Below w.heap.size w w' := by
  have HB5 := hide (bytes10_any n1 n2 s1 s2 va sa w ha hla hx hy hsa)
  have HT := hide hT
  have HA := hide ha
  obtain ⟨aa, ca, rfl, hca⟩ := ha
  have HCA := hide hca
  clear hT hla hx hy hsa hca
  obtain ⟨la, hlaE⟩ : ∃ la, la = sa.length := ⟨_, rfl⟩
  rw [← hlaE] at HB5
  rw [← hlaE] at HA
  rw [← hlaE]
  have HLA := hide hlaE
  clear hlaE
  by_cases g1 : 65536 < la
  · go_enter Tryd.func4, Tryd.ntmps4
    go_wp2_with (first | (go_at_call 10; refine HB5.out.mono ?_; intro e w' h; obtain ⟨rfl, rfl | ⟨rfl, hN⟩⟩ := h.two) | fail)
    all_goals (go_ret; exact ⟨rfl, Below.refl _ _⟩)
  go_enter Tryd.func4, Tryd.ntmps4
  go_wp2_with (first | (go_at_call 10; refine HB5.out.mono ?_; intro e w' h; obtain ⟨rfl, rfl | ⟨rfl, hN⟩⟩ := h.two) | fail)
  all_goals try (go_ret; exact ⟨rfl, Below.refl _ _⟩)
  have hsa1 : ∀ s ∈ sa, s.size ≤ 1048576 := lenSum_all (by omega)
  have HSA := hide hsa1
  have HL := hide (show lenSum sa ≤ 1048576 by omega)
  clear hsa1 hN HB5
  go_loop [11, 12] (fun t i => ∃ k : Nat, k ≤ la ∧ i = .int .i64 k ∧ t = .int .i64 ((n1.size + n2.size + 16 * la + lenSum (sa.take k) : Nat) : Int) ∧ n1.size + n2.size + 16 * la + lenSum (sa.take k) ≤ 1048576) (fun _ i => la - (intOf i).toNat)
  case atStart => exact ⟨0, Nat.zero_le _, rfl, by simp [lenSum], by simp [lenSum]; omega⟩
  case round =>
    obtain ⟨k, hk, rfl, rfl, hz⟩ := hrel
    by_cases hlt : k < la
    · obtain ⟨b, off, rfl, hb, hcell⟩ := HCA.out k (by rw [← HLA.out]; exact hlt)
      obtain ⟨s, hs⟩ : ∃ s, s = sa.getD k ByteArray.empty := ⟨_, rfl⟩
      have hsum := lenSum_take_succ sa k (by rw [← HLA.out]; exact hlt)
      rw [← hs] at hcell hsum
      have hsz : s.size ≤ 1048576 := by rw [hs]; exact Nat.le_trans (lenSum_getD sa k) HL.out
      have HS := hide hsum
      clear hs hsum
      go_wp2
      all_goals try (go_ret; exact ⟨rfl, Below.refl _ _⟩)
      go_round
      case rel =>
        have := HS.out
        refine ⟨k + 1, by omega, by go_num, ?_, ?_⟩
        · rw [this]; go_num
        · omega
      case measure => simp [intOf]; omega
    · have hke : k = la := by omega
      subst hke
      rw [HLA.out, List.take_length, ← HLA.out] at hz ⊢
      have la1 : sa.length ≤ 1048576 := by rw [← HLA.out]; omega
      have HL1 := hide la1
      have HLa := hide (Nat.le_trans (outB_len n1 sa) la1)
      have HLb := hide (Nat.le_trans (outB_len n2 sa) la1)
      have HLab := hide (Nat.le_trans (outB_len n2 (outB n1 sa)) (Nat.le_trans (outB_len n1 sa) la1))
      have HLw := hide (show (without2 n1 n2 sa).length ≤ 1048576 from by rw [← outB_two]; exact Nat.le_trans (outB_len n2 (outB n1 sa)) (Nat.le_trans (outB_len n1 sa) la1))
      have HZ0 := hide (fun s hs => Nat.le_trans (HSA.out s hs) (show 1048576 ≤ 8388608 by decide))
      have HZ1 := hide (fun s hs => Nat.le_trans (outB_size n1 sa 1048576 HSA.out s hs) (show 2 * 1048576 ≤ 8388608 by decide))
      have HZ2 := hide (fun s hs => Nat.le_trans (outB_size n2 sa 1048576 HSA.out s hs) (show 2 * 1048576 ≤ 8388608 by decide))
      have HZ3 := hide (fun s hs => Nat.le_trans (outB_size n2 (outB n1 sa) (2 * 1048576) (outB_size n1 sa 1048576 HSA.out) s hs) (show 2 * (2 * 1048576) ≤ 8388608 by decide))
      clear la1 hz
      have t1 : True := trivial
      have t2 : True := trivial
      have z1 : True := trivial
      have z2 : True := trivial
      have z3 : True := trivial
      have z4 : True := trivial
      have q1 : True := trivial
      have q2 : True := trivial
      go_wp2_with (first
        | (go_at_call 6; have _t := t1; clear t1 _t; refine (clones_any _ sa _ HA.out HL1.out).mono ?_; rintro e w1 ⟨v1, rfl, hb1, hs1⟩; have X1 := hide hb1; have S1x1 := hide hs1; clear hb1 hs1)
        | (go_at_call 6; have _t := t2; clear t2 _t; refine (clones_any _ sa _ S1x1.out HL1.out).mono ?_; rintro e w2 ⟨v2, rfl, hb2, hs2⟩; have S1x2 := hide (S1x1.out.below (Nat.le_refl _) hb2); have S2x2 := hide hs2; have X2 := hide (X1.out.trans (hb2.mono X1.out.size)); clear hb2 hs2)
        | (go_at_call 6; refine (clones_any _ sa _ S1x2.out HL1.out).mono ?_; rintro e w3 ⟨v3, rfl, hb3, hs3⟩; have S1x3 := hide (S1x2.out.below (Nat.le_refl _) hb3); have S2x3 := hide (S2x2.out.below (Nat.le_refl _) hb3); have S3x3 := hide hs3; have X3 := hide (X2.out.trans (hb3.mono X2.out.size)); clear hb3 hs3)
        | (go_at_call 7; have _t := z1; clear z1 _t; refine (zz_any clone_any n1 s1 _ _ (sa) [] _ (HT.out.below X3.out) S2x3.out (StrSl.nil _) HZ0.out HL1.out (by simp)).mono ?_; rintro e w4 ⟨u4, o4, rfl, hb4, hs4, -⟩; have S1x4 := hide (S1x3.out.below (Nat.le_refl _) hb4); have S3x4 := hide (S3x3.out.below (Nat.le_refl _) hb4); have SAx4 := hide (show StrSl w4 u4 (outB n1 (sa)) from hs4); have X4 := hide (X3.out.trans (hb4.mono X3.out.size)); clear hb4 hs4)
        | (go_at_call 7; have _t := z2; clear z2 _t; refine (zz_any clone_any n2 s2 _ _ (outB n1 sa) [] _ (HT.out.below X4.out) SAx4.out (StrSl.nil _) HZ1.out HLa.out (by simp)).mono ?_; rintro e w5 ⟨u5, o5, rfl, hb5, hs5, -⟩; have S1x5 := hide (S1x4.out.below (Nat.le_refl _) hb5); have S3x5 := hide (S3x4.out.below (Nat.le_refl _) hb5); have SABx5 := hide (show StrSl w5 u5 (outB n2 (outB n1 sa)) from hs5); have X5 := hide (X4.out.trans (hb5.mono X4.out.size)); clear hb5 hs5)
        | (go_at_call 7; have _t := z3; clear z3 _t; refine (zz_any clone_any n2 s2 _ _ (sa) [] _ (HT.out.below X5.out) S3x5.out (StrSl.nil _) HZ0.out HL1.out (by simp)).mono ?_; rintro e w6 ⟨u6, o6, rfl, hb6, hs6, -⟩; have S1x6 := hide (S1x5.out.below (Nat.le_refl _) hb6); have SABx6 := hide (SABx5.out.below (Nat.le_refl _) hb6); have SBx6 := hide (show StrSl w6 u6 (outB n2 (sa)) from hs6); have X6 := hide (X5.out.trans (hb6.mono X5.out.size)); clear hb6 hs6)
        | (go_at_call 7; have _t := z4; clear z4 _t; refine (zz_any clone_any n1 s1 _ _ (outB n2 sa) [] _ (HT.out.below X6.out) SBx6.out (StrSl.nil _) HZ2.out HLb.out (by simp)).mono ?_; rintro e w7 ⟨u7, o7, rfl, hb7, hs7, -⟩; have S1x7 := hide (S1x6.out.below (Nat.le_refl _) hb7); have SABx7 := hide (SABx6.out.below (Nat.le_refl _) hb7); have SBAx7 := hide (show StrSl w7 u7 (outB n1 (outB n2 sa)) from hs7); have X7 := hide (X6.out.trans (hb7.mono X6.out.size)); clear hb7 hs7)
        | (go_at_call 7; refine (zz_any clone_any n1 s1 _ _ (outB n2 (outB n1 sa)) [] _ (HT.out.below X7.out) SABx7.out (StrSl.nil _) HZ3.out HLab.out (by simp)).mono ?_; rintro e w8 ⟨u8, o8, rfl, hb8, hs8, -⟩; have S1x8 := hide (S1x7.out.below (Nat.le_refl _) hb8); have SABx8 := hide (SABx7.out.below (Nat.le_refl _) hb8); have SBAx8 := hide (SBAx7.out.below (Nat.le_refl _) hb8); have SAGx8 := hide (show StrSl w8 u8 (outB n1 (outB n2 (outB n1 sa))) from hs8); have X8 := hide (X7.out.trans (hb8.mono X7.out.size)); clear hb8 hs8)
        | (go_at_call 9; refine (model_any n1 n2 _ sa _ S1x8.out HZ0.out HL1.out).mono ?_; rintro e w9 ⟨vm, rfl, hb9, hsm⟩; have SABx9 := hide (SABx8.out.below (Nat.le_refl _) hb9); have SBAx9 := hide (SBAx8.out.below (Nat.le_refl _) hb9); have SAGx9 := hide (SAGx8.out.below (Nat.le_refl _) hb9); have X9 := hide (X8.out.trans (hb9.mono X8.out.size)); have SM := hide hsm; have HBA := hide (fun k => show StrSl (w9.drewN k) u7 (without2 n1 n2 sa) from (by have h := SBAx9.out; rw [outB_swap n1 n2 sa] at h; exact h)); have HAG := hide (fun k => show StrSl (w9.drewN k) u8 (without2 n1 n2 sa) from (by have h := SAGx9.out; rw [outB_two n1 n2 sa, outB_again] at h; exact h)); have HSMk := hide (fun k => show StrSl (w9.drewN k) vm (without2 n1 n2 sa) from hsm); clear hb9 hsm)
        | (go_at_call 8; have _t := q1; clear q1 _t; refine (same_any _ _ (without2 n1 n2 sa) _ (by rw [← outB_two]; exact SABx9.out) SM.out HLw.out).mono ?_; rintro e w10 ⟨rfl, m1, rfl⟩)
        | (go_at_call 8; have _t := q2; clear q2 _t; refine (same_any _ _ (without2 n1 n2 sa) _ (HBA.out _) (HSMk.out _) HLw.out).mono ?_; rintro e w11 ⟨rfl, m2, rfl⟩)
        | (go_at_call 8; refine (same_any _ _ (without2 n1 n2 sa) _ (HAG.out _) (HSMk.out _) HLw.out).mono ?_; rintro e w12 ⟨rfl, m3, rfl⟩)
        | fail)
      go_ret
      exact ⟨rfl, ⟨X9.out.os, X9.out.tape, X9.out.output, X9.out.size, X9.out.block⟩⟩
end Go.Proofs.Qxb6616118aDoor
