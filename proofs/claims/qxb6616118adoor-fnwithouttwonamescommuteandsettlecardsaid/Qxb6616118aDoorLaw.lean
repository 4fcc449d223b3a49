/-
  FnWithoutDropsExactlyTheNamedCookies: the walk.
-/
import Derived.Test.Qxb6616118aDoorZZ
import Derived.Test.Qxb6616118aDoorClone
import Derived.Test.Qxb6616118aDoorSmall
import Derived.Test.Qxb6616118aDoorModel
import Derived.Test.Qxb6616118aDoorAgree
namespace Go.Proofs.Qxb6616118aDoor
open Go.RowKit

theorem lenSum_all {sa : List ByteArray} {N : Nat} (h : lenSum sa ≤ N) : ∀ s ∈ sa, s.size ≤ N := fun _ hs => Nat.le_trans (lenSum_mem hs) h

theorem BytesOk.two {N : Nat} {w w' : World} {e : Ending} (h : BytesOk N w e w') : w = w' ∧ (e = .returned (.bool false) ∨ (e = .returned (.bool true) ∧ N ≤ 1048576)) := by
  obtain ⟨⟨b, rfl, hb⟩, rfl⟩ := h
  cases b
  · exact ⟨rfl, .inl rfl⟩
  · exact ⟨rfl, .inr ⟨rfl, hb rfl⟩⟩

set_option maxRecDepth 8000 in
set_option maxHeartbeats 4000000 in
theorem law1_any (name : ByteArray) (sec : Bool) (va vb : Value) (sa sb : List ByteArray) (w : World) (hT : Tabs w) (ha : StrSl w va sa) (hb : StrSl w vb sb)
    (hla : sa.length ≤ maxLen) (hlb : sb.length ≤ maxLen) (hx : name.size ≤ maxLen) (hsa : ∀ s ∈ sa, s.size ≤ maxLen) (hsb : ∀ s ∈ sb, s.size ≤ maxLen) :
    Calls Tryd.prog 3 #[.string name, .bool sec, va, vb] w fun e w' => e = .returned (.bool true) ∧ Below w.heap.size w w' := by
  have HB5 := hide (bytes5_any name sec va vb sa sb w ha hb hla hlb hx hsa hsb)
  have HT := hide hT
  have HA := hide ha
  have HB := hide hb
  obtain ⟨aa, ca, rfl, hca⟩ := ha
  obtain ⟨ab, cb, rfl, hcb⟩ := hb
  have HCA := hide hca
  have HCB := hide hcb
  clear hT hla hlb hx hsa hsb hca hcb
  obtain ⟨la, hlaE⟩ : ∃ la, la = sa.length := ⟨_, rfl⟩
  obtain ⟨lb, hlbE⟩ : ∃ lb, lb = sb.length := ⟨_, rfl⟩
  rw [← hlaE, ← hlbE] at HB5
  rw [← hlaE] at HA
  rw [← hlbE] at HB
  rw [← hlaE, ← hlbE]
  have HLA := hide hlaE
  have HLB := hide hlbE
  clear hlaE hlbE
  by_cases g1 : 65536 < la
  · go_enter Tryd.func3, Tryd.ntmps3
    go_wp2_with (first | (go_at_call 5; refine HB5.out.mono ?_; intro e w' h; obtain ⟨rfl, rfl | ⟨rfl, hN⟩⟩ := h.two) | fail)
    all_goals (go_ret; exact ⟨rfl, Below.refl _ _⟩)
  by_cases g2 : 65536 < lb
  · go_enter Tryd.func3, Tryd.ntmps3
    go_wp2_with (first | (go_at_call 5; refine HB5.out.mono ?_; intro e w' h; obtain ⟨rfl, rfl | ⟨rfl, hN⟩⟩ := h.two) | fail)
    all_goals (go_ret; exact ⟨rfl, Below.refl _ _⟩)
  go_enter Tryd.func3, Tryd.ntmps3
  go_wp2_with (first | (go_at_call 5; refine HB5.out.mono ?_; intro e w' h; obtain ⟨rfl, rfl | ⟨rfl, hN⟩⟩ := h.two) | fail)
  all_goals try (go_ret; exact ⟨rfl, Below.refl _ _⟩)
  have hsa1 : ∀ s ∈ sa, s.size ≤ 1048576 := lenSum_all (by omega)
  have hsb1 : ∀ s ∈ sb, s.size ≤ 1048576 := lenSum_all (by omega)
  have HSA := hide hsa1
  have HSB := hide hsb1
  have HL := hide (show lenSum sa ≤ 1048576 ∧ lenSum sb ≤ 1048576 ∧ name.size ≤ 1048576 by omega)
  clear hsa1 hsb1 hN HB5
  go_loop [9, 10] (fun t i => ∃ k : Nat, k ≤ la ∧ i = .int .i64 k ∧ t = .int .i64 ((name.size + 16 * la + 16 * lb + lenSum (sa.take k) : Nat) : Int) ∧ name.size + 16 * la + 16 * lb + lenSum (sa.take k) ≤ 1048576) (fun _ i => la - (intOf i).toNat)
  case atStart => exact ⟨0, Nat.zero_le _, rfl, by simp [lenSum], by simp [lenSum]; omega⟩
  case round =>
    obtain ⟨k, hk, rfl, rfl, hz⟩ := hrel
    by_cases hlt : k < la
    · obtain ⟨b, off, rfl, hb, hcell⟩ := HCA.out k (by rw [← HLA.out]; exact hlt)
      obtain ⟨s, hs⟩ : ∃ s, s = sa.getD k ByteArray.empty := ⟨_, rfl⟩
      have hsum := lenSum_take_succ sa k (by rw [← HLA.out]; exact hlt)
      rw [← hs] at hcell hsum
      have hsz : s.size ≤ 1048576 := by rw [hs]; exact Nat.le_trans (lenSum_getD sa k) HL.out.1
      have HS := hide hsum
      clear hs hsum
      go_wp2
      all_goals try (go_ret; exact ⟨rfl, Below.refl _ _⟩)
      go_round
      case rel =>
        have := HS.out
        refine ⟨k + 1, by omega, by go_num, ?_, ?_⟩
        · rw [this]; go_num
        · omega
      case measure => simp [intOf]; omega
    · have hke : k = la := by omega
      subst hke
      rw [HLA.out, List.take_length, ← HLA.out] at hz ⊢
      go_wp2
      go_loop [9, 11] (fun t i => ∃ j : Nat, j ≤ lb ∧ i = .int .i64 j ∧ t = .int .i64 ((name.size + 16 * k + 16 * lb + lenSum sa + lenSum (sb.take j) : Nat) : Int) ∧ name.size + 16 * k + 16 * lb + lenSum sa + lenSum (sb.take j) ≤ 1048576) (fun _ i => lb - (intOf i).toNat)
      case atStart => exact ⟨0, Nat.zero_le _, rfl, by simp [lenSum], by simp [lenSum]; omega⟩
      case round =>
        obtain ⟨j, hj, rfl, rfl, hz2⟩ := hrel
        by_cases hlt2 : j < lb
        · obtain ⟨b, off, rfl, hb, hcell⟩ := HCB.out j (by rw [← HLB.out]; exact hlt2)
          obtain ⟨s, hs⟩ : ∃ s, s = sb.getD j ByteArray.empty := ⟨_, rfl⟩
          have hsum := lenSum_take_succ sb j (by rw [← HLB.out]; exact hlt2)
          rw [← hs] at hcell hsum
          have hsz : s.size ≤ 1048576 := by rw [hs]; exact Nat.le_trans (lenSum_getD sb j) HL.out.2.1
          have HS := hide hsum
          clear hs hsum
          go_wp2
          all_goals try (go_ret; exact ⟨rfl, Below.refl _ _⟩)
          go_round
          case rel =>
            have := HS.out
            refine ⟨j + 1, by omega, by go_num, ?_, ?_⟩
            · rw [this]; go_num
            · omega
          case measure => simp [intOf]; omega
        · have hje : j = lb := by omega
          subst hje
          rw [HLB.out, List.take_length, ← HLB.out] at hz2 ⊢
          have la1 : sa.length ≤ 1048576 := by rw [← HLA.out]; omega
          have lb1 : sb.length ≤ 1048576 := by rw [← HLB.out]; omega
          have HL1 := hide (And.intro la1 lb1)
          have HZ := hide (fun s hs => Nat.le_trans (HSA.out s hs) (show 1048576 ≤ 8388608 by decide))
          clear la1 lb1 hz hz2
          have t1 : True := trivial
          have t2 : True := trivial
          have t3 : True := trivial
          have t8 : True := trivial
          go_wp2_with (first
            | (go_at_call 6; have _t := t1; clear t1 _t; refine (clones_any _ sa _ HA.out HL1.out.1).mono ?_; rintro e w1 ⟨v1, rfl, hb1, hs1⟩; have HB1 := hide hb1; have HS1 := hide hs1; clear hb1 hs1)
            | (go_at_call 6; have _t := t2; clear t2 _t; refine (clones_any _ sb _ (HB.out.below (Nat.le_refl _) HB1.out) HL1.out.2).mono ?_; rintro e w2 ⟨v2, rfl, hb2, hs2⟩; have HB2 := hide hb2; have HS2 := hide hs2; have HS12 := hide (HS1.out.below (Nat.le_refl _) hb2); clear hb2 hs2)
            | (go_at_call 6; have _t := t3; clear t3 _t; refine (clones_any _ sa _ HS12.out HL1.out.1).mono ?_; rintro e w3 ⟨v3, rfl, hb3, hs3⟩; have HB3 := hide hb3; have HS3 := hide hs3; have HS13 := hide (HS12.out.below (Nat.le_refl _) hb3); have HS23 := hide (HS2.out.below (Nat.le_refl _) hb3); clear hb3 hs3)
            | (go_at_call 6; refine (clones_any _ sb _ HS23.out HL1.out.2).mono ?_; rintro e w4 ⟨v4, rfl, hb4, hs4⟩; have HB4 := hide hb4; have HS4 := hide hs4; have HS14 := hide (HS13.out.below (Nat.le_refl _) hb4); have HS24 := hide (HS23.out.below (Nat.le_refl _) hb4); have HS34 := hide (HS3.out.below (Nat.le_refl _) hb4); have HBB := hide (((HB1.out.trans (HB2.out.mono HB1.out.size)).trans (HB3.out.mono (HB1.out.trans (HB2.out.mono HB1.out.size)).size)).trans (hb4.mono ((HB1.out.trans (HB2.out.mono HB1.out.size)).trans (HB3.out.mono (HB1.out.trans (HB2.out.mono HB1.out.size)).size)).size)); clear hb4 hs4)
            | (go_at_call 7; refine (zz_any clone_any name sec _ _ sa sb _ (HT.out.below HBB.out) HS34.out HS4.out HZ.out HL1.out.1 HL1.out.2).mono ?_; rintro e w5 ⟨cv', ov', rfl, hb5, hsc, hso⟩; have HS15 := hide (HS14.out.below (Nat.le_refl _) hb5); have HS25 := hide (HS24.out.below (Nat.le_refl _) hb5); have HBB5 := hide (HBB.out.trans (hb5.mono HBB.out.size)); have HSC := hide hsc; have HSO := hide hso; clear hb5 hsc hso)
            | (go_at_call 9; refine (model_any name name _ sa _ HS15.out HZ.out HL1.out.1).mono ?_; rintro e w6 ⟨vm, rfl, hb6, hsm⟩; have HS26 := hide (HS25.out.below (Nat.le_refl _) hb6); have HSC6 := hide (HSC.out.below (Nat.le_refl _) hb6); have HSO6 := hide (HSO.out.below (Nat.le_refl _) hb6); have HBB6 := hide (HBB5.out.trans (hb6.mono HBB5.out.size)); have HSM := hide hsm; clear hb6 hsm)
            | (go_at_call 8; have _t := t8; clear t8 _t; refine (same_any _ _ (without2 name name sa) _ (by rw [← outB_one]; exact HSC6.out) HSM.out (by rw [← outB_one]; exact Nat.le_trans (outB_len _ _) HL1.out.1)).mono ?_; rintro e w7 ⟨rfl, m, rfl⟩)
            | (go_at_call 8; refine (same_any _ _ sb _ (show StrSl (w6.drewN m) _ sb from HSO6.out) (show StrSl (w6.drewN m) _ sb from HS26.out) HL1.out.2).mono ?_; rintro e w8 ⟨rfl, m2, rfl⟩)
            | fail)
          go_ret
          exact ⟨rfl, ⟨HBB6.out.os, HBB6.out.tape, HBB6.out.output, HBB6.out.size, HBB6.out.block⟩⟩
end Go.Proofs.Qxb6616118aDoor
