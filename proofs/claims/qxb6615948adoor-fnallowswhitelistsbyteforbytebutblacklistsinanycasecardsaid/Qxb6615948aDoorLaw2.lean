/-
  The walk of FnAllowsWhitelistsByteForByteButBlacklistsInAnyCase.
-/
import Derived.Test.Qxb6615948aDoorLaw1
import Derived.Test.Qxb6615948aDoorBytes2
import Derived.Test.Qxb6615948aDoorSwapPlain
namespace Go.Proofs.Qxb6615948aDoor
open Go.RowKit Go.Maps

/-! ### the plain law -/
theorem snoc_all (ss : List ByteArray) (x : ByteArray) : ss.take ss.length ++ x :: ss.drop ss.length = ss ++ [x] := by simp
theorem hasB_snoc (ss : List ByteArray) (x s : ByteArray) : hasB (ss ++ [x]) s = (hasB ss s || x.toList == s.toList) := by simp [hasB]
theorem hasB_last (ss : List ByteArray) (x : ByteArray) : hasB (ss ++ [x]) x = true := by rw [hasB_snoc]; simp
theorem map_snoc (ss : List ByteArray) (x : ByteArray) : (ss ++ [x]).map foldB = ss.map foldB ++ [foldB x] := by simp
theorem law_tool (sa sb : List ByteArray) (s : ByteArray) : allowsB sa (sb ++ [swapB s]) s = false := by
  unfold allowsB
  rw [map_snoc, foldB_swap, hasB_last]
  simp
theorem law_swap (sa sb : List ByteArray) (s : ByteArray) : allowsB sa (sb ++ [s]) s = false := by
  unfold allowsB
  rw [map_snoc, hasB_last]
  simp

set_option maxHeartbeats 1000000 in
theorem law2_any (va vb : Value) (sa sb : List ByteArray) (tool : ByteArray) (w : World) (hT : FoldTabs w) (ha : StrSl w va sa) (hb : StrSl w vb sb)
    (hla : sa.length ≤ maxLen) (hlb : sb.length ≤ maxLen) (ht : tool.size ≤ maxLen) (hsa : ∀ s ∈ sa, s.size ≤ maxLen) (hsb : ∀ s ∈ sb, s.size ≤ maxLen) :
    Calls Tryd.prog 4 #[va, vb, .string tool] w fun e w' => e = .returned (.bool true) ∧ Below w.heap.size w w' := by
  have cB := bytes12_any va vb sa sb tool w ha hb hla hlb ht hsa hsb
  obtain ⟨aa, capa, rfl, _⟩ := id ha
  obtain ⟨ab, capb, rfl, _⟩ := id hb
  clear hsa hsb
  go_enter Tryd.func4, Tryd.ntmps4
  go_wp2_with fail
  refine cB.mono ?_
  rintro e w' ⟨⟨bb, rfl, hbb⟩, rfl⟩
  clear cB
  cases bb with
  | false =>
    go_wp2
    go_ret
    exact ⟨rfl, Below.refl _ _⟩
  | true =>
    have hN := hbb rfl
    clear hbb hla hlb ht
    have hsa : ∀ s ∈ sa, s.size ≤ 1048576 := fun s hs => by have := lenSum_mem hs; omega
    have hsb : ∀ s ∈ sb, s.size ≤ 1048576 := fun s hs => by have := lenSum_mem hs; omega
    have cP := policySize_any tool tool _ _ _ sa sb [] w' (by omega) (by omega) ha hb (StrSl.nil w') (by omega) (by omega) (by simp)
    go_wp2_with fail
    refine cP.mono ?_
    rintro e w ⟨⟨z, rfl⟩, rfl⟩
    clear cP
    by_cases hz : 1048576 < z
    · go_wp2
      go_ret
      exact ⟨rfl, Below.refl _ _⟩
    · have K0 : Keeps w _ _ sa sb w := ⟨Below.refl _ _, hT, ha, hb⟩
      clear hT ha hb
      have hus := swap_size tool
      have cS := swap_any tool w (by omega)
      have lT := law_tool (sa ++ [tool]) sb tool
      generalize swapB tool = u at cS hus lT
      have hu : u.size ≤ 1048576 := by omega
      have LT := hide lT
      clear hus lT
      go_wp2_with fail
      refine cS.mono ?_
      rintro e w1 ⟨rfl, hb1⟩
      have K1 := K0.on hb1
      clear cS K0 hb1
      -- w := cfgB1Insert(white, len(white), tool)
      have c1 := insert_any _ sa sa.length tool _ (by omega) (Nat.le_refl _) K1.a
      rw [snoc_all] at c1
      go_wp2_with fail
      refine c1.mono ?_
      rintro e w2 ⟨av, capv, rfl, hv, hb2⟩
      have K2 := K1.on hb2
      clear c1 K1 hb2
      have hsw : ∀ s ∈ sa ++ [tool], s.size ≤ 1048576 := fun s hs => by
        rcases List.mem_append.1 hs with h | h
        · exact hsa _ h
        · simp at h; subst h; omega
      have hlw : (sa ++ [tool]).length = sa.length + 1 := by simp
      -- open := cfgB1Policy(w, nil)
      have c2 := policy_any _ (.slice none 0 0) (sa ++ [tool]) [] w2 K2.tabs (by omega) (by simp) hsw (by simp) hv (StrSl.nil w2)
      go_wp2_with fail
      refine c2.mono ?_
      rintro e w3 ⟨p1, p2, m1, m2, rfl, o1, o2, hb3⟩
      have K3 := (K2.on hb3).alloc (.cells #[.map (some p1), .map (some p2)] 29)
      have hv3 := (hv.below (Nat.le_refl _) hb3).below (Nat.le_refl _) ((Below.refl _ _).alloc (Nat.le_refl _) (.cells #[.map (some p1), .map (some p2)] 29))
      have P3 := BoxP.new o1 o2
      clear c2 K2 hv hb3 o1 o2
      -- open.Allows(tool)
      have hc0 := P3.c0
      have hc1 := P3.c1
      have c3 := allows_any p1 p2 m1 m2 (sa ++ [tool]) [] tool _ K3.tabs (by omega) P3.o1 P3.o2
      rw [law_open, hasB_last] at c3
      go_wp2_with fail
      refine c3.mono ?_
      rintro e w4 ⟨rfl, hb4⟩
      have K4 := K3.on hb4
      have hv4 := hv3.below (Nat.le_refl _) hb4
      have P4 := P3.on hb4
      clear c3 K3 P3 hv3 hb4 hc0 hc1
      -- open.Allows(u) != cfgB1Has(w, u)
      have hc0 := P4.c0
      have hc1 := P4.c1
      have c4 := allows_any p1 p2 m1 m2 (sa ++ [tool]) [] u _ K4.tabs hu P4.o1 P4.o2
      rw [law_open] at c4
      go_wp2_with fail
      refine c4.mono ?_
      rintro e w5 ⟨rfl, hb5⟩
      have K5 := K4.on hb5
      have hv5 := hv4.below (Nat.le_refl _) hb5
      clear c4 K4 P4 hv4 hb5 hc0 hc1
      have c5 := has_any _ (sa ++ [tool]) u w5 (by omega) hv5
      go_wp2_with fail
      refine c5.mono ?_
      rintro e w6 ⟨rfl, rfl⟩
      clear c5
      generalize hasB (sa ++ [tool]) u = h0
      -- denied := cfgB1Policy(w, cfgB1Insert(black, len(black), u))
      have c6 := insert_any _ sb sb.length u _ (by omega) (Nat.le_refl _) K5.b
      rw [snoc_all] at c6
      go_wp2_with fail
      refine c6.mono ?_
      rintro e w7 ⟨bv, capb', rfl, hbv, hb7⟩
      have K7 := K5.on hb7
      have hv7 := hv5.below (Nat.le_refl _) hb7
      clear c6 K5 hv5 hb7
      have hsc : ∀ s ∈ sb ++ [u], s.size ≤ 1048576 := fun s hs => by
        rcases List.mem_append.1 hs with h | h
        · exact hsb _ h
        · simp at h; subst h; omega
      have hlc : (sb ++ [u]).length = sb.length + 1 := by simp
      have c7 := policy_any _ _ (sa ++ [tool]) (sb ++ [u]) w7 K7.tabs (by omega) (by omega) hsw hsc hv7 hbv
      go_wp2_with fail
      refine c7.mono ?_
      rintro e w8 ⟨q1, q2, n1, n2, rfl, o1, o2, hb8⟩
      have K8 := (K7.on hb8).alloc (.cells #[.map (some q1), .map (some q2)] 29)
      have Q8 := BoxP.new o1 o2
      clear c7 K7 hv7 hbv hb8 o1 o2
      -- denied.Whitelists(tool) && !denied.Allows(tool) && !denied.Allows(u)
      have hc0 := Q8.c0
      have hc1 := Q8.c1
      have c8 := whitelists_any q1 n1 (some q2) (sa ++ [tool]) tool _ (by omega) Q8.o1
      rw [hasB_last] at c8
      go_wp2_with fail
      refine c8.mono ?_
      rintro e w9 ⟨rfl, hb9⟩
      have K9 := K8.on hb9
      have Q9 := Q8.on hb9
      clear c8 K8 Q8 hb9 hc0 hc1
      have hc0 := Q9.c0
      have hc1 := Q9.c1
      have c9 := allows_any q1 q2 n1 n2 (sa ++ [tool]) (sb ++ [u]) tool _ K9.tabs (by omega) Q9.o1 Q9.o2
      rw [LT.out] at c9
      go_wp2_with fail
      refine c9.mono ?_
      rintro e w10 ⟨rfl, hb10⟩
      have K10 := K9.on hb10
      have Q10 := Q9.on hb10
      clear c9 K9 Q9 hb10 hc0 hc1
      have hc0 := Q10.c0
      have hc1 := Q10.c1
      have c10 := allows_any q1 q2 n1 n2 (sa ++ [tool]) (sb ++ [u]) u _ K10.tabs hu Q10.o1 Q10.o2
      rw [law_swap] at c10
      go_wp2_with fail
      refine c10.mono ?_
      rintro e w11 ⟨rfl, hb11⟩
      have K11 := K10.on hb11
      clear c10 K10 Q10 hb11 hc0 hc1
      go_wp2
      go_ret
      exact ⟨rfl, K11.below⟩
end Go.Proofs.Qxb6615948aDoor
