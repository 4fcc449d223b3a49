/-
  The walk of FnAllowsLosesJustTheFoldOfANewBlacklistEntry.
-/
import Derived.Test.Qxb6615948aDoorPolicy
import Derived.Test.Qxb6615948aDoorInsert
import Derived.Test.Qxb6615948aDoorSize
import Derived.Test.Qxb6615948aDoorBytes
import Derived.Lib.QuietBelow
namespace Go.Proofs.Qxb6615948aDoor
open Go.RowKit Go.Maps Go.Sort

/-! ### the plain law -/
theorem hasB_insert (ss : List ByteArray) (i : Nat) (x s : ByteArray) : hasB (ss.take i ++ x :: ss.drop i) s = (hasB ss s || x.toList == s.toList) := by
  have h : hasB ss s = (hasB (ss.take i) s || hasB (ss.drop i) s) := by
    unfold hasB
    rw [← List.any_append, List.take_append_drop]
  rw [h]
  unfold hasB
  rw [List.any_append, List.any_cons]
  cases (ss.take i).any _ <;> cases (ss.drop i).any _ <;> simp
theorem law_open (sa : List ByteArray) (s : ByteArray) : allowsB sa [] s = hasB sa s := by simp [allowsB, hasB]
theorem map_insert (ss : List ByteArray) (i : Nat) (x : ByteArray) : (ss.take i ++ x :: ss.drop i).map foldB = (ss.map foldB).take i ++ foldB x :: (ss.map foldB).drop i := by
  rw [List.map_append, List.map_cons, List.map_take, List.map_drop]
theorem law_denied (sa sb : List ByteArray) (i : Nat) (x : ByteArray) : allowsB sa (sb.take i ++ x :: sb.drop i) x = false := by
  unfold allowsB
  rw [map_insert, hasB_insert]
  simp
theorem law_after (sa sb : List ByteArray) (i : Nat) (x s : ByteArray) : allowsB sa (sb.take i ++ x :: sb.drop i) s = (allowsB sa sb s && !((foldB x).toList == (foldB s).toList)) := by
  unfold allowsB
  rw [map_insert, hasB_insert, Bool.not_or, Bool.and_assoc]

/-- What the law's road keeps of the world: the arguments, the tables, all old memory. -/
structure Keeps (w : World) (va vb : Value) (sa sb : List ByteArray) (W : World) : Prop where
  below : Below w.heap.size w W
  tabs : FoldTabs W
  a : StrSl W va sa
  b : StrSl W vb sb
theorem Keeps.on {w W W' : World} {va vb : Value} {sa sb : List ByteArray} (h : Keeps w va vb sa sb W) (hb : Below W.heap.size W W') : Keeps w va vb sa sb W' :=
  ⟨h.below.trans (hb.mono h.below.size), h.tabs.below (Nat.le_refl _) hb, h.a.below (Nat.le_refl _) hb, h.b.below (Nat.le_refl _) hb⟩
theorem Keeps.alloc {w W : World} {va vb : Value} {sa sb : List ByteArray} (h : Keeps w va vb sa sb W) (o : Obj) : Keeps w va vb sa sb (W.alloc o) := h.on ((Below.refl _ _).alloc (Nat.le_refl _) _)

/-- A policy that lies in a variable of the road's own, in block q. -/
structure BoxP (sa sb : List ByteArray) (q p1 p2 m1 m2 : Nat) (W : World) : Prop where
  c0 : W.cell? ⟨q, 0, none⟩ = some (.map (some p1))
  c1 : W.cell? ⟨q, 1, none⟩ = some (.map (some p2))
  o1 : W.ownsMap Tryd.prog 9 (unitElem (H := Unit)) p1 m1 (setD sa)
  o2 : W.ownsMap Tryd.prog 9 (unitElem (H := Unit)) p2 m2 (setD (sb.map foldB))
theorem BoxP.on {sa sb : List ByteArray} {q p1 p2 m1 m2 : Nat} {W W' : World} (h : BoxP sa sb q p1 p2 m1 m2 W) (hb : Below W.heap.size W W') : BoxP sa sb q p1 p2 m1 m2 W' :=
  ⟨(hb.cell (p := ⟨q, 0, none⟩) (cell_lt h.c0)).trans h.c0, (hb.cell (p := ⟨q, 1, none⟩) (cell_lt h.c1)).trans h.c1, ownsMap_below h.o1 hb h.o1.lt, ownsMap_below h.o2 hb h.o2.lt⟩
theorem BoxP.alloc {sa sb : List ByteArray} {q p1 p2 m1 m2 : Nat} {W : World} (h : BoxP sa sb q p1 p2 m1 m2 W) (o : Obj) : BoxP sa sb q p1 p2 m1 m2 (W.alloc o) := h.on ((Below.refl _ _).alloc (Nat.le_refl _) _)
theorem BoxP.new {sa sb : List ByteArray} {p1 p2 m1 m2 : Nat} {W : World} (o1 : W.ownsMap Tryd.prog 9 (unitElem (H := Unit)) p1 m1 (setD sa)) (o2 : W.ownsMap Tryd.prog 9 (unitElem (H := Unit)) p2 m2 (setD (sb.map foldB))) :
    BoxP sa sb W.heap.size p1 p2 m1 m2 (W.alloc (.cells #[.map (some p1), .map (some p2)] 29)) := ⟨by simp, by simp, o1.alloc _, o2.alloc _⟩

/-- What the last statement's calls keep. -/
structure Inv1 (sa sb sc : List ByteArray) (w : World) (g1 q1 q2 n1 n2 g2 r1 r2 k1 k2 : Nat) (W : World) : Prop where
  below : Below w.heap.size w W
  tabs : FoldTabs W
  q : BoxP sa sb g1 q1 q2 n1 n2 W
  r : BoxP sa sc g2 r1 r2 k1 k2 W
theorem Inv1.on {sa sb sc : List ByteArray} {w : World} {g1 q1 q2 n1 n2 g2 r1 r2 k1 k2 : Nat} {W W' : World} (h : Inv1 sa sb sc w g1 q1 q2 n1 n2 g2 r1 r2 k1 k2 W) (hb : Below W.heap.size W W') : Inv1 sa sb sc w g1 q1 q2 n1 n2 g2 r1 r2 k1 k2 W' :=
  ⟨h.below.trans (hb.mono h.below.size), h.tabs.below (Nat.le_refl _) hb, h.q.on hb, h.r.on hb⟩

set_option maxHeartbeats 1000000 in
theorem law1_any (va vb : Value) (sa sb : List ByteArray) (i : Int) (x tool : ByteArray) (w : World) (hi : -9223372036854775808 ≤ i ∧ i ≤ 9223372036854775807) (hT : FoldTabs w) (ha : StrSl w va sa) (hb : StrSl w vb sb)
    (hla : sa.length ≤ maxLen) (hlb : sb.length ≤ maxLen) (hx : x.size ≤ maxLen) (ht : tool.size ≤ maxLen) (hsa : ∀ s ∈ sa, s.size ≤ maxLen) (hsb : ∀ s ∈ sb, s.size ≤ maxLen) :
    Calls Tryd.prog 3 #[va, vb, .int .i64 i, .string x, .string tool] w fun e w' => e = .returned (.bool true) ∧ Below w.heap.size w w' := by
  have cB := bytes5_any va vb sa sb i x tool w ha hb hla hlb hx ht hsa hsb
  obtain ⟨aa, capa, rfl, _⟩ := id ha
  obtain ⟨ab, capb, rfl, _⟩ := id hb
  clear hsa hsb
  go_enter Tryd.func3, Tryd.ntmps3
  go_wp2_with fail
  refine cB.mono ?_
  rintro e w' ⟨⟨bb, rfl, hbb⟩, rfl⟩
  clear cB
  cases bb with
  | false =>
    go_wp2
    go_ret
    exact ⟨rfl, Below.refl _ _⟩
  | true =>
    have hN := hbb rfl
    clear hbb hla hlb hx ht
    have hsa : ∀ s ∈ sa, s.size ≤ 1048576 := fun s hs => by have := lenSum_mem hs; omega
    have hsb : ∀ s ∈ sb, s.size ≤ 1048576 := fun s hs => by have := lenSum_mem hs; omega
    have cP := policySize_any x tool _ _ _ sa sb [] w' (by omega) (by omega) ha hb (StrSl.nil w') (by omega) (by omega) (by simp)
    go_wp2_with fail
    refine cP.mono ?_
    rintro e w ⟨⟨z, rfl⟩, rfl⟩
    clear cP
    by_cases hz : 1048576 < z
    · go_wp2
      go_ret
      exact ⟨rfl, Below.refl _ _⟩
    · by_cases hi0 : i < 0
      · go_wp2
        go_ret
        exact ⟨rfl, Below.refl _ _⟩
      · by_cases hi1 : (sb.length : Int) < i
        · go_wp2
          go_ret
          exact ⟨rfl, Below.refl _ _⟩
        · obtain ⟨n, rfl⟩ : ∃ n : Nat, i = (n : Int) := ⟨i.toNat, by omega⟩
          have K0 : Keeps w _ _ sa sb w := ⟨Below.refl _ _, hT, ha, hb⟩
          clear hT ha hb
          -- open := cfgB1Policy(white, nil)
          have c1 := policy_any _ (.slice none 0 0) sa [] w K0.tabs (by omega) (by simp) hsa (by simp) K0.a (StrSl.nil w)
          go_wp2_with fail
          refine c1.mono ?_
          rintro e w1 ⟨p1, p2, m1, m2, rfl, o1, o2, hb1⟩
          clear c1
          have K1 := (K0.on hb1).alloc (.cells #[.map (some p1), .map (some p2)] 29)
          have P1 := BoxP.new o1 o2
          clear K0 hb1 o1 o2
          -- before := cfgB1Policy(white, black)
          have c2 := policy_any _ _ sa sb _ K1.tabs (by omega) (by omega) hsa hsb K1.a K1.b
          go_wp2_with fail
          refine c2.mono ?_
          rintro e w2 ⟨q1, q2, n1, n2, rfl, o1, o2, hb2⟩
          clear c2
          have K2 := (K1.on hb2).alloc (.cells #[.map (some q1), .map (some q2)] 29)
          have P2 := (P1.on hb2).alloc (.cells #[.map (some q1), .map (some q2)] 29)
          have Q2 := BoxP.new o1 o2
          clear K1 P1 hb2 o1 o2
          -- after := cfgB1Policy(white, cfgB1Insert(black, i, x))
          have c3 := insert_any _ sb n x _ (by omega) (by omega) K2.b
          go_wp2_with fail
          refine c3.mono ?_
          rintro e w3 ⟨av, capv, rfl, hv3, hb3⟩
          clear c3
          have K3 := K2.on hb3
          have P3 := P2.on hb3
          have Q3 := Q2.on hb3
          clear K2 P2 Q2 hb3
          have hsv : ∀ s ∈ sb.take n ++ x :: sb.drop n, s.size ≤ 1048576 := fun s hs => by
            rcases List.mem_append.1 hs with h | h
            · exact hsb _ (List.mem_of_mem_take h)
            · rcases List.mem_cons.1 h with rfl | h
              · omega
              · exact hsb _ (List.mem_of_mem_drop h)
          have c4 := policy_any _ _ sa (sb.take n ++ x :: sb.drop n) w3 K3.tabs (by omega) (by simp; omega) hsa hsv K3.a hv3
          go_wp2_with fail
          refine c4.mono ?_
          rintro e w4 ⟨r1, r2, k1, k2, rfl, o1, o2, hb4⟩
          clear c4
          have K4 := (K3.on hb4).alloc (.cells #[.map (some r1), .map (some r2)] 29)
          have P4 := (P3.on hb4).alloc (.cells #[.map (some r1), .map (some r2)] 29)
          have Q4 := (Q3.on hb4).alloc (.cells #[.map (some r1), .map (some r2)] 29)
          have R4 := BoxP.new o1 o2
          clear K3 P3 Q3 hb4 o1 o2 hv3
          -- open.Allows(tool) != cfgB1Has(white, tool)
          have hc0 := P4.c0
          have hc1 := P4.c1
          have c5 := allows_any p1 p2 m1 m2 sa [] tool _ K4.tabs (by omega) P4.o1 P4.o2
          rw [law_open] at c5
          go_wp2_with fail
          refine c5.mono ?_
          rintro e w5 ⟨rfl, hb5⟩
          clear c5 hc0 hc1 P4
          have K5 := K4.on hb5
          have Q5 := Q4.on hb5
          have R5 := R4.on hb5
          clear K4 Q4 R4 hb5
          have c6 := has_any _ sa tool w5 (by omega) K5.a
          go_wp2_with fail
          refine c6.mono ?_
          rintro e w6 ⟨rfl, rfl⟩
          clear c6
          generalize hasB sa tool = h0
          -- after.Allows(x)
          have hc0 := R5.c0
          have hc1 := R5.c1
          have c7 := allows_any r1 r2 k1 k2 sa _ x _ K5.tabs (by omega) R5.o1 R5.o2
          rw [law_denied] at c7
          go_wp2_with fail
          refine c7.mono ?_
          rintro e w7 ⟨rfl, hb7⟩
          clear c7 hc0 hc1
          -- after.Allows(tool) == (before.Allows(tool) && names.Fold(tool) != names.Fold(x))
          have I7 : Inv1 sa sb (sb.take n ++ x :: sb.drop n) w w2.heap.size q1 q2 n1 n2 w4.heap.size r1 r2 k1 k2 w7 := (⟨K5.below, K5.tabs, Q5, R5⟩ : Inv1 sa sb (sb.take n ++ x :: sb.drop n) w w2.heap.size q1 q2 n1 n2 w4.heap.size r1 r2 k1 k2 w6).on hb7
          clear K5 Q5 R5 hb7
          have hI := fun d os => I7.on (below_regrown w7 d os)
          have cA : ∀ d os, Calls Tryd.prog 9 #[.agg #[.map (some r1), .map (some r2)], .string tool] (grow (redrawn w7 d) os) fun e w'' => e = .returned (.bool (allowsB sa (sb.take n ++ x :: sb.drop n) tool)) ∧ ∃ p : Regrown, w'' = grow (redrawn w7 p.d) p.os := fun d os => Calls.regrown_of (allows_any r1 r2 k1 k2 sa _ tool _ (hI d os).tabs (by omega) (hI d os).r.o1 (hI d os).r.o2)
          have cB : ∀ d os, Calls Tryd.prog 9 #[.agg #[.map (some q1), .map (some q2)], .string tool] (grow (redrawn w7 d) os) fun e w'' => e = .returned (.bool (allowsB sa sb tool)) ∧ ∃ p : Regrown, w'' = grow (redrawn w7 p.d) p.os := fun d os => Calls.regrown_of (allows_any q1 q2 n1 n2 sa _ tool _ (hI d os).tabs (by omega) (hI d os).q.o1 (hI d os).q.o2)
          have cF : ∀ d os, Calls Tryd.prog 11 #[.string tool] (grow (redrawn w7 d) os) fun e w'' => e = .returned (.string (foldB tool)) ∧ ∃ p : Regrown, w'' = grow (redrawn w7 p.d) p.os := fun d os => Calls.regrown_of (fold_any tool _ (hI d os).tabs (by omega))
          have cX : ∀ d os, Calls Tryd.prog 11 #[.string x] (grow (redrawn w7 d) os) fun e w'' => e = .returned (.string (foldB x)) ∧ ∃ p : Regrown, w'' = grow (redrawn w7 p.d) p.os := fun d os => Calls.regrown_of (fold_any x _ (hI d os).tabs (by omega))
          have hlaw := law_after sa sb n x tool
          generalize allowsB sa (sb.take n ++ x :: sb.drop n) tool = A at cA hlaw
          generalize foldB tool = Ft at cF hlaw
          generalize foldB x = Fx at cX hlaw
          have hb7 := I7.below
          have x0 := cell_regrown I7.q.c0
          have x1 := cell_regrown I7.q.c1
          have x2 := cell_regrown I7.r.c0
          have x3 := cell_regrown I7.r.c1
          clear I7 hI
          generalize allowsB sa sb tool = Bf at cB hlaw
          have HL := hide hlaw
          have CA := hide cA
          have CB := hide cB
          have CF := hide cF
          have CX := hide cX
          clear hlaw cA cB cF cX
          cases Bf with
          | false =>
            go_wp2_with fail
            refine wp_region_quiet_below (by kernel_rfl) (by kernel_rfl) ?_
            repeat (quiet_step (first | (go_at_call_of 9 (Value.map (some r1)); exact CA.out _ _) | (go_at_call_of 9 (Value.map (some q1)); exact CB.out _ _) | (go_at_call_of 11 tool; exact CF.out _ _) | (go_at_call_of 11 x; exact CX.out _ _)))
            refine wpQuiet_nil ?_
            intro _ hw'
            obtain ⟨⟨dq, osq⟩, hw''⟩ := hw'
            subst hw''
            go_wp2
            go_ret
            refine ⟨ret_bool ?_, hb7.trans ((below_regrown w7 dq osq).mono hb7.size)⟩
            have := HL.out
            rw [Bool.false_and] at this
            subst this
            rfl
          | true =>
            go_wp2_with fail
            refine wp_region_quiet_below (by kernel_rfl) (by kernel_rfl) ?_
            repeat (quiet_step (first | (go_at_call_of 9 (Value.map (some r1)); exact CA.out _ _) | (go_at_call_of 9 (Value.map (some q1)); exact CB.out _ _) | (go_at_call_of 11 tool; exact CF.out _ _) | (go_at_call_of 11 x; exact CX.out _ _)))
            refine wpQuiet_nil ?_
            intro _ hw'
            obtain ⟨⟨dq, osq⟩, hw''⟩ := hw'
            subst hw''
            go_wp2
            go_ret
            refine ⟨ret_bool ?_, hb7.trans ((below_regrown w7 dq osq).mono hb7.size)⟩
            have := HL.out
            rw [Bool.true_and] at this
            subst this
            rw [Bool.beq_comm (a := Fx.toList)]
            simp
end Go.Proofs.Qxb6615948aDoor
