/-
  Walks: cfgB1Policy, Whitelists, Contains, Allows.
-/
import Derived.Test.Qxb6615948aDoorSets
import Derived.BigQuiet
import Derived.Deep.RegionWith
namespace Go.Proofs.Qxb6615948aDoor
open Go.RowKit Go.Maps

/-- v is the policy of the whitelist sa and the blacklist sb in the world W. -/
def PolicyAt (W : World) (v : Value) (sa sb : List ByteArray) : Prop :=
  ∃ b1 b2 n1 n2, v = .agg #[.map (some b1), .map (some b2)] ∧ W.ownsMap Tryd.prog 9 (unitElem (H := Unit)) b1 n1 (setD sa) ∧ W.ownsMap Tryd.prog 9 (unitElem (H := Unit)) b2 n2 (setD (sb.map foldB))
theorem PolicyAt.below {W W' : World} {v : Value} {sa sb : List ByteArray} (h : PolicyAt W v sa sb) {B : Nat} (hB : W.heap.size ≤ B) (hb : Below B W W') : PolicyAt W' v sa sb := by
  obtain ⟨b1, b2, n1, n2, hv, h1, h2⟩ := h
  exact ⟨b1, b2, n1, n2, hv, ownsMap_below h1 hb (Nat.lt_of_lt_of_le h1.lt hB), ownsMap_below h2 hb (Nat.lt_of_lt_of_le h2.lt hB)⟩

set_option maxHeartbeats 400000 in
theorem policy_any (va vb : Value) (sa sb : List ByteArray) (w : World) (hT : FoldTabs w) (hla : sa.length ≤ 1048577) (hlb : sb.length ≤ 1048577) (hsa : ∀ s ∈ sa, s.size ≤ 1048576) (hsb : ∀ s ∈ sb, s.size ≤ 1048576) (ha : StrSl w va sa) (hb : StrSl w vb sb) :
    Calls Tryd.prog 7 #[va, vb] w fun e w' => ∃ b1 b2 n1 n2, e = .returned (.agg #[.map (some b1), .map (some b2)]) ∧ w'.ownsMap Tryd.prog 9 (unitElem (H := Unit)) b1 n1 (setD sa) ∧ w'.ownsMap Tryd.prog 9 (unitElem (H := Unit)) b2 n2 (setD (sb.map foldB)) ∧ Below w.heap.size w w' := by
  have hbw : Below w.heap.size w (w.alloc (.cells #[.map none, .map none] 29)) := (Below.refl _ w).alloc (Nat.le_refl _) _
  have hc0 : (w.alloc (.cells #[.map none, .map none] 29)).cell? ⟨w.heap.size, 0, none⟩ = some (.map none) := by simp
  have hc1 : (w.alloc (.cells #[.map none, .map none] 29)).cell? ⟨w.heap.size, 1, none⟩ = some (.map none) := by simp
  have hf0 : (w.alloc (.cells #[.map none, .map none] 29)).frozen? ⟨w.heap.size, 0, none⟩ = false := by simp
  have hf1 : (w.alloc (.cells #[.map none, .map none] 29)).frozen? ⟨w.heap.size, 1, none⟩ = false := by simp
  have hs0 : (w.alloc (.cells #[.map none, .map none] 29)).heap.size = w.heap.size + 1 := by simp
  have cS := set_any va sa (w.alloc (.cells #[.map none, .map none] 29)) hla hsa (ha.below (Nat.le_refl _) hbw)
  rw [hs0] at cS
  go_enter Tryd.func7, Tryd.ntmps7
  go_wp2_with fail
  refine cS.mono ?_
  rintro e w1 ⟨rfl, hown1, hb1⟩
  have hbw1 : Below w.heap.size w w1 := hbw.trans (hb1.mono (by omega))
  have cF := foldSet_any vb sb w1 (hT.below (Nat.le_refl _) hbw1) hlb hsb (hb.below (Nat.le_refl _) hbw1)
  clear cS
  go_wp2_with fail
  refine cF.mono ?_
  rintro e w2 ⟨rfl, hown2, hb2⟩
  clear cF
  have hown12 := ownsMap_below hown1 hb2 hown1.lt
  go_wp2_with fail
  refine (zzPolicy_any _ _ w2).mono ?_
  rintro e w3 ⟨rfl, hb3⟩
  have hown13 := ownsMap_below hown12 hb3 hown12.lt
  have hown23 := ownsMap_below hown2 hb3 hown2.lt
  have hlt1 := hown1.lt
  have hlt2 := hown2.lt
  have z1 := hb1.size
  have z2 := hb2.size
  have z3 := hb3.size
  have hall : Below (w.heap.size + 1) (w.alloc (.cells #[.map none, .map none] 29)) w3 := (hb1.trans (hb2.mono (by omega))).trans (hb3.mono (by omega))
  have k0 : w3.cell? ⟨w.heap.size, 0, none⟩ = some (.map none) := (hall.cell (p := ⟨w.heap.size, 0, none⟩) (by simp)).trans hc0
  have k1 : w3.cell? ⟨w.heap.size, 1, none⟩ = some (.map none) := (hall.cell (p := ⟨w.heap.size, 1, none⟩) (by simp)).trans hc1
  have f0 : w3.frozen? ⟨w.heap.size, 0, none⟩ = false := (hall.frozen (p := ⟨w.heap.size, 0, none⟩) (by simp)).trans hf0
  have f1 : w3.frozen? ⟨w.heap.size, 1, none⟩ = false := (hall.frozen (p := ⟨w.heap.size, 1, none⟩) (by simp)).trans hf1
  clear hc0 hc1 hf0 hf1
  go_wp2
  refine bodyPost_ret (v := .agg #[.map (some (w.heap.size + 1)), .map (some (w1.heap.size + 1))]) (by simp [results, Tryd.results7, go_sem, k0, k1]) rfl ⟨w.heap.size + 1, w1.heap.size + 1, sa.length, sb.length, rfl, ?_, ?_, ?_⟩
  · exact (hown13.setCell (by simp) _).setCell (by simp) _
  · exact (hown23.setCell (by simp; omega) _).setCell (by simp; omega) _
  · exact (((hbw.trans (hall.mono (by omega))).setCell (Nat.le_refl _) _).setCell (Nat.le_refl _) _)

set_option maxHeartbeats 400000 in
theorem whitelists_any (b1 n1 : Nat) (r2 : Option Nat) (sa : List ByteArray) (s : ByteArray) (w : World) (hs : s.size ≤ 1048576) (h1 : w.ownsMap Tryd.prog 9 (unitElem (H := Unit)) b1 n1 (setD sa)) :
    Calls Tryd.prog 14 #[.agg #[.map (some b1), .map r2], .string s] w fun e w' => e = .returned (.bool (hasB sa s)) ∧ Below w.heap.size w w' := by
  have hkey : keyOf Tryd.prog 9 (.string s) = some (.string s.data.toList) := Go.WideMaps.keyOf_string_mk Tryd.underlying9 (by unfold maxLen; omega)
  rw [← has_setD]
  go_enter Tryd.func14, Tryd.ntmps14
  go_wp2_with (first
    | (at_lookup; refine wpList_lookup_own_unit _ rfl _ _ 25 rfl 9 53 law9 Tryd.underlying25 (zero53 _) b1 n1 _ rfl (h1.alloc _) _ _ rfl hkey ?_)
    | go_in)
  go_ret
  exact ⟨rfl, ((Below.refl _ _).alloc (Nat.le_refl _) _).alloc (by simp) _⟩

theorem size_setD_nil : Maps.size (setD []) = 0 := rfl
theorem has_of_size {ss : List ByteArray} (h : Maps.size (setD ss) = 0) (s : ByteArray) : hasB ss s = false := by
  rw [← has_setD]
  generalize setD ss = D at h
  cases D with
  | map es => simp [Maps.size] at h; subst h; rfl
  | _ => rfl

set_option maxHeartbeats 1000000 in
theorem contains_any (b2 n2 : Nat) (sb : List ByteArray) (s : ByteArray) (w : World) (hT : FoldTabs w) (hs : s.size ≤ 1048576) (h2 : w.ownsMap Tryd.prog 9 (unitElem (H := Unit)) b2 n2 (setD sb)) :
    Calls Tryd.prog 20 #[.agg #[.map (some b2)], .string s] w fun e w' => e = .returned (.bool (hasB sb (foldB s))) ∧ Below w.heap.size w w' := by
  have hfs := foldB_size s
  have hkey : keyOf Tryd.prog 9 (.string (foldB s)) = some (.string (foldB s).data.toList) := Go.WideMaps.keyOf_string_mk Tryd.underlying9 (by unfold maxLen; omega)
  have hlen := fun o => (h2.alloc o).len Tryd.underlying25
  by_cases h0 : Maps.size (setD sb) = 0
  · rw [has_of_size h0]
    go_enter Tryd.func20, Tryd.ntmps20
    go_wp2_with (first
      | (at_len; refine wpList_len_own _ rfl _ 25 rfl 9 53 Tryd.underlying25 _ b2 n2 _ rfl (h2.alloc _) ?_)
      | go_in)
    go_ret
    exact ⟨rfl, (Below.refl _ _).alloc (Nat.le_refl _) _⟩
  · rw [← has_setD]
    go_enter Tryd.func20, Tryd.ntmps20
    go_wp2_with (first
      | (at_len; refine wpList_len_own _ rfl _ 25 rfl 9 53 Tryd.underlying25 _ b2 n2 _ rfl (h2.alloc _) ?_)
      | fail)
    have hlk : ∀ W : World, Below w.heap.size w W → (Instr.lookup 25 (.map (some b2)) (.string (foldB s)) true).run Tryd.prog W = .ok (.tuple #[.agg #[], .bool (Maps.has (setD sb) (.string (foldB s).data.toList))]) W := fun W hW => by
      obtain ⟨v, ps, hrun, hv⟩ := (ownsMap_below h2 hW h2.lt).look_ok law9 Tryd.underlying25 (zero53 W) unitElem_mk hkey
      obtain ⟨rfl, _⟩ := unitElem_inv hv
      exact hrun
    have hlk2 : ∀ (W : World) (o : Obj), Below w.heap.size w W → (Instr.lookup 25 (.map (some b2)) (.string (foldB s)) true).run Tryd.prog (W.alloc o) = .ok (.tuple #[.agg #[], .bool (Maps.has (setD sb) (.string (foldB s).data.toList))]) (W.alloc o) := fun W o hW => hlk _ (hW.alloc hW.size o)
    have HF : Hid (∀ W : World, (Below w.heap.size w W ∧ W.cell? ⟨w.heap.size, 0, none⟩ = some (.map (some b2))) → Calls Tryd.prog 11 #[.string s] W fun e w' => e = .returned (.string (foldB s)) ∧ Below w.heap.size w w' ∧ w'.cell? ⟨w.heap.size, 0, none⟩ = some (.map (some b2))) := fun W h =>
      (fold_any s W (hT.below (Nat.le_refl _) h.1) hs).mono fun e w' ⟨he, hb⟩ => ⟨he, h.1.trans (hb.mono h.1.size), (hb.cell (p := ⟨w.heap.size, 0, none⟩) (cell_lt h.2)).trans h.2⟩
    have H1 : Hid (Below w.heap.size w (w.alloc (.cells #[.map (some b2)] 27)).drew ∧ (w.alloc (.cells #[.map (some b2)] 27)).drew.cell? ⟨w.heap.size, 0, none⟩ = some (.map (some b2))) := ⟨((Below.refl _ _).alloc (Nat.le_refl _) _).drew, by simp⟩
    have H2 : Hid (∀ o' : Obj, Below w.heap.size w ((w.alloc (.cells #[.map (some b2)] 27)).alloc o').drew ∧ ((w.alloc (.cells #[.map (some b2)] 27)).alloc o').drew.cell? ⟨w.heap.size, 0, none⟩ = some (.map (some b2))) := fun o' => ⟨(((Below.refl _ _).alloc (Nat.le_refl _) _).alloc (by simp) _).drew, by simp⟩
    clear hlen h2 hT hkey
    go_region_with (go_at_call 11; first | (refine (HF.out _ H1.out).mono ?_; rintro e w1 ⟨rfl, hw1, hc1⟩; have hz1 := cell_lt hc1) | (refine (HF.out _ (H2.out _)).mono ?_; rintro e w1 ⟨rfl, hw1, hc1⟩; have hz1 := cell_lt hc1))
    all_goals go_wp2
    all_goals go_ret
    all_goals first | exact ⟨rfl, hw1⟩ | exact ⟨rfl, hw1.alloc hw1.size _⟩

/-- Is the tool allowed? -/
def allowsB (sa sb : List ByteArray) (s : ByteArray) : Bool := hasB sa s && !(hasB (sb.map foldB) (foldB s))

set_option maxHeartbeats 1000000 in
theorem allows_any (b1 b2 n1 n2 : Nat) (sa sb : List ByteArray) (s : ByteArray) (w : World) (hT : FoldTabs w) (hs : s.size ≤ 1048576) (h1 : w.ownsMap Tryd.prog 9 (unitElem (H := Unit)) b1 n1 (setD sa)) (h2 : w.ownsMap Tryd.prog 9 (unitElem (H := Unit)) b2 n2 (setD (sb.map foldB))) :
    Calls Tryd.prog 9 #[.agg #[.map (some b1), .map (some b2)], .string s] w fun e w' => e = .returned (.bool (allowsB sa sb s)) ∧ Below w.heap.size w w' := by
  have hbw : Below w.heap.size w (w.alloc (.cells #[.map (some b1), .map (some b2)] 29)) := (Below.refl _ w).alloc (Nat.le_refl _) _
  have cW := whitelists_any b1 n1 (some b2) sa s (w.alloc (.cells #[.map (some b1), .map (some b2)] 29)) hs (h1.alloc _)
  go_enter Tryd.func9, Tryd.ntmps9
  go_wp2_with fail
  refine cW.mono ?_
  rintro e w1 ⟨rfl, hb1⟩
  have hw1 : Below w.heap.size w w1 := hbw.trans (hb1.mono (by simp))
  have hc1 : w1.cell? ⟨w.heap.size, 0 + 1, none⟩ = some (.map (some b2)) := (hb1.cell (p := ⟨w.heap.size, 0 + 1, none⟩) (by simp)).trans (by simp)
  have cC := contains_any b2 n2 (sb.map foldB) s w1 (hT.below (Nat.le_refl _) hw1) hs (ownsMap_below h2 hw1 h2.lt)
  clear cW hb1
  cases hh : hasB sa s with
  | false =>
    go_wp2
    go_ret
    exact ⟨by rw [allowsB, hh]; rfl, hw1⟩
  | true =>
    go_wp2_with fail
    refine cC.mono ?_
    rintro e w2 ⟨rfl, hb2⟩
    go_wp2
    go_ret
    exact ⟨by rw [allowsB, hh]; rfl, hw1.trans (hb2.mono hw1.size)⟩
end Go.Proofs.Qxb6615948aDoor
