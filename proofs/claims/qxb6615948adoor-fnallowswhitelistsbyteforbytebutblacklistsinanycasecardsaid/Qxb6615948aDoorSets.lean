/-
  Walks: cfgB1Has, cfgB1Set, cfgB1FoldSet, cfgB1Policy, Whitelists, Contains, Allows.
-/
import Derived.Test.Qxb6615948aDoorFold
namespace Go.Proofs.Qxb6615948aDoor
open Go.RowKit

def hasB (ss : List ByteArray) (s : ByteArray) : Bool := ss.any fun x => x.toList == s.toList
theorem hasB_succ (ss : List ByteArray) (k : Nat) (h : k < ss.length) (s : ByteArray) : hasB (ss.take (k + 1)) s = (hasB (ss.take k) s || (ss.getD k ByteArray.empty).toList == s.toList) := by
  rw [take_snoc' ss k h]
  simp [hasB]

set_option maxHeartbeats 400000 in
theorem has_any (v : Value) (ss : List ByteArray) (s : ByteArray) (w : World) (hl : ss.length ≤ 1048577) (hv : StrSl w v ss) :
    Calls Tryd.prog 10 #[v, .string s] w fun e w' => e = .returned (.bool (hasB ss s)) ∧ w' = w := by
  obtain ⟨a, cap, rfl, hc⟩ := hv
  go_enter Tryd.func10, Tryd.ntmps10
  go_wp2
  go_loop [5] (fun i => ∃ k : Nat, k ≤ ss.length ∧ i = .int .i64 k ∧ hasB (ss.take k) s = false) (fun i => ss.length - (intOf i).toNat)
  case atStart => exact ⟨0, Nat.zero_le _, rfl, rfl⟩
  case round =>
    obtain ⟨k, hk, rfl, hh⟩ := hrel
    have HH := hide hh
    clear hh
    by_cases hlt : k < ss.length
    · obtain ⟨b, off, rfl, hb, hcell⟩ := hc k hlt
      obtain ⟨x, hx⟩ : ∃ x, x = ss.getD k ByteArray.empty := ⟨_, rfl⟩
      have hsu := hasB_succ ss k hlt s
      rw [HH.out] at hsu
      rw [← hx] at hcell hsu
      have HS := hide hsu
      clear hx hc hsu
      go_wp2
      · have he : (x.toList == s.toList) = true := by assumption
        go_ret
        refine ⟨ret_bool ?_, rfl⟩
        have h1 := HS.out
        rw [he, Bool.false_or] at h1
        obtain ⟨y, hy, hy'⟩ := List.any_eq_true.1 h1
        exact (List.any_eq_true.2 ⟨y, List.mem_of_mem_take hy, hy'⟩).symm
      · have he : (x.toList == s.toList) = false := by assumption
        go_round
        case rel => exact ⟨k + 1, by omega, by go_num, by rw [HS.out, he]; rfl⟩
        case measure => simp [intOf]; omega
    · have : k = ss.length := by omega
      subst this
      rw [List.take_length] at HH
      go_wp2
      go_ret
      exact ⟨by rw [HH.out]; rfl, rfl⟩

open Go.Maps
theorem law9 : Keyed Tryd.prog 9 := string_keyed Tryd.underlying9
theorem zero53 (w : World) : (zeroValue 53).run Tryd.prog w = .ok (.agg #[]) w := by kernel_rfl
theorem make25 (n : Int) (w : World) : (Instr.makeMap 25 (some (.int .i64 n))).run Tryd.prog w = .ok (.map (some w.heap.size)) (w.alloc (.map #[] 0)) := by
  simp [Instr.makeMap, run_underlying Tryd.underlying25, asInt, newObj]
  rfl

/-- The set of so many strings. -/
def setD (ss : List ByteArray) : DataW Unit := setOf (.agg []) (ss.map fun s => Lit.string s.data.toList)
theorem setD_snoc (ss : List ByteArray) (k : Nat) (h : k < ss.length) : setD (ss.take (k + 1)) = (setD (ss.take k)).put (.string (ss.getD k ByteArray.empty).data.toList) (.agg []) := by
  unfold setD
  rw [take_snoc' ss k h, List.map_append, List.map_singleton, setOf_snoc]
theorem any_congr {α : Type} {p q : α → Bool} (h : ∀ x, p x = q x) (l : List α) : l.any p = l.any q := by rw [show p = q from funext h]
theorem sameKey_string (a b : List UInt8) : (Lit.string a).sameKey (.string b) = (a == b) := by
  cases h : (a == b)
  · cases hs : (Lit.string a).sameKey (.string b)
    · rfl
    · have := WideAt.sameKey_eq hs
      simp at this
      simp [this] at h
  · have : a = b := by simpa using h
    subst this
    simp [Lit.sameKey]
theorem has_setD (ss : List ByteArray) (s : ByteArray) : Maps.has (setD ss) (.string s.data.toList) = hasB ss s := by
  unfold setD
  rw [has_setOf _ _ _ (fun y hy => by obtain ⟨_, _, rfl⟩ := List.mem_map.1 hy; trivial), List.any_map]
  exact any_congr (fun x => by
    show (Lit.string x.data.toList).sameKey (.string s.data.toList) = _
    rw [sameKey_string, Lib.toList_data, Lib.toList_data]) ss

set_option maxHeartbeats 400000 in
theorem set_any (v : Value) (ss : List ByteArray) (w : World) (hl : ss.length ≤ 1048577) (hsz : ∀ s ∈ ss, s.size ≤ 1048576) (hv : StrSl w v ss) :
    Calls Tryd.prog 18 #[v] w fun e w' => e = .returned (.map (some w.heap.size)) ∧ w'.ownsMap Tryd.prog 9 (unitElem (H := Unit)) w.heap.size ss.length (setD ss) ∧ Below w.heap.size w w' := by
  obtain ⟨a, cap, rfl, hc⟩ := hv
  have hmm := make25
  go_enter Tryd.func18, Tryd.ntmps18
  go_wp2
  go_loopw [4] (fun i wr => ∃ k : Nat, k ≤ ss.length ∧ i = .int .i64 k ∧ wr.ownsMap Tryd.prog 9 (unitElem (H := Unit)) w.heap.size k (setD (ss.take k)) ∧ Below w.heap.size w wr) (fun i _ => ss.length - (intOf i).toNat)
  case atStart => exact ⟨0, Nat.zero_le _, rfl, World.ownsMap_made _ _ _ _, (Below.refl _ _).alloc (Nat.le_refl _) _⟩
  case round =>
    obtain ⟨k, hk, rfl, hown, hnx⟩ := hrel
    by_cases hlt : k < ss.length
    · obtain ⟨b, off, rfl, hb, hcell⟩ := hc k hlt
      obtain ⟨x, hx⟩ : ∃ x, x = ss.getD k ByteArray.empty := ⟨_, rfl⟩
      have hsn := setD_snoc ss k hlt
      rw [← hx] at hcell hsn
      have hxs : x.size ≤ 1048576 := by
        rw [hx, List.getD, List.getElem?_eq_getElem hlt]
        exact hsz _ (List.getElem_mem hlt)
      have hcx : wr.cell? ⟨b, off + k, none⟩ = some (.string x) := (hnx.cell (by exact hb)).trans hcell
      have hkey : keyOf Tryd.prog 9 (.string x) = some (.string x.data.toList) := Go.WideMaps.keyOf_string_mk Tryd.underlying9 (by unfold maxLen; omega)
      have HS := hide hsn
      clear hx hc hsn hcell hsz
      go_wp2_with (first
        | (at_mapUpdate; refine wpList_mapUpdate_own _ rfl _ _ _ 25 rfl 9 53 law9 Tryd.underlying25 (unitElem (H := Unit)) w.heap.size k _ rfl hown (by unfold maxLen; omega) _ _ _ rfl rfl hkey _ [] unitElem_mk ?_; intro w1 hown1 hgrow1)
        | go_in)
      go_roundw
      case rel => exact ⟨k + 1, by omega, by go_num, by rw [HS.out]; exact hown1, hnx.grown hgrow1 hnx.size (fun j hj => by cases hj; exact Nat.le_refl _)⟩
      case measure => simp [intOf]; omega
    · have : k = ss.length := by omega
      subst this
      rw [List.take_length] at hown
      go_wp2
      go_ret
      exact ⟨rfl, hown, hnx⟩

theorem ownsMap_below {w w' : World} {P : Program} {k : TypeId} {R : Value → Option (DataW Unit × List MemPlace)} {b n B : Nat} {D : DataW Unit} (h : w.ownsMap P k R b n D) (hb : Below B w w') (hlt : b < B) : w'.ownsMap P k R b n D := by
  obtain ⟨es, clock, h1, h2⟩ := h
  exact ⟨es, clock, (hb.block b hlt).trans h1, h2⟩

set_option maxHeartbeats 400000 in
theorem ofKeys_any (r : Option Nat) (w : World) :
    Calls Tryd.prog 26 #[.map r] w fun e w' => e = .returned (.agg #[.map r]) ∧ Below w.heap.size w w' := by
  go_enter Tryd.func26, Tryd.ntmps26
  go_wp2
  exact bodyPost_ret (v := .agg #[.map r]) (by simp [results, Tryd.results26, go_sem]) rfl ⟨rfl, (Below.refl _ _).alloc (Nat.le_refl _) _⟩

set_option maxHeartbeats 400000 in
theorem zzPolicy_any (r1 r2 : Option Nat) (w : World) :
    Calls Tryd.prog 17 #[.map r1, .agg #[.map r2]] w fun e w' => e = .returned (.agg #[.map r1, .map r2]) ∧ Below w.heap.size w w' := by
  go_enter Tryd.func17, Tryd.ntmps17
  go_wp2
  exact bodyPost_ret (v := .agg #[.map r1, .map r2]) (by simp [results, Tryd.results17, go_sem]) rfl ⟨rfl, ((Below.refl _ _).alloc (Nat.le_refl _) _).alloc (by simp) _⟩

theorem map_take_foldB (ss : List ByteArray) (k : Nat) (h : k < ss.length) : setD ((ss.take (k + 1)).map foldB) = (setD ((ss.take k).map foldB)).put (.string (foldB (ss.getD k ByteArray.empty)).data.toList) (.agg []) := by
  unfold setD
  rw [take_snoc' ss k h, List.map_append, List.map_append, List.map_singleton, List.map_singleton, setOf_snoc]

set_option maxHeartbeats 400000 in
theorem foldSet_any (v : Value) (ss : List ByteArray) (w : World) (hT : FoldTabs w) (hl : ss.length ≤ 1048577) (hsz : ∀ s ∈ ss, s.size ≤ 1048576) (hv : StrSl w v ss) :
    Calls Tryd.prog 19 #[v] w fun e w' => e = .returned (.agg #[.map (some (w.heap.size + 1))]) ∧ w'.ownsMap Tryd.prog 9 (unitElem (H := Unit)) (w.heap.size + 1) ss.length (setD (ss.map foldB)) ∧ Below w.heap.size w w' := by
  obtain ⟨a, cap, rfl, hc⟩ := hv
  have hmm := make25
  go_enter Tryd.func19, Tryd.ntmps19
  go_wp2
  have hbw : Below w.heap.size w (w.alloc (.cells #[.map none] 27)) := (Below.refl _ w).alloc (Nat.le_refl _) _
  have hb0 : Below (w.heap.size + 1) (w.alloc (.cells #[.map none] 27)) ((w.alloc (.cells #[.map none] 27)).alloc (.map #[] 0)) := (Below.refl _ _).alloc (by simp) _
  have hc0 : (w.alloc (.cells #[.map none] 27)).cell? ⟨w.heap.size, 0, none⟩ = some (.map none) := by simp
  have hf0 : (w.alloc (.cells #[.map none] 27)).frozen? ⟨w.heap.size, 0, none⟩ = false := by simp
  have hs0 : (w.alloc (.cells #[.map none] 27)).heap.size = w.heap.size + 1 := by simp
  have hom := World.ownsMap_made (w.alloc (.cells #[.map none] 27)) Tryd.prog 9 (unitElem (H := Unit))
  rw [hs0] at hom
  have HS0 := hide hs0
  clear hs0
  generalize hW0 : w.alloc (.cells #[.map none] 27) = W0 at hbw hb0 hc0 hf0 HS0 hom ⊢
  go_loopw [4] (fun i wr => ∃ k : Nat, k ≤ ss.length ∧ i = .int .i64 k ∧ wr.ownsMap Tryd.prog 9 (unitElem (H := Unit)) (w.heap.size + 1) k (setD ((ss.take k).map foldB)) ∧ Below (w.heap.size + 1) W0 wr) (fun i _ => ss.length - (intOf i).toNat)
  case atStart => exact ⟨0, Nat.zero_le _, rfl, hom, hb0⟩
  case round =>
    obtain ⟨k, hk, rfl, hown, hnx⟩ := hrel
    clear hb0 hom
    have hnw : Below w.heap.size w wr := hbw.trans (hnx.mono (by omega))
    have hlt1 := hown.lt
    by_cases hlt : k < ss.length
    · obtain ⟨b, off, rfl, hb, hcell⟩ := hc k hlt
      obtain ⟨x, hx⟩ : ∃ x, x = ss.getD k ByteArray.empty := ⟨_, rfl⟩
      have hsn := map_take_foldB ss k hlt
      rw [← hx] at hcell hsn
      have hxs : x.size ≤ 1048576 := by
        rw [hx, List.getD, List.getElem?_eq_getElem hlt]
        exact hsz _ (List.getElem_mem hlt)
      have hcx : wr.cell? ⟨b, off + k, none⟩ = some (.string x) := (hnw.cell (by exact hb)).trans hcell
      have hfs := foldB_size x
      have hkey : keyOf Tryd.prog 9 (.string (foldB x)) = some (.string (foldB x).data.toList) := Go.WideMaps.keyOf_string_mk Tryd.underlying9 (by unfold maxLen; omega)
      have cF := fold_any x wr (hT.below (Nat.le_refl _) hnw) hxs
      have HS := hide hsn
      clear hx hc hsn hcell hsz
      go_wp2_with fail
      refine cF.mono ?_
      rintro e w1 ⟨rfl, hb1⟩
      clear cF
      have hown' := ownsMap_below hown hb1 hlt1
      go_wp2_with (first
        | (at_mapUpdate; refine wpList_mapUpdate_own _ rfl _ _ _ 25 rfl 9 53 law9 Tryd.underlying25 (unitElem (H := Unit)) (w.heap.size + 1) k _ rfl hown' (by unfold maxLen; omega) _ _ _ rfl rfl hkey _ [] unitElem_mk ?_; intro w2 hown2 hgrow2)
        | go_in)
      have hnx1 : Below (w.heap.size + 1) W0 w1 := hnx.trans (hb1.mono (by omega))
      go_roundw
      case rel => exact ⟨k + 1, by omega, by go_num, by rw [HS.out]; exact hown2, hnx1.grown hgrow2 (by have := hnx1.size; have := HS0.out; omega) (fun j hj => by cases hj; exact Nat.le_refl _)⟩
      case measure => simp [intOf]; omega
    · have : k = ss.length := by omega
      subst this
      rw [List.take_length] at hown
      have hcl := hide hc
      clear hc
      go_wp2_with fail
      refine (ofKeys_any _ wr).mono ?_
      rintro e w1 ⟨rfl, hb1⟩
      have hown' := ownsMap_below hown hb1 hlt1
      have hnx1 : Below (w.heap.size + 1) W0 w1 := hnx.trans (hb1.mono (by omega))
      have hc1 : w1.cell? ⟨w.heap.size, 0, none⟩ = some (.map none) := (hnx1.cell (p := ⟨w.heap.size, 0, none⟩) (by simp)).trans hc0
      have hf1 : w1.frozen? ⟨w.heap.size, 0, none⟩ = false := (hnx1.frozen (p := ⟨w.heap.size, 0, none⟩) (by simp)).trans hf0
      go_wp2
      refine bodyPost_ret (v := .agg #[.map (some (w.heap.size + 1))]) (by simp [results, Tryd.results19, go_sem, hc1]) rfl ⟨rfl, ?_, ?_⟩
      · exact hown'.setCell (by simp) _
      · exact (hbw.trans (hnx1.mono (by omega))).setCell (Nat.le_refl _) _
end Go.Proofs.Qxb6615948aDoor
