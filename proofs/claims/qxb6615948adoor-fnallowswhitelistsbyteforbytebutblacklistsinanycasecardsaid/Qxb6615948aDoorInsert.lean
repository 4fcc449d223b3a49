/-
  Walk: cfgB1Insert.
-/
import Derived.Test.Qxb6615948aDoorBase
namespace Go.Proofs.Qxb6615948aDoor
open Go.RowKit

theorem info9 : (Tryd.prog.info? 9).map (fun i => (i.zero, i.size, i.bytes)) = some (some (.string ByteArray.empty), 1, 16) := by kernel_rfl
def strVals (ss : List ByteArray) : List Value := ss.map Value.string
theorem strVals_one (x : ByteArray) : ∀ u ∈ [Value.string x], u.oneCell' = true := by
  intro u hu
  simp at hu
  subst hu
  rfl

/-- A row of strings that the call has made is a slice of those strings. -/
theorem StrSl.of_row {w : World} {base : Nat} {v : Value} {n : Nat} {ss : List ByteArray} (h : w.ownsRow base 9 1 v n (strVals ss)) : StrSl w v ss ∧ ∃ a cap, v = .slice a ss.length cap := by
  have hn : n = ss.length := by
    have := h.1
    simp [strVals] at this
    omega
  subst hn
  rcases h.2 with ⟨rfl, h0⟩ | ⟨g, cap, cur, rfl, hb, hg, hnc, hcm, hcs, ht⟩
  · have : ss = [] := List.length_eq_zero_iff.1 h0
    subst this
    exact ⟨StrSl.nil w, none, 0, rfl⟩
  · refine ⟨⟨some ⟨g, 0, none⟩, cap, rfl, fun j hj => ⟨g, 0, rfl, (Array.getElem?_eq_some_iff.1 hg).1, ?_⟩⟩, _, _, rfl⟩
    rw [Nat.zero_add, h.cellAt j (by omega)]
    simp [strVals, List.getD, List.getElem?_eq_getElem hj]

theorem strVals_snoc (ss : List ByteArray) (x : ByteArray) : strVals (ss ++ [x]) = strVals ss ++ [Value.string x] := by simp [strVals]
theorem mid_zero (ss : List ByteArray) (i : Nat) (x : ByteArray) : ss.take i ++ x :: (ss.drop i).take (i - i) = ss.take i ++ [x] := by simp
theorem mid_snoc (ss : List ByteArray) (i k : Nat) (x : ByteArray) (h : i ≤ k) (hk : k < ss.length) : ss.take i ++ x :: (ss.drop i).take (k + 1 - i) = (ss.take i ++ x :: (ss.drop i).take (k - i)) ++ [ss.getD k ByteArray.empty] := by
  have e : k + 1 - i = (k - i) + 1 := by omega
  have hd : (ss.drop i)[k - i]? = ss[k]? := by rw [List.getElem?_drop]; congr 1; omega
  rw [e, List.take_add_one, hd, List.getElem?_eq_getElem hk]
  simp [List.getD, List.getElem?_eq_getElem hk]
theorem mid_all (ss : List ByteArray) (i : Nat) (x : ByteArray) : ss.take i ++ x :: (ss.drop i).take (ss.length - i) = ss.take i ++ x :: ss.drop i := by
  congr 2
  exact List.take_of_length_le (by simp)

set_option maxHeartbeats 1000000 in
theorem insert_any (va : Value) (ss : List ByteArray) (i : Nat) (x : ByteArray) (w : World) (hl : ss.length ≤ 1048576) (hi : i ≤ ss.length) (ha : StrSl w va ss) :
    Calls Tryd.prog 8 #[va, .int .i64 i, .string x] w fun e w' => ∃ a cap, e = .returned (.slice a (ss.length + 1) cap) ∧ StrSl w' (.slice a (ss.length + 1) cap) (ss.take i ++ x :: ss.drop i) ∧ Below w.heap.size w w' := by
  obtain ⟨a, cap, rfl, hc⟩ := ha
  obtain ⟨i0, hi0, hz0, hz1, hz2⟩ := info_parts info9
  go_enter Tryd.func8, Tryd.ntmps8
  go_wp2_with (first
    | (at_make; refine wpList_make_own _ rfl _ _ 22 rfl w.heap.size 9 i0 (.string ByteArray.empty) 1 Tryd.underlying22 hi0 hz0 hz1 .i64 .i64 _ (ss.length + 1) rfl rfl (by omega) (by rw [hz2]; omega) (by unfold maxLen; omega) (Nat.le_refl _) ?_; intro w1 hown1 hgrow1)
    | fail)
  have hb1 : Below w.heap.size w w1 := (Below.refl _ w).grown hgrow1 (Nat.le_refl _) (fun j hj => by cases hj)
  clear hgrow1
  go_loopw [7, 8] (fun v j wr => ∃ k : Nat, k ≤ i ∧ j = .int .i64 k ∧ wr.ownsRow w.heap.size 9 1 v k (strVals (ss.take k)) ∧ Below w.heap.size w wr) (fun _ j _ => i - (intOf j).toNat)
  case atStart => exact ⟨0, Nat.zero_le _, rfl, hown1, hb1⟩
  case round =>
    obtain ⟨k, hk, rfl, hown, hnx⟩ := hrel
    clear hown1 hb1
    by_cases hlt : k < i
    · obtain ⟨b, off, rfl, hb, hcell⟩ := hc k (by omega)
      obtain ⟨y, hy⟩ : ∃ y, y = ss.getD k ByteArray.empty := ⟨_, rfl⟩
      have hsn : strVals (ss.take (k + 1)) = strVals (ss.take k) ++ [Value.string (ss.getD k ByteArray.empty)] := by rw [take_snoc' ss k (by omega), strVals_snoc]
      rw [← hy] at hcell hsn
      have hcx : wr.cell? ⟨b, off + k, none⟩ = some (.string y) := (hnx.cell (by exact hb)).trans hcell
      have HS := hide hsn
      have HC := hide hc
      clear hy hsn hcell hc
      go_wp2_with (first
        | (at_builtin; refine wpList_append_own _ rfl _ _ 22 rfl w.heap.size 9 i0 (.string ByteArray.empty) 1 16 Tryd.underlying22 hi0 hz0 hz1 hz2 rfl (by decide) _ _ _ rfl (hown.alloc _) ⟨wr.heap.size, 0, none⟩ 1 1 [.string y] rfl rfl (cell_one_new _ _ _) (strVals_one y) (by unfold maxLen; omega) (by omega) (by have := hnx.size; simp; omega) ?_; intro v' w2 hown2 hgrow2 hnil2)
        | go_in)
      go_roundw
      case rel => exact ⟨k + 1, by omega, by go_num, by rw [HS.out]; exact hown2, (hnx.alloc hnx.size _).grown hgrow2 (by have := hnx.size; simp; omega) (fun j hj => (hown.lt j hj).1)⟩
      case measure => simp [intOf]; omega
    · have : k = i := by omega
      subst this
      go_wp2_with (first
        | (at_builtin; refine wpList_append_own _ rfl _ _ 22 rfl w.heap.size 9 i0 (.string ByteArray.empty) 1 16 Tryd.underlying22 hi0 hz0 hz1 hz2 rfl (by decide) _ _ _ rfl (hown.alloc _) ⟨wr.heap.size, 0, none⟩ 1 1 [.string x] rfl rfl (cell_one_new _ _ _) (strVals_one x) (by unfold maxLen; omega) (by omega) (by have := hnx.size; simp; omega) ?_; intro v2 w2 hown2 hgrow2 hnil2)
        | go_in)
      have hb2 : Below w.heap.size w w2 := (hnx.alloc hnx.size _).grown hgrow2 (by have := hnx.size; simp; omega) (fun j hj => (hown.lt j hj).1)
      rw [← strVals_snoc, ← mid_zero] at hown2
      clear hgrow2 hnil2 hown hnx
      go_loopw [7, 9] (fun v j wr => ∃ m : Nat, k ≤ m ∧ m ≤ ss.length ∧ j = .int .i64 m ∧ wr.ownsRow w.heap.size 9 1 v (m + 1) (strVals (ss.take k ++ x :: (ss.drop k).take (m - k))) ∧ Below w.heap.size w wr) (fun _ j _ => ss.length - (intOf j).toNat)
      case atStart => exact ⟨k, Nat.le_refl _, by omega, rfl, hown2, hb2⟩
      case round =>
        obtain ⟨m, hkm, hm, rfl, hown, hnx⟩ := hrel
        clear hown2 hb2
        by_cases hlt : m < ss.length
        · obtain ⟨b, off, rfl, hb, hcell⟩ := hc m hlt
          obtain ⟨y, hy⟩ : ∃ y, y = ss.getD m ByteArray.empty := ⟨_, rfl⟩
          have hsn : strVals (ss.take k ++ x :: (ss.drop k).take (m + 1 - k)) = strVals (ss.take k ++ x :: (ss.drop k).take (m - k)) ++ [Value.string (ss.getD m ByteArray.empty)] := by rw [mid_snoc ss k m x hkm hlt, strVals_snoc]
          rw [← hy] at hcell hsn
          have hcx : wr.cell? ⟨b, off + m, none⟩ = some (.string y) := (hnx.cell (by exact hb)).trans hcell
          have HS := hide hsn
          clear hy hsn hcell hc
          go_wp2_with (first
            | (at_builtin; refine wpList_append_own _ rfl _ _ 22 rfl w.heap.size 9 i0 (.string ByteArray.empty) 1 16 Tryd.underlying22 hi0 hz0 hz1 hz2 rfl (by decide) _ _ _ rfl (hown.alloc _) ⟨wr.heap.size, 0, none⟩ 1 1 [.string y] rfl rfl (cell_one_new _ _ _) (strVals_one y) (by unfold maxLen; omega) (by omega) (by have := hnx.size; simp; omega) ?_; intro v' w2 hown2 hgrow2 hnil2)
            | go_in)
          go_roundw
          case rel => exact ⟨m + 1, by omega, by omega, by go_num, by rw [HS.out]; exact hown2, (hnx.alloc hnx.size _).grown hgrow2 (by have := hnx.size; simp; omega) (fun j hj => (hown.lt j hj).1)⟩
          case measure => simp [intOf]; omega
        · have : m = ss.length := by omega
          subst this
          rw [mid_all] at hown
          obtain ⟨hS, a', cap', hv⟩ := StrSl.of_row hown
          rw [show (ss.take k ++ x :: ss.drop k).length = ss.length + 1 by simp; omega] at hv
          subst hv
          clear hc hown
          go_wp2
          go_ret
          exact ⟨a', cap', rfl, hS, hnx⟩
end Go.Proofs.Qxb6615948aDoor
