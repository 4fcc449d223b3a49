/-
  Walk: cfgB1SwapCase.
-/
import Derived.Test.Qxb6615948aDoorBase
import Derived.Laws.BytesArg
namespace Go.Proofs.Qxb6615948aDoor
open Go.RowKit

/-- The other case of an ASCII letter's byte. -/
def swapZ (c : Int) : Int := if 97 ≤ c ∧ c ≤ 122 then c - 32 else if 65 ≤ c ∧ c ≤ 90 then c + 32 else c
def swapNums (s : ByteArray) : List Int := s.data.toList.map fun b => swapZ b.toNat
def swapB (s : ByteArray) : ByteArray := strOfNums (swapNums s)
theorem info5 : (Tryd.prog.info? 5).map (fun i => (i.zero, i.size, i.bytes)) = some (some (.int .u8 0), 1, 1) := by kernel_rfl

theorem data_at' (s : ByteArray) (k : Nat) (h : k < s.size) : s.data.toList[k]? = some s[k] := by
  have h' : k < s.data.size := h
  rw [Array.getElem?_toList, Array.getElem?_eq_getElem h']
  rfl

set_option maxHeartbeats 1000000 in
theorem swap_any (s : ByteArray) (w : World) (hs : s.size ≤ 1048576) :
    Calls Tryd.prog 13 #[.string s] w fun e w' => e = .returned (.string (swapB s)) ∧ Below w.heap.size w w' := by
  obtain ⟨i0, hi0, hz0, hz1, hz2⟩ := info_parts info5
  go_enter Tryd.func13, Tryd.ntmps13
  go_wp2_with (first
    | (at_make; refine wpList_make_full _ rfl _ _ 42 rfl w.heap.size 5 i0 (.int .u8 0) 1 Tryd.underlying42 hi0 hz0 hz1 .i64 .i64 _ _ s.size rfl rfl rfl rfl (by rw [hz2]; omega) (by unfold maxLen; omega) (Nat.le_refl _) ?_; intro w1 hown1 hgrow1)
    | fail)
  have hb1 : Below w.heap.size w w1 := (Below.refl _ w).grown hgrow1 (Nat.le_refl _) (fun j hj => by cases hj)
  clear hgrow1
  go_loopw [4] (fun i wr => ∃ (k : Nat) (xs : List Value), k ≤ s.size ∧ i = .int .i64 k ∧ wr.ownsRow w.heap.size 5 1 (.slice (some ⟨w.heap.size, 0, none⟩) s.size s.size) s.size xs ∧ (∀ j (hj : j < s.size), j < k → xs[j]? = some (.int .u8 (swapZ s[j].toNat))) ∧ Below w.heap.size w wr) (fun i _ => s.size - (intOf i).toNat)
  case atStart => exact ⟨0, _, Nat.zero_le _, rfl, hown1, fun j _ hj => by omega, hb1⟩
  case round =>
    obtain ⟨k, xs, hk, rfl, hown, hxs, hnx⟩ := hrel
    clear hown1 hb1
    have hxl : xs.length = s.size := by have := hown.1; omega
    by_cases hlt : k < s.size
    · have hcell : wr.cell? ⟨w.heap.size, k, none⟩ = some (xs[k]'(by omega)) := by rw [hown.cellAt k (by omega), List.getElem?_eq_getElem (by omega)]
      have hfz := hown.frozenAt k
      have hst := fun u => hown.stored k u
      have HS := hide hst
      have HX := hide hxs
      clear hst hxs
      obtain ⟨old, hold⟩ : ∃ old, xs[k]'(by omega) = old := ⟨_, rfl⟩
      rw [hold] at hcell
      clear hold
      have hc8 := UInt8.toNat_lt s[k]
      have step : ∀ z : Int, z = swapZ s[k].toNat → ∀ j (hj : j < s.size), j < k + 1 → (xs.set k (.int .u8 z))[j]? = some (.int .u8 (swapZ s[j].toNat)) := fun z hz j hj hjk => by
        rcases Nat.lt_or_ge j k with h | h
        · rw [List.getElem?_set_ne (by omega)]
          exact HX.out j hj h
        · obtain rfl : j = k := by omega
          rw [List.getElem?_set_self (by omega), hz]
      have HP := hide step
      clear step
      by_cases h97 : (97 : Int) ≤ s[k].toNat
      · by_cases h122 : (s[k].toNat : Int) ≤ 122
        · go_wp2
          go_roundw
          case rel => exact ⟨k + 1, _, by omega, by go_num, (HS.out _).1, HP.out _ (by unfold swapZ; rw [if_pos ⟨h97, h122⟩]), hnx.setCell (Nat.le_refl _) _⟩
          case measure => simp [intOf]; omega
        · go_wp2
          go_roundw
          case rel => exact ⟨k + 1, _, by omega, by go_num, (HS.out _).1, HP.out _ (by unfold swapZ; rw [if_neg (by omega), if_neg (by omega)]), hnx.setCell (Nat.le_refl _) _⟩
          case measure => simp [intOf]; omega
      · by_cases h65 : (65 : Int) ≤ s[k].toNat
        · by_cases h90 : (s[k].toNat : Int) ≤ 90
          · go_wp2
            go_roundw
            case rel => exact ⟨k + 1, _, by omega, by go_num, (HS.out _).1, HP.out _ (by unfold swapZ; rw [if_neg (by omega), if_pos ⟨h65, h90⟩]), hnx.setCell (Nat.le_refl _) _⟩
            case measure => simp [intOf]; omega
          · go_wp2
            go_roundw
            case rel => exact ⟨k + 1, _, by omega, by go_num, (HS.out _).1, HP.out _ (by unfold swapZ; rw [if_neg (by omega), if_neg (by omega)]), hnx.setCell (Nat.le_refl _) _⟩
            case measure => simp [intOf]; omega
        · go_wp2
          go_roundw
          case rel => exact ⟨k + 1, _, by omega, by go_num, (HS.out _).1, HP.out _ (by unfold swapZ; rw [if_neg (by omega), if_neg (by omega)]), hnx.setCell (Nat.le_refl _) _⟩
          case measure => simp [intOf]; omega
    · have hke : k = s.size := by omega
      subst hke
      have hcv := run_convert_bytes_arg (P := Tryd.prog) wr 42 5 Tryd.underlying42 Tryd.underlying5 w.heap.size 0 s.size s.size (swapNums s) (by simp [swapNums]) (fun j hj => by
        rw [Nat.zero_add, hown.cellAt j (by omega), hxs j hj hj]
        have hd := data_at' s j hj
        simp [swapNums, List.getD, hd]) 9 Tryd.underlying9
      clear hxs hown
      go_wp2
      go_ret
      exact ⟨rfl, hnx⟩
end Go.Proofs.Qxb6615948aDoor
