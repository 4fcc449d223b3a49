/-
  The model: nextSemicolon and pieceName: the walks.
-/
import Derived.Test.Qxb6616118aDoorTrim
namespace Go.Proofs.Qxb6616118aDoor
open Go.RowKit Go.PlainAid

theorem indexByte_none (c : UInt8) : ∀ l : List UInt8, c ∉ l → Lib.indexByte l c = -1
  | [], _ => rfl
  | b :: l, h => by
    have hb : (b == c) = false := by simp; intro e; exact h (by simp [e])
    have hl := indexByte_none c l (fun e => h (by simp [e]))
    unfold Lib.indexByte
    simp [hb, hl]
theorem indexByte_at (c : UInt8) : ∀ (p r : List UInt8), c ∉ p → Lib.indexByte (p ++ c :: r) c = p.length
  | [], r, _ => by simp [Lib.indexByte]
  | b :: p, r, h => by
    have hb : (b == c) = false := by simp; intro e; exact h (by simp [e])
    have hl := indexByte_at c p r (fun e => h (by simp [e]))
    have e : ((p.length : Int) == -1) = false := by simp
    rw [List.cons_append]
    unfold Lib.indexByte
    simp [hb, hl, e]
theorem seg_free {s : ByteArray} {c : UInt8} {i k : Nat} (hk : k ≤ s.size) (h : ∀ j, i ≤ j → j < k → bt s j ≠ (c.toNat : Int)) : c ∉ seg s.data.toList i k := by
  intro hm
  obtain ⟨n, hn, he⟩ := List.mem_iff_getElem.1 hm
  have hl : s.data.toList.length = s.size := by simp
  have hn2 : n < k - i := by rwa [seg_len _ _ _ (by omega)] at hn
  have e : (seg s.data.toList i k)[n] = s.data.toList[i + n]'(by omega) := by simp [seg]
  have := h (i + n) (by omega) (by omega)
  rw [bt_at s (i + n) (by omega), ← e, he] at this
  exact this rfl
theorem bt_eq {s : ByteArray} {c : UInt8} {k : Nat} (hk : k < s.size) (h : bt s k = (c.toNat : Int)) : s.data.toList.drop k = c :: s.data.toList.drop (k + 1) := by
  have hl : s.data.toList.length = s.size := by simp
  rw [bt_at s k (by omega)] at h
  rw [List.drop_eq_getElem_cons (by omega)]
  congr 1
  exact UInt8.toNat.inj (by omega)
theorem drop_seg (a : List UInt8) (i k : Nat) (h : i ≤ k) (_ : k ≤ a.length) : a.drop i = seg a i k ++ a.drop k := by
  unfold seg
  have : a.drop k = (a.drop i).drop (k - i) := by rw [List.drop_drop]; congr 1; omega
  rw [this, List.take_append_drop]

theorem next_any (s : ByteArray) (i : Nat) (w : World) (hi : i ≤ s.size) (hz : s.size ≤ 8388608) : Calls Tryd.prog 12 #[.string s, .int .i64 i] w fun e w' => w' = w ∧ ∃ k : Nat, e = .returned (.int .i64 k) ∧ i ≤ k ∧ k ≤ s.size ∧ (∀ j, i ≤ j → j < k → bt s j ≠ 59) ∧ (k < s.size → bt s k = 59) := by
  go_enter Tryd.func12, Tryd.ntmps12
  go_wp2
  go_loop [5] (fun v => ∃ k : Nat, v = .int .i64 k ∧ i ≤ k ∧ k ≤ s.size ∧ ∀ j, i ≤ j → j < k → bt s j ≠ 59) (fun v => s.size - (intOf v).toNat)
  case atStart => exact ⟨i, rfl, Nat.le_refl _, hi, fun j h1 h2 => by omega⟩
  case round =>
    obtain ⟨k, rfl, hik, hk, hno⟩ := hrel
    have HNO := hide hno
    clear hno
    by_cases hlt : k < s.size
    · have hv := get_bt s k hlt
      have hkt : (k : Int).toNat = k := by omega
      by_cases he : bt s k = 59
      · have he' : (bt s k == 59) = true := by simpa using he
        have HE := hide he
        clear he
        go_wp2
        go_ret
        exact ⟨rfl, k, rfl, hik, hk, HNO.out, fun _ => HE.out⟩
      · have he' : (bt s k == 59) = false := by simpa using he
        have HE := hide he
        clear he
        go_wp2
        go_round
        case rel => exact ⟨k + 1, by go_num, by omega, by omega, fun j h1 h2 => by
          by_cases h3 : j = k
          · rw [h3]; exact HE.out
          · exact HNO.out j h1 (by omega)⟩
        case measure => simp [intOf]; omega
    · have hke : k = s.size := by omega
      subst hke
      go_wp2
      go_ret
      exact ⟨rfl, s.size, rfl, hik, hk, HNO.out, fun h => absurd h hlt⟩
set_option maxHeartbeats 1000000 in
theorem pieceName_any (x : ByteArray) (w : World) (ht : trimB x = x) (hz : x.size ≤ 8388608) : Calls Tryd.prog 14 #[.string x] w fun e w' => e = .returned (.string (trimB (beforeB x))) ∧ ∃ n, w' = w.drewN n := by
  have hl : x.data.toList.length = x.size := by simp
  have HL := hide hl
  have HT := hide ht
  clear hl ht
  go_enter Tryd.func14, Tryd.ntmps14
  go_wp2
  go_loop [3] (fun v => ∃ k : Nat, v = .int .i64 k ∧ k ≤ x.size ∧ ∀ j, j < k → bt x j ≠ 61) (fun v => x.size - (intOf v).toNat)
  case atStart => exact ⟨0, rfl, Nat.zero_le _, fun j h => by omega⟩
  case round =>
    obtain ⟨k, rfl, hk, hno⟩ := hrel
    have HNO := hide hno
    clear hno
    by_cases hlt : k < x.size
    · have hv := get_bt x k hlt
      have hkt : (k : Int).toNat = k := by omega
      by_cases he : bt x k = 61
      · have he' : (bt x k == 61) = true := by simpa using he
        have hb : beforeB x = x.extract 0 k := by
          have e1 : x.data.toList = seg x.data.toList 0 k ++ (61 :: x.data.toList.drop (k + 1)) := by
            rw [← bt_eq (c := 61) hlt he]
            have := drop_seg x.data.toList 0 k (Nat.zero_le _) (by have := HL.out; omega)
            rwa [List.drop_zero] at this
          have e2 : Lib.indexByte x.data.toList 61 = (k : Int) := by
            rw [e1, indexByte_at 61 _ _ (seg_free hk fun j _ h => HNO.out j h), seg_len _ _ _ (by have := HL.out; omega)]
            rfl
          unfold beforeB
          rw [e2, if_neg (by omega)]
          rfl
        have HB := hide hb
        have hxz : (x.extract 0 k).size ≤ 8388608 := by simp [ByteArray.size_extract]; omega
        clear he hb
        go_wp2_with (first | (go_at_call 13; refine (trimModel_any (x.extract 0 k) _ hxz).mono ?_; rintro e w' ⟨rfl, m, rfl⟩) | fail)
        go_ret
        exact ⟨by rw [HB.out]; rfl, m, rfl⟩
      · have he' : (bt x k == 61) = false := by simpa using he
        have HE := hide he
        clear he
        go_wp2
        go_round
        case rel => exact ⟨k + 1, by go_num, by omega, fun j h2 => by
          by_cases h3 : j = k
          · rw [h3]; exact HE.out
          · exact HNO.out j (by omega)⟩
        case measure => simp [intOf]; omega
    · have hke : k = x.size := by omega
      subst hke
      have hb : beforeB x = x := by
        unfold beforeB
        rw [if_pos]
        refine indexByte_none 61 _ ?_
        have := seg_free (s := x) (c := 61) (i := 0) (Nat.le_refl _) fun j _ h => HNO.out j h
        rwa [← HL.out, seg_all, List.drop_zero] at this
      have HB := hide hb
      clear hb
      go_wp2
      go_ret
      exact ⟨by rw [HB.out, HT.out]; rfl, 0, rfl⟩
end Go.Proofs.Qxb6616118aDoor
