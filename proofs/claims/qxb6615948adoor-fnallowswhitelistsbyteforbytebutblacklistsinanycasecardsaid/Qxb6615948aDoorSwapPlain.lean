/-
  The plain law: names.Fold does not see an ASCII letter's case.
-/
import Derived.Test.Qxb6615948aDoorFoldStr
import Derived.Test.Qxb6615948aDoorSwap
namespace Go.Proofs.Qxb6615948aDoor
open Go.Lib

theorem get_list (s : ByteArray) (i : Nat) : s.get! i = s.data.toList.getD i 0 := by
  obtain ⟨a⟩ := s
  show a[i]! = a.toList.getD i 0
  rw [List.getD, Array.getElem?_toList, getElem!_def]
  cases a[i]? <;> rfl

/-- The other case of a byte, as a number. -/
def swN (b : Nat) : Nat := if 97 ≤ b ∧ b ≤ 122 then b - 32 else if 65 ≤ b ∧ b ≤ 90 then b + 32 else b
theorem swapZ_nat (b : Nat) : swapZ (b : Int) = (swN b : Int) := by
  unfold swapZ swN
  by_cases h1 : 97 ≤ b ∧ b ≤ 122
  · rw [if_pos (by omega), if_pos h1]; omega
  · rw [if_neg (by omega), if_neg h1]
    by_cases h2 : 65 ≤ b ∧ b ≤ 90
    · rw [if_pos (by omega), if_pos h2]; omega
    · rw [if_neg (by omega), if_neg h2]
theorem swN_lt (b : Nat) (h : b < 256) : swN b < 256 := by
  unfold swN
  split
  · omega
  · split <;> omega
theorem swap_size (s : ByteArray) : (swapB s).size = s.size := by
  unfold swapB
  rw [strOfNums_size]
  simp [swapNums]
theorem swap_at (s : ByteArray) (i : Nat) : ((swapB s).get! i).toNat = swN (s.get! i).toNat := by
  rw [get_list, get_list]
  unfold swapB
  rw [strOfNums_data]
  unfold swapNums
  rw [List.map_map]
  by_cases h : i < s.data.toList.length
  · rw [List.getD, List.getElem?_map, List.getElem?_eq_getElem h, List.getD, List.getElem?_eq_getElem h]
    simp only [Option.map_some, Option.getD_some, Function.comp]
    rw [swapZ_nat]
    have := swN_lt _ (UInt8.toNat_lt (s.data.toList[i]))
    rw [Int.toNat_natCast, UInt8.toNat_ofNat', Nat.mod_eq_of_lt this]
  · rw [List.getD, List.getElem?_eq_none (by simpa using h), List.getD, List.getElem?_eq_none (by simpa using h)]
    rfl

theorem sw_or (b : Nat) : swN b = b ∨ (b / 64 ≠ 2 ∧ swN b / 64 ≠ 2) := by
  unfold swN
  split
  · omega
  · split <;> omega
theorem decodeN_bad1 (n b0 b1 b2 b3 : Nat) (h0 : 128 ≤ b0) (h : b1 / 64 ≠ 2) : decodeN n b0 b1 b2 b3 = (65533, 1) := by
  unfold decodeN
  rw [if_neg (by omega), if_neg (by omega), if_neg (by omega), if_neg (by omega)]
theorem decodeN_same2 (n b0 b1 b2 b2' b3 b3' : Nat) (h0 : 128 ≤ b0) (h : b2 / 64 ≠ 2) (h' : b2' / 64 ≠ 2) : decodeN n b0 b1 b2 b3 = decodeN n b0 b1 b2' b3' := by
  have n0 : ¬ b0 < 128 := by omega
  unfold decodeN
  by_cases c : b0 / 32 = 6 ∧ (1 < n ∧ b1 / 64 = 2)
  · rw [if_neg n0, if_neg n0, if_pos c, if_pos c]
  · rw [if_neg n0, if_neg n0, if_neg c, if_neg c]
    have d1 : ¬ (b0 / 16 = 14 ∧ (1 < n ∧ b1 / 64 = 2) ∧ (2 < n ∧ b2 / 64 = 2)) := by omega
    have d2 : ¬ (b0 / 16 = 14 ∧ (1 < n ∧ b1 / 64 = 2) ∧ (2 < n ∧ b2' / 64 = 2)) := by omega
    have e1 : ¬ (b0 / 8 = 30 ∧ (1 < n ∧ b1 / 64 = 2) ∧ (2 < n ∧ b2 / 64 = 2) ∧ (3 < n ∧ b3 / 64 = 2)) := by omega
    have e2 : ¬ (b0 / 8 = 30 ∧ (1 < n ∧ b1 / 64 = 2) ∧ (2 < n ∧ b2' / 64 = 2) ∧ (3 < n ∧ b3' / 64 = 2)) := by omega
    rw [if_neg d1, if_neg d2, if_neg e1, if_neg e2]
theorem decodeN_same3 (n b0 b1 b2 b3 b3' : Nat) (h0 : 128 ≤ b0) (h : b3 / 64 ≠ 2) (h' : b3' / 64 ≠ 2) : decodeN n b0 b1 b2 b3 = decodeN n b0 b1 b2 b3' := by
  have n0 : ¬ b0 < 128 := by omega
  unfold decodeN
  by_cases c : b0 / 32 = 6 ∧ (1 < n ∧ b1 / 64 = 2)
  · rw [if_neg n0, if_neg n0, if_pos c, if_pos c]
  · rw [if_neg n0, if_neg n0, if_neg c, if_neg c]
    by_cases d : b0 / 16 = 14 ∧ (1 < n ∧ b1 / 64 = 2) ∧ (2 < n ∧ b2 / 64 = 2)
    · rw [if_pos d, if_pos d]
    · have e1 : ¬ (b0 / 8 = 30 ∧ (1 < n ∧ b1 / 64 = 2) ∧ (2 < n ∧ b2 / 64 = 2) ∧ (3 < n ∧ b3 / 64 = 2)) := by omega
      have e2 : ¬ (b0 / 8 = 30 ∧ (1 < n ∧ b1 / 64 = 2) ∧ (2 < n ∧ b2 / 64 = 2) ∧ (3 < n ∧ b3' / 64 = 2)) := by omega
      rw [if_neg d, if_neg d, if_neg e1, if_neg e2]
/-- Beyond ASCII the decoder sees no difference. -/
theorem decodeN_swap (n b0 b1 b2 b3 : Nat) (h0 : 128 ≤ b0) : decodeN n b0 (swN b1) (swN b2) (swN b3) = decodeN n b0 b1 b2 b3 := by
  rcases sw_or b1 with e1 | ⟨e1, e1'⟩
  · rw [e1]
    rcases sw_or b2 with e2 | ⟨e2, e2'⟩
    · rw [e2]
      rcases sw_or b3 with e3 | ⟨e3, e3'⟩
      · rw [e3]
      · exact decodeN_same3 n b0 b1 b2 _ _ h0 e3' e3
    · exact decodeN_same2 n b0 b1 _ _ _ _ h0 e2' e2
  · rw [decodeN_bad1 n b0 _ _ _ h0 e1', decodeN_bad1 n b0 _ _ _ h0 e1]

theorem decodeN_ascii (n b0 b1 b2 b3 : Nat) (h : b0 < 128) : decodeN n b0 b1 b2 b3 = (b0, 1) := by
  unfold decodeN
  rw [if_pos h]
theorem foldRune_low (b : Int) (h : b < 128) : foldRuneR b = lowR b := by
  unfold foldRuneR
  rw [if_pos h]
theorem foldRune_swap (b : Nat) (h : b < 128) : foldRuneR ((swN b : Nat) : Int) = foldRuneR (b : Int) := by
  have hs : swN b < 128 := by
    unfold swN
    split
    · omega
    · split <;> omega
  rw [foldRune_low _ (by omega), foldRune_low _ (by omega)]
  unfold lowR swN
  by_cases h1 : 97 ≤ b ∧ b ≤ 122
  · rw [if_pos h1, if_pos (show (65 : Int) ≤ ((b - 32 : Nat) : Int) ∧ ((b - 32 : Nat) : Int) ≤ 90 by omega), if_neg (show ¬ ((65 : Int) ≤ (b : Int) ∧ (b : Int) ≤ 90) by omega)]
    omega
  · rw [if_neg h1]
    by_cases h2 : 65 ≤ b ∧ b ≤ 90
    · rw [if_pos h2, if_neg (show ¬ ((65 : Int) ≤ ((b + 32 : Nat) : Int) ∧ ((b + 32 : Nat) : Int) ≤ 90) by omega), if_pos (show (65 : Int) ≤ (b : Int) ∧ (b : Int) ≤ 90 by omega)]
      omega
    · rw [if_neg h2]
theorem decode_swap (s : ByteArray) (pos : Nat) : (Utf8.decode (swapB s) pos).2 = (Utf8.decode s pos).2 ∧ foldRuneR (Utf8.decode (swapB s) pos).1 = foldRuneR (Utf8.decode s pos).1 := by
  rw [decode_at, decode_at, swap_size, swap_at, swap_at, swap_at, swap_at]
  by_cases h0 : (s.get! pos).toNat < 128
  · have hs : swN (s.get! pos).toNat < 128 := by
      unfold swN
      split
      · omega
      · split <;> omega
    rw [decodeN_ascii _ _ _ _ _ h0, decodeN_ascii _ _ _ _ _ hs]
    exact ⟨rfl, foldRune_swap _ h0⟩
  · have hs : swN (s.get! pos).toNat = (s.get! pos).toNat := by
      unfold swN
      split
      · omega
      · split <;> omega
    rw [hs, decodeN_swap _ _ _ _ _ (by omega)]
    exact ⟨rfl, rfl⟩
theorem foldFrom_swap (s : ByteArray) : ∀ f pos, foldFrom (swapB s) f pos = foldFrom s f pos
  | 0, _ => rfl
  | f + 1, pos => by
    unfold foldFrom
    rw [swap_size, (decode_swap s pos).1, (decode_swap s pos).2, foldFrom_swap s f]

/-! ### Fold's first loop saves work and changes nothing -/
theorem foldFrom_shift (s : ByteArray) (i : Nat) (hi : i ≤ s.size) : ∀ f pos, foldFrom (s.extract i s.size) f pos = foldFrom s f (i + pos)
  | 0, _ => rfl
  | f + 1, pos => by
    have hsz : (s.extract i s.size).size = s.size - i := by simp
    have hg : ∀ j, (s.extract i s.size).get! j = s.get! (i + j) := fun j => by
      rw [get_list, get_list, extract_to_end, List.getD, List.getElem?_drop, List.getD]
    have hd : Utf8.decode (s.extract i s.size) pos = Utf8.decode s (i + pos) := by
      rw [decode_at, decode_at, hg, hg, hg, hg, hsz, ← Nat.add_assoc, ← Nat.add_assoc, ← Nat.add_assoc]
      congr 1
      omega
    unfold foldFrom
    rw [hd, foldFrom_shift s i hi f, hsz, ← Nat.add_assoc]
    by_cases h : pos < s.size - i
    · rw [if_pos h, if_pos (by omega)]
    · rw [if_neg h, if_neg (by omega)]

theorem tw_all {α : Type} (p : α → Bool) : ∀ (l : List α) (k : Nat) (x : α), k < (l.takeWhile p).length → l[k]? = some x → p x = true
  | [], k, x, h, _ => by simp at h
  | y :: r, 0, x, h, hx => by
    simp at hx
    subst hx
    rw [List.takeWhile_cons] at h
    split at h
    · assumption
    · simp at h
  | y :: r, k + 1, x, h, hx => by
    rw [List.takeWhile_cons] at h
    split at h
    · simp at h hx
      exact tw_all p r k x h hx
    · simp at h

theorem plain_step (s : ByteArray) (k : Nat) (h : k < stopAt s) : ∀ f, foldFrom s (f + 1) k = s.data.toList.getD k 0 :: foldFrom s f (k + 1) := by
  intro f
  have hle := stop_le s
  have hk : k < s.size := by omega
  have hp := tw_all plainC s.data.toList k s[k] h (data_at s k hk)
  have hb : s[k].toNat < 128 ∧ (s[k].toNat < 65 ∨ 90 < s[k].toNat) := by
    unfold plainC at hp
    simpa using hp
  have hgd : s.data.toList.getD k 0 = s[k] := by rw [List.getD, data_at s k hk]; rfl
  have hd : Utf8.decode s k = (s[k].toNat, 1) := by
    rw [decode_at, get_list, hgd]
    exact decodeN_ascii _ _ _ _ _ hb.1
  have hf : foldRuneR ((s[k].toNat : Nat) : Int) = (s[k].toNat : Int) := by
    unfold foldRuneR lowR
    rw [if_pos (by omega), if_neg (by omega)]
  have hff : foldFrom s (f + 1) k = encodeRune (foldRuneR (Utf8.decode s k).1) ++ foldFrom s f (k + (Utf8.decode s k).2) := by simp [foldFrom, hk]
  have he : encodeRune ((s[k].toNat : Nat) : Int) = [s[k]] := by
    unfold encodeRune
    rw [encodeRuneZ_one (by omega) (by omega)]
    simp
  rw [hff, hd, hf, hgd, he]
  rfl

theorem plain_steps (s : ByteArray) : ∀ k, k ≤ stopAt s → ∀ m, foldFrom s (k + m) 0 = s.data.toList.take k ++ foldFrom s m k
  | 0, _, m => by simp
  | k + 1, h, m => by
    have hle := stop_le s
    have hk : k < s.data.toList.length := by
      have : s.data.toList.length = s.size := by simp
      omega
    rw [show k + 1 + m = k + (m + 1) by omega, plain_steps s k (by omega) (m + 1), plain_step s k (by omega) m, List.take_add_one, List.getD, List.getElem?_eq_getElem hk]
    simp

/-- Fold, without its first loop. -/
theorem foldB_all (s : ByteArray) : foldB s = ⟨(foldFrom s s.size 0).toArray⟩ := by
  have hle := stop_le s
  have hp := plain_steps s (stopAt s) (Nat.le_refl _) (s.size - stopAt s)
  rw [show stopAt s + (s.size - stopAt s) = s.size by omega] at hp
  rw [hp]
  unfold foldB
  by_cases h : stopAt s = s.size
  · rw [if_pos h, h, Nat.sub_self]
    have : s.data.toList.take s.size = s.data.toList := List.take_of_length_le (by simp)
    rw [this]
    obtain ⟨a⟩ := s
    simp [foldFrom]
  · rw [if_neg h, foldFrom_shift s (stopAt s) hle, Nat.add_zero, extract_data]
    simp

/-- THE KEY OF A NAME IS THE KEY OF ITS CASE-SWAP. -/
theorem foldB_swap (s : ByteArray) : foldB (swapB s) = foldB s := by
  rw [foldB_all, foldB_all, swap_size, foldFrom_swap]
end Go.Proofs.Qxb6615948aDoor
