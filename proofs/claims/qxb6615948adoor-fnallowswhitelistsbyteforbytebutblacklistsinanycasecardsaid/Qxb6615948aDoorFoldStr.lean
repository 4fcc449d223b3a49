/-
  Plain functions: names.Fold as a function on strings.
-/
import Derived.Test.Qxb6615948aDoorFoldPlain
import Derived.Lib.DecodeNEq
import Derived.Lib.Strings
import Derived.Lib.IndexBytes
namespace Go.Proofs.Qxb6615948aDoor
open Go.Lib

/-- A byte that Fold's first loop steps over: ASCII, no upper-case letter. -/
def plainC (c : UInt8) : Bool := decide (c.toNat < 128) && (decide (c.toNat < 65) || decide (90 < c.toNat))
/-- Where Fold's first loop stops. -/
def stopAt (s : ByteArray) : Nat := (s.data.toList.takeWhile plainC).length
/-- The runes of s from pos on, each folded and written. -/
def foldFrom (s : ByteArray) : Nat → Nat → List UInt8
  | 0, _ => []
  | f + 1, pos => if pos < s.size then encodeRune (foldRuneR (Utf8.decode s pos).1) ++ foldFrom s f (pos + (Utf8.decode s pos).2) else []
def foldB (s : ByteArray) : ByteArray :=
  if stopAt s = s.size then s else ⟨((s.extract 0 (stopAt s)).data.toList ++ foldFrom (s.extract (stopAt s) s.size) (s.size - stopAt s) 0).toArray⟩

theorem foldFrom_end (s : ByteArray) (f pos : Nat) (h : ¬ pos < s.size) : foldFrom s f pos = [] := by
  cases f with
  | zero => rfl
  | succ f => simp [foldFrom, h]

theorem tw_le {α : Type} (p : α → Bool) : ∀ l : List α, (l.takeWhile p).length ≤ l.length
  | [] => by simp
  | x :: r => by
    have := tw_le p r
    rw [List.takeWhile_cons]
    split <;> simp <;> omega
theorem tw_step {α : Type} (p : α → Bool) : ∀ (l : List α) (k : Nat) (x : α), k ≤ (l.takeWhile p).length → l[k]? = some x → p x = true → k + 1 ≤ (l.takeWhile p).length
  | [], k, x, _, h, _ => by simp at h
  | y :: r, 0, x, _, h, hp => by
    simp at h
    subst h
    simp [hp]
  | y :: r, k + 1, x, hk, h, hp => by
    rw [List.takeWhile_cons] at hk ⊢
    split at hk
    · rename_i hy
      rw [if_pos hy]
      simp at hk h ⊢
      exact tw_step p r k x hk h hp
    · simp at hk
theorem tw_stop {α : Type} (p : α → Bool) : ∀ (l : List α) (k : Nat) (x : α), k ≤ (l.takeWhile p).length → l[k]? = some x → p x = false → (l.takeWhile p).length = k
  | [], k, x, _, h, _ => by simp at h
  | y :: r, 0, x, _, h, hp => by
    simp at h
    subst h
    simp [hp]
  | y :: r, k + 1, x, hk, h, hp => by
    rw [List.takeWhile_cons] at hk ⊢
    split at hk
    · rename_i hy
      rw [if_pos hy]
      simp at hk h ⊢
      exact tw_stop p r k x hk h hp
    · simp at hk

theorem data_at (s : ByteArray) (k : Nat) (h : k < s.size) : s.data.toList[k]? = some s[k] := by
  have h' : k < s.data.size := h
  rw [Array.getElem?_toList, Array.getElem?_eq_getElem h']
  rfl
theorem stop_le (s : ByteArray) : stopAt s ≤ s.size := by
  have := tw_le plainC s.data.toList
  simpa [stopAt] using this
theorem stop_step (s : ByteArray) (k : Nat) (h : k < s.size) (hk : k ≤ stopAt s) (h1 : s[k].toNat < 128) (h2 : s[k].toNat < 65 ∨ 90 < s[k].toNat) : k + 1 ≤ stopAt s :=
  tw_step plainC _ k s[k] hk (data_at s k h) (by
    unfold plainC
    rcases h2 with h2 | h2 <;> simp [h1, h2])
theorem stop_stop (s : ByteArray) (k : Nat) (h : k < s.size) (hk : k ≤ stopAt s) (h1 : 128 ≤ s[k].toNat ∨ (65 ≤ s[k].toNat ∧ s[k].toNat ≤ 90)) : stopAt s = k :=
  tw_stop plainC _ k s[k] hk (data_at s k h) (by
    unfold plainC
    rcases h1 with h1 | h1
    · simp; omega
    · simp; omega)

theorem rune_top (s : ByteArray) (pos : Nat) : (Utf8.decode s pos).1 ≤ 1114111 := by
  rw [decode_at]
  have h0 := UInt8.toNat_lt (s.get! pos)
  unfold decodeN
  repeat' split
  all_goals (simp only; omega)
theorem rune_width (s : ByteArray) (pos : Nat) : 1 ≤ (Utf8.decode s pos).2 := by
  rw [decode_at]
  unfold decodeN
  repeat' split
  all_goals simp

theorem encodeRune_le (r : Int) : (encodeRune r).length ≤ 4 := by
  unfold encodeRune
  rw [List.length_map]
  exact (encodeRuneZ_length r).2
theorem foldFrom_len (s : ByteArray) : ∀ f pos, (foldFrom s f pos).length ≤ 4 * f
  | 0, _ => by simp [foldFrom]
  | f + 1, pos => by
    unfold foldFrom
    split
    · have a := encodeRune_le (foldRuneR (Utf8.decode s pos).1)
      have b := foldFrom_len s f (pos + (Utf8.decode s pos).2)
      rw [List.length_append]
      omega
    · simp
theorem foldB_size (s : ByteArray) : (foldB s).size ≤ 5 * s.size := by
  unfold foldB
  split
  · omega
  · have h := stop_le s
    have a := foldFrom_len (s.extract (stopAt s) s.size) (s.size - stopAt s) 0
    show ((s.extract 0 (stopAt s)).data.toList ++ _).toArray.size ≤ _
    rw [List.size_toArray, List.length_append]
    have b : (s.extract 0 (stopAt s)).data.toList.length ≤ s.size := by
      rw [extract_data]
      have := List.length_take_le (stopAt s - 0) (s.data.toList.drop 0)
      omega
    omega
end Go.Proofs.Qxb6615948aDoor
