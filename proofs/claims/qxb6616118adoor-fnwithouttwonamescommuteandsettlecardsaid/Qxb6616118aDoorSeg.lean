/-
  The model's white space at a part of a string.
-/
import Derived.Test.Qxb6616118aDoorSpEq
namespace Go.Proofs.Qxb6616118aDoor
open Go.PlainAid

/-- The bytes of s from i to j. -/
def seg (a : List UInt8) (i j : Nat) : List UInt8 := (a.drop i).take (j - i)
theorem seg_cons (a : List UInt8) (i j : Nat) (h : i < j) (hj : j ≤ a.length) : seg a i j = a[i]'(by omega) :: seg a (i + 1) j := by
  unfold seg
  rw [List.drop_eq_getElem_cons (by omega), show j - i = (j - (i + 1)) + 1 by omega, List.take_succ_cons]
theorem seg_nil (a : List UInt8) (i : Nat) : seg a i i = [] := by simp [seg]
theorem seg_len (a : List UInt8) (i j : Nat) (hj : j ≤ a.length) : (seg a i j).length = j - i := by simp [seg]; omega
theorem seg_snoc (a : List UInt8) (i j : Nat) (h : i < j) (hj : j ≤ a.length) : seg a i j = seg a i (j - 1) ++ [a[j - 1]'(by omega)] := by
  unfold seg
  rw [show j - i = (j - 1 - i) + 1 by omega, List.take_add_one, List.getElem?_drop, show i + (j - 1 - i) = j - 1 by omega, List.getElem?_eq_getElem (by omega)]
  rfl
theorem seg_drop (a : List UInt8) (i j k : Nat) : (seg a i j).drop k = seg a (i + k) j := by
  unfold seg
  rw [List.drop_take, List.drop_drop]
  congr 1
  omega
theorem seg_take (a : List UInt8) (i j k : Nat) (h : k ≤ j - i) : (seg a i j).take k = seg a i (i + k) := by
  unfold seg
  rw [List.take_take]
  congr 1
  omega
theorem bt_at (s : ByteArray) (k : Nat) (h : k < s.data.toList.length) : bt s k = ((s.data.toList[k].toNat : Nat) : Int) := by
  unfold bt
  rw [dif_pos (by simpa using h)]
  rfl
theorem spAt_eq (s : ByteArray) (i j : Nat) (h : i < j) (hj : j ≤ s.size) : spAt s i j = Lib.headSpace (seg s.data.toList i j) := by
  have hl : s.data.toList.length = s.size := by simp
  unfold spAt
  rw [seg_cons _ _ _ h (by omega), bt_at s i (by omega)]
  generalize hc : s.data.toList[i]'(by omega) = c
  by_cases h1 : one c
  · rw [if_pos h1, head_one h1]
  rw [if_neg h1]
  by_cases h2 : i + 1 < j
  · rw [seg_cons _ _ _ h2 (by omega), bt_at s (i + 1) (by omega)]
    generalize hd : s.data.toList[i + 1]'(by omega) = d
    by_cases t2 : two c d
    · rw [if_pos ⟨by omega, t2⟩, head_two t2]
    rw [if_neg (fun e => t2 e.2)]
    by_cases h3 : i + 2 < j
    · rw [seg_cons _ _ _ h3 (by omega), bt_at s (i + 2) (by omega)]
      generalize he : s.data.toList[i + 2]'(by omega) = e
      by_cases t3 : three c d e
      · rw [if_pos ⟨by omega, t3⟩, head_three t3]
      · rw [if_neg (fun q => t3 q.2)]
        refine (head_none h1 (fun d' r hr => ?_) (fun d' e' r hr => ?_)).symm
        · cases hr; exact t2
        · cases hr; exact t3
    · rw [if_neg (fun q => by have := q.1; omega)]
      have hij : i + 1 + 1 = j := by omega
      rw [hij, seg_nil]
      refine (head_none h1 (fun d' r hr => ?_) (fun d' e' r hr => ?_)).symm
      · cases hr; exact t2
      · cases hr
  · rw [if_neg (fun q => by have := q.1; omega), if_neg (fun q => by have := q.1; omega)]
    have hij : i + 1 = j := by omega
    rw [hij, seg_nil]
    exact (head_none h1 (fun d' r hr => by cases hr) (fun d' e' r hr => by cases hr)).symm
theorem spBe_eq (s : ByteArray) (i j : Nat) (h : i < j) (hj : j ≤ s.size) : spBe s i j = Lib.tailSpace (seg s.data.toList i j) := by
  have hl : s.data.toList.length = s.size := by simp
  unfold spBe
  rw [seg_snoc _ _ _ h (by omega), bt_at s (j - 1) (by omega)]
  generalize hc : s.data.toList[j - 1]'(by omega) = c
  by_cases h1 : one c
  · rw [if_pos h1, tail_one h1]
  rw [if_neg h1]
  by_cases h2 : i < j - 1
  · rw [seg_snoc _ _ _ h2 (by omega), bt_at s (j - 2) (by omega)]
    have e2 : j - 1 - 1 = j - 2 := by omega
    simp only [e2]
    generalize hd : s.data.toList[j - 2]'(by omega) = d
    rw [List.append_assoc, List.singleton_append]
    by_cases t2 : two d c
    · rw [if_pos ⟨by omega, t2⟩, tail_two t2]
    rw [if_neg (fun e => t2 e.2)]
    by_cases h3 : i < j - 2
    · rw [seg_snoc _ _ _ h3 (by omega), bt_at s (j - 3) (by omega)]
      have e3 : j - 2 - 1 = j - 3 := by omega
      simp only [e3]
      generalize he : s.data.toList[j - 3]'(by omega) = e
      rw [List.append_assoc, List.singleton_append]
      by_cases t3 : three e d c
      · rw [if_pos ⟨by omega, t3⟩, tail_three t3]
      · rw [if_neg (fun q => t3 q.2)]
        refine (tail_none (fun t x hr => ?_) (fun t x y hr => ?_) (fun t x y z hr => ?_)).symm
        · have := List.append_inj_right' (s₁ := seg s.data.toList i (j - 3) ++ [e, d]) (t₁ := [c]) (s₂ := t) (t₂ := [x]) (by simpa using hr) rfl
          cases this; exact h1
        · have := List.append_inj_right' (s₁ := seg s.data.toList i (j - 3) ++ [e]) (t₁ := [d, c]) (s₂ := t) (t₂ := [x, y]) (by simpa using hr) rfl
          cases this; exact t2
        · have := List.append_inj_right' (s₁ := seg s.data.toList i (j - 3)) (t₁ := [e, d, c]) (s₂ := t) (t₂ := [x, y, z]) (by simpa using hr) rfl
          cases this; exact t3
    · rw [if_neg (fun q => by have := q.1; omega)]
      have hij : j - 2 = i := by omega
      rw [hij, seg_nil]
      refine (tail_none (fun t x hr => ?_) (fun t x y hr => ?_) (fun t x y z hr => ?_)).symm
      · have := List.append_inj_right' (s₁ := [d]) (t₁ := [c]) (s₂ := t) (t₂ := [x]) (by simpa using hr) rfl
        cases this; exact h1
      · have := List.append_inj_right' (s₁ := []) (t₁ := [d, c]) (s₂ := t) (t₂ := [x, y]) (by simpa using hr) rfl
        cases this; exact t2
      · have := congrArg List.length hr
        simp at this
  · rw [if_neg (fun q => by have := q.1; omega), if_neg (fun q => by have := q.1; omega)]
    have hij : j - 1 = i := by omega
    rw [hij, seg_nil]
    refine (tail_none (fun t x hr => ?_) (fun t x y hr => ?_) (fun t x y z hr => ?_)).symm
    · have := List.append_inj_right' (s₁ := []) (t₁ := [c]) (s₂ := t) (t₂ := [x]) (by simpa using hr) rfl
      cases this; exact h1
    · have := congrArg List.length hr
      simp at this
    · have := congrArg List.length hr
      simp at this
/-! The two strips, in full. -/
theorem stripL_full {l : List UInt8} (h : Lib.headSpace l ≠ 0) : Lib.stripL l.length l = Lib.stripL (l.drop (Lib.headSpace l)).length (l.drop (Lib.headSpace l)) := by
  have key : ∀ n m (x : List UInt8), x.length ≤ n → n ≤ m → Lib.stripL m x = Lib.stripL n x := by
    intro n m x hn hm
    induction m with
    | zero => have : n = 0 := by omega
              subst this; rfl
    | succ m ih =>
      by_cases e : n = m + 1
      · rw [e]
      · rw [stripL_succ m x (by omega), ih (by omega)]
  cases hl : l.length with
  | zero =>
    have : l = [] := List.length_eq_zero_iff.1 hl
    subst this
    exact absurd headSpace_nil h
  | succ n =>
    rw [Lib.stripL, if_neg h]
    exact key _ _ _ (Nat.le_refl _) (by simp; omega)
theorem stripR_full {l : List UInt8} (h : Lib.tailSpace l ≠ 0) : Lib.stripR l.length l = Lib.stripR (l.take (l.length - Lib.tailSpace l)).length (l.take (l.length - Lib.tailSpace l)) := by
  have key : ∀ n m (x : List UInt8), x.length ≤ n → n ≤ m → Lib.stripR m x = Lib.stripR n x := by
    intro n m x hn hm
    induction m with
    | zero => have : n = 0 := by omega
              subst this; rfl
    | succ m ih =>
      by_cases e : n = m + 1
      · rw [e]
      · rw [stripR_succ m x (by omega), ih (by omega)]
  cases hl : l.length with
  | zero =>
    have : l = [] := List.length_eq_zero_iff.1 hl
    subst this
    exact absurd tailSpace_nil h
  | succ n =>
    rw [Lib.stripR, if_neg h, hl]
    exact key _ _ _ (Nat.le_refl _) (by simp; omega)
theorem stripR_any {l : List UInt8} {n : Nat} (h : l.length ≤ n) : Lib.stripR n l = Lib.stripR l.length l := by
  induction n with
  | zero => have : l.length = 0 := by omega
            rw [this]
  | succ m ih =>
    by_cases e : l.length = m + 1
    · rw [e]
    · rw [stripR_succ m l (by omega), ih (by omega)]
theorem head_le (l : List UInt8) : Lib.headSpace l ≤ l.length := by
  by_cases h : Lib.headSpace l = 0
  · omega
  · unfold Lib.headSpace at *
    cases hf : Lib.spaceSeqs.find? (·.isPrefixOf l) with
    | none => rw [hf] at h; simp at h
    | some q =>
      have hp : q.isPrefixOf l = true := List.find?_some (p := fun x : List UInt8 => x.isPrefixOf l) hf
      have : q <+: l := by simpa using hp
      simpa using this.length_le
theorem tail_le (l : List UInt8) : Lib.tailSpace l ≤ l.length := by
  by_cases h : Lib.tailSpace l = 0
  · omega
  · unfold Lib.tailSpace at *
    cases hf : Lib.spaceSeqs.find? (·.isSuffixOf l) with
    | none => rw [hf] at h; simp at h
    | some q =>
      have hp : q.isSuffixOf l = true := List.find?_some (p := fun x : List UInt8 => x.isSuffixOf l) hf
      have : q <:+ l := by simpa using hp
      simpa using this.length_le
end Go.Proofs.Qxb6616118aDoor
