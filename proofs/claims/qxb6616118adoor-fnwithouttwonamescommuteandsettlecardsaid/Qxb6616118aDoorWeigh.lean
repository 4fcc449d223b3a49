/-
  How long what is kept of a field can be.
-/
import Derived.Test.Qxb6616118aDoorCoreTwo
namespace Go.Proofs.Qxb6616118aDoor
open Go.RowKit

def wt (xs : List ByteArray) : Nat := (xs.map fun x => x.size + 2).sum
theorem wt_cons (x : ByteArray) (xs : List ByteArray) : wt (x :: xs) = x.size + 2 + wt xs := by simp [wt]
theorem wt_filter (p : ByteArray → Bool) : ∀ xs : List ByteArray, wt (xs.filter p) ≤ wt xs
  | [] => Nat.le_refl _
  | x :: xs => by
    have ih := wt_filter p xs
    rw [List.filter_cons]
    split
    · rw [wt_cons, wt_cons]; omega
    · rw [wt_cons]; omega
theorem wt_trim : ∀ xs : List ByteArray, wt (xs.map trimB) ≤ wt xs
  | [] => Nat.le_refl _
  | x :: xs => by
    have ih := wt_trim xs
    have := trimB_le x
    rw [List.map_cons, wt_cons, wt_cons]; omega
theorem wt_pieces (f : ByteArray) : wt (piecesB f) ≤ 2 * f.size + 2 := by
  have h1 := pieces_lens 59 f.data.toList
  have h2 := pieces_len 59 f.data.toList
  have h3 : wt (piecesB f) = Lib.lens (pieces 59 f.data.toList) + 2 * (pieces 59 f.data.toList).length := by
    unfold wt piecesB Lib.lens
    generalize pieces 59 f.data.toList = l
    induction l with
    | nil => rfl
    | cons a l ih =>
      have e : ByteArray.size ⟨a.toArray⟩ = a.length := by show a.toArray.size = _; simp
      simp only [List.map_cons, List.sum_cons, List.length_cons] at ih ⊢
      rw [ih, e]
      omega
  have h4 : f.data.toList.length = f.size := by simp
  omega
theorem wt_lens (xs : List ByteArray) : wt xs = 2 * xs.length + Lib.lens (xs.map (·.data.toList)) := by
  unfold wt Lib.lens
  induction xs with
  | nil => rfl
  | cons a l ih =>
    have h4 : a.data.toList.length = a.size := by simp
    simp only [List.map_cons, List.sum_cons, List.length_cons] at ih ⊢
    rw [ih, h4]
    omega
theorem join_wt : ∀ (xs : List ByteArray), xs ≠ [] → (Lib.join (xs.map (·.data.toList)) [59, 32]).length + 2 = wt xs
  | [], h => absurd rfl h
  | x :: xs, _ => by
    rw [List.map_cons, Lib.join_cons, wt_cons, List.length_append, Lib.joinTail_length]
    have h4 : x.data.toList.length = x.size := by simp
    have h5 := wt_lens xs
    simp only [List.length_map, List.length_cons, List.length_nil]
    omega
theorem keep_wt (name f : ByteArray) : wt (keepB name (textsB f)) ≤ 2 * f.size + 2 :=
  Nat.le_trans (wt_filter _ _) (Nat.le_trans (Nat.le_trans (wt_filter _ _) (wt_trim _)) (wt_pieces f))
theorem join_keep_len (name f : ByteArray) : (Lib.join ((keepB name (textsB f)).map (·.data.toList)) [59, 32]).length ≤ 2 * f.size := by
  by_cases h : keepB name (textsB f) = []
  · rw [h]
    simp [Lib.join_nil]
  · have := join_wt _ h
    have := keep_wt name f
    omega
theorem joinB_size (xs : List ByteArray) : (joinB xs).size = (Lib.join (xs.map (·.data.toList)) [59, 32]).length := by
  show (Lib.join (xs.map (·.data.toList)) [59, 32]).toArray.size = _
  simp
theorem textsB_len (f : ByteArray) : (textsB f).length ≤ f.size + 1 := by
  have h := pieces_len 59 f.data.toList
  have h4 : f.data.toList.length = f.size := by simp
  have := txt_len (piecesB f)
  unfold textsB
  unfold piecesB at this ⊢
  rw [List.length_map] at this
  omega
theorem left_size (name : ByteArray) (fs : List ByteArray) (B : Nat) (h : ∀ s ∈ fs, s.size ≤ B) : ∀ s ∈ leftB name fs, s.size ≤ 2 * B := by
  intro s hs
  unfold leftB at hs
  obtain ⟨ys, hy, rfl⟩ := List.mem_map.1 hs
  obtain ⟨f, hf, rfl⟩ := List.mem_map.1 (List.mem_filter.1 hy).1
  rw [joinB_size]
  have := join_keep_len name f
  have := h f hf
  omega
/-- What Header.Clone does at a header of two fields. -/
def CloneC : Prop := ∀ (M : Nat) (cv ov : Value) (cs os : List ByteArray) (w : World), w.heap[M]? = some (.map (es2 cv ov) 2) → StrSl w cv cs → StrSl w ov os → cs.length ≤ 1048576 → os.length ≤ 1048576 →
    Calls Tryd.prog 21 #[.map (some M)] w fun e w' => ∃ M2 cv2 ov2, e = .returned (.map (some M2)) ∧ w.heap.size ≤ M2 ∧ Below w.heap.size w w' ∧ StrSl w' ov2 os ∧
      (w'.heap[M2]? = some (.map #[{ key := .string kC, val := cv2, born := 0 }, { key := .string kX, val := ov2, born := 1 }] 2) ∨ w'.heap[M2]? = some (.map #[{ key := .string kX, val := ov2, born := 0 }, { key := .string kC, val := cv2, born := 1 }] 2))
theorem two_forms {w' : World} {M2 : Nat} {cv2 ov2 : Value} (h : w'.heap[M2]? = some (.map #[{ key := .string kC, val := cv2, born := 0 }, { key := .string kX, val := ov2, born := 1 }] 2) ∨ w'.heap[M2]? = some (.map #[{ key := .string kX, val := ov2, born := 0 }, { key := .string kC, val := cv2, born := 1 }] 2)) :
    ∃ (es : Array MapEntry) (i b : Nat), w'.heap[M2]? = some (.map es 2) ∧ Instr.findNow .string (.string kC) es.toList 0 = some (some (i, cv2)) ∧ es.eraseIdxIfInBounds i = #[{ key := .string kX, val := ov2, born := b }] := by
  rcases h with h | h
  · exact ⟨_, 0, 1, h, by simp [Instr.findNow, Instr.sameNow, kCC], by simp [Array.eraseIdxIfInBounds]⟩
  · exact ⟨_, 1, 0, h, by simp [Instr.findNow, Instr.sameNow, kCC, kCX], by simp [Array.eraseIdxIfInBounds]⟩
theorem putObj_putObj (w : World) (k : Nat) (o o' : Obj) : (w.putObj k o).putObj k o' = w.putObj k o' := by
  simp [World.putObj]
end Go.Proofs.Qxb6616118aDoor
