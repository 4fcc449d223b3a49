/-
  Strings in parts, trimmed, cut: the plain words.
-/
import Derived.Lib.SpaceUEq
import Derived.Lib.Bytealg
namespace Go.Proofs.Qxb6616118aDoor

/-- The parts of l between its bytes c. -/
def pieces (c : UInt8) : List UInt8 → List (List UInt8)
  | [] => [[]]
  | b :: l => if b = c then [] :: pieces c l else match pieces c l with
    | [] => [[b]]
    | p :: ps => (b :: p) :: ps
theorem pieces_ne (c : UInt8) (l : List UInt8) : pieces c l ≠ [] := by
  cases l with
  | nil => simp [pieces]
  | cons b l => unfold pieces; split; · simp
                split <;> simp
theorem indexByte_cases (c : UInt8) (l : List UInt8) : (Lib.indexByte l c = -1 ∧ pieces c l = [l]) ∨ (∃ i : Nat, Lib.indexByte l c = i ∧ i < l.length ∧ pieces c l = l.take i :: pieces c (l.drop (i + 1))) := by
  induction l with
  | nil => exact Or.inl ⟨rfl, rfl⟩
  | cons b l ih =>
    unfold Lib.indexByte
    by_cases hb : b = c
    · subst hb
      exact Or.inr ⟨0, by simp, by simp, by simp [pieces]⟩
    · have hb' : (b == c) = false := by simpa using hb
      rcases ih with ⟨h1, h2⟩ | ⟨i, h1, h2, h3⟩
      · exact Or.inl ⟨by simp [hb', h1], by simp [pieces, hb, h2]⟩
      · refine Or.inr ⟨i + 1, ?_, by simp; omega, ?_⟩
        · rw [h1]
          have : ((i : Int) == -1) = false := by simp
          simp [hb', this]
        · simp [pieces, hb, h3]

/-- .. as strings. -/
def piecesB (s : ByteArray) : List ByteArray := (pieces 59 s.data.toList).map fun l => ⟨l.toArray⟩
theorem ofList (s : ByteArray) : (⟨s.data.toList.toArray⟩ : ByteArray) = s := by cases s; simp
theorem take_str (s : ByteArray) (i : Nat) : (⟨(s.data.toList.take i).toArray⟩ : ByteArray) = s.extract 0 i := by
  apply ByteArray.ext
  apply Array.toList_inj.1
  simp [ByteArray.data_extract, Array.toList_extract]
theorem drop_str (s : ByteArray) (i : Nat) : (s.extract i s.size).data.toList = s.data.toList.drop i := by
  simp [ByteArray.data_extract, Array.toList_extract]
  exact List.take_of_length_le (by simp)
theorem piecesB_cases (s : ByteArray) : (Lib.indexByte s.data.toList 59 = -1 ∧ piecesB s = [s]) ∨ (∃ i : Nat, Lib.indexByte s.data.toList 59 = i ∧ i < s.size ∧ piecesB s = s.extract 0 i :: piecesB (s.extract (i + 1) s.size)) := by
  rcases indexByte_cases 59 s.data.toList with ⟨h1, h2⟩ | ⟨i, h1, h2, h3⟩
  · exact Or.inl ⟨h1, by unfold piecesB; rw [h2]; simp⟩
  · refine Or.inr ⟨i, h1, by simpa using h2, ?_⟩
    unfold piecesB
    rw [h3, List.map_cons, take_str, drop_str]

def trimB (s : ByteArray) : ByteArray := ⟨(Lib.trimSpaceD s.data.toList).toArray⟩
theorem stripL_le : ∀ (f : Nat) (l : List UInt8), (Lib.stripL f l).length ≤ l.length
  | 0, l => Nat.le_refl _
  | f + 1, l => by
    unfold Lib.stripL
    split
    · exact Nat.le_refl _
    · exact Nat.le_trans (stripL_le f _) (by simp)
theorem stripR_le : ∀ (f : Nat) (l : List UInt8), (Lib.stripR f l).length ≤ l.length
  | 0, l => Nat.le_refl _
  | f + 1, l => by
    unfold Lib.stripR
    split
    · exact Nat.le_refl _
    · exact Nat.le_trans (stripR_le f _) (by simp)
theorem trimB_le (s : ByteArray) : (trimB s).size ≤ s.size := by
  have h : (trimB s).size = (Lib.trimSpaceU s.data.toList).length := by
    rw [Lib.trimSpaceU_eq]
    show (Lib.trimSpaceD s.data.toList).toArray.size = _
    simp
  rw [h]
  have := Nat.le_trans (stripR_le s.data.toList.length (Lib.stripL s.data.toList.length s.data.toList)) (stripL_le s.data.toList.length s.data.toList)
  simpa [Lib.trimSpaceU] using this
/-- The text before the first '=', or the whole; the text behind it, or none. -/
def beforeB (s : ByteArray) : ByteArray := if Lib.indexByte s.data.toList 61 = -1 then s else s.extract 0 (Lib.indexByte s.data.toList 61).toNat
def afterB (s : ByteArray) : ByteArray := if Lib.indexByte s.data.toList 61 = -1 then ByteArray.empty else s.extract ((Lib.indexByte s.data.toList 61).toNat + 1) s.size

def foundB (s : ByteArray) : Bool := if Lib.indexByte s.data.toList 61 = -1 then false else true

theorem beforeB_le (s : ByteArray) : (beforeB s).size ≤ s.size := by
  unfold beforeB
  split
  · exact Nat.le_refl _
  · simp [ByteArray.size_extract]; omega
theorem afterB_le (s : ByteArray) : (afterB s).size ≤ s.size := by
  unfold afterB
  split
  · simp
  · simp [ByteArray.size_extract]

end Go.Proofs.Qxb6616118aDoor
