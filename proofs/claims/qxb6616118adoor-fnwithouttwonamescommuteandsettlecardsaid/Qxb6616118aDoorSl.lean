/-
  A slice of strings in memory, told by the list of its strings.
-/
import Derived.Test.Qxb6616118aDoorDrop
import Derived.WalkSpells
namespace Go.Proofs.Qxb6616118aDoor
open Go.RowKit

/-- v is a slice of the strings ss in the world w (of an empty one nothing is known but its length). -/
def StrSl (w : World) (v : Value) (ss : List ByteArray) : Prop :=
  ∃ a cap, v = .slice a ss.length cap ∧ ∀ j, j < ss.length → ∃ b off, a = some ⟨b, off, none⟩ ∧ b < w.heap.size ∧ w.cell? ⟨b, off + j, none⟩ = some (.string (ss.getD j ByteArray.empty))

theorem StrSl.below {w w' : World} {v : Value} {ss : List ByteArray} (h : StrSl w v ss) {B : Nat} (hB : w.heap.size ≤ B) (hb : Below B w w') : StrSl w' v ss := by
  obtain ⟨a, cap, hv, h⟩ := h
  refine ⟨a, cap, hv, fun j hj => ?_⟩
  obtain ⟨b, off, h1, h2, h3⟩ := h j hj
  refine ⟨b, off, h1, Nat.lt_of_lt_of_le h2 hb.size, ?_⟩
  rw [← h3]
  exact hb.cell (p := ⟨b, off + j, none⟩) (Nat.lt_of_lt_of_le h2 hB)
theorem StrSl.nil (w : World) : StrSl w (.slice none 0 0) [] := ⟨none, 0, rfl, fun j hj => by simp at hj⟩

/-- .. as long as the blocks of cells lie as they lay. -/
theorem StrSl.blocks {w w' : World} {v : Value} {ss : List ByteArray} (h : StrSl w v ss) (hs : w.heap.size ≤ w'.heap.size) (hb : ∀ (k : Nat) c t z, w.heap[k]? = some (Obj.cells c t z) → w'.heap[k]? = w.heap[k]?) : StrSl w' v ss := by
  obtain ⟨a, cap, hv, h⟩ := h
  refine ⟨a, cap, hv, fun j hj => ?_⟩
  obtain ⟨b, off, h1, h2, h3⟩ := h j hj
  refine ⟨b, off, h1, Nat.lt_of_lt_of_le h2 hs, ?_⟩
  rw [← h3]
  unfold World.cell? at h3 ⊢
  cases hk : w.heap[b]? with
  | none => rw [hk] at h3; simp at h3
  | some o =>
    cases o with
    | cells c t z =>
      have := hb b c t z hk
      simp only [this, hk]
    | _ => rw [hk] at h3; simp at h3
theorem StrSl.shut {B : Nat} {w w' : World} {v : Value} {ss : List ByteArray} (h : StrSl w v ss) (hs : Shut B w w') : StrSl w' v ss :=
  h.blocks (by rw [hs.size]; exact Nat.le_refl _) fun k c t z hk => hs.block k (.inr (by intro d; rw [hk]; simp))
theorem StrSl.of_owns {w : World} {v : Value} {base : Nat} {ss : List ByteArray} (h : w.ownsRow base 9 1 v ss.length (ss.map Value.string)) : StrSl w v ss := by
  rcases Joins.ownsRow_forms h with ⟨rfl, hn⟩ | ⟨g, cap, rfl⟩
  · have : ss = [] := List.length_eq_zero_iff.1 hn
    subst this
    exact StrSl.nil w
  · refine ⟨some ⟨g, 0, none⟩, cap, rfl, fun j hj => ⟨g, 0, rfl, (h.lt g rfl).2, ?_⟩⟩
    have hx : (ss.map Value.string)[j]? = some (.string (ss.getD j ByteArray.empty)) := by simp [List.getD, List.getElem?_eq_getElem hj]
    rw [Nat.zero_add, h.cellAt j (by omega), hx]
/-- All cells and marks below B read as before. -/
theorem bcell {B : Nat} {W w1 : World} (hb : Below B W w1) : (∀ b o, b < B → w1.cell? ⟨b, o, none⟩ = W.cell? ⟨b, o, none⟩) ∧ (∀ b o, b < B → w1.frozen? ⟨b, o, none⟩ = W.frozen? ⟨b, o, none⟩) :=
  ⟨fun b o h => hb.cell (p := ⟨b, o, none⟩) h, fun b o h => hb.frozen (p := ⟨b, o, none⟩) h⟩

/-- The lengths of so many strings, added up. -/
def lenSum : List ByteArray → Nat
  | [] => 0
  | s :: r => s.size + lenSum r
theorem lenSum_append : ∀ a b : List ByteArray, lenSum (a ++ b) = lenSum a + lenSum b
  | [], b => by simp [lenSum]
  | s :: r, b => by simp only [List.cons_append, lenSum, lenSum_append r b]; omega
theorem take_snoc' (ss : List ByteArray) (k : Nat) (h : k < ss.length) : ss.take (k + 1) = ss.take k ++ [ss.getD k ByteArray.empty] := by
  rw [List.take_add_one]
  simp [List.getD, List.getElem?_eq_getElem h]
theorem lenSum_take_succ (ss : List ByteArray) (k : Nat) (h : k < ss.length) : lenSum (ss.take (k + 1)) = lenSum (ss.take k) + (ss.getD k ByteArray.empty).size := by
  rw [take_snoc' ss k h, lenSum_append]
  simp [lenSum]
theorem lenSum_mem {ss : List ByteArray} {s : ByteArray} (h : s ∈ ss) : s.size ≤ lenSum ss := by
  induction ss with
  | nil => cases h
  | cons a r ih =>
    rcases List.mem_cons.1 h with rfl | h
    · simp only [lenSum]; omega
    · have := ih h
      simp only [lenSum]; omega
theorem lenSum_getD (ss : List ByteArray) (k : Nat) : (ss.getD k ByteArray.empty).size ≤ lenSum ss := by
  by_cases h : k < ss.length
  · rw [List.getD, List.getElem?_eq_getElem h]
    exact lenSum_mem (List.getElem_mem h)
  · rw [List.getD, List.getElem?_eq_none (by omega)]
    exact Nat.zero_le _
theorem ret_int {k : IntKind} {a b : Int} (h : a = b) : Ending.returned (.int k a) = .returned (.int k b) := by rw [h]
theorem ret_bool {a b : Bool} (h : a = b) : Ending.returned (.bool a) = .returned (.bool b) := by rw [h]
end Go.Proofs.Qxb6616118aDoor
