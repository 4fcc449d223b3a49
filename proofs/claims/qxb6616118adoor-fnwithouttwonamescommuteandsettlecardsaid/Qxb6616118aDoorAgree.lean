/-
  What the walks compute obeys the plain law.
-/
import Derived.Test.Qxb6616118aDoorField
import Derived.Test.Qxb6616118aDoorCoreTwo
namespace Go.Proofs.Qxb6616118aDoor

def toL (x : ByteArray) : List UInt8 := x.data.toList
theorem toL_inj {x y : ByteArray} (h : toL x = toL y) : x = y := by
  apply ByteArray.ext
  apply Array.toList_inj.1
  exact h
theorem map_toL_inj : ∀ {xs ys : List ByteArray}, xs.map toL = ys.map toL → xs = ys
  | [], [], _ => rfl
  | [], _ :: _, h => by cases h
  | _ :: _, [], h => by cases h
  | x :: xs, y :: ys, h => by
    simp only [List.map_cons, List.cons.injEq] at h
    rw [toL_inj h.1, map_toL_inj h.2]
theorem toL_mk (l : List UInt8) : toL ⟨l.toArray⟩ = l := by simp [toL]
theorem toL_trim (x : ByteArray) : toL (trimB x) = Lib.trimSpaceU (toL x) := by
  unfold trimB
  rw [toL_mk, Lib.trimSpaceU_eq]
  rfl
theorem toL_pieces (f : ByteArray) : (piecesB f).map toL = pieces 59 (toL f) := by
  unfold piecesB
  rw [List.map_map]
  conv => rhs; rw [← List.map_id (pieces 59 (toL f))]
  exact List.map_congr_left fun l _ => toL_mk l
theorem toL_empty (x : ByteArray) : (x.size != 0) = !(toL x).isEmpty := by
  unfold toL
  cases h : x.data.toList with
  | nil =>
    have : x.size = 0 := by rw [Lib.size_eq, h]; rfl
    simp [this]
  | cons b r =>
    have : x.size ≠ 0 := by rw [Lib.size_eq, h]; simp
    simp [this]
theorem map_filter_toL (p : ByteArray → Bool) (q : List UInt8 → Bool) (h : ∀ x, p x = q (toL x)) (xs : List ByteArray) : (xs.filter p).map toL = (xs.map toL).filter q := by
  rw [List.filter_map]
  congr 1
  exact List.filter_congr fun x _ => h x
theorem toL_texts (f : ByteArray) : (textsB f).map toL = textsL (toL f) := by
  unfold textsB txt textsL
  rw [map_filter_toL _ (fun l => !l.isEmpty) toL_empty, List.map_map, ← toL_pieces, List.map_map]
  congr 1
  exact List.map_congr_left fun x _ => toL_trim x
theorem toL_before (x : ByteArray) : toL (beforeB x) = if Lib.indexByte (toL x) 61 = -1 then toL x else (toL x).take (Lib.indexByte (toL x) 61).toNat := by
  unfold beforeB
  show toL (if Lib.indexByte (toL x) 61 = -1 then x else _) = _
  split
  · rfl
  · have := take_str x (Lib.indexByte x.data.toList 61).toNat
    rw [← this, toL_mk]
    rfl
theorem drop_name (n x : ByteArray) : dropB n x = (nameL (toL x) == toL n) := by
  unfold dropB nameL
  rw [Lib.toList_data, Lib.toList_data, ← toL_before, ← toL_trim]
  rfl
def hitG (p : List UInt8 → Bool) (fs : List ByteArray) : Bool := fs.any fun f => (textsB f).any fun x => p (nameL (toL x))
def leftG (p : List UInt8 → Bool) (fs : List ByteArray) : List ByteArray := ((fs.map fun f => (textsB f).filter fun x => !p (nameL (toL x))).filter fun ys => !ys.isEmpty).map joinB
def withoutG (p : List UInt8 → Bool) (fs : List ByteArray) : List ByteArray := if hitG p fs then leftG p fs else fs
theorem hitG_L (p : List UInt8 → Bool) (fs : List ByteArray) : hitG p fs = foundL p (fs.map toL) := by
  unfold hitG foundL
  rw [List.any_map]
  congr 1
  funext f
  show _ = (textsL (toL f)).any _
  rw [← toL_texts, List.any_map]
  rfl
theorem leftG_L (p : List UInt8 → Bool) (fs : List ByteArray) : (leftG p fs).map toL = leftL p (fs.map toL) := by
  unfold leftG leftL
  rw [List.map_map]
  induction fs with
  | nil => rfl
  | cons f fs ih =>
    have hk : ((textsB f).filter fun x => !p (nameL (toL x))).map toL = keepL p (toL f) := by
      unfold keepL
      rw [map_filter_toL _ (fun l => !p (nameL l)) (fun _ => rfl), toL_texts]
    simp only [List.map_cons]
    rw [← hk]
    cases hf : (textsB f).filter fun x => !p (nameL (toL x)) with
    | nil => simpa using ih
    | cons a l =>
      rw [List.filter_cons_of_pos (by simp), List.filter_cons_of_pos (by simp), List.map_cons, List.map_cons, ih]
      congr 1
theorem withoutG_L (p : List UInt8 → Bool) (fs : List ByteArray) : (withoutG p fs).map toL = withoutL p (fs.map toL) := by
  unfold withoutG withoutL
  rw [hitG_L]
  split
  · exact leftG_L p fs
  · rfl
theorem withoutB_G (n : ByteArray) (fs : List ByteArray) : (if hitB n fs then leftB n fs else fs) = withoutG (fun x => x == toL n) fs := by
  have h1 : hitB n fs = hitG (fun x => x == toL n) fs := by
    unfold hitB hitG
    congr 1
    funext f
    congr 1
    funext x
    exact drop_name n x
  have h2 : leftB n fs = leftG (fun x => x == toL n) fs := by
    unfold leftB leftG keepB
    congr 2
    refine List.map_congr_left fun f _ => List.filter_congr fun x _ => ?_
    rw [drop_name]
  unfold withoutG
  rw [h1, h2]
theorem without2_G (n1 n2 : ByteArray) (fs : List ByteArray) : without2 n1 n2 fs = withoutG (fun x => x == toL n1 || x == toL n2) fs := by
  have h0 : ∀ x, dropP n1 n2 x = (nameL (toL x) == toL n1 || nameL (toL x) == toL n2) := fun x => by unfold dropP; rw [drop_name, drop_name]
  have h1 : hit2 n1 n2 fs = hitG (fun x => x == toL n1 || x == toL n2) fs := by
    unfold hit2 hitG
    congr 1
    funext f
    congr 1
    funext x
    exact h0 x
  have h2 : left2 n1 n2 fs = leftG (fun x => x == toL n1 || x == toL n2) fs := by
    unfold left2 leftG keep2
    congr 2
    refine List.map_congr_left fun f _ => List.filter_congr fun x _ => ?_
    rw [h0]
  unfold without2 withoutG
  rw [h1, h2]
/-- Dropping n, as it is written in the walk. -/
def outB (n : ByteArray) (fs : List ByteArray) : List ByteArray := if hitB n fs then leftB n fs else fs
theorem outB_one (n : ByteArray) (fs : List ByteArray) : outB n fs = without2 n n fs := by
  unfold outB
  rw [withoutB_G, without2_G]
  congr 1
  funext x
  simp
theorem outB_two (n1 n2 : ByteArray) (fs : List ByteArray) : outB n2 (outB n1 fs) = without2 n1 n2 fs := by
  apply map_toL_inj
  unfold outB
  rw [withoutB_G n2, withoutG_L, withoutB_G n1, withoutG_L, without_two, without2_G, withoutG_L]
theorem outB_swap (n1 n2 : ByteArray) (fs : List ByteArray) : outB n1 (outB n2 fs) = without2 n1 n2 fs := by
  rw [outB_two, without2_G, without2_G]
  congr 1
  funext x
  exact Bool.or_comm _ _
theorem outB_again (n1 n2 : ByteArray) (fs : List ByteArray) : outB n1 (without2 n1 n2 fs) = without2 n1 n2 fs := by
  apply map_toL_inj
  unfold outB
  rw [withoutB_G n1, withoutG_L, without2_G, withoutG_L]
  exact without_again _ _ _ fun x h => by simp only [Bool.or_eq_true]; exact .inl h
theorem outB_len (n : ByteArray) (fs : List ByteArray) : (outB n fs).length ≤ fs.length := by
  unfold outB
  split
  · exact leftB_len _ _
  · exact Nat.le_refl _
end Go.Proofs.Qxb6616118aDoor
