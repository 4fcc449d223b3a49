/-
  The model: how far it is in a field.
-/
import Derived.Test.Qxb6616118aDoorName
import Derived.Test.Qxb6616118aDoorWeigh
namespace Go.Proofs.Qxb6616118aDoor
open Go.RowKit Go.PlainAid

def Prog (f : ByteArray) (ps : List ByteArray) (st : Nat) : Prop := (st ≤ f.size ∧ piecesB f = ps ++ piecesB (f.extract st f.size)) ∨ (st = f.size + 1 ∧ piecesB f = ps)
theorem Prog.start (f : ByteArray) : Prog f [] 0 := .inl ⟨Nat.zero_le _, by simp⟩
theorem ext_list (s : ByteArray) (i j : Nat) : (⟨(seg s.data.toList i j).toArray⟩ : ByteArray) = s.extract i j := by
  rw [← seg_str]
theorem Prog.step {f : ByteArray} {ps : List ByteArray} {st k : Nat} (h : piecesB f = ps ++ piecesB (f.extract st f.size)) (h1 : st ≤ k) (h2 : k ≤ f.size) (hno : ∀ j, st ≤ j → j < k → bt f j ≠ 59) (heq : k < f.size → bt f k = 59) : Prog f (ps ++ [f.extract st k]) (k + 1) := by
  have hl : f.data.toList.length = f.size := by simp
  have hfree : (59 : UInt8) ∉ seg f.data.toList st k := seg_free h2 hno
  have e0 : (f.extract st f.size).data.toList = f.data.toList.drop st := by rw [seg_str, ← hl, seg_all]
  have e1 : f.data.toList.drop st = seg f.data.toList st k ++ f.data.toList.drop k := drop_seg _ _ _ h1 (by omega)
  by_cases hk : k < f.size
  · refine .inl ⟨by omega, ?_⟩
    rw [h]
    have : piecesB (f.extract st f.size) = f.extract st k :: piecesB (f.extract (k + 1) f.size) := by
      unfold piecesB
      rw [e0, e1, bt_eq (c := 59) hk (heq hk), pieces_app _ hfree, List.map_cons, ext_list]
      congr 3
      rw [seg_str, ← hl, seg_all]
    rw [this]
    simp
  · have hke : k = f.size := by omega
    subst hke
    refine .inr ⟨rfl, ?_⟩
    rw [h]
    have : piecesB (f.extract st f.size) = [f.extract st f.size] := by
      unfold piecesB
      rw [e0, e1, show f.data.toList.drop f.size = [] from List.drop_eq_nil_of_le (by omega), List.append_nil, pieces_none hfree, List.map_cons, ext_list]
      rfl
    rw [this]
theorem Prog.wt {f : ByteArray} {ps : List ByteArray} {st : Nat} (h : Prog f ps st) : Go.Proofs.Qxb6616118aDoor.wt ps ≤ 2 * f.size + 2 := by
  have hw := wt_pieces f
  rcases h with ⟨-, h⟩ | ⟨-, h⟩
  · rw [h] at hw
    unfold Go.Proofs.Qxb6616118aDoor.wt at hw ⊢
    rw [List.map_append, List.sum_append] at hw
    omega
  · rw [← h]; exact hw
theorem Prog.len {f : ByteArray} {ps : List ByteArray} {st : Nat} (h : Prog f ps st) : ps.length ≤ f.size + 1 := by
  have hp : (piecesB f).length ≤ f.size + 1 := by
    unfold piecesB
    rw [List.length_map]
    have := pieces_len 59 f.data.toList
    simpa using this
  rcases h with ⟨-, h⟩ | ⟨-, h⟩
  · rw [h, List.length_append] at hp; omega
  · rw [← h]; exact hp
def dropP (n1 n2 x : ByteArray) : Bool := dropB n1 x || dropB n2 x
def hit2 (n1 n2 : ByteArray) (fs : List ByteArray) : Bool := fs.any fun f => (textsB f).any (dropP n1 n2)
theorem hit2_succ (n1 n2 : ByteArray) (fs : List ByteArray) (k : Nat) (h : k < fs.length) : hit2 n1 n2 (fs.take (k + 1)) = (hit2 n1 n2 (fs.take k) || (textsB (fs.getD k ByteArray.empty)).any (dropP n1 n2)) := by
  unfold hit2
  rw [take_snoc' fs k h]
  simp
def keep2 (n1 n2 : ByteArray) (xs : List ByteArray) : List ByteArray := xs.filter fun x => !dropP n1 n2 x
def left2 (n1 n2 : ByteArray) (fs : List ByteArray) : List ByteArray := ((fs.map fun f => keep2 n1 n2 (textsB f)).filter fun ys => !ys.isEmpty).map joinB
theorem left2_succ (n1 n2 : ByteArray) (fs : List ByteArray) (k : Nat) (h : k < fs.length) : left2 n1 n2 (fs.take (k + 1)) = left2 n1 n2 (fs.take k) ++ if (keep2 n1 n2 (textsB (fs.getD k ByteArray.empty))).length = 0 then [] else [joinB (keep2 n1 n2 (textsB (fs.getD k ByteArray.empty)))] := by
  unfold left2
  rw [take_snoc' fs k h]
  simp only [List.map_append, List.filter_append, List.map_cons, List.map_nil]
  cases keep2 n1 n2 (textsB (fs.getD k ByteArray.empty)) <;> simp
theorem left2_len (n1 n2 : ByteArray) (fs : List ByteArray) : (left2 n1 n2 fs).length ≤ fs.length := by
  unfold left2
  rw [List.length_map]
  exact Nat.le_trans (List.length_filter_le _ _) (by simp)
def without2 (n1 n2 : ByteArray) (fs : List ByteArray) : List ByteArray := if hit2 n1 n2 fs then left2 n1 n2 fs else fs
theorem trimB_idem (x : ByteArray) : trimB (trimB x) = trimB x := by
  have e : (trimB x).data.toList = Lib.trimSpaceU x.data.toList := by
    unfold trimB
    rw [Lib.trimSpaceU_eq]
  have e2 : (trimB (trimB x)).data.toList = Lib.trimSpaceU (trimB x).data.toList := by
    rw [Lib.trimSpaceU_eq]
    rfl
  apply ByteArray.ext
  apply Array.toList_inj.1
  rw [e2, e, trim_idem]
theorem txt_any_snoc (p : ByteArray → Bool) (ps : List ByteArray) (x : ByteArray) : (txt (ps ++ [x])).any p = if (trimB x).size = 0 then (txt ps).any p else ((txt ps).any p || p (trimB x)) := by
  rw [txt_snoc]
  split <;> simp
theorem isEmpty_size (t : ByteArray) : t.toList.isEmpty = decide (t.size = 0) := by
  rw [Lib.toList_data]
  cases h : t.data.toList with
  | nil =>
    have : t.size = 0 := by rw [Lib.size_eq, h]; rfl
    simp [this]
  | cons b r =>
    have : t.size ≠ 0 := by rw [Lib.size_eq, h]; simp
    simp [this]
end Go.Proofs.Qxb6616118aDoor
