/-
  strings.SplitSeq at a separator of one byte: what it yields, and its walk.
-/
import Derived.Test.Qxb6616118aDoorRange
import Derived.Test.Qxb6616118aDoorPieces
import Derived.Test.Qxb6616118aDoorShelf1
import Derived.Test.Qxb6616118aDoorRows
namespace Go.Proofs.Qxb6616118aDoor
open Go.RowKit
attribute [local go_sem] Oper.semAt_some wide_fn wide_depth Fence.inRound_fn Fence.inRound_depth

/-- How long the string in a box is. -/
def boxLen (W : World) (B : Nat) : Nat := match W.cell? ⟨B, 0, none⟩ with
  | some (.string s) => s.size
  | _ => 0

theorem pieces_len (c : UInt8) : ∀ l : List UInt8, (pieces c l).length ≤ l.length + 1
  | [] => by simp [pieces]
  | b :: l => by
    have ih := pieces_len c l
    unfold pieces
    split
    · simp; exact ih
    · cases h : pieces c l with
      | nil => exact absurd h (pieces_ne c l)
      | cons p ps =>
        rw [h] at ih
        simp at ih ⊢
        omega
theorem pre_le {pre : List ByteArray} {cur s : ByteArray} (h : pre ++ piecesB cur = piecesB s) : pre.length ≤ s.size := by
  have h1 := congrArg List.length h
  rw [List.length_append] at h1
  have h2 : (piecesB s).length ≤ s.size + 1 := by
    unfold piecesB
    rw [List.length_map]
    have := pieces_len 59 s.data.toList
    simpa using this
  have h3 : 0 < (piecesB cur).length := by
    unfold piecesB
    rw [List.length_map]
    exact List.length_pos_iff.2 (pieces_ne _ _)
  omega

set_option maxHeartbeats 1000000 in
theorem split_in (n l Bsep Bs Bv : Nat) (s : ByteArray) (J : List ByteArray → World → Prop) (W : World)
    (hJ : ∀ pre W1 v, J pre W1 → J pre (W1.setCell ⟨Bs, 0, none⟩ v))
    (hY : ∀ pre x W1, x.size ≤ 8388608 → pre.length ≤ s.size → J pre W1 → YieldAt Fence.wide (n - 1) Tryd.prog l #[.string x] W1 fun e W' => e = .returned (.bool true) ∧ J (pre ++ [x]) W' ∧ W'.heap[Bsep]? = W1.heap[Bsep]? ∧ W'.heap[Bs]? = W1.heap[Bs]? ∧ W'.heap[Bv]? = W1.heap[Bv]?)
    (hd1 : Bsep ≠ Bs) (hd2 : Bv ≠ Bs) (hsep : Boxed W Bsep 9 (.string ⟨#[59]⟩)) (hs : Boxed W Bs 9 (.string s)) (hv : Boxed W Bv 3 (.int .i64 0)) (hz : s.size ≤ 8388608) (h0 : J [] W) :
    CallsIn Fence.wide n Tryd.prog 37 #[.func (.yield l) #[] #[], .pointer (some ⟨Bsep, 0, none⟩), .pointer (some ⟨Bs, 0, none⟩), .pointer (some ⟨Bv, 0, none⟩)] W fun e W' => (∃ v, e = .returned v) ∧ ∃ xs, xs = piecesB s ∧ J xs W' := by
  refine callsIn_of_wp Tryd.func37 rfl trivial ?_ rfl
  simp only [Tryd.ntmps37, List.size_toArray, List.length_cons, List.length_nil, Nat.reduceAdd, Nat.reduceSub, Array.replicate_succ, Array.replicate_zero, List.push_toArray, List.append_toArray, List.nil_append, List.cons_append]
  have c1 := hsep.cell
  have c2 := hs.cell
  have c3 := hv.cell
  gi_wp2
  gi_loopw [] (fun wr => ∃ pre cur, J pre wr ∧ Boxed wr Bsep 9 (.string ⟨#[59]⟩) ∧ Boxed wr Bs 9 (.string cur) ∧ Boxed wr Bv 3 (.int .i64 0) ∧ cur.size ≤ 8388608 ∧ pre ++ piecesB cur = piecesB s) (fun wr => boxLen wr Bs)
  case atStart => exact ⟨[], s, h0, hsep, hs, hv, hz, rfl⟩
  case round =>
    obtain ⟨pre, cur, hJs, b1, b2, b3, hcz, heq⟩ := hrel
    clear c1 c2 c3
    have c1 := b1.cell
    have c2 := b2.cell
    have c3 := b3.cell
    have f2 := b2.frozen
    rcases piecesB_cases cur with ⟨hi, hp⟩ | ⟨i, hi, hin, hp⟩
    · obtain ⟨fn, tmps, assign, body, hy, hR⟩ := hY pre cur wr hcz (pre_le heq) hJs
      have HI := hide (fun w => Tryd.strings_Index_one cur 59 w)
      rw [hi] at HI
      gi_wp2_with (first | (gi_at_call 39; refine (callsIn_wide.2 (HI.out _)).mono ?_; rintro e w' ⟨rfl, rfl⟩) | fail)
      refine hR.mono ?_
      rintro e W3 ⟨rfl, hJ3, -, -, -⟩
      gi_wp2
      go_end0
      exact ⟨⟨_, rfl⟩, _, by rw [← heq, hp], hJ3⟩
    · have HI := hide (fun w => Tryd.strings_Index_one cur 59 w)
      rw [hi] at HI
      obtain ⟨fn, tmps, assign, body, hy, hR⟩ := hY pre (cur.extract 0 i) wr (by simp [ByteArray.size_extract]; omega) (pre_le heq) hJs
      have hln : boxLen wr Bs = cur.size := by unfold boxLen; rw [b2.cell]
      have hiz : (i : Int) < (cur.size : Int) := by omega
      have hiz2 : (i : Int) + 1 ≤ (cur.size : Int) := by omega
      gi_wp2_with (first | (gi_at_call 39; refine (callsIn_wide.2 (HI.out _)).mono ?_; rintro e w' ⟨rfl, rfl⟩) | fail)
      refine hR.mono ?_
      rintro e W3 ⟨rfl, hJ3, k1, k2, k3⟩
      have d1 : Boxed W3 Bsep 9 (.string ⟨#[59]⟩) := k1.trans b1
      have d2 : Boxed W3 Bs 9 (.string cur) := k2.trans b2
      have d3 : Boxed W3 Bv 3 (.int .i64 0) := k3.trans b3
      have e1 := d1.cell
      have e2 := d2.cell
      have g2 := d2.frozen
      have hd1 := hide hd1
      have hd2 := hide hd2
      clear k1 k2 k3 hy hR
      gi_wp2
      go_roundw
      case rel =>
        refine ⟨pre ++ [cur.extract 0 i], cur.extract (i + 1) cur.size, hJ _ _ _ hJ3, d1.other hd1.out _, d2.set _, d3.other hd2.out _, ?_, ?_⟩
        · simp [ByteArray.size_extract]; omega
        · rw [← heq, hp]; simp
      case measure =>
        rw [hln]
        unfold boxLen
        rw [(d2.set _).cell]
        simp [ByteArray.size_extract]
        omega
end Go.Proofs.Qxb6616118aDoor
