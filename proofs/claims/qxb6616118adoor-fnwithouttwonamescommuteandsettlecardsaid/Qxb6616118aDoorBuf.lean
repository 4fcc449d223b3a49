/-
  The model's buffer beside what it keeps.
-/
import Derived.Test.Qxb6616118aDoorField
import Derived.Lib.AppendStr
import Derived.Laws.IdiomStrings
import Derived.Laws.BytesArg
namespace Go.Proofs.Qxb6616118aDoor
open Go.RowKit

def bcells (J : List UInt8) : List Value := J.map fun b => Value.int .u8 b.toNat
theorem rows_apart {W : World} {base base' e e' size size' n n' : Nat} {v v' : Value} {xs xs' : List Value} (h : W.ownsRow base e size v n xs) (h' : W.ownsRow base' e' size' v' n' xs') (hne : e ≠ e') : v.ownBlock = none ∨ v.ownBlock ≠ v'.ownBlock := by
  rcases h.2 with ⟨rfl, -⟩ | ⟨g, cap, cur, rfl, -, hh, -⟩
  · exact .inl rfl
  · right
    rcases h'.2 with ⟨rfl, -⟩ | ⟨g', cap', cur', rfl, -, hh', -⟩
    · intro e; cases e
    · intro e
      cases e
      rw [hh] at hh'
      cases hh'
      exact hne rfl
/-- The row of what is kept, and the buffer. -/
structure Both (w W : World) (kv : Value) (kl : List ByteArray) (bv : Value) (J : List UInt8) : Prop where
  below : Below w.heap.size w W
  kept : W.ownsRow w.heap.size 9 1 kv kl.length (kl.map Value.string)
  buf : W.ownsRow w.heap.size 5 1 bv J.length (bcells J)
theorem Both.drewN {w W : World} {kv bv : Value} {kl : List ByteArray} {J : List UInt8} (h : Both w W kv kl bv J) (n : Nat) : Both w (W.drewN n) kv kl bv J := ⟨⟨h.below.os, h.below.tape, h.below.output, h.below.size, h.below.block⟩, h.kept, h.buf⟩
theorem Both.alloc {w W : World} {kv bv : Value} {kl : List ByteArray} {J : List UInt8} (h : Both w W kv kl bv J) (o : Obj) : Both w (W.alloc o) kv kl bv J := ⟨h.below.alloc h.below.size o, h.kept.alloc o, h.buf.alloc o⟩
theorem Both.step {w W W' : World} {kv bv bv' : Value} {kl : List ByteArray} {J J' : List UInt8} (h : Both w W kv kl bv J) (hg : W.grownBy W' bv.ownBlock) (ho : W'.ownsRow w.heap.size 5 1 bv' J'.length (bcells J')) : Both w W' kv kl bv' J' :=
  ⟨h.below.grown hg h.below.size (fun k hk => (h.buf.lt k hk).1), h.kept.kept hg (rows_apart h.kept h.buf (by decide)), ho⟩
theorem info5 : (Tryd.prog.info? 5).map (fun i => (i.zero, i.size, i.bytes)) = some (some (.int .u8 0), 1, 1) := by kernel_rfl
theorem twoBytes : ∀ u ∈ [Value.int .u8 59, Value.int .u8 32], u.oneCell' = true := by
  intro u hu
  simp at hu
  rcases hu with rfl | rfl <;> rfl
theorem run_bytes_string {w : World} {base : Nat} {v : Value} {J : List UInt8} (h : w.ownsRow base 5 1 v J.length (bcells J)) : (convert 37 9 v).run Tryd.prog w = .ok (.string ⟨J.toArray⟩) w := by
  rcases h.2 with ⟨rfl, h0⟩ | ⟨g, cap', cur, rfl, hgb, hh, hnc, hcm, hcs, ht⟩
  · have : J = [] := List.length_eq_zero_iff.1 h0
    subst this
    exact run_convert_bytes_nil (P := Tryd.prog) w 37 5 Tryd.underlying37 Tryd.underlying5 0 0 9 Tryd.underlying9
  · refine run_convert_bytes_back (P := Tryd.prog) w 37 9 5 ⟨g, 0, none⟩ cap' J Tryd.underlying37 Tryd.underlying5 Tryd.underlying9 fun j hj => ?_
    have e2 : (⟨g, 0, none⟩ : Addr).add j = ⟨g, j, none⟩ := by
      unfold Addr.add
      split
      · simp_all
      · simp
    rw [e2, h.cellAt j (by omega)]
    simp [bcells, List.getElem?_eq_getElem hj]
theorem wpList_bytes_string {w : World} {ops : Array Oper} {rest : List Oper} {o : Oper} {a : Act} {Q : Exit → Act → World → Prop} {base : Nat} {v : Value} {J : List UInt8} (hg : o.guard = none) (x : Operand) (hop : o.op = Op.convert 37 9 x) (hx : a.eval x = v) (h : w.ownsRow base 5 1 v J.length (bcells J))
    (hK : wpList Tryd.prog ops Q rest (a.put o.dst (.string ⟨J.toArray⟩)) w) : wpList Tryd.prog ops Q (o :: rest) a w := by
  refine wpList_plain hg fun K' hK' => ?_
  have hr := run_bytes_string h
  unfold Oper.wp
  simp only [execOp, hop, hx, Sem.run_bind, hr, Result.andThen_ok]
  exact hK' _ _ hK
theorem buf_str {W : World} {base : Nat} {bv : Value} {J : List UInt8} {x : ByteArray} (h : W.ownsRow base 5 1 bv (J.length + x.size) (bcells J ++ Lib.strCells x)) : W.ownsRow base 5 1 bv (J ++ x.data.toList).length (bcells (J ++ x.data.toList)) := by
  have e1 : (J ++ x.data.toList).length = J.length + x.size := by simp
  have e2 : bcells (J ++ x.data.toList) = bcells J ++ Lib.strCells x := by simp [bcells, Lib.strCells]
  rw [e1, e2]
  exact h
/-- One text more. -/
theorem join_snoc (ks : List ByteArray) (x : ByteArray) : Lib.join ((ks ++ [x]).map (·.data.toList)) [59, 32] = if ks.length = 0 then x.data.toList else Lib.join (ks.map (·.data.toList)) [59, 32] ++ [59, 32] ++ x.data.toList := by
  cases ks with
  | nil => simp [Lib.join_one]
  | cons y ys =>
    rw [List.cons_append, List.map_cons, Lib.join_cons, List.map_cons, Lib.join_cons, if_neg (by simp)]
    simp [Lib.joinTail]
theorem keep2_snoc (n1 n2 : ByteArray) (pre : List ByteArray) (x : ByteArray) : keep2 n1 n2 (pre ++ [x]) = if dropP n1 n2 x then keep2 n1 n2 pre else keep2 n1 n2 pre ++ [x] := by
  unfold keep2
  rw [List.filter_append]
  cases h : dropP n1 n2 x <;> simp [h]
theorem join_le_wt (ks : List ByteArray) : (Lib.join (ks.map (·.data.toList)) [59, 32]).length ≤ wt ks := by
  by_cases h : ks = []
  · subst h; simp [Lib.join_nil]
  · have := join_wt ks h
    omega
theorem keep2_wt (n1 n2 : ByteArray) {f : ByteArray} {ps : List ByteArray} {st : Nat} (h : Prog f ps st) : wt (keep2 n1 n2 (txt ps)) ≤ 2 * f.size + 2 :=
  Nat.le_trans (wt_filter _ _) (Nat.le_trans (Nat.le_trans (wt_filter _ _) (wt_trim _)) h.wt)
end Go.Proofs.Qxb6616118aDoor
