/-
  Laws for the walk of Header.Clone: each operation by its run.
-/
import Derived.Test.Qxb6616118aDoorIter
import Derived.Laws.CopyOwn
namespace Go.Proofs.Qxb6616118aDoor
open Go.RowKit

variable {w w' : World} {ops : Array Oper} {rest : List Oper} {o : Oper} {a : Act} {Q : Exit → Act → World → Prop}
theorem wpList_range_run {M c : Nat} {es : Array MapEntry} (hg : o.guard = none) (x : Operand) (hop : o.op = Op.range 33 x) (hx : a.eval x = .map (some M)) (hM : w.heap[M]? = some (.map es c))
    (hK : wpList Tryd.prog ops Q rest (a.put o.dst (.pointer (some ⟨w.heap.size, 0, none⟩))) (w.alloc (.mapIter (some M) c #[] c))) : wpList Tryd.prog ops Q (o :: rest) a w := by
  refine wpList_plain hg fun K' hK' => ?_
  unfold Oper.wp
  simp [execOp, hop, hx, run_range33 hM, Result.andThen]
  exact hK' _ _ hK
theorem wpList_next_run {v r : Value} (hg : o.guard = none) (x : Operand) (hop : o.op = Op.next x false) (hx : a.eval x = v) (hrun : ∀ t, (Instr.next v false t).run Tryd.prog w = .ok r w')
    (hK : wpList Tryd.prog ops Q rest (a.put o.dst r) w') : wpList Tryd.prog ops Q (o :: rest) a w := by
  refine wpList_plain hg fun K' hK' => ?_
  unfold Oper.wp
  simp [execOp, hop, hx, hrun, Result.andThen]
  exact hK' _ _ hK
theorem wpList_entry_run {v r : Value} (hg : o.guard = none) (x : Operand) (hop : o.op = Op.entry x) (hx : a.eval x = v) (hrun : (Instr.entry v).run Tryd.prog w = .ok r w)
    (hK : wpList Tryd.prog ops Q rest (a.put o.dst r) w) : wpList Tryd.prog ops Q (o :: rest) a w := by
  refine wpList_plain hg fun K' hK' => ?_
  unfold Oper.wp
  simp [execOp, hop, hx, hrun, Result.andThen]
  exact hK' _ _ hK
theorem wpList_update33 {M c : Nat} {es : Array MapEntry} {k : ByteArray} {v : Value} (hg : o.guard = none) (m x y : Operand) (hop : o.op = Op.mapUpdate 33 m x y) (hm : a.eval m = .map (some M)) (hx : a.eval x = .string k) (hy : a.eval y = v) (hM : w.heap[M]? = some (.map es c)) (h : Instr.findNow .string (.string k) es.toList 0 = some none)
    (hK : wpList Tryd.prog ops Q rest (a.put o.dst undef) (w.putObj M (.map (es.push { key := .string k, val := v, born := c }) (c + 1)))) : wpList Tryd.prog ops Q (o :: rest) a w := by
  refine wpList_plain hg fun K' hK' => ?_
  unfold Oper.wp
  simp [execOp, hop, hm, hx, hy, run_update33 v hM h, Result.andThen]
  exact hK' _ _ hK
theorem wpList_insert33 {M c : Nat} {es : Array MapEntry} {k : ByteArray} {v : Value} (hg : o.guard = none) (m x y : Operand) (hop : o.op = Op.insert 33 m x y) (hm : a.eval m = .map (some M)) (hx : a.eval x = .string k) (hy : a.eval y = v) (hM : w.heap[M]? = some (.map es c)) (h : Instr.findNow .string (.string k) es.toList 0 = some none)
    (hK : wpList Tryd.prog ops Q rest (a.put o.dst undef) (w.putObj M (.map (es.push { key := .string k, val := v, born := c }) (c + 1)))) : wpList Tryd.prog ops Q (o :: rest) a w := by
  refine wpList_plain hg fun K' hK' => ?_
  unfold Oper.wp
  simp [execOp, hop, hm, hx, hy, run_update33 v hM h, Result.andThen]
  exact hK' _ _ hK
theorem wpList_lookup33 {M c : Nat} {es : Array MapEntry} {k : ByteArray} {v : Value} (hg : o.guard = none) (m x : Operand) (hop : o.op = Op.lookup 33 m x false) (hm : a.eval m = .map (some M)) (hx : a.eval x = .string k) (hM : w.heap[M]? = some (.map es c)) (h : LooksTo es k v)
    (hK : wpList Tryd.prog ops Q rest (a.put o.dst v) w) : wpList Tryd.prog ops Q (o :: rest) a w := by
  refine wpList_plain hg fun K' hK' => ?_
  unfold Oper.wp
  simp [execOp, hop, hm, hx, run_lookup33 hM h, Result.andThen]
  exact hK' _ _ hK
theorem run_lenMap {M c : Nat} {es : Array MapEntry} (t : TypeId) (hM : w.heap[M]? = some (.map es c)) : (Builtin.len_ #[33] t #[.map (some M)]).run Tryd.prog w = .ok (goInt es.size) w := by
  simp [Builtin.len_, run_underlying Tryd.underlying33, MapKept.run_getObj_map hM, Result.andThen]
theorem wpList_lenMap {M c : Nat} {es : Array MapEntry} (hg : o.guard = none) (x : Operand) (hop : o.op = Op.call { callee := Callee.builtin Builtin.len, args := #[x], argTypes := #[33] }) (hx : a.eval x = .map (some M)) (hM : w.heap[M]? = some (.map es c))
    (hK : wpList Tryd.prog ops Q rest (a.put o.dst (goInt es.size)) w) : wpList Tryd.prog ops Q (o :: rest) a w := by
  refine wpList_plain hg fun K' hK' => ?_
  unfold Oper.wp
  simp [execOp, hop, resolve, invoke, builtin, hx, run_lenMap _ hM, Result.andThen]
  exact hK' _ _ hK
theorem run_sliceTo {ad : Addr} {L n : Nat} (hn : n ≤ L) : (Instr.sliceAt 22 (.slice (some ad) L L) none (some (.int .i64 n)) (some (.int .i64 n))).run Tryd.prog w = .ok (.slice (some ad) n n) w := by
  simp [Instr.sliceAt, Instr.slice, run_underlying Tryd.underlying22, Instr.sliceBounds, Instr.sliceBound, asIntOf, hn, Result.andThen, Tryd.sizeOf9, Addr.add]
theorem run_sliceFrom {g off L n : Nat} (hn : n ≤ L) : (Instr.sliceAt 22 (.slice (some ⟨g, off, none⟩) L L) (some (.int .i64 n)) none none).run Tryd.prog w = .ok (.slice (some (if L = n then ⟨g, off, none⟩ else ⟨g, off + n, none⟩)) (L - n) (L - n)) w := by
  simp [Instr.sliceAt, Instr.slice, run_underlying Tryd.underlying22, Instr.sliceBounds, Instr.sliceBound, asIntOf, hn, Result.andThen, Tryd.sizeOf9, Addr.add]
  by_cases h1 : L = n
  · simp [h1]
  · by_cases h2 : n = 0
    · subst h2
      simp [h1]
    · simp [h1, h2]
set_option maxRecDepth 8000 in
theorem wpList_sliceTo {ad : Addr} {L n : Nat} (hg : o.guard = none) (x y z : Operand) (hop : o.op = Op.slice 22 x none (some y) (some z)) (hx : a.eval x = .slice (some ad) L L) (hy : a.eval y = .int .i64 n) (hz : a.eval z = .int .i64 n) (hn : n ≤ L)
    (hK : wpList Tryd.prog ops Q rest (a.put o.dst (.slice (some ad) n n)) w) : wpList Tryd.prog ops Q (o :: rest) a w := by
  refine wpList_plain hg fun K' hK' => ?_
  unfold Oper.wp
  have hr := run_sliceTo (w := w) (ad := ad) hn
  have e : (execOp a.eval o).run Tryd.prog w = .ok (.value (.slice (some ad) n n)) w := by
    simp only [execOp, hop, Option.map_none, Option.map_some, hx, hy, hz, Sem.run_bind, hr, Result.andThen_ok]
    rfl
  rw [e]
  exact hK' _ _ hK
set_option maxRecDepth 8000 in
theorem wpList_sliceFrom {g off L n : Nat} (hg : o.guard = none) (x y : Operand) (hop : o.op = Op.slice 22 x (some y) none none) (hx : a.eval x = .slice (some ⟨g, off, none⟩) L L) (hy : a.eval y = .int .i64 n) (hn : n ≤ L)
    (hK : wpList Tryd.prog ops Q rest (a.put o.dst (.slice (some (if L = n then ⟨g, off, none⟩ else ⟨g, off + n, none⟩)) (L - n) (L - n))) w) : wpList Tryd.prog ops Q (o :: rest) a w := by
  refine wpList_plain hg fun K' hK' => ?_
  unfold Oper.wp
  have hr := run_sliceFrom (w := w) (g := g) (off := off) hn
  have e : (execOp a.eval o).run Tryd.prog w = .ok (.value (.slice (some (if L = n then ⟨g, off, none⟩ else ⟨g, off + n, none⟩)) (L - n) (L - n))) w := by
    simp only [execOp, hop, Option.map_none, Option.map_some, hx, hy, Sem.run_bind, hr, Result.andThen_ok]
    rfl
  rw [e]
  exact hK' _ _ hK
theorem splice_nil {α : Type} (L : List α) (off : Nat) : splice L off [] = L := by simp [splice]
theorem splice_low {α : Type} (L cs : List α) (off j : Nat) (h : j < off) (hL : off ≤ L.length) : (splice L off cs)[j]? = L[j]? := by
  unfold splice
  rw [List.getElem?_append_left (by simp; omega), List.getElem?_take, if_pos h]
theorem splice_at {α : Type} (L cs : List α) (off j : Nat) (h : j < cs.length) (hL : off ≤ L.length) : (splice L off cs)[off + j]? = cs[j]? := by
  unfold splice
  have e : (L.take off).length = off := by simp; omega
  rw [List.getElem?_append_right (by omega), e, Nat.add_sub_cancel_left, List.getElem?_append_left h]
theorem info9s : (Tryd.prog.info? 9).map (·.size) = some 1 := by kernel_rfl
theorem wpList_copy_row (hgd : o.guard = none) (d s : Operand) (ho : o.op = .call { callee := .builtin .copy, args := #[d, s], argTypes := #[22, 22] })
    (dp sp : Option Addr) (dLen dCap sLen sCap : Nat) (hd : a.eval d = .slice dp dLen dCap) (hs : a.eval s = .slice sp sLen sCap)
    (g off : Nat) (cur : List Value) (hg : w.heap[g]? = some (.cells cur.toArray 9 (0, 0))) (cs : List Value) (hn : cs.length = Nat.min sLen dLen)
    (hpos : 0 < cs.length → dp = some ⟨g, off, none⟩ ∧ ∃ ad, sp = some ad ∧ ∀ j v, cs[j]? = some v → w.cell? (ad.add j) = some v)
    (hfit : off + cs.length ≤ cur.length) (h1 : ∀ v ∈ cs, v.oneCell' = true)
    (h : wpList Tryd.prog ops Q rest (a.put o.dst (goInt cs.length)) (w.setRow g (splice cur off cs).toArray)) : wpList Tryd.prog ops Q (o :: rest) a w := by
  by_cases h0 : cs.length = 0
  · obtain rfl : cs = [] := List.eq_nil_of_length_eq_zero h0
    refine wpList_copy_nothing hgd d s 22 22 ho 9 Tryd.underlying22 info9s dp sp dLen dCap sLen sCap hd hs (by simpa using hn.symm) ?_
    rw [splice_nil, setRow_self w g cur.toArray 9 (0, 0) hg] at h
    exact h
  · obtain ⟨rfl, ad, rfl, hsrc⟩ := hpos (by omega)
    exact wpList_copy_own hgd d s 22 22 ho 9 Tryd.underlying22 info9s g off dLen dCap ad sLen sCap hd hs cur.toArray 9 hg cs hn hsrc (by simpa using hfit) h1 h
/-- How many keys a range has still to come to. -/
def leftN (w : World) (r : Nat) : Nat := match w.heap[r]? with
  | some (.mapIter _ _ s _) => 2 - s.size
  | _ => 0
theorem leftN_of {w : World} {r c l : Nat} {m : Option Nat} {s : Array Nat} (h : w.heap[r]? = some (.mapIter m c s l)) : leftN w r = 2 - s.size := by
  unfold leftN
  rw [h]
theorem eqMap (M : Nat) (w : World) : (binOp BinOp.eql 33 (.map (some M)) (.map none)).run Tryd.prog w = .ok (.bool false) w := by
  kernel_rfl
theorem eqSl0 (n c : Nat) (w : World) : (binOp BinOp.eql 22 (.slice none n c) (.slice none 0 0)).run Tryd.prog w = .ok (.bool true) w := by
  kernel_rfl
theorem eqSl1 (ad : Addr) (n c : Nat) (w : World) : (binOp BinOp.eql 22 (.slice (some ad) n c) (.slice none 0 0)).run Tryd.prog w = .ok (.bool false) w := by
  kernel_rfl
end Go.Proofs.Qxb6616118aDoor
