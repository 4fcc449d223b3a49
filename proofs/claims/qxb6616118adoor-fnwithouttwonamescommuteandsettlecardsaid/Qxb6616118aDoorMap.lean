/-
  The header: a map of two keys, by its entries.
-/
import Derived.Test.Qxb6616118aDoorDrop
import Derived.Maps.OwnIn
namespace Go.Proofs.Qxb6616118aDoor
open Go.RowKit

def kC : ByteArray := ⟨#[67, 111, 111, 107, 105, 101]⟩
def kX : ByteArray := ⟨#[88, 45, 79, 116, 104, 101, 114]⟩
/-- What a look-up of the key k finds in the entries es: the value, or nothing, which is the nil slice. -/
def LooksTo (es : Array MapEntry) (k : ByteArray) (v : Value) : Prop := (∃ i, Instr.findNow .string (.string k) es.toList 0 = some (some (i, v))) ∨ (Instr.findNow .string (.string k) es.toList 0 = some none ∧ v = .slice none 0 0)
theorem checkKey9 (b : Bool) (k : ByteArray) (w : World) : (Instr.checkKey b 10000 9 (.string k)).run Tryd.prog w = .ok () w := MapKept.run_checkKey Tryd.underlying9 (by simp [MapKept.IsKey]) b 9999
theorem findKey9 {k : ByteArray} {es : List MapEntry} {r : Option (Nat × Value)} (h : Instr.findNow .string (.string k) es 0 = some r) (w : World) : (Instr.findKey 9 (.string k) es).run Tryd.prog w = .ok r w := by
  simp [Instr.findKey, run_underlying Tryd.underlying9, h, Result.andThen]
theorem run_lookup33 {w : World} {M : Nat} {es : Array MapEntry} {c : Nat} {v : Value} {k : ByteArray} (hm : w.heap[M]? = some (.map es c)) (h : LooksTo es k v) :
    (Instr.lookup 33 (.map (some M)) (.string k) false).run Tryd.prog w = .ok v w := by
  rcases h with ⟨i, h⟩ | ⟨h, rfl⟩
  · simp [Instr.lookup, run_underlying Tryd.underlying33, MapKept.run_getObj_map hm, checkKey9, findKey9 h, Result.andThen]
  · simp [Instr.lookup, run_underlying Tryd.underlying33, MapKept.run_getObj_map hm, checkKey9, findKey9 h, Result.andThen]
theorem run_update33 {w : World} {M : Nat} {es : Array MapEntry} {c : Nat} (v : Value) {k : ByteArray} (hm : w.heap[M]? = some (.map es c)) (h : Instr.findNow .string (.string k) es.toList 0 = some none) :
    (Instr.mapUpdate 33 (.map (some M)) (.string k) v).run Tryd.prog w = .ok () (w.putObj M (.map (es.push { key := .string k, val := v, born := c }) (c + 1))) := by
  simp [Instr.mapUpdate, run_underlying Tryd.underlying33, MapKept.run_getObj_map hm, checkKey9, findKey9 h, MapKept.run_setObj_map _ hm, Result.andThen, World.putObj]
theorem run_delete33 {w : World} {M : Nat} {es : Array MapEntry} {c i : Nat} {v : Value} {k : ByteArray} (t : TypeId) (hm : w.heap[M]? = some (.map es c)) (h : Instr.findNow .string (.string k) es.toList 0 = some (some (i, v))) :
    (Builtin.delete_ #[33, 9] t #[.map (some M), .string k]).run Tryd.prog w = .ok (.tuple #[]) (w.putObj M (.map (es.eraseIdxIfInBounds i) c)) := by
  simp [Builtin.delete_, run_underlying Tryd.underlying33, MapKept.run_getObj_map hm, checkKey9, findKey9 h, MapKept.run_setObj_map _ hm, Result.andThen, World.putObj]

variable {F : Fence} {n : Nat} {w : World} {ops : Array Oper} {rest : List Oper} {o : Oper} {a : Act} {Q : Exit → Act → World → Prop} {M c : Nat} {es : Array MapEntry} {k : ByteArray}
theorem wpListIn_lookup33 {v : Value} (hg : o.guard = none) (m x : Operand) (hop : o.op = Op.lookup 33 m x false) (hm : a.eval m = .map (some M)) (hx : a.eval x = .string k) (hM : w.heap[M]? = some (.map es c)) (h : LooksTo es k v)
    (hK : wpListIn F n Tryd.prog ops Q rest (a.put o.dst v) w) : wpListIn F n Tryd.prog ops Q (o :: rest) a w := by
  refine wpListIn_plain hg fun K' hK' => ?_
  unfold Oper.wpIn
  refine ⟨by simp [Oper.about, hop], ?_⟩
  rw [Oper.semAt_plain F _ _ (by rw [hop]; intro c hc'; cases hc')]
  simp [execOp, hop, hm, hx, run_lookup33 hM h, Result.andThen]
  exact hK' _ _ hK
theorem wpListIn_update33 {v : Value} (hg : o.guard = none) (m x y : Operand) (hop : o.op = Op.mapUpdate 33 m x y) (hm : a.eval m = .map (some M)) (hx : a.eval x = .string k) (hy : a.eval y = v) (hM : w.heap[M]? = some (.map es c)) (h : Instr.findNow .string (.string k) es.toList 0 = some none)
    (hK : wpListIn F n Tryd.prog ops Q rest (a.put o.dst undef) (w.putObj M (.map (es.push { key := .string k, val := v, born := c }) (c + 1)))) : wpListIn F n Tryd.prog ops Q (o :: rest) a w := by
  refine wpListIn_plain hg fun K' hK' => ?_
  unfold Oper.wpIn
  refine ⟨by simp [Oper.about, hop], ?_⟩
  rw [Oper.semAt_plain F _ _ (by rw [hop]; intro c hc'; cases hc')]
  simp [execOp, hop, hm, hx, hy, run_update33 v hM h, Result.andThen]
  exact hK' _ _ hK
theorem wpListIn_delete33 {v : Value} {i : Nat} (hg : o.guard = none) (m x : Operand) (hop : o.op = Op.call { callee := Callee.builtin Builtin.delete, args := #[m, x], argTypes := #[33, 9] }) (hm : a.eval m = .map (some M)) (hx : a.eval x = .string k) (hM : w.heap[M]? = some (.map es c)) (h : Instr.findNow .string (.string k) es.toList 0 = some (some (i, v)))
    (hK : wpListIn F n Tryd.prog ops Q rest (a.put o.dst (.tuple #[])) (w.putObj M (.map (es.eraseIdxIfInBounds i) c))) : wpListIn F n Tryd.prog ops Q (o :: rest) a w := by
  refine wpListIn_plain hg fun K' hK' => ?_
  unfold Oper.wpIn
  refine ⟨by simp [Oper.about, hop, resolve, Target.leads, Sem.run_pure], ?_⟩
  rw [Oper.semAt_plain F _ _ (by rw [hop]; intro c hc'; cases hc')]
  simp [execOp, hop, resolve, invoke, builtin, hm, hx, run_delete33 _ hM h, Result.andThen]
  exact hK' _ _ hK
end Go.Proofs.Qxb6616118aDoor
