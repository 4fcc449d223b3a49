/-
  A range over a map of two keys, and the other operations of Header.Clone: by their runs.
-/
import Derived.Test.Qxb6616118aDoorWeigh
import Derived.Maps.RangeWalk
namespace Go.Proofs.Qxb6616118aDoor
open Go.RowKit

theorem run_getObj_iter {P : Program} {w : World} {r : Nat} {m : Option Nat} {c l : Nat} {seen : Array Nat} (h : w.heap[r]? = some (.mapIter m c seen l)) : (getObj r).run P w = .ok (.mapIter m c seen l) w := by
  simp [getObj, Sem.run, h]
theorem run_setObj_iter {P : Program} {w : World} {r : Nat} {m : Option Nat} {c l : Nat} {seen : Array Nat} (o' : Obj) (h : w.heap[r]? = some (.mapIter m c seen l)) : (setObj r o').run P w = .ok () (w.putObj r o') := by
  simp [setObj, Sem.run, h, World.putObj]
theorem run_range33 {w : World} {M : Nat} {es : Array MapEntry} {c : Nat} (hM : w.heap[M]? = some (.map es c)) :
    (Instr.range 33 (.map (some M))).run Tryd.prog w = .ok (.pointer (some ⟨w.heap.size, 0, none⟩)) (w.alloc (.mapIter (some M) c #[] c)) := by
  simp [Instr.range, run_underlying Tryd.underlying33, MapKept.run_getObj_map hM, Result.andThen]
/-- The first step: the one or the other. -/
theorem run_next_first {w : World} {M r : Nat} {cv ov : Value} (hM : w.heap[M]? = some (.map (es2 cv ov) 2)) (hr : w.heap[r]? = some (.mapIter (some M) 2 #[] 2)) :
    (∀ t, (Instr.next (.pointer (some ⟨r, 0, none⟩)) false t).run Tryd.prog w = .ok (.tuple #[.bool true, .string kC, cv]) (w.drew.putObj r (.mapIter (some M) 2 #[0] 2))) ∨
    (∀ t, (Instr.next (.pointer (some ⟨r, 0, none⟩)) false t).run Tryd.prog w = .ok (.tuple #[.bool true, .string kX, ov]) (w.drew.putObj r (.mapIter (some M) 2 #[1] 2))) := by
  have hr' : w.drew.heap[r]? = some (.mapIter (some M) 2 #[] 2) := hr
  have hc : (Question.mapNext 2).cut (w.tape w.drawn (.mapNext 2)) = 0 ∨ (Question.mapNext 2).cut (w.tape w.drawn (.mapNext 2)) = 1 := by
    simp only [Question.cut]
    omega
  rcases hc with hc | hc
  · left
    intro t
    simp [Instr.next, MapKept.run_getObj_map hM, run_getObj_iter hr, es2, Result.andThen, Question.forced, hc, run_setObj_iter _ hr']
  · right
    intro t
    simp [Instr.next, MapKept.run_getObj_map hM, run_getObj_iter hr, es2, Result.andThen, Question.forced, hc, run_setObj_iter _ hr']
theorem run_next_X {w : World} {M r : Nat} {cv ov : Value} (t : TypeId) (hM : w.heap[M]? = some (.map (es2 cv ov) 2)) (hr : w.heap[r]? = some (.mapIter (some M) 2 #[0] 2)) :
    (Instr.next (.pointer (some ⟨r, 0, none⟩)) false t).run Tryd.prog w = .ok (.tuple #[.bool true, .string kX, ov]) (w.putObj r (.mapIter (some M) 2 #[0, 1] 2)) := by
  simp [Instr.next, MapKept.run_getObj_map hM, run_getObj_iter hr, es2, Result.andThen, Question.forced, run_setObj_iter _ hr]
  exact ⟨0, by simp, by simp⟩
theorem run_next_C {w : World} {M r : Nat} {cv ov : Value} (t : TypeId) (hM : w.heap[M]? = some (.map (es2 cv ov) 2)) (hr : w.heap[r]? = some (.mapIter (some M) 2 #[1] 2)) :
    (Instr.next (.pointer (some ⟨r, 0, none⟩)) false t).run Tryd.prog w = .ok (.tuple #[.bool true, .string kC, cv]) (w.putObj r (.mapIter (some M) 2 #[1, 0] 2)) := by
  simp [Instr.next, MapKept.run_getObj_map hM, run_getObj_iter hr, es2, Result.andThen, Question.forced, run_setObj_iter _ hr]
  exact ⟨0, by simp, by simp⟩
theorem run_next_end {w : World} {M r : Nat} {cv ov : Value} (t : TypeId) {seen : Array Nat} (hs : seen = #[0, 1] ∨ seen = #[1, 0]) (hM : w.heap[M]? = some (.map (es2 cv ov) 2)) (hr : w.heap[r]? = some (.mapIter (some M) 2 seen 2)) :
    (Instr.next (.pointer (some ⟨r, 0, none⟩)) false t).run Tryd.prog w = .ok (.tuple #[.bool false]) w := by
  rcases hs with rfl | rfl
  all_goals
    simp [Instr.next, MapKept.run_getObj_map hM, run_getObj_iter hr, es2, Result.andThen, Question.forced]
    exact ⟨0, by simp, by simp⟩
theorem run_entry_C {w : World} {M r : Nat} {cv ov : Value} {seen : Array Nat} (hs : seen = #[0] ∨ seen = #[1, 0]) (hM : w.heap[M]? = some (.map (es2 cv ov) 2)) (hr : w.heap[r]? = some (.mapIter (some M) 2 seen 2)) :
    (Instr.entry (.pointer (some ⟨r, 0, none⟩))).run Tryd.prog w = .ok (.tuple #[.string kC, cv]) w := by
  rcases hs with rfl | rfl
  all_goals simp [Instr.entry, MapKept.run_getObj_map hM, run_getObj_iter hr, es2, Result.andThen]
theorem run_entry_X {w : World} {M r : Nat} {cv ov : Value} {seen : Array Nat} (hs : seen = #[1] ∨ seen = #[0, 1]) (hM : w.heap[M]? = some (.map (es2 cv ov) 2)) (hr : w.heap[r]? = some (.mapIter (some M) 2 seen 2)) :
    (Instr.entry (.pointer (some ⟨r, 0, none⟩))).run Tryd.prog w = .ok (.tuple #[.string kX, ov]) w := by
  rcases hs with rfl | rfl
  all_goals simp [Instr.entry, MapKept.run_getObj_map hM, run_getObj_iter hr, es2, Result.andThen]
end Go.Proofs.Qxb6616118aDoor
