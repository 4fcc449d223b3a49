/-
  fmt's two stopped fronts at this dump: closed facts, and what a call of each does.
-/
import Derived.Test.Qxb6614930aFmtRows
import Derived.WalkKit
import Derived.WalkSpells
import Derived.WalkLawsBesides
import Derived.Stop.CallBack
import Derived.Stop.IfaceNil
namespace Go.Proofs.Qxb6614930aFmt
open Go.RowKit Go.Extern.Stop Go.Stop Go.Extern

theorem call23 (args : Array Value) (w : World) : (callFunc 23 args).run Tryf.prog w = (FmtCalls.sprintf #[9, 40] #[9] args).run Tryf.prog w :=
  run_callFunc_next Tryf.func23 (by kernel_rfl) (by kernel_rfl) (by kernel_rfl) args w
theorem call32 (args : Array Value) (w : World) : (callFunc 32 args).run Tryf.prog w = ((FmtStop.errorf #[9, 40] #[34] args).run Tryf.prog w).andThen fun v w' => .ok (.value v) w' :=
  run_callFunc_extern Tryf.func32 (by kernel_rfl) (by kernel_rfl) (by kernel_rfl) (by kernel_rfl) args w
theorem guardF (name : String) (w : World) : (FmtStop.guard name).run Tryf.prog w = .ok () w := by kernel_rfl
theorem nextTurns : Extern.next FmtCalls.turnsRow = some (FmtCalls.begun #[] #[]) := by kernel_rfl

def fU : ByteArray := ⟨#[116, 104, 101, 32, 99, 111, 110, 116, 114, 111, 108, 32, 99, 104, 97, 114, 97, 99, 116, 101, 114, 32, 37, 85]⟩
def fq : ByteArray := ⟨#[37, 113]⟩
def fComment : ByteArray := ⟨#[97, 32, 99, 111, 109, 109, 101, 110, 116, 32, 99, 97, 110, 110, 111, 116, 32, 104, 111, 108, 100, 32, 37, 115]⟩
def fEnd : ByteArray := ⟨#[37, 115, 32, 119, 104, 101, 114, 101, 32, 116, 104, 101, 32, 108, 105, 110, 101, 32, 115, 104, 111, 117, 108, 100, 32, 101, 110, 100]⟩
def fLine : ByteArray := ⟨#[108, 105, 110, 101, 32, 37, 100, 58, 32, 37, 115]⟩
theorem p_U : FmtStop.printed? fU 1 = some [(0, 85, false)] := by kernel_rfl
theorem p_q : FmtStop.printed? fq 1 = some [(0, 113, false)] := by kernel_rfl
theorem p_c : FmtStop.printed? fComment 1 = some [(0, 115, false)] := by kernel_rfl
theorem p_e : FmtStop.printed? fEnd 1 = some [(0, 115, false)] := by kernel_rfl
theorem p_l (w : World) : (FmtDoors.printed fLine 2).run Tryf.prog w = .ok [(0, 100, false), (1, 115, false)] w := by kernel_rfl
def shape21 : List UInt8 := FmtStop.intCode .i32 :: FmtStop.pack [105, 110, 116, 51, 50]
def shape3 : List UInt8 := [5, 3, 0, 0, 0, 0, 0, 0, 0, 105, 110, 116]
def shape9 : List UInt8 := [12, 6, 0, 0, 0, 0, 0, 0, 0, 115, 116, 114, 105, 110, 103]
theorem op21_85 (name : String) (x : Int) (w : World) : (FmtStop.operand name false 85 false (.iface 21 (.int .i32 x))).run Tryf.prog w = .ok (shape21, digits 8 (x % 2 ^ 64).toNat) w := by kernel_rfl
theorem op21_113 (name : String) (x : Int) (w : World) : (FmtStop.operand name false 113 false (.iface 21 (.int .i32 x))).run Tryf.prog w = .ok (shape21, digits 8 (x % 2 ^ 64).toNat) w := by kernel_rfl
theorem op9_115 (name : String) (x : ByteArray) (w : World) : (FmtStop.operand name false 115 false (.iface 9 (.string x))).run Tryf.prog w = .ok (shape9, FmtStop.pack x.data.toList) w := by kernel_rfl
theorem op9_115w (name : String) (x : ByteArray) (w : World) : (FmtStop.operand name true 115 false (.iface 9 (.string x))).run Tryf.prog w = .ok (shape9, FmtStop.pack x.data.toList) w := by kernel_rfl
theorem op3_100w (name : String) (x : Int) (w : World) : (FmtStop.operand name true 100 false (.iface 3 (.int .i64 x))).run Tryf.prog w = .ok (shape3, digits 8 (x % 2 ^ 64).toNat) w := by kernel_rfl
theorem ptr65 (w : World) : (FmtStop.ptrTo "errors.errorString").run Tryf.prog w = .ok 65 w := by kernel_rfl
theorem elem65 (w : World) : (elemOf 65).run Tryf.prog w = .ok 67 w := by kernel_rfl
theorem act21_85 (name : String) (x : Int) (w : World) : (FmtCalls.act name false 85 false (.iface 21 (.int .i32 x))).run Tryf.prog w = .ok (.closed false) w := by kernel_rfl
theorem act21_113 (name : String) (x : Int) (w : World) : (FmtCalls.act name false 113 false (.iface 21 (.int .i32 x))).run Tryf.prog w = .ok (.closed false) w := by kernel_rfl
theorem act9_115 (name : String) (x : ByteArray) (w : World) : (FmtCalls.act name false 115 false (.iface 9 (.string x))).run Tryf.prog w = .ok (.closed false) w := by kernel_rfl

/-- A call of fmt.Sprintf with one operand in a slice at block B: it asks for the turns. -/
theorem run_sprintf (f : ByteArray) (B : Nat) (verb : UInt8) (w : World) (hp : FmtStop.printed? f 1 = some [(0, verb, false)]) :
    (callFunc 23 #[.string f, .slice (some ⟨B, 0, none⟩) 1 1]).run Tryf.prog w = .ok (.row FmtCalls.turnsRow (FmtCalls.save 0 0 (.slice (some ⟨B, 0, none⟩) 1 1) f [] [(0, verb, false)])) w := by
  rw [call23]
  simp [FmtCalls.sprintf_lit, guardF, FmtDoors.count, hp]
/-- The turns: a string comes back. -/
theorem rows_sprintf (f : ByteArray) (B : Nat) (v : Value) (verb : UInt8) (w : World) (ty val : List UInt8) {R : Value → World → Prop} (hc : w.cell? ⟨B, 0, none⟩ = some v)
    (ha : (FmtCalls.act "fmt.Sprintf" false verb false v).run Tryf.prog w = .ok (.closed false) w) (ho : (FmtStop.operand "fmt.Sprintf" false verb false v).run Tryf.prog w = .ok (ty, val) w)
    (h : ∀ s : ByteArray, R (.string s) w.drew) : Rows Tryf.prog FmtCalls.turnsRow (FmtCalls.save 0 0 (.slice (some ⟨B, 0, none⟩) 1 1) f [] [(0, verb, false)]) w R := by
  have hr : ∃ s : ByteArray, ((FmtCalls.begun #[] #[]) (FmtCalls.save 0 0 (.slice (some ⟨B, 0, none⟩) 1 1) f [] [(0, verb, false)])).run Tryf.prog w = .ok (.value (.string s)) w.drew := by
    rw [FmtCalls.run_begun_save]
    suffices h : ∃ x : Nat, (FmtCalls.turns 0 0 (.slice (some ⟨B, 0, none⟩) 1 1) f [] [(0, verb, false)]).run Tryf.prog w = .ok (.value (FmtStop.str x)) w.drew by
      obtain ⟨x, hx⟩ := h
      exact ⟨_, hx⟩
    refine ⟨(Question.extern (word "fmt.Sprintf" [f.data.toList, ty, val] 0) 0).cut (w.tape w.drawn (.extern (word "fmt.Sprintf" [f.data.toList, ty, val] 0) 0)), ?_⟩
    have hfo : (Question.extern (word "fmt.Sprintf" [f.data.toList, ty, val] 0) 0).forced = false := rfl
    have hadd : (⟨B, 0, none⟩ : Addr).add 0 = ⟨B, 0, none⟩ := by simp [Addr.add]
    simp [FmtCalls.turns, FmtCalls.finish, FmtCalls.frontName, FmtDoors.operand, hadd, ha, ho, hc, choose, run_load, Result.andThen, Sem.run, hfo]
  obtain ⟨s, hs⟩ := hr
  exact rows_value nextTurns hs (h s)

theorem rfl_forced (q : String) : (Question.extern q 0).forced = false := rfl
theorem newErr (s : ByteArray) (w : World) : (newVar 67 (.agg #[.string s])).run Tryf.prog w = .ok ⟨w.heap.size, 0, none⟩ (w.alloc (.cells #[.string s] 67)) := by kernel_rfl
/-- fmt's text, whatever it is: a string, one draw. -/
theorem run_text (name : String) (head : List (List UInt8)) (ops : List (List UInt8 × List UInt8)) (w : World) : ∃ s : ByteArray, (FmtStop.text name head ops).run Tryf.prog w = .ok (.string s) w.drew := by
  suffices h : ∃ y : Nat, (FmtStop.text name head ops).run Tryf.prog w = .ok (FmtStop.str y) w.drew by
    obtain ⟨y, h⟩ := h
    exact ⟨_, h⟩
  unfold FmtStop.text
  generalize word name (head ++ ops.flatMap fun (ty, v) => [ty, v]) 0 = q
  refine ⟨(Question.extern q 0).cut (w.tape w.drawn (.extern q 0)), ?_⟩
  simp [choose, Sem.run, Result.andThen, rfl_forced]
/-- A call of fmt.errorf with the format 'line %d: %s' and its two operands in a slice at block B: a new error. -/
theorem run_errorf (B : Nat) (n : Int) (x : ByteArray) (w : World) (h0 : w.cell? ⟨B, 0, none⟩ = some (.iface 3 (.int .i64 n))) (h1 : w.cell? ⟨B, 1, none⟩ = some (.iface 9 (.string x))) :
    ∃ s : ByteArray, (callFunc 32 #[.string fLine, .slice (some ⟨B, 0, none⟩) 2 2]).run Tryf.prog w = .ok (.value (.iface 65 (.pointer (some ⟨w.heap.size, 0, none⟩)))) (w.alloc (.cells #[.string s] 67)).drew := by
  have hadd0 : (⟨B, 0, none⟩ : Addr).add 0 = ⟨B, 0, none⟩ := by simp [Addr.add]
  have hadd1 : (⟨B, 0, none⟩ : Addr).add 1 = ⟨B, 1, none⟩ := by simp [Addr.add]
  have hl : (loadCells ⟨B, 0, none⟩ 2).run Tryf.prog w = .ok #[.iface 3 (.int .i64 n), .iface 9 (.string x)] w := by
    have := run_loadCells_list (P := Tryf.prog) w ⟨B, 0, none⟩ [.iface 3 (.int .i64 n), .iface 9 (.string x)] (fun j v hj => by
      match j, hj with
      | 0, hj => simp at hj; subst hj; rw [hadd0]; exact h0
      | 1, hj => simp at hj; subst hj; rw [hadd1]; exact h1
      | j + 2, hj => simp at hj)
    simpa using this
  have hcl : (FmtStop.cells (.slice (some ⟨B, 0, none⟩) 2 2)).run Tryf.prog w = .ok [.iface 3 (.int .i64 n), .iface 9 (.string x)] w := by simp [FmtStop.cells, hl, Result.andThen]
  have hop := op3_100w "fmt.errorf" n w
  generalize digits 8 (n % 2 ^ 64).toNat = dg at hop
  have hrd : (FmtStop.readAll "fmt.errorf" true [.iface 3 (.int .i64 n), .iface 9 (.string x)] [(0, 100, false), (1, 115, false)]).run Tryf.prog w = .ok [(shape3, dg), (shape9, FmtStop.pack x.data.toList)] w := by
    simp only [FmtStop.readAll]
    simp [hop, op9_115w, Result.andThen]
  obtain ⟨s, htx⟩ := run_text "fmt.errorf" [fLine.data.toList] [(shape3, dg), (shape9, FmtStop.pack x.data.toList)] w
  refine ⟨s, ?_⟩
  rw [call32, FmtStop.errorf_lit]
  simp [guardF, hcl, Result.andThen, p_l, hrd, htx, ptr65, elem65, newErr]
  rfl
end Go.Proofs.Qxb6614930aFmt
