/-
  A range over a function whose iterator may keep state in cells, or loop over another iterator: a law of this seat's own, over any program, in the wide fence. The body never says 'no more'.
-/
import Derived.RangeFuncNested
import Derived.RangeFuncBound
import Derived.RangeFuncCalls
import Derived.RangeFuncLeaves
import Derived.Shelf.Abstract
import Derived.Shelf.RegionOpen
import Derived.WalkKit
import Derived.OwnWalkIn
import Derived.TacticsInMore
import Derived.LoopNIn
import Derived.LoopIn
namespace Go.Proofs.Qxb6616118aDoor
open Go.RowKit

theorem hide {p : Prop} (h : p) : Hid p := h

/-- What one iterator call may have done to the memory between two rounds: growth; of the old blocks those from N to N+5 alone may have turned. -/
structure Turns (N : Nat) (W W' : World) : Prop where
  os : W'.os = W.os
  tape : W'.tape = W.tape
  output : W'.output = W.output
  size : W.heap.size ≤ W'.heap.size
  block : ∀ k, k < W.heap.size → (k < N ∨ N + 6 ≤ k) → W'.heap[k]? = W.heap[k]?

theorem Turns.refl (N : Nat) (W : World) : Turns N W W := ⟨rfl, rfl, rfl, Nat.le_refl _, fun _ _ _ => rfl⟩
theorem Turns.trans {N : Nat} {A B C : World} (h : Turns N A B) (k : Turns N B C) : Turns N A C :=
  ⟨k.os.trans h.os, k.tape.trans h.tape, k.output.trans h.output, Nat.le_trans h.size k.size, fun j hj hn => (k.block j (Nat.lt_of_lt_of_le hj h.size) hn).trans (h.block j hj hn)⟩
theorem Turns.of_below {N : Nat} {W W' : World} (h : Below W.heap.size W W') : Turns N W W' :=
  ⟨h.os, h.tape, h.output, h.size, fun k hk _ => h.block k hk⟩
theorem Turns.alloc (N : Nat) (W : World) (o : Obj) : Turns N W (W.alloc o) := Turns.of_below ((Below.refl _ W).alloc (Nat.le_refl _) o)
theorem Turns.putObj {N : Nat} (W : World) {k : Nat} (o : Obj) (h0 : N ≤ k) (h1 : k < N + 6) : Turns N W (W.putObj k o) :=
  ⟨rfl, rfl, rfl, by simp, fun j _ hn => World.putObj_heap_other (by omega)⟩
theorem Turns.setCell {N : Nat} (W : World) {p : Addr} (v : Value) (h0 : N ≤ p.block) (h1 : p.block < N + 6) : Turns N W (W.setCell p v) :=
  ⟨rfl, rfl, rfl, by simp, fun j _ hn => Below.heap_setCell _ _ _ _ (by omega)⟩
theorem Turns.below {N n : Nat} {w W W' : World} (h : Turns N W W') (hn : n ≤ N) (hs : n ≤ W.heap.size) (hb : Below n w W) : Below n w W' :=
  hb.trans ⟨h.os, h.tape, h.output, h.size, fun k hk => h.block k (Nat.lt_of_lt_of_le hk hs) (Or.inl (Nat.lt_of_lt_of_le hk hn))⟩

theorem wide_fn (f : FuncId) : Fence.wide.fn f = True := rfl
theorem wide_depth : Fence.wide.depth = none := rfl

variable {P : Program} {n : Nat}

theorem range_law {α : Type} {g : Operand} {ps : Array Tmp} {assign body : Code} {Q : Exit → Act → World → Prop} {a : Act} {w : World} {gf : Nat} {lb : Array Value}
    (hg : a.eval g = .func (.func gf) #[] lb) (eg : ∀ args w, (callFunc gf args).run P w = .ok (.enter gf args) w) (encs : α → Array Value) (hps : ∀ x, (encs x).size = ps.size)
    (Kp : World → World → Prop) (hKt : ∀ {A B C : World}, Kp A B → Kp B C → Kp A C) (hKl : ∀ W o, Kp W (W.putObj (w.heap.size + 1) o))
    (I : List α → World → Prop) (hIl : ∀ pre W o, I pre W → I pre (W.putObj (w.heap.size + 1) o))
    (Ax : List α → α → Act → World → Prop) (hAl : ∀ pre x a' W o, Ax pre x a' W → Ax pre x a' (W.putObj (w.heap.size + 1) o)) (S : List α → Prop) (G : List α → α → World → Prop)
    (hseq : ∀ o : Obj, (∀ pre x W, G pre x W → (I pre W ∧ W.heap[w.heap.size + 1]? = some o ∧ W.heap[w.heap.size]? = some (.deferred (some []))) → YieldAt Fence.wide (n - 1 - 1) P (w.heap.size + 1) (encs x) W fun e W' =>
          e = .returned (.bool true) ∧ (I (pre ++ [x]) W' ∧ W'.heap[w.heap.size + 1]? = some o ∧ W'.heap[w.heap.size]? = some (.deferred (some []))) ∧ Kp W W') →
        CallsIn Fence.wide (n - 1) P gf (#[.func (.yield (w.heap.size + 1)) #[] #[]] ++ lb) ((w.alloc (.deferred (some []))).alloc o) fun e W' =>
          (∃ v, e = .returned v) ∧ ∃ xs, S xs ∧ (I xs W' ∧ W'.heap[w.heap.size + 1]? = some o ∧ W'.heap[w.heap.size]? = some (.deferred (some []))))
    (hassign : ∀ pre x W (K : Act → World → Prop), G pre x W → I pre W → (∃ r, W.heap[w.heap.size + 1]? = some (.loop r)) →
      (∀ a' W', I pre W' → Ax pre x a' W' → Kp W W' → W'.heap[w.heap.size + 1]? = W.heap[w.heap.size + 1]? → W'.heap[w.heap.size]? = W.heap[w.heap.size]? → K a' W') →
      assign.wpIn (Fence.wide.inRound (w.heap.size + 1)) (n - 1 - 1) P (Exit.then K (fun _ _ _ => False)) { tmps := (ps.zip (encs x)).foldl (fun t (p, v) => t.setIfInBounds p v) a.tmps, defers := [] } W)
    (hbody : ∀ pre x a' W, I pre W → Ax pre x a' W → (∃ r, W.heap[w.heap.size + 1]? = some (.loop r)) →
      body.wpIn (Fence.wide.inRound (w.heap.size + 1)) (n - 1 - 1) P (fun e _ W' => e = .normal ∧ W'.heap[w.heap.size + 1]? = W.heap[w.heap.size + 1]? ∧ W'.heap[w.heap.size]? = W.heap[w.heap.size]? ∧ Kp W W' ∧ I (pre ++ [x]) W') a' W)
    (hdone : ∀ xs W, S xs → I xs W → W.heap[w.heap.size]? = some (.deferred (some [])) → Q .normal { a with defers := { target := .collected w.heap.size, args := #[] } :: a.defers } W) :
    (Code.rangeFunc g ps assign body).wpIn Fence.wide n P Q a w := by
  refine wpIn_rangeFunc fun fn _ => ?_
  obtain ⟨rec, hrec⟩ : ∃ rec : LoopState → Option Code → Loop, rec = fun st pe => { state := st, pending := pe, fn, tmps := a.tmps, params := ps, assign, body, defers := w.heap.size } := ⟨_, rfl⟩
  have hent : (Instr.enterLoop fn a.tmps ps assign body Fence.wide.round).run P w = .ok (w.heap.size + 1, [{ target := .collected w.heap.size, args := #[] }]) ((w.alloc (.deferred (some []))).alloc (.loop (rec .ready none))) := by
    rw [hrec]
    exact run_enterLoop_outer _ _ _ _ _
  refine ⟨w.heap.size + 1, [{ target := .collected w.heap.size, args := #[] }], (w.alloc (.deferred (some []))).alloc (.loop (rec .ready none)), { target := .fn (.func gf) lb, args := #[.func (.yield (w.heap.size + 1)) #[] #[]] }, (w.alloc (.deferred (some []))).alloc (.loop (rec .ready none)), gf, #[.func (.yield (w.heap.size + 1)) #[] #[]] ++ lb, (w.alloc (.deferred (some []))).alloc (.loop (rec .ready none)),
    hent, ?_, fun _ _ => trivial, ?_, (fun h => by cases h), ?_⟩
  · simp only [resolve, hg]
    simp [go_sem]
  · simp [invoke, go_sem, eg]
  · refine (hseq (.loop (rec .ready none)) ?_).mono ?_
    · rintro pre x W hG ⟨hi, hl, hd⟩
      have hlt : w.heap.size + 1 < W.heap.size := (Array.getElem?_eq_some_iff.1 hl).1
      have hy := run_yield (P := P) (args := encs x) hl (by rw [hrec]; exact hps x)
      rw [hrec] at hy
      refine ⟨fn, _, assign, body, hy, roundIn_of_wpIn (F := Fence.wide) trivial (hassign pre x W _ hG hi ⟨_, hl⟩ ?_)⟩
      intro a' Wa hia hax hka hla hda
      rw [hl] at hla
      rw [hd] at hda
      have hlta : w.heap.size + 1 < Wa.heap.size := (Array.getElem?_eq_some_iff.1 hla).1
      refine ⟨_, run_beginRound hla (by rw [hrec]), ?_⟩
      have hl2 : (Wa.putObj (w.heap.size + 1) (.loop { rec .ready none with state := .busy })).heap[w.heap.size + 1]? = some (.loop { rec .ready none with state := .busy }) := World.putObj_heap_same hlta
      have hd2 : (Wa.putObj (w.heap.size + 1) (.loop { rec .ready none with state := .busy })).heap[w.heap.size]? = some (.deferred (some [])) := (World.putObj_heap_other (by omega)).trans hda
      refine wpIn_mono (hbody pre x a' _ (hIl _ _ _ hia) (hAl _ _ _ _ _ hax) ⟨_, hl2⟩) ?_
      rintro e a3 W3 ⟨rfl, hl3, hd3, hk3, hi3⟩
      rw [hl2] at hl3
      rw [hd2] at hd3
      have hr := run_endRound (P := P) none hl3
      have hlt3 : w.heap.size + 1 < W3.heap.size := (Array.getElem?_eq_some_iff.1 hl3).1
      have hst : ({ ({ rec .ready none with state := .busy } : Loop) with state := if (none : Option Code).isNone then .ready else .done, pending := none } : Loop) = rec .ready none := by rw [hrec]; rfl
      rw [hst] at hr
      exact ⟨_, _, hr, rfl, ⟨hIl _ _ _ hi3, World.putObj_heap_same hlt3, (World.putObj_heap_other (by omega)).trans hd3⟩, hKt hka (hKt (hKl _ _) (hKt hk3 (hKl _ _)))⟩
    · rintro e W2 ⟨⟨v, rfl⟩, xs, hS, hi, hl, hd⟩
      refine ⟨none, _, by have := run_endLoop (P := P) hl (by rw [hrec]; simp); rw [hrec] at this; exact this, hdone xs _ hS (hIl _ _ _ hi) ((World.putObj_heap_other (by omega)).trans hd)⟩
end Go.Proofs.Qxb6616118aDoor
