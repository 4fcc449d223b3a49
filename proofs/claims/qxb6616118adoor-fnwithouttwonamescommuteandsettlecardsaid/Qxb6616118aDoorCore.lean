/-
  withoutCookies: its first loop.
-/
import Derived.Test.Qxb6616118aDoorMap
import Derived.Test.Qxb6616118aDoorSl
namespace Go.Proofs.Qxb6616118aDoor
open Go.RowKit

def es2 (cv ov : Value) : Array MapEntry := #[{ key := .string kC, val := cv, born := 0 }, { key := .string kX, val := ov, born := 1 }]
theorem kCC : (kC == kC) = true := by decide
theorem kXX : (kX == kX) = true := by decide
theorem kXC : (kX == kC) = false := by decide
theorem kCX : (kC == kX) = false := by decide
theorem looks2C (cv ov : Value) : LooksTo (es2 cv ov) kC cv := .inl ⟨0, by simp [es2, Instr.findNow, Instr.sameNow, kCC]⟩
theorem looks2X (cv ov : Value) : LooksTo (es2 cv ov) kX ov := .inl ⟨1, by simp [es2, Instr.findNow, Instr.sameNow, kXX, kXC]⟩

def hitB (name : ByteArray) (fs : List ByteArray) : Bool := fs.any fun f => (textsB f).any (dropB name)
theorem hitB_succ (name : ByteArray) (fs : List ByteArray) (k : Nat) (h : k < fs.length) : hitB name (fs.take (k + 1)) = (hitB name (fs.take k) || (textsB (fs.getD k ByteArray.empty)).any (dropB name)) := by
  unfold hitB
  rw [take_snoc' fs k h]
  simp

abbrev dropV (Bc : Nat) : Value := .func (.func 16) #[] #[.pointer (some ⟨Bc, 0, none⟩)]
/-- What lies in the memory while withoutCookies runs: the test's box, whether one was found. -/
structure Core (w W : World) (Bc : Nat) (b : Bool) : Prop where
  below : Below w.heap.size w W
  box : Boxed W w.heap.size 41 (dropV Bc)
  found : Boxed W (w.heap.size + 1) 4 (.bool b)
theorem Core.size {w W : World} {Bc : Nat} {b : Bool} (h : Core w W Bc b) : w.heap.size + 2 ≤ W.heap.size := h.found.lt
theorem Core.keep {w W W' : World} {Bc : Nat} {b : Bool} {L : Nat} (h : Core w W Bc b) (hL : w.heap.size + 2 ≤ L) (hb : Below L W W') : Core w W' Bc b :=
  ⟨h.below.trans (hb.mono (by omega)), (hb.block _ (by omega)).trans h.box, (hb.block _ (by omega)).trans h.found⟩
theorem Marks.below {B : Nat} {ds : List Deferred} {W W' : World} {L : Nat} (h : Marks B ds W) (hL : ∀ d ∈ ds, ∀ r, d.target = .collected r → r < L) (hb : Below L W W') : Marks B ds W' :=
  h.keep fun k hk ⟨d, hd, he⟩ => (hb.block k (hL d hd k he)).trans hk
theorem Marks.lt {B : Nat} {ds : List Deferred} {W : World} (h : Marks B ds W) : ∀ d ∈ ds, ∀ r, d.target = .collected r → r < W.heap.size := fun d hd r he => (Array.getElem?_eq_some_iff.1 (h.mem d hd r he)).1
/-- What a round of a range over the cookies keeps. -/
def Hold (w : World) (Bc L : Nat) (marks : List Deferred) (b : Bool) (W : World) : Prop := L ≤ W.heap.size ∧ Core w W Bc b ∧ Marks w.heap.size marks W
theorem Hold.keep {w W W' : World} {Bc L : Nat} {marks : List Deferred} {b : Bool} (h : Hold w Bc L marks b W) (hL : w.heap.size + 2 ≤ L) (hm : ∀ d ∈ marks, ∀ r, d.target = .collected r → r < L) (hb : Below L W W') : Hold w Bc L marks b W' :=
  ⟨Nat.le_trans h.1 hb.size, h.2.1.keep hL hb, h.2.2.below hm hb⟩
theorem Hold.turns {w W W' : World} {Bc L N : Nat} {marks : List Deferred} {b : Bool} (h : Hold w Bc L marks b W) (hL : w.heap.size + 2 ≤ L) (hm : ∀ d ∈ marks, ∀ r, d.target = .collected r → r < L) (hN : L ≤ N) (hb : Turns N W W') : Hold w Bc L marks b W' :=
  h.keep hL hm (hb.below hN h.1 (Below.refl _ _))
theorem below_put {L l : Nat} {W : World} (o : Obj) (h : L ≤ l) : Below L W (W.putObj l o) := ⟨rfl, rfl, rfl, by simp, fun k hk => World.putObj_heap_other (by omega)⟩
theorem Hold.find {w W : World} {Bc L : Nat} {marks : List Deferred} {b : Bool} (h : Hold w Bc L marks b W) (b' : Bool) : Hold w Bc L marks b' (W.setCell ⟨w.heap.size + 1, 0, none⟩ (.bool b')) := by
  obtain ⟨h1, h2, h3⟩ := h
  refine ⟨by simpa using h1, ⟨h2.below.setCell (p := ⟨w.heap.size + 1, 0, none⟩) (by simp) _, h2.box.other (by omega) _, h2.found.set _⟩, h3.keep fun k hk _ => ?_⟩
  have hne : k ≠ w.heap.size + 1 := by
    intro e
    subst e
    have hf : W.heap[w.heap.size + 1]? = some (.cells #[.bool b] 4 (0, 0)) := h2.found
    rw [hf] at hk
    cases hk
  exact (Below.heap_setCell _ _ _ _ hne).trans hk
def Kp (L : Nat) (A B : World) : Prop := L + 8 ≤ A.heap.size → (A.heap.size ≤ B.heap.size ∧ ∀ k, L + 2 ≤ k → k < L + 8 → B.heap[k]? = A.heap[k]?)
theorem Kp.trans {L : Nat} {A B C : World} (h : Kp L A B) (k : Kp L B C) : Kp L A C := fun hA => by
  obtain ⟨h1, h2⟩ := h hA
  obtain ⟨k1, k2⟩ := k (by omega)
  exact ⟨by omega, fun j a b => (k2 j a b).trans (h2 j a b)⟩
theorem Kp.put (L : Nat) (W : World) (o : Obj) : Kp L W (W.putObj (L + 1) o) := fun _ => ⟨by simp, fun k _ _ => World.putObj_heap_other (by omega)⟩
theorem Kp.below {L : Nat} {A B : World} (h : Below A.heap.size A B) : Kp L A B := fun _ => ⟨h.size, fun k _ _ => h.block k (by omega)⟩
theorem Kp.set {L : Nat} (A : World) {p : Addr} (v : Value) (h : p.block < L) : Kp L A (A.setCell p v) := fun _ => ⟨by simp, fun k _ _ => Below.heap_setCell _ _ _ _ (by omega)⟩
end Go.Proofs.Qxb6616118aDoor
