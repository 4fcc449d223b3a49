/-
  The memory while withoutCookies gathers what it keeps.
-/
import Derived.Test.Qxb6616118aDoorCore
import Derived.Shelf.Strings.OnBuilder
namespace Go.Proofs.Qxb6616118aDoor
open Go.RowKit

theorem Tryd.Builder_Extra_156 : Builder.Extra Tryd.prog Tryd.lays156_ren := {
  sizeBuilder := by kernel_rfl
  liesBuilder := by kernel_rfl
  t5 := Tryd.underlying5
  a5 := Tryd.isAgg5
  z5 := Tryd.sizeOf5
  v5 := Tryd.zeroValue5
  infoByte := by kernel_rfl
  cellsByte := by kernel_rfl
  sizeByte := by kernel_rfl
  neB5 := by decide }
def joinB (xs : List ByteArray) : ByteArray := ⟨(Lib.join (xs.map (·.data.toList)) [59, 32]).toArray⟩
theorem join_any (base : Nat) (v : Value) (xs : List ByteArray) (w : World) (hown : w.ownsRow base 9 1 v xs.length (xs.map Value.string)) (hne : 0 < xs.length) (hN : xs.length ≤ 140737488355328) (hlen : (Lib.join (xs.map (·.data.toList)) [59, 32]).length ≤ 140737488355328) :
    Calls Tryd.prog 20 #[v, .string ⟨#[59, 32]⟩] w fun e w' => e = .returned (.string (joinB xs)) ∧ Below w.heap.size w w' := by
  obtain ⟨h1, h2⟩ := hown
  rcases h2 with ⟨-, h0⟩ | ⟨g, cap, cur, rfl, hg, hh, hn, hm, hs, ht⟩
  · omega
  · refine Any.strings_Join Tryd.lays156 Tryd.Builder_Extra_156 g 0 cap xs ⟨#[59, 32]⟩ w (fun j x hj => ?_) (Array.getElem?_eq_some_iff.1 hh).1 hN hn hlen
    have := World.ownsRow.cellAt (w := w) (base := base) (e := 9) (size := 1) (g := g) (cap := cap) (n := xs.length) (xs := xs.map Value.string) ⟨h1, .inr ⟨g, cap, cur, rfl, hg, hh, hn, hm, hs, ht⟩⟩ j (by have := (List.getElem?_eq_some_iff.1 hj).1; omega)
    rw [Nat.zero_add, this, List.getElem?_map, hj]
    rfl

/-- Of the old blocks those from L to L+7 alone may have turned. -/
structure Mild (L : Nat) (W W' : World) : Prop where
  os : W'.os = W.os
  tape : W'.tape = W.tape
  output : W'.output = W.output
  size : W.heap.size ≤ W'.heap.size
  block : ∀ k, k < W.heap.size → (k < L ∨ L + 8 ≤ k) → W'.heap[k]? = W.heap[k]?
theorem Mild.of_turns {L : Nat} {W W' : World} (h : Turns (L + 2) W W') : Mild L W W' := ⟨h.os, h.tape, h.output, h.size, fun k hk hn => h.block k hk (by omega)⟩
theorem Mild.of_below {L : Nat} {W W' : World} (h : Below W.heap.size W W') : Mild L W W' := ⟨h.os, h.tape, h.output, h.size, fun k hk _ => h.block k hk⟩
theorem Mild.put (L : Nat) (W : World) (o : Obj) : Mild L W (W.putObj (L + 1) o) := ⟨rfl, rfl, rfl, by simp, fun k _ hn => World.putObj_heap_other (by omega)⟩
theorem Mild.below {L : Nat} {W W' : World} (h : Mild L W W') (hL : L ≤ W.heap.size) : Below L W W' := ⟨h.os, h.tape, h.output, h.size, fun k hk => h.block k (by omega) (Or.inl hk)⟩
theorem owns_block {W W' : World} {base : Nat} {e : TypeId} {size n : Nat} {v : Value} {xs : List Value} (h : W.ownsRow base e size v n xs) (hb : ∀ g, v.ownBlock = some g → W'.heap[g]? = W.heap[g]?) : W'.ownsRow base e size v n xs := by
  obtain ⟨h1, h2⟩ := h
  refine ⟨h1, ?_⟩
  rcases h2 with h2 | ⟨g, cap, cur, rfl, hg, hh, hr⟩
  · exact .inl h2
  · exact .inr ⟨g, cap, cur, rfl, hg, (hb g rfl).trans hh, hr⟩
def keepB (name : ByteArray) (xs : List ByteArray) : List ByteArray := xs.filter fun x => !dropB name x
theorem keepB_snoc (name : ByteArray) (pre : List ByteArray) (x : ByteArray) : keepB name (pre ++ [x]) = if dropB name x then keepB name pre else keepB name pre ++ [x] := by
  unfold keepB
  rw [List.filter_append]
  cases h : dropB name x <;> simp [h]
/-- What is kept of so many fields. -/
def leftB (name : ByteArray) (fs : List ByteArray) : List ByteArray := ((fs.map fun f => keepB name (textsB f)).filter fun ys => !ys.isEmpty).map joinB
theorem leftB_succ (name : ByteArray) (fs : List ByteArray) (k : Nat) (h : k < fs.length) : leftB name (fs.take (k + 1)) = leftB name (fs.take k) ++ if (keepB name (textsB (fs.getD k ByteArray.empty))).length = 0 then [] else [joinB (keepB name (textsB (fs.getD k ByteArray.empty)))] := by
  unfold leftB
  rw [take_snoc' fs k h]
  simp only [List.map_append, List.filter_append, List.map_cons, List.map_nil]
  cases keepB name (textsB (fs.getD k ByteArray.empty)) <;> simp
/-- What a round of the second range keeps. -/
structure Hold2 (w : World) (Bc L Bt : Nat) (marks : List Deferred) (b : Bool) (kv : Value) (kl : List ByteArray) (ts : List ByteArray) (W : World) : Prop where
  size : L ≤ W.heap.size
  core : Core w W Bc b
  marked : Marks w.heap.size marks W
  kept : W.ownsRow (w.heap.size + 2) 9 1 kv kl.length (kl.map Value.string)
  row : ∃ tv, Boxed W Bt 22 tv ∧ W.ownsRow (L + 8) 9 1 tv ts.length (ts.map Value.string)
theorem Hold2.keep {w W W' : World} {Bc L Bt : Nat} {marks : List Deferred} {b : Bool} {kv : Value} {kl ts : List ByteArray} (h : Hold2 w Bc L Bt marks b kv kl ts W) (hL : w.heap.size + 2 ≤ L) (hm : ∀ d ∈ marks, ∀ r, d.target = .collected r → r < L) (hk : ∀ g, kv.ownBlock = some g → g < L) (hBt : Bt < L) (hb : Mild L W W') : Hold2 w Bc L Bt marks b kv kl ts W' := by
  have hbl := hb.below h.size
  refine ⟨Nat.le_trans h.size hb.size, h.core.keep hL hbl, h.marked.below hm hbl, owns_block h.kept fun g hg => hbl.block g (hk g hg), ?_⟩
  obtain ⟨tv, h1, h2⟩ := h.row
  exact ⟨tv, (hbl.block _ hBt).trans h1, owns_block h2 fun g hg => hb.block g (h2.lt g hg).2 (Or.inr (h2.lt g hg).1)⟩
theorem Hold2.push {w W B w' : World} {Bc L Bt : Nat} {marks : List Deferred} {b : Bool} {kv tv tv' : Value} {kl ts ts' : List ByteArray} (h : Hold2 w Bc L Bt marks b kv kl ts W) (hL : w.heap.size + 2 ≤ L) (hm : ∀ d ∈ marks, ∀ r, d.target = .collected r → r < L) (hk : ∀ g, kv.ownBlock = some g → g < L)
    (hBt : Bt < L) (hBt2 : w.heap.size + 2 ≤ Bt) (hAB : Below W.heap.size W B) (hbx : Boxed W Bt 22 tv) (htv : ∀ g, tv.ownBlock = some g → L + 8 ≤ g) (hg : B.grownBy w' tv.ownBlock) (hown : w'.ownsRow (L + 8) 9 1 tv' ts'.length (ts'.map Value.string)) :
    Hold2 w Bc L Bt marks b kv kl ts' (w'.setCell ⟨Bt, 0, none⟩ tv') ∧ (∀ k, L ≤ k → k < L + 8 → k < W.heap.size → (w'.setCell ⟨Bt, 0, none⟩ tv').heap[k]? = W.heap[k]?) ∧ W.heap.size ≤ (w'.setCell ⟨Bt, 0, none⟩ tv').heap.size := by
  have hBs : L ≤ B.heap.size := Nat.le_trans h.size hAB.size
  have hW : Below L W w' := (hAB.mono h.size).grown hg hBs (fun k hk => by have := htv k hk; omega)
  have hbx' : Boxed w' Bt 22 tv := (hW.block _ hBt).trans hbx
  have hkept : w'.ownsRow (w.heap.size + 2) 9 1 kv kl.length (kl.map Value.string) := owns_block h.kept fun g hg => hW.block g (hk g hg)
  have hc := h.core.keep hL hW
  refine ⟨⟨?_, ⟨?_, ?_, ?_⟩, ?_, ?_, ⟨tv', ?_, ?_⟩⟩, ?_, ?_⟩
  · have := hW.size; have := h.size; simp; omega
  · exact hc.below.setCell (p := ⟨Bt, 0, none⟩) (by show w.heap.size ≤ Bt; omega) _
  · exact hc.box.other (by omega) _
  · exact hc.found.other (by omega) _
  · refine (h.marked.below hm hW).keep fun k hk _ => ?_
    have hne : k ≠ Bt := by
      intro e
      subst e
      have hf : w'.heap[k]? = some (.cells #[tv] 22 (0, 0)) := hbx'
      rw [hf] at hk
      cases hk
    exact (Below.heap_setCell _ _ _ _ hne).trans hk
  · refine owns_block hkept fun g hg => Below.heap_setCell _ _ _ _ ?_
    have := hbx'.not_row (by decide) hkept
    intro e
    exact this (by rw [hg, e])
  · exact hbx'.set _
  · refine owns_block hown fun g hg => Below.heap_setCell _ _ _ _ ?_
    have := (hown.lt g hg).1
    show g ≠ Bt
    omega
  · intro k k1 k2 k3
    refine (Below.heap_setCell _ _ _ _ (show k ≠ Bt by omega)).trans ?_
    refine (hg.block k (by have := hAB.size; omega) (fun e => ?_)).trans (hAB.block k k3)
    have := htv k e.symm
    omega
  · have := hAB.size; have := hg.size; simp; omega
theorem Core.grown {w A A' : World} {Bc : Nat} {b : Bool} {row : Option Nat} (h : Core w A Bc b) (hg : A.grownBy A' row) (hr : ∀ k, row = some k → w.heap.size + 2 ≤ k) : Core w A' Bc b := by
  have hs := h.size
  refine ⟨h.below.grown hg (by omega) (fun k hk => by have := hr k hk; omega), (hg.block _ (by omega) fun e => ?_).trans h.box, (hg.block _ (by omega) fun e => ?_).trans h.found⟩
  · have := hr _ e.symm; omega
  · have := hr _ e.symm; omega
theorem Marks.grown {B : Nat} {ds : List Deferred} {A A' : World} {base e size n : Nat} {v : Value} {xs : List Value} (h : Marks B ds A) (hown : A.ownsRow base e size v n xs) (hg : A.grownBy A' v.ownBlock) : Marks B ds A' := by
  refine h.keep fun k hk _ => (hg.block k (Array.getElem?_eq_some_iff.1 hk).1 fun e => ?_).trans hk
  rcases hown.2 with ⟨rfl, -⟩ | ⟨g, cap, cur, rfl, -, hh, -⟩
  · cases e
  · cases e
    rw [hh] at hk
    cases hk
theorem info9 : (Tryd.prog.info? 9).map (fun i => (i.zero, i.size, i.bytes)) = some (some (.string ByteArray.empty), 1, 16) := by kernel_rfl
theorem oneStr (x : ByteArray) : ∀ u ∈ [Value.string x], u.oneCell' = true := by
  intro u hu
  simp at hu
  subst hu
  rfl
theorem keepB_len (name : ByteArray) (xs : List ByteArray) : (keepB name xs).length ≤ xs.length := List.length_filter_le _ _
theorem leftB_len (name : ByteArray) (fs : List ByteArray) : (leftB name fs).length ≤ fs.length := by
  unfold leftB
  rw [List.length_map]
  exact Nat.le_trans (List.length_filter_le _ _) (by simp)
/-! How long what is kept of a field can be. -/
theorem pieces_lens (c : UInt8) : ∀ l : List UInt8, Lib.lens (pieces c l) + (pieces c l).length = l.length + 1
  | [] => by simp [pieces, Lib.lens]
  | b :: l => by
    have ih := pieces_lens c l
    unfold pieces
    split
    · simp [Lib.lens] at ih ⊢
      omega
    · cases h : pieces c l with
      | nil => exact absurd h (pieces_ne c l)
      | cons p ps =>
        rw [h] at ih
        simp [Lib.lens] at ih ⊢
        omega
end Go.Proofs.Qxb6616118aDoor
