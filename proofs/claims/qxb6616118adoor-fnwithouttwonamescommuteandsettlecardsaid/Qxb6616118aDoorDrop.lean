/-
  cookiePairs, the test Without$1, and the marks that a function with ranges over functions leaves.
-/
import Derived.Test.Qxb6616118aDoorPairs
namespace Go.Proofs.Qxb6616118aDoor
open Go.RowKit

theorem cookiePairs_any (f : ByteArray) (w : World) : Calls Tryd.prog 19 #[.string f] w fun e w' =>
    e = .returned (.func (.func 23) #[] #[.pointer (some ⟨w.heap.size, 0, none⟩)]) ∧ w' = w.alloc (.cells #[.string f] 9) := by
  go_enter Tryd.func19, Tryd.ntmps19
  go_wp2
  go_ret
  exact ⟨rfl, rfl⟩
/-- Does a cookie bear the name? -/
def dropB (name x : ByteArray) : Bool := (trimB (beforeB x)).toList == name.toList
theorem drop_any (x name : ByteArray) (Bc : Nat) (w : World) (hc : w.cell? ⟨Bc, 0, none⟩ = some (.string name)) (hlt : Bc < w.heap.size) : Calls Tryd.prog 16 #[pairV x, .pointer (some ⟨Bc, 0, none⟩)] w fun e w' =>
    e = .returned (.bool (dropB name x)) ∧ w' = w.alloc (.cells #[.string x, .string (trimB (beforeB x)), .string (trimB (afterB x))] 40) := by
  unfold pairV
  go_enter Tryd.func16, Tryd.ntmps16
  go_wp2
  go_ret
  exact ⟨rfl, rfl⟩

/-- What shutting deferred blocks from block B on does to the memory. -/
structure Shut (B : Nat) (W W' : World) : Prop where
  os : W'.os = W.os
  tape : W'.tape = W.tape
  output : W'.output = W.output
  size : W'.heap.size = W.heap.size
  block : ∀ k : Nat, (k < B ∨ ∀ d : Option (List Deferred), W.heap[k]? ≠ some (Obj.deferred d)) → W'.heap[k]? = W.heap[k]?
theorem Shut.refl (B : Nat) (W : World) : Shut B W W := ⟨rfl, rfl, rfl, rfl, fun _ _ => rfl⟩
theorem Shut.put {B : Nat} {W W' : World} (r : Nat) (d d' : Option (List Deferred)) (hB : B ≤ r) (hr : W.heap[r]? = some (.deferred d)) (h : Shut B (W.putObj r (.deferred d')) W') : Shut B W W' :=
  ⟨h.os, h.tape, h.output, by rw [h.size]; simp, fun k hk => by
    have hne : k ≠ r := fun e => by
      subst e
      rcases hk with hk | hk
      · omega
      · exact hk _ hr
    have e : (W.putObj r (.deferred d')).heap[k]? = W.heap[k]? := World.putObj_heap_other hne
    rw [h.block k (by rw [e]; exact hk), e]⟩
theorem Shut.below {B : Nat} {w W W' : World} (h : Shut B W W') (hb : Below B w W) : Below B w W' := hb.trans ⟨h.os, h.tape, h.output, by rw [h.size]; exact Nat.le_refl _, fun k hk => h.block k (.inl hk)⟩
/-- The marks of a frame: each names a block of its own, from block B on, that holds no call. -/
def Marks (B : Nat) : List Deferred → World → Prop
  | [], _ => True
  | d :: ds, W => (∃ r, d = { target := .collected r, args := #[] } ∧ B ≤ r ∧ W.heap[r]? = some (.deferred (some [])) ∧ ∀ d' ∈ ds, d'.target ≠ .collected r) ∧ Marks B ds W
theorem Marks.keep {B : Nat} : ∀ {ds : List Deferred} {W W' : World}, Marks B ds W → (∀ k, W.heap[k]? = some (.deferred (some [])) → (∃ d ∈ ds, d.target = .collected k) → W'.heap[k]? = some (.deferred (some []))) → Marks B ds W'
  | [], _, _, _, _ => trivial
  | d :: ds, W, W', ⟨⟨r, hd, hB, hr, hn⟩, hs⟩, h => ⟨⟨r, hd, hB, h r hr ⟨d, by simp, by rw [hd]⟩, hn⟩, hs.keep fun k hk ⟨d', hd', he⟩ => h k hk ⟨d', by simp [hd'], he⟩⟩
theorem Marks.mem {B : Nat} : ∀ {ds : List Deferred} {W : World}, Marks B ds W → ∀ d ∈ ds, ∀ r, d.target = .collected r → W.heap[r]? = some (.deferred (some []))
  | d :: ds, W, ⟨⟨r, hd, hB, hr, hn⟩, hs⟩, d', hm, r', he => by
    rcases List.mem_cons.1 hm with rfl | hm
    · rw [hd] at he
      cases he
      exact hr
    · exact hs.mem d' hm r' he
theorem leaves_marks {B n : Nat} {P : Program} {fn : Func} {tmps : Array Value} {R : Ending → World → Prop} {v : Value} (hres : ∀ W, (results fn tmps).run P W = .ok v W) :
    ∀ (ds : List Deferred) (W : World), Marks B ds W → (∀ W', Shut B W W' → R (.returned v) W') → LeavesInM Fence.wide n P fn tmps R ds .returning W
  | [], W, _, h => ⟨v, hres W, h W (Shut.refl B W)⟩
  | d :: ds, W, ⟨⟨r, hd, hB, hr, hn⟩, hs⟩, h => by
    subst hd
    refine ⟨by simp, .inl ⟨r, _, rfl, run_takeDeferred hr, ?_⟩⟩
    refine leaves_marks hres ds _ (hs.keep fun k hk ⟨d', hd', he⟩ => ?_) fun W' hW' => h W' (Shut.put r _ _ hB hr hW')
    have hne : k ≠ r := fun e => hn d' hd' (by rw [he, e])
    exact (World.putObj_heap_other hne).trans hk
end Go.Proofs.Qxb6616118aDoor
