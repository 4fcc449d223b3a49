/-
  A region that draws its order, inside a round of a range over a function.
-/
import Derived.Test.Qxb6616118aDoorRange
namespace Go.Proofs.Qxb6616118aDoor
open Go.RowKit

/-! A region that draws, inside a round, holds no defer statement: it is walked as outside. -/
def noDefer (o : Oper) : Bool := match o.op with
  | .defer _ => false
  | _ => true
theorem noDefer_ne {o : Oper} (h : noDefer o = true) : ∀ c, o.op ≠ .defer c := by
  intro c hc
  unfold noDefer at h
  rw [hc] at h
  cases h
theorem uponIn_round (l : Nat) {F : Fence} {n : Nat} {P : Program} {o : Oper} {a : Act} {K : Act → World → Prop} {Q : Exit → Act → World → Prop} {r : Result Next} (h : o.uponIn F n P a K Q r) : o.uponIn (F.inRound l) n P a K Q r := by
  cases r with
  | ok x w => cases x <;> exact h
  | halt x w => cases x <;> exact h
theorem wpOpIn_round (l : Nat) {F : Fence} {n : Nat} {P : Program} {ops : Array Oper} {Q : Exit → Act → World → Prop} {i : Nat} {K K' : Act → World → Prop} {a : Act} {w : World} (hd : ops.all noDefer = true)
    (hK : ∀ a w, K a w → K' a w) (h : wpOpIn F n P ops Q i K a w) : wpOpIn (F.inRound l) n P ops Q i K' a w := by
  refine wpOpIn_mono hK ?_
  unfold wpOpIn at *
  cases ho : ops[i]? with
  | none => rw [ho] at h; exact h
  | some o =>
    rw [ho] at h
    dsimp only at h ⊢
    have hn : noDefer o = true := by
      have := Array.all_eq_true'.1 hd o (Array.mem_of_getElem? ho)
      exact this
    split
    · rename_i hw
      rw [if_pos hw] at h
      unfold Oper.wpIn at *
      refine ⟨h.1, uponIn_round l ?_⟩
      have h2 := h.2
      rw [Oper.semAt_eq _ _ _ (noDefer_ne hn)] at h2 ⊢
      exact h2
    · rename_i hw
      rw [if_neg hw] at h
      exact h
theorem wpAnyIn_round (l : Nat) {F : Fence} {n : Nat} {P : Program} {ops : Array Oper} {md : Region.Mode} {Q : Exit → Act → World → Prop} (hd : ops.all noDefer = true) :
    ∀ (fuel : Nat) (listed : Array Bool) (a : Act) (w : World), wpAnyIn F n P md ops Q fuel listed a w → wpAnyIn (F.inRound l) n P md ops Q fuel listed a w
  | 0, _, _, _, h => h
  | fuel + 1, _, _, _, h => ⟨h.1, fun i hi => wpOpIn_round l hd (fun a w => wpAnyIn_round l hd fuel _ a w) (h.2 i hi)⟩
theorem region_any_round {id l n : Nat} {P : Program} {ops : Array Oper} {Q : Exit → Act → World → Prop} {a : Act} {w : World} (hm : P.follows .mixedOrders = true) (hd : ops.all noDefer = true)
    (h : wpAnyIn Fence.wide n P .any ops Q ops.size (Array.replicate ops.size false) a (World.drew w)) : (Code.region id ops true).wpIn (Fence.wide.inRound l) n P Q a w :=
  wpIn_region_any hm (wpAnyIn_round l hd _ _ _ _ h)
end Go.Proofs.Qxb6616118aDoor
