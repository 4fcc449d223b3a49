/-
  The walk of the shim ZZendLine.
-/
import Derived.Test.Qxb6614930aFmtEnd
namespace Go.Proofs.Qxb6614930aFmt
open Go.RowKit Go.PlainAid Go.Extern.Stop Go.Stop Go.Extern

set_option maxHeartbeats 2000000 in
theorem zz_any (t : ByteArray) (p : Nat) (w : World) (hT : Tabs w) (h3 : 2 < w.heap.size) (hp : p ≤ t.size) (ht : t.size ≤ 1048576) :
    Calls Tryf.prog 6 #[.string t, .int .i64 p] w fun e w' => ∃ (bad : Bool) (q : Nat), e = .returned (.tuple #[.bool bad, .int .i64 q]) ∧ EndSpec t p bad q ∧ Below w.heap.size w w' := by
  have hB : Below w.heap.size w (w.alloc (.cells #[.string t, .int .i64 p, .int .i64 0, .slice none 0 0, .pointer none] 32)) := (Below.refl _ w).alloc (Nat.le_refl _) _
  have HT := hide (hT.below hB h3)
  have HD := hide (show Dec w.heap.size t p (w.alloc (.cells #[.string t, .int .i64 p, .int .i64 0, .slice none 0 0, .pointer none] 32)) from ⟨by simp, by simp, by simp, by simp, by simp⟩)
  have HE := hide (endLine_any w.heap.size t p _ HD.out HT.out h3 hp ht)
  clear hT HT HD hB
  go_enter Tryf.func6, Tryf.ntmps6
  go_wp2_with (first | (go_at_call 11; refine HE.out.mono ?_; rintro e w1 ⟨bad, q, v, rfl, hv, hS, hD1, hB1⟩; rcases hv with ⟨rfl, rfl⟩ | ⟨rfl, a, rfl⟩) | fail)
  all_goals
    have HS := hide hS
    have HB := hide (((Below.refl _ w).alloc (Nat.le_refl _) (.cells #[.string t, .int .i64 p, .int .i64 0, .slice none 0 0, .pointer none] 32)).trans hB1)
    obtain ⟨g0, g1, g3, gf, gb⟩ := hD1
    clear HE hS hB1
    go_wp2
    go_quiet (fail)
    go_wp2
    go_ret2
    exact ⟨_, q, rfl, HS.out, below_drewN HB.out _⟩
end Go.Proofs.Qxb6614930aFmt
