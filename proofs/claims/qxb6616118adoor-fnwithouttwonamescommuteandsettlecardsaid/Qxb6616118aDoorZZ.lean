/-
  Without and ZZWithoutFields: the walks.
-/
import Derived.Test.Qxb6616118aDoorWith
import Derived.Test.Qxb6616118aDoorOps
namespace Go.Proofs.Qxb6616118aDoor
open Go.RowKit
theorem make33n (w : World) : (Instr.makeMap 33 none).run Tryd.prog w = .ok (.map (some w.heap.size)) (w.alloc (.map #[] 0)) := rfl
attribute [local go_sem] make33n

set_option maxHeartbeats 1000000 in
theorem Without_any (hCl : CloneC) (name : ByteArray) (sec : Bool) (M : Nat) (cv ov : Value) (fs os : List ByteArray) (w : World) (hT : Tabs w) (hM : w.heap[M]? = some (.map (es2 cv ov) 2)) (hc : StrSl w cv fs) (ho : StrSl w ov os)
    (hz : ∀ s ∈ fs, s.size ≤ 8388608) (hl : fs.length ≤ 1048576) (hlo : os.length ≤ 1048576) :
    Calls Tryd.prog 11 #[.agg #[.string name, .bool sec], .map (some M)] w fun e w' => ∃ M' es c cv' ov', e = .returned (.map (some M')) ∧ Below w.heap.size w w' ∧ w'.heap[M']? = some (.map es c) ∧ LooksTo es kC cv' ∧ LooksTo es kX ov' ∧ StrSl w' cv' (withoutB name fs) ∧ StrSl w' ov' os := by
  have hMl : M < w.heap.size := (Array.getElem?_eq_some_iff.1 hM).1
  have hb : Below w.heap.size w (w.alloc (.cells #[.string name, .bool sec] 31)) := (Below.refl _ w).alloc (Nat.le_refl _) _
  have HW := hide (callsIn_wide.1 (without_in 0 name M w.heap.size cv ov fs os (w.alloc (.cells #[.string name, .bool sec] 31)) (hT.below hb) ((hb.block M hMl).trans hM) (hc.below (Nat.le_refl _) hb) (ho.below (Nat.le_refl _) hb) (by simp) (by simp) hz hl hlo hCl))
  have HB := hide hb
  clear hb hM hc ho hT
  go_enter Tryd.func11, Tryd.ntmps11
  go_wp2_with (first | (go_at_call 15; refine HW.out.mono ?_; rintro e w' ⟨M', es, c, cv', ov', rfl, h1, h2, h3, h4, h5, h6⟩; have H1 := hide h1; have H2 := hide h2; have H3 := hide h3; have H4 := hide h4; have H5 := hide h5; have H6 := hide h6; clear h1 h2 h3 h4 h5 h6) | fail)
  go_ret
  exact ⟨M', es, c, cv', ov', rfl, HB.out.trans (H1.out.mono HB.out.size), H2.out, H3.out, H4.out, H5.out, H6.out⟩
set_option maxRecDepth 8000 in
set_option maxHeartbeats 1000000 in
theorem zz_any (hCl : CloneC) (name : ByteArray) (sec : Bool) (cv ov : Value) (fs os : List ByteArray) (w : World) (hT : Tabs w) (hc : StrSl w cv fs) (ho : StrSl w ov os)
    (hz : ∀ s ∈ fs, s.size ≤ 8388608) (hl : fs.length ≤ 1048576) (hlo : os.length ≤ 1048576) :
    Calls Tryd.prog 7 #[.string name, .bool sec, cv, ov] w fun e w' => ∃ cv' ov', e = .returned (.tuple #[cv', ov']) ∧ Below w.heap.size w w' ∧ StrSl w' cv' (withoutB name fs) ∧ StrSl w' ov' os := by
  have HT := hide hT
  have HC := hide hc
  have HO := hide ho
  clear hT hc ho
  have hb5 : Below w.heap.size w (((w.alloc (.cells #[.string name, .bool sec] 31)).alloc (.map #[] 0)).putObj (w.heap.size + 1) (.map (es2 cv ov) 2)) := (((Below.refl _ w).alloc (Nat.le_refl _) _).alloc (by simp) _).trans (below_put _ (by omega))
  have hh5 : (((w.alloc (.cells #[.string name, .bool sec] 31)).alloc (.map #[] 0)).putObj (w.heap.size + 1) (.map (es2 cv ov) 2)).heap[w.heap.size + 1]? = some (.map (es2 cv ov) 2) := World.putObj_heap_same (by simp)
  have HW := hide (Without_any hCl name sec (w.heap.size + 1) cv ov fs os _ (HT.out.below hb5) hh5 (HC.out.below (Nat.le_refl _) hb5) (HO.out.below (Nat.le_refl _) hb5) hz hl hlo)
  have HB := hide hb5
  have HI1 := hide (show ((w.alloc (.cells #[.string name, .bool sec] 31)).alloc (.map #[] 0)).heap[w.heap.size + 1]? = some (.map #[] 0) from by
    have := World.alloc_heap_new (w.alloc (.cells #[.string name, .bool sec] 31)) (.map #[] 0)
    rwa [World.size_alloc] at this)
  have HI2 := hide (fun o => show (((w.alloc (.cells #[.string name, .bool sec] 31)).alloc (.map #[] 0)).putObj (w.heap.size + 1) o).heap[w.heap.size + 1]? = some o from World.putObj_heap_same (by simp))
  clear hb5 hh5
  go_enter Tryd.func7, Tryd.ntmps7
  go_wp2_with (first
    | (refine wpList_insert33 rfl _ _ _ rfl rfl rfl rfl HI1.out (k := kC) (by rfl) ?_)
    | (refine wpList_insert33 rfl _ _ _ rfl rfl rfl rfl (HI2.out _) (k := kX) (by simp [Instr.findNow, Instr.sameNow, kXC]) ?_; rw [putObj_putObj])
    | (go_at_call 11; refine HW.out.mono ?_; rintro e w' ⟨M', es, c, cv', ov', rfl, h1, h2, h3, h4, h5, h6⟩; have H1 := hide h1; have H2 := hide h2; have H3 := hide h3; have H4 := hide h4; have H5 := hide h5; have H6 := hide h6; clear h1 h2 h3 h4 h5 h6)
    | fail)
  have hL1 : ∀ n, (Instr.lookup 33 (.map (some M')) (.string { data := #[67, 111, 111, 107, 105, 101] }) false).run Tryd.prog (w'.drewN n) = .ok cv' (w'.drewN n) := fun n => run_lookup33 (w := w'.drewN n) H2.out H3.out
  have hL2 : ∀ n, (Instr.lookup 33 (.map (some M')) (.string { data := #[88, 45, 79, 116, 104, 101, 114] }) false).run Tryd.prog (w'.drewN n) = .ok ov' (w'.drewN n) := fun n => run_lookup33 (w := w'.drewN n) H2.out H4.out
  go_quiet (fail)
  go_wp2
  go_ret2
  exact ⟨cv', ov', rfl, ⟨(HB.out.trans (H1.out.mono HB.out.size)).os, (HB.out.trans (H1.out.mono HB.out.size)).tape, (HB.out.trans (H1.out.mono HB.out.size)).output, (HB.out.trans (H1.out.mono HB.out.size)).size, (HB.out.trans (H1.out.mono HB.out.size)).block⟩, H5.out, H6.out⟩
end Go.Proofs.Qxb6616118aDoor
