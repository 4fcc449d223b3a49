/-
  Header.Clone at a header of two fields.
-/
import Derived.Test.Qxb6616118aDoorOps
namespace Go.Proofs.Qxb6616118aDoor
open Go.RowKit
theorem make33 (n : Int) (w : World) : (Instr.makeMap 33 (some (.int .i64 n))).run Tryd.prog w = .ok (.map (some w.heap.size)) (w.alloc (.map #[] 0)) := by
  simp [Instr.makeMap, run_underlying Tryd.underlying33, asInt, newObj]
  rfl
attribute [local go_sem] eqMap eqSl0 eqSl1 make33

/-- The first range: what it has counted. -/
def Cnt (w : World) (M lc lx : Nat) (v : Value) (wr : World) : Prop :=
  Below w.heap.size w wr ∧ wr.heap.size = w.heap.size + 1 ∧ ∃ seen, wr.heap[w.heap.size]? = some (.mapIter (some M) 2 seen 2) ∧
    ((seen = #[] ∧ v = .int .i64 0) ∨ (seen = #[0] ∧ v = .int .i64 lc) ∨ (seen = #[1] ∧ v = .int .i64 lx) ∨ ((seen = #[0, 1] ∨ seen = #[1, 0]) ∧ v = .int .i64 ((lc + lx : Nat) : Int)))
theorem putIter {w wr : World} {r : Nat} (o : Obj) (hb : Below w.heap.size w wr) (hr : w.heap.size ≤ r) : Below w.heap.size w (wr.putObj r o) ∧ Below w.heap.size w (wr.drew.putObj r o) :=
  ⟨hb.trans (below_put o hr), Below.trans (b := wr.drew) ⟨hb.os, hb.tape, hb.output, hb.size, hb.block⟩ (below_put o hr)⟩

/-- Where the copy of the other field lies. -/
def XAt (g : Nat) (os : List ByteArray) (x2 : Value) (cur : List Value) (off : Nat) : Prop :=
  (x2 = .slice none 0 0 ∧ os = []) ∨ (∃ o', x2 = .slice (some ⟨g, o', none⟩) os.length os.length ∧ (0 < os.length → o' = off) ∧ ∀ j, j < os.length → cur[off + j]? = some (.string (os.getD j ByteArray.empty)))
theorem XAt.sl {g : Nat} {os : List ByteArray} {x2 : Value} {cur : List Value} {off : Nat} {W : World} (h : XAt g os x2 cur off) (hg : W.heap[g]? = some (.cells cur.toArray 9 (0, 0))) : StrSl W x2 os := by
  rcases h with ⟨rfl, rfl⟩ | ⟨o', rfl, h1, h2⟩
  · exact StrSl.nil W
  · refine ⟨some ⟨g, o', none⟩, os.length, rfl, fun j hj => ⟨g, o', rfl, (Array.getElem?_eq_some_iff.1 hg).1, ?_⟩⟩
    rw [h1 (by omega)]
    have := h2 j hj
    simp [World.cell?, hg, this]
theorem XAt.low {g : Nat} {os : List ByteArray} {x2 : Value} {cur : List Value} (h : XAt g os x2 cur 0) (cs : List Value) (hl : os.length ≤ cur.length) : XAt g os x2 (splice cur os.length cs) 0 := by
  rcases h with h | ⟨o', h1, h2, h3⟩
  · exact .inl h
  · refine .inr ⟨o', h1, h2, fun j hj => ?_⟩
    rw [Nat.zero_add, splice_low _ _ _ _ hj hl]
    simpa using h3 j hj
/-- The second range: what it has copied. -/
def Cpy (w : World) (M g M2 sz lc lx : Nat) (os : List ByteArray) (sv : Value) (wr : World) : Prop :=
  Below w.heap.size w wr ∧ wr.heap.size = sz ∧ ∃ (seen : Array Nat) (es : Array MapEntry) (cur : List Value) (o L : Nat), sv = .slice (some ⟨g, o, none⟩) L L ∧ wr.heap[g]? = some (.cells cur.toArray 9 (0, 0)) ∧ cur.length = lc + lx ∧
    wr.heap[M2]? = some (.map es es.size) ∧ wr.heap[M2 + 1]? = some (.mapIter (some M) 2 seen 2) ∧
    ((seen = #[] ∧ es = #[] ∧ o = 0 ∧ L = lc + lx) ∨
     (seen = #[0] ∧ ∃ c2, es = #[{ key := .string kC, val := c2, born := 0 }] ∧ L = lx ∧ (0 < lx → o = lc)) ∨
     (seen = #[1] ∧ ∃ x2, es = #[{ key := .string kX, val := x2, born := 0 }] ∧ L = lc ∧ (0 < lc → o = lx) ∧ XAt g os x2 cur 0) ∨
     (seen = #[0, 1] ∧ ∃ c2 x2, es = #[{ key := .string kC, val := c2, born := 0 }, { key := .string kX, val := x2, born := 1 }] ∧ XAt g os x2 cur lc) ∨
     (seen = #[1, 0] ∧ ∃ c2 x2, es = #[{ key := .string kX, val := x2, born := 0 }, { key := .string kC, val := c2, born := 1 }] ∧ XAt g os x2 cur 0))
theorem below_drew {B : Nat} {w W : World} (h : Below B w W) : Below B w W.drew := ⟨h.os, h.tape, h.output, h.size, h.block⟩
theorem cpy_world {w wr : World} {g M2 sz : Nat} {cur : Array Value} {es : Array MapEntry} {c : Nat} {m : Option Nat} {c1 c2 : Nat} {seen : Array Nat} (hb : Below w.heap.size w wr) (hs : wr.heap.size = sz) (hg : wr.heap[g]? = some (.cells cur 9 (0, 0))) (hm : wr.heap[M2]? = some (.map es c)) (hr : wr.heap[M2 + 1]? = some (.mapIter m c1 seen c2))
    (hgw : w.heap.size ≤ g) (hMw : w.heap.size ≤ M2) (X Z : Obj) (Y : Array Value) : Below w.heap.size w (((wr.putObj (M2 + 1) X).setRow g Y).putObj M2 Z) ∧ (((wr.putObj (M2 + 1) X).setRow g Y).putObj M2 Z).heap.size = sz ∧
      (((wr.putObj (M2 + 1) X).setRow g Y).putObj M2 Z).heap[g]? = some (.cells Y 9 (0, 0)) ∧ (((wr.putObj (M2 + 1) X).setRow g Y).putObj M2 Z).heap[M2]? = some Z ∧ (((wr.putObj (M2 + 1) X).setRow g Y).putObj M2 Z).heap[M2 + 1]? = some X ∧
      (wr.putObj (M2 + 1) X).heap[g]? = some (.cells cur 9 (0, 0)) ∧ (wr.putObj (M2 + 1) X).heap[M2]? = some (.map es c) ∧ ((wr.putObj (M2 + 1) X).setRow g Y).heap[M2]? = some (.map es c) := by
  have n1 : g ≠ M2 := fun e => by rw [e, hm] at hg; cases hg
  have n2 : g ≠ M2 + 1 := fun e => by rw [e, hr] at hg; cases hg
  have l1 := (Array.getElem?_eq_some_iff.1 hm).1
  have l2 := (Array.getElem?_eq_some_iff.1 hr).1
  have e1 : (wr.putObj (M2 + 1) X).heap[g]? = some (.cells cur 9 (0, 0)) := (World.putObj_heap_other n2).trans hg
  have e2 : (wr.putObj (M2 + 1) X).heap[M2]? = some (.map es c) := (World.putObj_heap_other (by omega)).trans hm
  have e3 : ((wr.putObj (M2 + 1) X).setRow g Y).heap[M2]? = some (.map es c) := (setRow_other _ _ _ _ (Ne.symm n1)).trans e2
  have e4 : ((wr.putObj (M2 + 1) X).setRow g Y).heap[M2 + 1]? = some X := (setRow_other _ _ _ _ (Ne.symm n2)).trans (World.putObj_heap_same l2)
  refine ⟨?_, by simp [hs], ?_, ?_, ?_, e1, e2, e3⟩
  · exact (below_setRow (hb.trans (below_put X (by omega))) hgw Y).trans (below_put Z hMw)
  · exact (World.putObj_heap_other n1).trans (setRow_heap _ g cur Y 9 _ e1)
  · exact World.putObj_heap_same (Array.getElem?_eq_some_iff.1 e3).1
  · exact (World.putObj_heap_other (by omega)).trans e4
theorem cells_of {w W : World} {a : Option Addr} {ss : List ByteArray} (h : ∀ j, j < ss.length → ∃ b off, a = some ⟨b, off, none⟩ ∧ b < w.heap.size ∧ w.cell? ⟨b, off + j, none⟩ = some (.string (ss.getD j ByteArray.empty))) (hb : Below w.heap.size w W) (h0 : 0 < ss.length) :
    ∃ ad, a = some ad ∧ ∀ j v, (ss.map Value.string)[j]? = some v → W.cell? (ad.add j) = some v := by
  obtain ⟨b, off, rfl, hlt, -⟩ := h 0 h0
  refine ⟨_, rfl, fun j v hj => ?_⟩
  have hjl : j < ss.length := by simpa using (List.getElem?_eq_some_iff.1 hj).1
  obtain ⟨b', off', e, -, hc⟩ := h j hjl
  cases e
  have e2 : (⟨b, off, none⟩ : Addr).add j = ⟨b, off + j, none⟩ := by
    unfold Addr.add
    split
    · simp_all
    · rfl
  rw [e2, hb.cell (p := ⟨b, off + j, none⟩) hlt, hc]
  simp [List.getElem?_eq_getElem hjl] at hj
  rw [← hj]
  simp [List.getD, List.getElem?_eq_getElem hjl]
theorem nat_min_left {a b : Nat} (h : a ≤ b) : Nat.min a b = a := Nat.min_eq_left h
theorem strs_one (ss : List ByteArray) : ∀ v ∈ ss.map Value.string, v.oneCell' = true := by
  intro v hv
  obtain ⟨x, -, rfl⟩ := List.mem_map.1 hv
  rfl

set_option maxRecDepth 8000 in
set_option maxHeartbeats 4000000 in
theorem clone_any : CloneC := by
  intro M cv ov cs os w hM hc ho hlc hlo
  obtain ⟨ac, cpc, rfl, hcc⟩ := hc
  obtain ⟨ax, cpx, rfl, hxx⟩ := ho
  have HM := hide hM
  have hMl : M < w.heap.size := (Array.getElem?_eq_some_iff.1 hM).1
  clear hM
  obtain ⟨lc, hlcE⟩ : ∃ lc, lc = cs.length := ⟨_, rfl⟩
  obtain ⟨lx, hlxE⟩ : ∃ lx, lx = os.length := ⟨_, rfl⟩
  rw [← hlcE] at hlc HM
  rw [← hlxE] at hlo HM
  have HLC := hide hlcE
  have HLX := hide hlxE
  have HCC := hide hcc
  have HXX := hide hxx
  clear hlcE hlxE hcc hxx
  go_enter Tryd.func21, Tryd.ntmps21
  go_wp2_with (first | (at_range; refine wpList_range_run rfl _ rfl rfl HM.out ?_) | fail)
  simp only [Act.put, List.setIfInBounds_toArray, List.set_cons_succ, List.set_cons_zero]
  go_loopw [3] (fun v wr => Cnt w M lc lx v wr) (fun _ wr => leftN wr w.heap.size)
  case atStart => exact ⟨(Below.refl _ w).alloc (Nat.le_refl _) _, by simp, #[], World.alloc_heap_new _ _, .inl ⟨rfl, rfl⟩⟩
  case round =>
    obtain ⟨hb, hsz, seen, hr, hst⟩ := hrel
    have hMr := (hb.block M hMl).trans HM.out
    have HMr := hide hMr
    have HB := hide hb
    have HR := hide hr
    have hrl : w.heap.size < wr.heap.size := by omega
    have hMne : M ≠ w.heap.size := by omega
    rcases hst with ⟨rfl, rfl⟩ | ⟨rfl, rfl⟩ | ⟨rfl, rfl⟩ | ⟨hse, rfl⟩
    · rcases run_next_first hMr hr with hN | hN
      · have HN := hide hN
        have HE := hide (run_entry_C (w := wr.drew.putObj w.heap.size (.mapIter (some M) 2 #[0] 2)) (r := w.heap.size) (.inl rfl) ((World.putObj_heap_other (w := wr.drew) hMne).trans hMr) (World.putObj_heap_same hrl))
        clear hN hr hb hMr
        go_wp2_with (first | (at_next; refine wpList_next_run rfl _ rfl rfl HN.out ?_) | (refine wpList_entry_run rfl _ rfl rfl HE.out ?_) | fail)
        go_roundw
        case rel => exact ⟨(putIter _ HB.out (Nat.le_refl _)).2, by simpa using hsz, #[0], World.putObj_heap_same hrl, .inr (.inl ⟨rfl, rfl⟩)⟩
        case measure => rw [leftN_of (World.putObj_heap_same (w := wr.drew) hrl), leftN_of HR.out]; simp
      · have HN := hide hN
        have HE := hide (run_entry_X (w := wr.drew.putObj w.heap.size (.mapIter (some M) 2 #[1] 2)) (r := w.heap.size) (.inl rfl) ((World.putObj_heap_other (w := wr.drew) hMne).trans hMr) (World.putObj_heap_same hrl))
        clear hN hr hb hMr
        go_wp2_with (first | (at_next; refine wpList_next_run rfl _ rfl rfl HN.out ?_) | (refine wpList_entry_run rfl _ rfl rfl HE.out ?_) | fail)
        go_roundw
        case rel => exact ⟨(putIter _ HB.out (Nat.le_refl _)).2, by simpa using hsz, #[1], World.putObj_heap_same hrl, .inr (.inr (.inl ⟨rfl, rfl⟩))⟩
        case measure => rw [leftN_of (World.putObj_heap_same (w := wr.drew) hrl), leftN_of HR.out]; simp
    · have HN := hide (fun t => run_next_X t hMr hr)
      have HE := hide (run_entry_X (w := wr.putObj w.heap.size (.mapIter (some M) 2 #[0, 1] 2)) (r := w.heap.size) (.inr rfl) ((World.putObj_heap_other hMne).trans hMr) (World.putObj_heap_same hrl))
      clear hr hb hMr
      go_wp2_with (first | (at_next; refine wpList_next_run rfl _ rfl rfl HN.out ?_) | (refine wpList_entry_run rfl _ rfl rfl HE.out ?_) | fail)
      go_roundw
      case rel => exact ⟨(putIter _ HB.out (Nat.le_refl _)).1, by simpa using hsz, #[0, 1], World.putObj_heap_same hrl, .inr (.inr (.inr ⟨.inl rfl, by first | rfl | (congr 1; omega)⟩))⟩
      case measure => rw [leftN_of (World.putObj_heap_same hrl), leftN_of HR.out]; simp
    · have HN := hide (fun t => run_next_C t hMr hr)
      have HE := hide (run_entry_C (w := wr.putObj w.heap.size (.mapIter (some M) 2 #[1, 0] 2)) (r := w.heap.size) (.inr rfl) ((World.putObj_heap_other hMne).trans hMr) (World.putObj_heap_same hrl))
      clear hr hb hMr
      go_wp2_with (first | (at_next; refine wpList_next_run rfl _ rfl rfl HN.out ?_) | (refine wpList_entry_run rfl _ rfl rfl HE.out ?_) | fail)
      go_roundw
      case rel => exact ⟨(putIter _ HB.out (Nat.le_refl _)).1, by simpa using hsz, #[1, 0], World.putObj_heap_same hrl, .inr (.inr (.inr ⟨.inr rfl, by first | rfl | (congr 1; omega)⟩))⟩
      case measure => rw [leftN_of (World.putObj_heap_same hrl), leftN_of HR.out]; simp
    · have HN := hide (fun t => run_next_end t hse hMr hr)
      obtain ⟨i0, hi0, hz0, hz1, hz2⟩ := info_parts info9
      clear hr hb hMr
      go_wp2_with (first
        | (at_next; refine wpList_next_run rfl _ rfl rfl HN.out ?_)
        | (at_make; refine wpList_make_full _ rfl _ _ 22 rfl (w.heap.size + 1) 9 i0 (.string ByteArray.empty) 1 Tryd.underlying22 hi0 hz0 hz1 _ _ _ _ (lc + lx) rfl rfl rfl rfl (by rw [hz2]; omega) (by unfold maxLen; omega) (by omega) ?_
           intro w2 hown2 hgr2
           have HO2 := hide hown2
           have HG2 := hide hgr2
           have HM2 := hide ((hgr2.block M (by omega) (by simp)).trans HMr.out)
           have HM3 := hide ((Below.heap_alloc w2 (.map #[] 0) M (by have := hgr2.size; omega)).trans HM2.out)
           clear hown2 hgr2)
        | (refine wpList_lenMap rfl _ rfl rfl HM2.out ?_)
        | (at_range; refine wpList_range_run rfl _ rfl rfl HM3.out ?_)
        | fail)
      --LOOP2
      simp only [Act.put, List.setIfInBounds_toArray, List.set_cons_succ, List.set_cons_zero, World.size_alloc]
      obtain ⟨g, hgE⟩ : ∃ g, g = w.heap.size + 1 := ⟨_, rfl⟩
      have hown := HO2.out
      rw [hsz, ← hgE] at hown
      rw [← hgE]
      obtain ⟨hcl, hof⟩ := hown
      rcases hof with ⟨hbad, -⟩ | ⟨g', cap', cur0, hge, hgb, hgh, hgc, hgm, hgs, hgt⟩
      · cases hbad
      cases hge
      have hsz2 : g < w2.heap.size := (Array.getElem?_eq_some_iff.1 hgh).1
      have hb2 : Below w.heap.size w w2 := HB.out.grown HG2.out (by omega) (by simp)
      have hb3 : Below w.heap.size w ((w2.alloc (.map #[] 0)).alloc (.mapIter (some M) 2 #[] 2)) := (hb2.alloc (by omega) _).alloc (by simp; omega) _
      have hst0 : Cpy w M g w2.heap.size (w2.heap.size + 2) lc lx os (.slice (some ⟨g, 0, none⟩) (lc + lx) (lc + lx)) ((w2.alloc (.map #[] 0)).alloc (.mapIter (some M) 2 #[] 2)) := by
        refine ⟨hb3, by simp, #[], #[], cur0.toList, 0, lc + lx, rfl, ?_, by simp [hgs], ?_, ?_, .inl ⟨rfl, rfl, rfl, rfl⟩⟩
        · exact (Below.heap_alloc _ _ _ (by simp; omega)).trans ((Below.heap_alloc _ _ _ hsz2).trans (by simpa using hgh))
        · exact (Below.heap_alloc _ _ _ (by simp)).trans (World.alloc_heap_new w2 _)
        · have := World.alloc_heap_new (w2.alloc (.map #[] 0)) (.mapIter (some M) 2 #[] 2)
          rwa [World.size_alloc] at this
      have HST := hide hst0
      have HGE := hide (show w.heap.size ≤ g ∧ w.heap.size ≤ w2.heap.size by omega)
      clear hst0 hb3 hb2 hcl hgb hgh hgc hgm hgs hgt HO2 HG2 HM2 HM3 HR HB HN HMr hse hgE
      generalize ((w2.alloc (.map #[] 0)).alloc (.mapIter (some M) 2 #[] 2)) = w3 at HST ⊢
      obtain ⟨M2, hM2E⟩ : ∃ M2, M2 = w2.heap.size := ⟨_, rfl⟩
      rw [← hM2E] at HST HGE ⊢
      have hM2w : M < M2 := by have := HGE.out; omega
      clear hM2E hsz2 hsz hrl
      go_loopw [6] (fun sv wr => Cpy w M g M2 (M2 + 2) lc lx os sv wr) (fun _ wr => leftN wr (M2 + 1))
      case atStart => exact HST.out
      case round =>
        clear HST
        obtain ⟨hb, hsz, seen, es, cur, o, L, rfl, hg, hcl, hm, hr, hst⟩ := hrel
        have hMr : wr.heap[M]? = _ := (hb.block M hMl).trans HM.out
        have hMn : M ≠ M2 + 1 := by omega
        have hr2l : M2 + 1 < wr.heap.size := by omega
        have HR := hide hr
        rcases hst with ⟨rfl, rfl, rfl, hLE⟩ | ⟨rfl, c2, rfl, hLE, ho2⟩ | ⟨rfl, x2, rfl, hLE, ho2, hX⟩ | ⟨rfl, c2, x2, rfl, hX⟩ | ⟨rfl, c2, x2, rfl, hX⟩
        --BRANCHES
        · subst L
          rcases run_next_first hMr hr with hN | hN
          · have HN := hide hN
            clear hN
            have HE := hide (run_entry_C (w := wr.drew.putObj (M2 + 1) (.mapIter (some M) 2 #[0] 2)) (r := M2 + 1) (.inl rfl) ((World.putObj_heap_other (w := wr.drew) hMn).trans hMr) (World.putObj_heap_same hr2l))
            have HCW := hide (fun Z Y => cpy_world (wr := wr.drew) (below_drew hb) hsz hg hm hr HGE.out.1 HGE.out.2 (.mapIter (some M) 2 #[0] 2) Z Y)
            have HBp := hide (show Below w.heap.size w (wr.drew.putObj (M2 + 1) (.mapIter (some M) 2 #[0] 2)) from Below.trans (b := wr.drew) (below_drew hb) (below_put _ (by have := HGE.out.2; omega)))
            have HG := hide hg
            have hfind : Instr.findNow .string (.string kC) (#[] : Array MapEntry).toList 0 = some none := by simp [Instr.findNow]
            have HF := hide hfind
            clear hfind hg hb hm hr hMr
            cases hcase : ac with
            | none =>
              subst hcase
              have hss : cs = [] := by
                cases hs : cs with
                | nil => rfl
                | cons y ys =>
                  obtain ⟨b, off, hbad, -⟩ := HCC.out 0 (by rw [hs]; simp)
                  cases hbad
              have hl0 : lc = 0 := by rw [HLC.out, hss]; rfl
              have HL0 := hide hl0
              have HSS := hide hss
              clear hl0 hss
              go_wp2_with (first | (at_next; refine wpList_next_run rfl _ rfl rfl HN.out ?_) | (refine wpList_entry_run rfl _ rfl rfl HE.out ?_) | (at_mapUpdate; refine wpList_update33 rfl _ _ _ rfl rfl rfl rfl (HCW.out (.map #[] 0) #[]).2.2.2.2.2.2.1 HF.out ?_) | fail)
              have hself : wr.drew.putObj (M2 + 1) (.mapIter (some M) 2 #[0] 2) = (wr.drew.putObj (M2 + 1) (.mapIter (some M) 2 #[0] 2)).setRow g cur.toArray := (setRow_self _ g cur.toArray 9 (0, 0) (HCW.out (.map #[] 0) #[]).2.2.2.2.2.1).symm
              rw [hself]
              obtain ⟨q1, q2, q3, q4, q5, -, -, -⟩ := HCW.out (.map #[{ key := .string kC, val := .slice none 0 0, born := 0 }] 1) cur.toArray
              go_roundw
              case rel =>
                refine ⟨q1, q2, #[0], #[{ key := .string kC, val := .slice none 0 0, born := 0 }], cur, _, _, rfl, q3, hcl, q4, q5, ?_⟩
                have hl0 := HL0.out
                have hss := HSS.out
                exact .inr (.inl ⟨rfl, _, rfl, by omega, fun h => by first | omega | rw [if_neg (by omega)]⟩)
              case measure => rw [leftN_of q5, leftN_of HR.out]; simp
            | some ad0 =>
              subst hcase
              obtain ⟨cc, hcc⟩ : ∃ cc, cc = cs.map Value.string := ⟨_, rfl⟩
              have hccl : cc.length = lc := by rw [hcc, List.length_map, HLC.out]
              have HPO := hide (show 0 < cc.length → ∃ ad, some ad0 = some ad ∧ ∀ j v, cc[j]? = some v → (wr.drew.putObj (M2 + 1) (.mapIter (some M) 2 #[0] 2)).cell? (ad.add j) = some v from fun h => by rw [hcc]; exact cells_of HCC.out HBp.out (by rw [← HLC.out]; omega))
              have HONE := hide (show ∀ v ∈ cc, v.oneCell' = true from by rw [hcc]; exact strs_one _)
              have HCCE := hide hcc
              clear hcc
              go_wp2_with (first
                | (at_next; refine wpList_next_run rfl _ rfl rfl HN.out ?_)
                | (refine wpList_entry_run rfl _ rfl rfl HE.out ?_)
                | (refine wpList_copy_row rfl _ _ rfl _ _ _ _ _ _ rfl rfl g 0 cur (HCW.out (.map #[] 0) #[]).2.2.2.2.2.1 cc (by rw [hccl, nat_min_left (by omega)]) (fun h => ⟨rfl, HPO.out h⟩) (by omega) HONE.out ?_; rw [hccl])
                | (refine wpList_sliceTo rfl _ _ _ rfl rfl rfl rfl (by omega) ?_)
                | (at_mapUpdate; refine wpList_update33 rfl _ _ _ rfl rfl rfl rfl (HCW.out (.map #[] 0) _).2.2.2.2.2.2.2 HF.out ?_)
                | (refine wpList_sliceFrom rfl _ _ rfl rfl rfl (by omega) ?_)
                | fail)
              obtain ⟨q1, q2, q3, q4, q5, -, -, -⟩ := HCW.out (.map #[{ key := .string kC, val := .slice (some ⟨g, 0, none⟩) lc lc, born := 0 }] 1) (splice cur 0 cc).toArray
              go_roundw
              case rel =>
                refine ⟨q1, q2, #[0], #[{ key := .string kC, val := .slice (some ⟨g, 0, none⟩) lc lc, born := 0 }], splice cur 0 cc, (if lx = 0 then 0 else lc), lx, by split <;> rfl, q3, by rw [length_splice _ _ _ (by omega)]; exact hcl, q4, q5, ?_⟩
                exact .inr (.inl ⟨rfl, _, rfl, by omega, fun h => by first | omega | rw [if_neg (by omega)]⟩)
              case measure => rw [leftN_of q5, leftN_of HR.out]; simp
          · have HN := hide hN
            clear hN
            have HE := hide (run_entry_X (w := wr.drew.putObj (M2 + 1) (.mapIter (some M) 2 #[1] 2)) (r := M2 + 1) (.inl rfl) ((World.putObj_heap_other (w := wr.drew) hMn).trans hMr) (World.putObj_heap_same hr2l))
            have HCW := hide (fun Z Y => cpy_world (wr := wr.drew) (below_drew hb) hsz hg hm hr HGE.out.1 HGE.out.2 (.mapIter (some M) 2 #[1] 2) Z Y)
            have HBp := hide (show Below w.heap.size w (wr.drew.putObj (M2 + 1) (.mapIter (some M) 2 #[1] 2)) from Below.trans (b := wr.drew) (below_drew hb) (below_put _ (by have := HGE.out.2; omega)))
            have HG := hide hg
            have hfind : Instr.findNow .string (.string kX) (#[] : Array MapEntry).toList 0 = some none := by simp [Instr.findNow]
            have HF := hide hfind
            clear hfind hg hb hm hr hMr
            cases hcase : ax with
            | none =>
              subst hcase
              have hss : os = [] := by
                cases hs : os with
                | nil => rfl
                | cons y ys =>
                  obtain ⟨b, off, hbad, -⟩ := HXX.out 0 (by rw [hs]; simp)
                  cases hbad
              have hl0 : lx = 0 := by rw [HLX.out, hss]; rfl
              have HL0 := hide hl0
              have HSS := hide hss
              clear hl0 hss
              go_wp2_with (first | (at_next; refine wpList_next_run rfl _ rfl rfl HN.out ?_) | (refine wpList_entry_run rfl _ rfl rfl HE.out ?_) | (at_mapUpdate; refine wpList_update33 rfl _ _ _ rfl rfl rfl rfl (HCW.out (.map #[] 0) #[]).2.2.2.2.2.2.1 HF.out ?_) | fail)
              have hself : wr.drew.putObj (M2 + 1) (.mapIter (some M) 2 #[1] 2) = (wr.drew.putObj (M2 + 1) (.mapIter (some M) 2 #[1] 2)).setRow g cur.toArray := (setRow_self _ g cur.toArray 9 (0, 0) (HCW.out (.map #[] 0) #[]).2.2.2.2.2.1).symm
              rw [hself]
              obtain ⟨q1, q2, q3, q4, q5, -, -, -⟩ := HCW.out (.map #[{ key := .string kX, val := .slice none 0 0, born := 0 }] 1) cur.toArray
              go_roundw
              case rel =>
                refine ⟨q1, q2, #[1], #[{ key := .string kX, val := .slice none 0 0, born := 0 }], cur, _, _, rfl, q3, hcl, q4, q5, ?_⟩
                have hl0 := HL0.out
                have hss := HSS.out
                exact .inr (.inr (.inl ⟨rfl, _, rfl, by omega, fun h => by omega, .inl ⟨rfl, hss⟩⟩))
              case measure => rw [leftN_of q5, leftN_of HR.out]; simp
            | some ad0 =>
              subst hcase
              obtain ⟨cc, hcc⟩ : ∃ cc, cc = os.map Value.string := ⟨_, rfl⟩
              have hccl : cc.length = lx := by rw [hcc, List.length_map, HLX.out]
              have HPO := hide (show 0 < cc.length → ∃ ad, some ad0 = some ad ∧ ∀ j v, cc[j]? = some v → (wr.drew.putObj (M2 + 1) (.mapIter (some M) 2 #[1] 2)).cell? (ad.add j) = some v from fun h => by rw [hcc]; exact cells_of HXX.out HBp.out (by rw [← HLX.out]; omega))
              have HONE := hide (show ∀ v ∈ cc, v.oneCell' = true from by rw [hcc]; exact strs_one _)
              have HCCE := hide hcc
              clear hcc
              go_wp2_with (first
                | (at_next; refine wpList_next_run rfl _ rfl rfl HN.out ?_)
                | (refine wpList_entry_run rfl _ rfl rfl HE.out ?_)
                | (refine wpList_copy_row rfl _ _ rfl _ _ _ _ _ _ rfl rfl g 0 cur (HCW.out (.map #[] 0) #[]).2.2.2.2.2.1 cc (by rw [hccl, nat_min_left (by omega)]) (fun h => ⟨rfl, HPO.out h⟩) (by omega) HONE.out ?_; rw [hccl])
                | (refine wpList_sliceTo rfl _ _ _ rfl rfl rfl rfl (by omega) ?_)
                | (at_mapUpdate; refine wpList_update33 rfl _ _ _ rfl rfl rfl rfl (HCW.out (.map #[] 0) _).2.2.2.2.2.2.2 HF.out ?_)
                | (refine wpList_sliceFrom rfl _ _ rfl rfl rfl (by omega) ?_)
                | fail)
              obtain ⟨q1, q2, q3, q4, q5, -, -, -⟩ := HCW.out (.map #[{ key := .string kX, val := .slice (some ⟨g, 0, none⟩) lx lx, born := 0 }] 1) (splice cur 0 cc).toArray
              go_roundw
              case rel =>
                refine ⟨q1, q2, #[1], #[{ key := .string kX, val := .slice (some ⟨g, 0, none⟩) lx lx, born := 0 }], splice cur 0 cc, (if lc = 0 then 0 else lx), lc, by split <;> rfl, q3, by rw [length_splice _ _ _ (by omega)]; exact hcl, q4, q5, ?_⟩
                exact .inr (.inr (.inl ⟨rfl, _, rfl, by omega, fun h => by first | omega | rw [if_neg (by omega)], .inr ⟨0, by rw [← HLX.out], fun _ => rfl, fun j hj => by rw [splice_at _ _ _ _ (by rw [hccl, HLX.out]; exact hj) (Nat.zero_le _), HCCE.out]; simp [List.getD, List.getElem?_eq_getElem hj]⟩⟩))
              case measure => rw [leftN_of q5, leftN_of HR.out]; simp
        · subst L
          have HN := hide (fun t => run_next_X t hMr hr)
          have HE := hide (run_entry_X (w := wr.putObj (M2 + 1) (.mapIter (some M) 2 #[0, 1] 2)) (r := M2 + 1) (.inr rfl) ((World.putObj_heap_other (w := wr) hMn).trans hMr) (World.putObj_heap_same hr2l))
          have HCW := hide (fun Z Y => cpy_world (wr := wr) hb hsz hg hm hr HGE.out.1 HGE.out.2 (.mapIter (some M) 2 #[0, 1] 2) Z Y)
          have HBp := hide (show Below w.heap.size w (wr.putObj (M2 + 1) (.mapIter (some M) 2 #[0, 1] 2)) from Below.trans (b := wr) hb (below_put _ (by have := HGE.out.2; omega)))
          have HG := hide hg
          have hfind : Instr.findNow .string (.string kX) (#[{ key := .string kC, val := c2, born := 0 }] : Array MapEntry).toList 0 = some none := by simp [Instr.findNow, Instr.sameNow, kXC]
          have HF := hide hfind
          clear hfind hg hb hm hr hMr
          cases hcase : ax with
          | none =>
            subst hcase
            have hss : os = [] := by
              cases hs : os with
              | nil => rfl
              | cons y ys =>
                obtain ⟨b, off, hbad, -⟩ := HXX.out 0 (by rw [hs]; simp)
                cases hbad
            have hl0 : lx = 0 := by rw [HLX.out, hss]; rfl
            have HL0 := hide hl0
            have HSS := hide hss
            clear hl0 hss
            go_wp2_with (first | (at_next; refine wpList_next_run rfl _ rfl rfl HN.out ?_) | (refine wpList_entry_run rfl _ rfl rfl HE.out ?_) | (at_mapUpdate; refine wpList_update33 rfl _ _ _ rfl rfl rfl rfl (HCW.out (.map #[] 0) #[]).2.2.2.2.2.2.1 HF.out ?_) | fail)
            have hself : wr.putObj (M2 + 1) (.mapIter (some M) 2 #[0, 1] 2) = (wr.putObj (M2 + 1) (.mapIter (some M) 2 #[0, 1] 2)).setRow g cur.toArray := (setRow_self _ g cur.toArray 9 (0, 0) (HCW.out (.map #[] 0) #[]).2.2.2.2.2.1).symm
            rw [hself]
            obtain ⟨q1, q2, q3, q4, q5, -, -, -⟩ := HCW.out (.map #[{ key := .string kC, val := c2, born := 0 }, { key := .string kX, val := .slice none 0 0, born := 1 }] 2) cur.toArray
            go_roundw
            case rel =>
              refine ⟨q1, q2, #[0, 1], #[{ key := .string kC, val := c2, born := 0 }, { key := .string kX, val := .slice none 0 0, born := 1 }], cur, _, _, rfl, q3, hcl, q4, q5, ?_⟩
              have hl0 := HL0.out
              have hss := HSS.out
              exact .inr (.inr (.inr (.inl ⟨rfl, c2, _, rfl, .inl ⟨rfl, hss⟩⟩)))
            case measure => rw [leftN_of q5, leftN_of HR.out]; simp
          | some ad0 =>
            subst hcase
            obtain ⟨cc, hcc⟩ : ∃ cc, cc = os.map Value.string := ⟨_, rfl⟩
            have hccl : cc.length = lx := by rw [hcc, List.length_map, HLX.out]
            have HPO := hide (show 0 < cc.length → ∃ ad, some ad0 = some ad ∧ ∀ j v, cc[j]? = some v → (wr.putObj (M2 + 1) (.mapIter (some M) 2 #[0, 1] 2)).cell? (ad.add j) = some v from fun h => by rw [hcc]; exact cells_of HXX.out HBp.out (by rw [← HLX.out]; omega))
            have HONE := hide (show ∀ v ∈ cc, v.oneCell' = true from by rw [hcc]; exact strs_one _)
            have HCCE := hide hcc
            clear hcc
            go_wp2_with (first
              | (at_next; refine wpList_next_run rfl _ rfl rfl HN.out ?_)
              | (refine wpList_entry_run rfl _ rfl rfl HE.out ?_)
              | (refine wpList_copy_row rfl _ _ rfl _ _ _ _ _ _ rfl rfl g lc cur (HCW.out (.map #[] 0) #[]).2.2.2.2.2.1 cc (by rw [hccl, nat_min_left (by omega)]) (fun h => ⟨by rw [ho2 (by omega)], HPO.out h⟩) (by omega) HONE.out ?_; rw [hccl])
              | (refine wpList_sliceTo rfl _ _ _ rfl rfl rfl rfl (by omega) ?_)
              | (at_mapUpdate; refine wpList_update33 rfl _ _ _ rfl rfl rfl rfl (HCW.out (.map #[] 0) _).2.2.2.2.2.2.2 HF.out ?_)
              | (refine wpList_sliceFrom rfl _ _ rfl rfl rfl (by omega) ?_)
              | fail)
            obtain ⟨q1, q2, q3, q4, q5, -, -, -⟩ := HCW.out (.map #[{ key := .string kC, val := c2, born := 0 }, { key := .string kX, val := .slice (some ⟨g, o, none⟩) lx lx, born := 1 }] 2) (splice cur lc cc).toArray
            go_roundw
            case rel =>
              refine ⟨q1, q2, #[0, 1], #[{ key := .string kC, val := c2, born := 0 }, { key := .string kX, val := .slice (some ⟨g, o, none⟩) lx lx, born := 1 }], splice cur lc cc, _, _, rfl, q3, by rw [length_splice _ _ _ (by omega)]; exact hcl, q4, q5, ?_⟩
              exact .inr (.inr (.inr (.inl ⟨rfl, c2, _, rfl, .inr ⟨o, by rw [← HLX.out], fun h => ho2 (by rw [HLX.out]; exact h), fun j hj => by rw [splice_at _ _ _ _ (by rw [hccl, HLX.out]; exact hj) (by omega), HCCE.out]; simp [List.getD, List.getElem?_eq_getElem hj]⟩⟩)))
            case measure => rw [leftN_of q5, leftN_of HR.out]; simp
        · subst L
          have HN := hide (fun t => run_next_C t hMr hr)
          have HE := hide (run_entry_C (w := wr.putObj (M2 + 1) (.mapIter (some M) 2 #[1, 0] 2)) (r := M2 + 1) (.inr rfl) ((World.putObj_heap_other (w := wr) hMn).trans hMr) (World.putObj_heap_same hr2l))
          have HCW := hide (fun Z Y => cpy_world (wr := wr) hb hsz hg hm hr HGE.out.1 HGE.out.2 (.mapIter (some M) 2 #[1, 0] 2) Z Y)
          have HBp := hide (show Below w.heap.size w (wr.putObj (M2 + 1) (.mapIter (some M) 2 #[1, 0] 2)) from Below.trans (b := wr) hb (below_put _ (by have := HGE.out.2; omega)))
          have HG := hide hg
          have hfind : Instr.findNow .string (.string kC) (#[{ key := .string kX, val := x2, born := 0 }] : Array MapEntry).toList 0 = some none := by simp [Instr.findNow, Instr.sameNow, kCX]
          have HF := hide hfind
          clear hfind hg hb hm hr hMr
          cases hcase : ac with
          | none =>
            subst hcase
            have hss : cs = [] := by
              cases hs : cs with
              | nil => rfl
              | cons y ys =>
                obtain ⟨b, off, hbad, -⟩ := HCC.out 0 (by rw [hs]; simp)
                cases hbad
            have hl0 : lc = 0 := by rw [HLC.out, hss]; rfl
            have HL0 := hide hl0
            have HSS := hide hss
            clear hl0 hss
            go_wp2_with (first | (at_next; refine wpList_next_run rfl _ rfl rfl HN.out ?_) | (refine wpList_entry_run rfl _ rfl rfl HE.out ?_) | (at_mapUpdate; refine wpList_update33 rfl _ _ _ rfl rfl rfl rfl (HCW.out (.map #[] 0) #[]).2.2.2.2.2.2.1 HF.out ?_) | fail)
            have hself : wr.putObj (M2 + 1) (.mapIter (some M) 2 #[1, 0] 2) = (wr.putObj (M2 + 1) (.mapIter (some M) 2 #[1, 0] 2)).setRow g cur.toArray := (setRow_self _ g cur.toArray 9 (0, 0) (HCW.out (.map #[] 0) #[]).2.2.2.2.2.1).symm
            rw [hself]
            obtain ⟨q1, q2, q3, q4, q5, -, -, -⟩ := HCW.out (.map #[{ key := .string kX, val := x2, born := 0 }, { key := .string kC, val := .slice none 0 0, born := 1 }] 2) cur.toArray
            go_roundw
            case rel =>
              refine ⟨q1, q2, #[1, 0], #[{ key := .string kX, val := x2, born := 0 }, { key := .string kC, val := .slice none 0 0, born := 1 }], cur, _, _, rfl, q3, hcl, q4, q5, ?_⟩
              have hl0 := HL0.out
              have hss := HSS.out
              exact .inr (.inr (.inr (.inr ⟨rfl, _, x2, rfl, hX⟩)))
            case measure => rw [leftN_of q5, leftN_of HR.out]; simp
          | some ad0 =>
            subst hcase
            obtain ⟨cc, hcc⟩ : ∃ cc, cc = cs.map Value.string := ⟨_, rfl⟩
            have hccl : cc.length = lc := by rw [hcc, List.length_map, HLC.out]
            have HPO := hide (show 0 < cc.length → ∃ ad, some ad0 = some ad ∧ ∀ j v, cc[j]? = some v → (wr.putObj (M2 + 1) (.mapIter (some M) 2 #[1, 0] 2)).cell? (ad.add j) = some v from fun h => by rw [hcc]; exact cells_of HCC.out HBp.out (by rw [← HLC.out]; omega))
            have HONE := hide (show ∀ v ∈ cc, v.oneCell' = true from by rw [hcc]; exact strs_one _)
            have HCCE := hide hcc
            clear hcc
            go_wp2_with (first
              | (at_next; refine wpList_next_run rfl _ rfl rfl HN.out ?_)
              | (refine wpList_entry_run rfl _ rfl rfl HE.out ?_)
              | (refine wpList_copy_row rfl _ _ rfl _ _ _ _ _ _ rfl rfl g lx cur (HCW.out (.map #[] 0) #[]).2.2.2.2.2.1 cc (by rw [hccl, nat_min_left (by omega)]) (fun h => ⟨by rw [ho2 (by omega)], HPO.out h⟩) (by omega) HONE.out ?_; rw [hccl])
              | (refine wpList_sliceTo rfl _ _ _ rfl rfl rfl rfl (by omega) ?_)
              | (at_mapUpdate; refine wpList_update33 rfl _ _ _ rfl rfl rfl rfl (HCW.out (.map #[] 0) _).2.2.2.2.2.2.2 HF.out ?_)
              | (refine wpList_sliceFrom rfl _ _ rfl rfl rfl (by omega) ?_)
              | fail)
            obtain ⟨q1, q2, q3, q4, q5, -, -, -⟩ := HCW.out (.map #[{ key := .string kX, val := x2, born := 0 }, { key := .string kC, val := .slice (some ⟨g, o, none⟩) lc lc, born := 1 }] 2) (splice cur lx cc).toArray
            go_roundw
            case rel =>
              refine ⟨q1, q2, #[1, 0], #[{ key := .string kX, val := x2, born := 0 }, { key := .string kC, val := .slice (some ⟨g, o, none⟩) lc lc, born := 1 }], splice cur lx cc, _, _, rfl, q3, by rw [length_splice _ _ _ (by omega)]; exact hcl, q4, q5, ?_⟩
              exact .inr (.inr (.inr (.inr ⟨rfl, _, x2, rfl, by have h := hX.low cc (by have := HLX.out; omega); rw [← HLX.out] at h; exact h⟩)))
            case measure => rw [leftN_of q5, leftN_of HR.out]; simp
        · have HN := hide (fun t => run_next_end t (.inl rfl) hMr hr)
          have HB := hide hb
          have HX := hide (hX.sl hg)
          have HMM := hide hm
          clear hr hb hMr hg hm hX
          go_wp2_with (first | (at_next; refine wpList_next_run rfl _ rfl rfl HN.out ?_) | fail)
          go_ret
          exact ⟨M2, c2, x2, rfl, HGE.out.2, HB.out, HX.out, .inl HMM.out⟩
        · have HN := hide (fun t => run_next_end t (.inr rfl) hMr hr)
          have HB := hide hb
          have HX := hide (hX.sl hg)
          have HMM := hide hm
          clear hr hb hMr hg hm hX
          go_wp2_with (first | (at_next; refine wpList_next_run rfl _ rfl rfl HN.out ?_) | fail)
          go_ret
          exact ⟨M2, c2, x2, rfl, HGE.out.2, HB.out, HX.out, .inr HMM.out⟩
end Go.Proofs.Qxb6616118aDoor
