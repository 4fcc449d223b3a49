/-
  withoutCookies: the walk.
-/
import Derived.Test.Qxb6616118aDoorWeigh
namespace Go.Proofs.Qxb6616118aDoor
open Go.RowKit
attribute [local go_sem] Oper.semAt_some wide_fn wide_depth Fence.inRound_fn Fence.inRound_depth

def withoutB (name : ByteArray) (fs : List ByteArray) : List ByteArray := if hitB name fs then leftB name fs else fs

set_option maxRecDepth 8000 in
set_option maxHeartbeats 4000000 in
theorem without_in (n : Nat) (name : ByteArray) (M Bc : Nat) (cv ov : Value) (fs os : List ByteArray) (w : World) (hT : Tabs w) (hM : w.heap[M]? = some (.map (es2 cv ov) 2)) (hc : StrSl w cv fs) (ho : StrSl w ov os)
    (hBc : w.cell? ⟨Bc, 0, none⟩ = some (.string name)) (hlt : Bc < w.heap.size) (hz : ∀ s ∈ fs, s.size ≤ 8388608) (hl : fs.length ≤ 1048576) (hlo : os.length ≤ 1048576) (hCl : CloneC) :
    CallsIn Fence.wide n Tryd.prog 15 #[.map (some M), .func (.func 16) #[] #[.pointer (some ⟨Bc, 0, none⟩)]] w fun e w' => ∃ M' es c cv' ov', e = .returned (.map (some M')) ∧ Below w.heap.size w w' ∧ w'.heap[M']? = some (.map es c) ∧ LooksTo es kC cv' ∧ LooksTo es kX ov' ∧ StrSl w' cv' (withoutB name fs) ∧ StrSl w' ov' os := by
  have HC0 := hide hc
  have HO0 := hide ho
  obtain ⟨a, cap, rfl, hcell⟩ := hc
  clear ho
  refine callsIn_of_wp_marks Tryd.func15 rfl trivial ?_ rfl
  simp only [Tryd.ntmps15, List.size_toArray, List.length_cons, List.length_nil, Nat.reduceAdd, Nat.reduceSub, Array.replicate_succ, Array.replicate_zero, List.push_toArray, List.append_toArray, List.nil_append, List.cons_append]
  have hMl : M < w.heap.size := (Array.getElem?_eq_some_iff.1 hM).1
  have hB1 : Below w.heap.size w ((w.alloc (Obj.cells #[.func (.func 16) #[] #[.pointer (some ⟨Bc, 0, none⟩)]] 41)).alloc (Obj.cells #[.bool false] 4)) := ((Below.refl _ w).alloc (Nat.le_refl _) _).alloc (by simp) _
  have HM := hide ((hB1.block M hMl).trans hM)
  have HC := hide (show Core w ((w.alloc (Obj.cells #[.func (.func 16) #[] #[.pointer (some ⟨Bc, 0, none⟩)]] 41)).alloc (Obj.cells #[.bool false] 4)) Bc false from
    ⟨hB1, (Boxed.new w 41 _).alloc _, by
      have := Boxed.new (w.alloc (Obj.cells #[.func (.func 16) #[] #[.pointer (some ⟨Bc, 0, none⟩)]] 41)) 4 (.bool false)
      rwa [World.size_alloc] at this⟩)
  clear hB1
  gi_wp2_with (first | (gi_at_lookup; refine wpListIn_lookup33 rfl _ _ rfl rfl rfl HM.out (looks2C _ _) ?_) | fail)
  obtain ⟨S, hS⟩ : ∃ S, S = w.heap.size := ⟨_, rfl⟩
  rw [← hS]
  generalize ((w.alloc (Obj.cells #[.func (.func 16) #[] #[.pointer (some ⟨Bc, 0, none⟩)]] 41)).alloc (Obj.cells #[.bool false] 4)) = w1 at HM HC ⊢
  have HS := hide hS
  clear hS
  refine wpIn_loop (fun a' W => ∃ (i : Nat) (marks : List Deferred) (u7 u19 u20 u21 u22 u23 u31 : Value), a' = { tmps := #[Value.map (some M), Value.func (Fn.func 16) #[] #[Value.pointer (some { block := Bc, off := 0 })], undef, Value.pointer (some { block := S, off := 0 }), Value.map none, Value.pointer (some { block := S + 1, off := 0 }), undef, u7, undef, undef, undef, undef, undef, undef, undef, Value.map (some M), Value.slice a fs.length cap, Value.int IntKind.i64 ↑fs.length, .int .i64 (i : Nat), u19, u20, u21, u22, u23, undef, undef, undef, undef, undef, undef, undef, u31, undef, undef, undef, undef, undef, undef, undef, undef, undef, undef, undef, undef, undef, undef, undef, undef, undef, undef, undef, undef, undef, undef, undef, undef, undef, undef, undef, undef, undef, undef, undef, undef, undef, undef, undef, undef, undef, undef, undef, undef], defers := marks } ∧ i ≤ fs.length ∧ Core w W Bc (hitB name (fs.take i)) ∧ Marks w.heap.size marks W)
    (fun a' _ => fs.length - (intOf (a'.tmps.getD 18 undef)).toNat) ⟨0, [], _, _, _, _, _, _, _, rfl, Nat.zero_le _, HC.out, trivial⟩ ?_
  rintro _ W ⟨i, marks, u7, u19, u20, u21, u22, u23, u31, rfl, hi, hcore, hmk⟩
  have HCo := hide hcore
  have HMk := hide hmk
  clear hcore hmk HC HM
  by_cases hlt2 : i < fs.length
  · obtain ⟨b, off, rfl, hb, hce⟩ := hcell i hlt2
    obtain ⟨f, hf⟩ : ∃ f, f = fs.getD i ByteArray.empty := ⟨_, rfl⟩
    rw [← hf] at hce
    have hcW : W.cell? ⟨b, off + i, none⟩ = some (.string f) := (HCo.out.below.cell (p := ⟨b, off + i, none⟩) hb).trans hce
    have hfz : f.size ≤ 8388608 := by rw [hf, List.getD, List.getElem?_eq_getElem hlt2]; exact hz _ (List.getElem_mem hlt2)
    have HF := hide hf
    clear hf hcell hce
    gi_wp2_with (first | (gi_at_call 19; refine (callsIn_wide.2 (cookiePairs_any f _)).mono ?_; rintro e w' ⟨rfl, rfl⟩) | fail)
    obtain ⟨Wz, hWz⟩ : ∃ Wz, Wz = W.heap.size := ⟨_, rfl⟩
    rw [← hWz]
    have hb1 : Boxed (W.alloc (Obj.cells #[Value.string f] 9)) Wz 9 (.string f) := by rw [hWz]; exact Boxed.new W 9 _
    have hsz : (W.alloc (Obj.cells #[Value.string f] 9)).heap.size = Wz + 1 := by simp [hWz]
    have hcore : Core w (W.alloc (Obj.cells #[Value.string f] 9)) Bc (hitB name (fs.take i)) := HCo.out.keep HCo.out.size ((Below.refl _ W).alloc (Nat.le_refl _) _)
    have hmk : Marks w.heap.size marks (W.alloc (Obj.cells #[Value.string f] 9)) := HMk.out.below HMk.out.lt ((Below.refl _ W).alloc (Nat.le_refl _) _)
    have hml : ∀ d ∈ marks, ∀ r, d.target = .collected r → r < Wz + 1 := fun d hd r he => by have := HMk.out.lt d hd r he; omega
    have hLs : w.heap.size + 2 ≤ Wz + 1 := by have := HCo.out.size; omega
    generalize (W.alloc (Obj.cells #[Value.string f] 9)) = wl at hb1 hsz hcore hmk ⊢
    have HWz := hide hWz
    clear hWz
    refine range_law (gf := 23) (lb := #[.pointer (some ⟨Wz, 0, none⟩)]) rfl (enters_of Tryd.func23 (by kernel_rfl) rfl) (fun x => #[pairV x]) (fun _ => rfl)
      (Kp wl.heap.size) Kp.trans (Kp.put _)
      (fun pre W1 => Hold w Bc wl.heap.size marks (hitB name (fs.take i) || pre.any (dropB name)) W1) (fun pre W1 o h => h.keep (by omega) (by rw [hsz]; exact hml) (below_put o (by omega)))
      (fun _ x a' W1 => ∃ p, a' = { tmps := #[Value.map (some M), Value.func (Fn.func 16) #[] #[Value.pointer (some { block := Bc, off := 0 })], undef, Value.pointer (some { block := S, off := 0 }), Value.map none, Value.pointer (some { block := S + 1, off := 0 }), undef, .string f, Value.pointer (some { block := p, off := 0 }), undef, undef, undef, undef, undef, undef, Value.map (some M), Value.slice (some { block := b, off := off }) fs.length cap, Value.int IntKind.i64 ↑fs.length, .int .i64 (i : Nat), .bool true, Value.pointer (some { block := b, off := off + i }), .string f, .string f, Value.func (Fn.func 23) #[] #[Value.pointer (some { block := Wz, off := 0 })], pairV x, undef, undef, undef, undef, undef, undef, u31, undef, undef, undef, undef, undef, undef, undef, undef, undef, undef, undef, undef, undef, undef, undef, undef, undef, undef, undef, undef, undef, undef, undef, undef, undef, undef, undef, undef, undef, undef, undef, undef, undef, undef, undef, undef, undef, undef, undef, undef], defers := [] } ∧ W1.heap[p]? = some (.cells #[.string x, .string (trimB (beforeB x)), .string (trimB (afterB x))] 40) ∧ p ≠ wl.heap.size + 1) (fun _ x a' W1 o ⟨p, h1, h2, h3⟩ => ⟨p, h1, (World.putObj_heap_other h3).trans h2, h3⟩)
      (fun xs => xs = textsB f) (fun _ _ _ => True) ?seq ?assign ?body ?done
    case seq =>
      intro o hy
      have hl2 : ((wl.alloc (.deferred (some []))).alloc o).heap[wl.heap.size + 1]? = some o := by
        have := World.alloc_heap_new (wl.alloc (.deferred (some []))) o
        rwa [World.size_alloc] at this
      have hd2 : ((wl.alloc (.deferred (some []))).alloc o).heap[wl.heap.size]? = some (.deferred (some [])) := (Below.heap_alloc _ _ _ (by simp)).trans (World.alloc_heap_new wl _)
      have hsz2 : ((wl.alloc (.deferred (some []))).alloc o).heap.size = wl.heap.size + 2 := by simp
      have hbl : Below wl.heap.size wl ((wl.alloc (.deferred (some []))).alloc o) := ((Below.refl _ wl).alloc (Nat.le_refl _) _).alloc (by simp) _
      have hH0 : Hold w Bc wl.heap.size marks (hitB name (fs.take i) || ([] : List ByteArray).any (dropB name)) ((wl.alloc (.deferred (some []))).alloc o) := by
        refine Hold.keep (W := wl) ⟨Nat.le_refl _, ?_, hmk⟩ (by omega) (by rw [hsz]; exact hml) hbl
        simpa using hcore
      have hbf : Boxed ((wl.alloc (.deferred (some []))).alloc o) Wz 9 (.string f) := (hb1.alloc _).alloc _
      generalize ((wl.alloc (.deferred (some []))).alloc o) = W0 at hl2 hd2 hsz2 hH0 hbf ⊢
      refine pairs_in (n - 1) (wl.heap.size + 1) Wz f w hT
        (fun pre W1 => Hold w Bc wl.heap.size marks (hitB name (fs.take i) || pre.any (dropB name)) W1 ∧ W1.heap[wl.heap.size + 1]? = some o ∧ W1.heap[wl.heap.size]? = some (.deferred (some []))) W0
        (fun pre W1 W2 ⟨h1, h2, h3⟩ ht => ⟨h1.turns (by omega) (by rw [hsz]; exact hml) (by omega) ht, (ht.block _ (Array.getElem?_eq_some_iff.1 h2).1 (Or.inl (by omega))).trans h2, (ht.block _ (Array.getElem?_eq_some_iff.1 h3).1 (Or.inl (by omega))).trans h3⟩)
        (fun pre W1 h => h.1.2.1.below)
        (fun pre x W1 hx hp h hs => (hy pre x W1 trivial h).mono fun e W2 ⟨he, hj, hk⟩ => ⟨he, hj, (hk (by omega)).1, fun k k1 k2 => (hk (by omega)).2 k (by omega) (by omega)⟩)
        hbf hfz ⟨hH0, hl2, hd2⟩
    case assign => 
      rintro pre x W1 K - hI ⟨r, hr⟩ hK
      have HI := hide hI
      have hW1 : wl.heap.size + 1 < W1.heap.size := (Array.getElem?_eq_some_iff.1 hr).1
      have HK := hide hK
      clear hI hr hK
      unfold pairV
      gi_wp2
      refine HK.out _ _ (HI.out.keep (by omega) (by rw [hsz]; exact hml) ((Below.refl _ W1).alloc HI.out.1 _)) ⟨_, rfl, World.alloc_heap_new _ _, by omega⟩ (Kp.below ((Below.refl _ W1).alloc (Nat.le_refl _) _)) (Below.heap_alloc _ _ _ (by omega)) (Below.heap_alloc _ _ _ (by omega))
    case body =>
      rintro pre x a' W1 hI ⟨p, rfl, hp, hpn⟩ ⟨r, hr⟩
      have HI := hide hI
      obtain ⟨hI1, hI2, hI3⟩ := hI
      have c1 := hI2.found.cell
      have c2 := hI2.found.frozen
      have c3 := hI2.box.cell
      have c4 : W1.cell? ⟨Bc, 0, none⟩ = some (.string name) := (hI2.below.cell (p := ⟨Bc, 0, none⟩) hlt).trans hBc
      have c5 : Bc < W1.heap.size := Nat.lt_of_lt_of_le hlt hI2.below.size
      have d0 : W1.cell? ⟨p, 0, none⟩ = some (.string x) := by simp [World.cell?, hp]
      have d1 : W1.cell? ⟨p, 1, none⟩ = some (.string (trimB (beforeB x))) := by simp [World.cell?, hp]
      have d2 : W1.cell? ⟨p, 2, none⟩ = some (.string (trimB (afterB x))) := by simp [World.cell?, hp]
      have hpl : p < W1.heap.size := (Array.getElem?_eq_some_iff.1 hp).1
      have hrl : wl.heap.size + 1 < W1.heap.size := (Array.getElem?_eq_some_iff.1 hr).1
      have hSl : S + 1 < W1.heap.size := by have := hI2.size; have := HS.out; omega
      rw [← HS.out] at c1 c2 c3
      have hany : (pre ++ [x]).any (dropB name) = (pre.any (dropB name) || dropB name x) := by simp
      have HA := hide hany
      obtain ⟨bb, hbb⟩ : ∃ bb, bb = (hitB name (fs.take i) || pre.any (dropB name)) := ⟨_, rfl⟩
      rw [← hbb] at c1 HI
      have HBB := hide hbb
      have HLS := hide hLs
      clear hp hr hI1 hI2 hI3 hany hbb
      cases bb
      · gi_wp2_with (first | (gi_at_call 16; refine (CallsIn.inRound _ (callsIn_wide.2 (drop_any x name Bc _ c4 c5))).mono ?_; rintro e w' ⟨rfl, rfl⟩) | fail)
        rw [← Bool.or_assoc, ← HBB.out, Bool.false_or]
        have h5 := HI.out.find (dropB name x)
        rw [← HS.out] at h5
        refine ⟨(Below.heap_alloc _ _ _ ?_).trans (Below.heap_setCell _ _ _ _ ?_), (Below.heap_alloc _ _ _ ?_).trans (Below.heap_setCell _ _ _ _ ?_), Kp.trans (Kp.set _ _ ?_) (Kp.below ((Below.refl _ _).alloc (Nat.le_refl _) _)), ?_⟩
        rotate_left 5
        · rw [← hsz]
          exact h5.keep (by have := HLS.out; omega) (by rw [hsz]; exact hml) ((Below.refl _ _).alloc h5.1 _)
        all_goals (have := HLS.out; have := HS.out; simp; omega)
      · gi_wp2
        rw [← Bool.or_assoc, ← HBB.out, Bool.true_or]
        have h5 := HI.out.find true
        rw [← HS.out] at h5
        refine ⟨Below.heap_setCell _ _ _ _ ?_, Below.heap_setCell _ _ _ _ ?_, Kp.set _ _ ?_, by rw [← hsz]; exact h5⟩
        all_goals (have := HLS.out; have := HS.out; simp; omega)
    case done =>
      rintro xs W1 rfl hI hD
      have HI := hide hI
      have HD := hide hD
      clear hI hD
      gi_wp2
      obtain ⟨hI1, hI2, hI3⟩ := HI.out
      refine ⟨⟨i + 1, _, _, _, _, _, _, _, _, rfl, by omega, ?_, ⟨⟨wl.heap.size, rfl, by omega, HD.out, fun d' hd' he => by have := hml d' hd' _ he; omega⟩, hI3⟩⟩, ?_⟩
      · rw [hitB_succ _ _ _ hlt2, ← HF.out]
        exact hI2
      · simp [intOf]
        omega
  · have hif : i = fs.length := by omega
    subst hif
    rw [List.take_length] at HCo
    have c1 := HCo.out.found.cell
    rw [← HS.out] at c1
    have HM := hide ((HCo.out.below.block M hMl).trans hM)
    cases hhit : hitB name fs
    · rw [hhit] at c1
      gi_wp2
      refine leaves_marks (fun W' => results_tmp rfl _ _ _) marks W HMk.out fun W' hW' => ?_
      have hbw := hW'.below HCo.out.below
      refine ⟨M, _, _, _, _, rfl, hbw, (hbw.block M hMl).trans hM, looks2C _ _, looks2X _ _, ?_, HO0.out.below (Nat.le_refl _) hbw⟩
      unfold withoutB
      rw [hhit]
      exact HC0.out.below (Nat.le_refl _) hbw
    · rw [hhit] at c1 HCo
      gi_wp2_with (first | (gi_at_lookup; refine wpListIn_lookup33 rfl _ _ rfl rfl rfl HM.out (looks2C _ _) ?_) | fail)
      have HMk2 := hide HMk.out
      have HC2 := hide HCo.out
      clear c1 HMk HCo
      refine wpIn_loop (fun a' W => ∃ (i : Nat) (marks : List Deferred) (kv v11 v12 v39 v40 v41 v42 v43 v54 v55 v56 v57 v58 v59 v60 v61 v62 : Value), a' = { tmps := #[Value.map (some M), Value.func (Fn.func 16) #[] #[Value.pointer (some { block := Bc, off := 0 })], undef, Value.pointer (some { block := S, off := 0 }), Value.map none, Value.pointer (some { block := S + 1, off := 0 }), undef, u7, undef, kv, undef, v11, v12, undef, undef, Value.map (some M), Value.slice a fs.length cap, Value.int IntKind.i64 ↑fs.length, Value.int IntKind.i64 ↑fs.length, .bool false, u20, u21, u22, u23, undef, undef, undef, undef, undef, undef, undef, u31, .bool true, .bool false, undef, Value.map (some M), Value.slice a fs.length cap, Value.int IntKind.i64 ↑fs.length, .int .i64 (i : Nat), v39, v40, v41, v42, v43, undef, undef, undef, undef, undef, undef, undef, undef, undef, undef, v54, v55, v56, v57, v58, v59, v60, v61, v62, undef, undef, undef, undef, undef, undef, undef, undef, undef], defers := marks } ∧ i ≤ fs.length ∧ Core w W Bc true ∧ Marks w.heap.size marks W ∧ W.ownsRow (w.heap.size + 2) 9 1 kv (leftB name (fs.take i)).length ((leftB name (fs.take i)).map Value.string))
        (fun a' _ => fs.length - (intOf (a'.tmps.getD 38 undef)).toNat) ⟨0, marks, _, _, _, _, _, _, _, _, _, _, _, _, _, _, _, _, _, rfl, Nat.zero_le _, HC2.out, HMk2.out, World.ownsRow_nil _ _ _ _⟩ ?_
      rintro _ W ⟨i, marks, kv, v11, v12, v39, v40, v41, v42, v43, v54, v55, v56, v57, v58, v59, v60, v61, v62, rfl, hi, hcore, hmk, hkv⟩
      have HCo := hide hcore
      have HMk := hide hmk
      have HKv := hide hkv
      clear hcore hmk hkv HC2 HMk2 HM
      by_cases hlt2 : i < fs.length
      · obtain ⟨b, off, rfl, hb, hce⟩ := hcell i hlt2
        obtain ⟨f, hf⟩ : ∃ f, f = fs.getD i ByteArray.empty := ⟨_, rfl⟩
        rw [← hf] at hce
        have hcW : W.cell? ⟨b, off + i, none⟩ = some (.string f) := (HCo.out.below.cell (p := ⟨b, off + i, none⟩) hb).trans hce
        have hfz : f.size ≤ 8388608 := by rw [hf, List.getD, List.getElem?_eq_getElem hlt2]; exact hz _ (List.getElem_mem hlt2)
        have hbW : b < W.heap.size := Nat.lt_of_lt_of_le hb HCo.out.below.size
        have HF := hide hf
        clear hf hcell hce
        gi_wp2_with (first | (gi_at_call 19; refine (callsIn_wide.2 (cookiePairs_any f _)).mono ?_; rintro e w' ⟨rfl, rfl⟩) | fail)
        obtain ⟨Wz, hWz⟩ : ∃ Wz, Wz = W.heap.size := ⟨_, rfl⟩
        rw [← hWz]
        have hb0 : Boxed ((W.alloc (Obj.cells #[Value.slice none 0 0] 22)).alloc (Obj.cells #[Value.string f] 9)) Wz 22 (.slice none 0 0) := by rw [hWz]; exact (Boxed.new W 22 _).alloc _
        have hb1 : Boxed ((W.alloc (Obj.cells #[Value.slice none 0 0] 22)).alloc (Obj.cells #[Value.string f] 9)) (Wz + 1) 9 (.string f) := by
          have := Boxed.new (W.alloc (Obj.cells #[Value.slice none 0 0] 22)) 9 (.string f)
          rw [World.size_alloc, ← hWz] at this
          exact this
        have hsz : ((W.alloc (Obj.cells #[Value.slice none 0 0] 22)).alloc (Obj.cells #[Value.string f] 9)).heap.size = Wz + 2 := by simp [hWz]
        have hbl0 : Below W.heap.size W ((W.alloc (Obj.cells #[Value.slice none 0 0] 22)).alloc (Obj.cells #[Value.string f] 9)) := ((Below.refl _ W).alloc (Nat.le_refl _) _).alloc (by simp) _
        have hcore : Core w ((W.alloc (Obj.cells #[Value.slice none 0 0] 22)).alloc (Obj.cells #[Value.string f] 9)) Bc true := HCo.out.keep HCo.out.size hbl0
        have hmk : Marks w.heap.size marks ((W.alloc (Obj.cells #[Value.slice none 0 0] 22)).alloc (Obj.cells #[Value.string f] 9)) := HMk.out.below HMk.out.lt hbl0
        have hkv : ((W.alloc (Obj.cells #[Value.slice none 0 0] 22)).alloc (Obj.cells #[Value.string f] 9)).ownsRow (w.heap.size + 2) 9 1 kv (leftB name (fs.take i)).length ((leftB name (fs.take i)).map Value.string) := owns_block HKv.out fun g hg => hbl0.block g (HKv.out.lt g hg).2
        have hml : ∀ d ∈ marks, ∀ r, d.target = .collected r → r < Wz + 2 := fun d hd r he => by have := HMk.out.lt d hd r he; omega
        have hkl : ∀ g, kv.ownBlock = some g → g < Wz + 2 := fun g hg => by have := (HKv.out.lt g hg).2; omega
        have hLs : w.heap.size + 2 ≤ Wz := by have := HCo.out.size; omega
        generalize ((W.alloc (Obj.cells #[Value.slice none 0 0] 22)).alloc (Obj.cells #[Value.string f] 9)) = wl at hb0 hb1 hsz hcore hmk hkv ⊢
        have HWz := hide hWz
        clear hWz hbl0
        obtain ⟨kl, hklE⟩ : ∃ kl, kl = leftB name (fs.take i) := ⟨_, rfl⟩
        rw [← hklE] at hkv
        have HKL := hide hklE
        clear hklE
        refine range_law (gf := 23) (lb := #[.pointer (some ⟨Wz + 1, 0, none⟩)]) rfl (enters_of Tryd.func23 (by kernel_rfl) rfl) (fun x => #[pairV x]) (fun _ => rfl)
          (Kp wl.heap.size) Kp.trans (Kp.put _)
          (fun pre W1 => Hold2 w Bc wl.heap.size Wz marks true kv kl (keepB name pre) W1) (fun pre W1 o h => h.keep (by omega) (by rw [hsz]; exact hml) (by rw [hsz]; exact hkl) (by omega) (Mild.put _ _ o))
          (fun pre x a' W1 => (wl.heap.size + 8 ≤ W1.heap.size ∧ pre.length ≤ f.size) ∧ ∃ p, a' = { tmps := #[Value.map (some M), Value.func (Fn.func 16) #[] #[Value.pointer (some { block := Bc, off := 0 })], undef, Value.pointer (some { block := S, off := 0 }), Value.map none, Value.pointer (some { block := S + 1, off := 0 }), undef, u7, undef, kv, undef, .string f, Value.pointer (some { block := Wz, off := 0 }), Value.pointer (some { block := p, off := 0 }), undef, Value.map (some M), Value.slice (some { block := b, off := off }) fs.length cap, Value.int IntKind.i64 ↑fs.length, Value.int IntKind.i64 ↑fs.length, .bool false, u20, u21, u22, u23, undef, undef, undef, undef, undef, undef, undef, u31, .bool true, .bool false, undef, Value.map (some M), Value.slice (some { block := b, off := off }) fs.length cap, Value.int IntKind.i64 ↑fs.length, .int .i64 (i : Nat), .bool true, Value.pointer (some { block := b, off := off + i }), .string f, .string f, Value.func (Fn.func 23) #[] #[Value.pointer (some { block := Wz + 1, off := 0 })], pairV x, undef, undef, undef, undef, undef, undef, undef, undef, undef, v54, v55, v56, v57, v58, v59, v60, v61, v62, undef, undef, undef, undef, undef, undef, undef, undef, undef], defers := [] } ∧ W1.heap[p]? = some (.cells #[.string x, .string (trimB (beforeB x)), .string (trimB (afterB x))] 40) ∧ p ≠ wl.heap.size + 1) (fun pre x a' W1 o ⟨h0, p, h1, h2, h3⟩ => ⟨by simpa using h0, p, h1, (World.putObj_heap_other h3).trans h2, h3⟩)
          (fun xs => xs = textsB f) (fun pre _ W1 => wl.heap.size + 8 ≤ W1.heap.size ∧ pre.length ≤ f.size) ?seq ?assign ?body ?done
        case seq =>
          intro o hy
          have hl2 : ((wl.alloc (.deferred (some []))).alloc o).heap[wl.heap.size + 1]? = some o := by
            have := World.alloc_heap_new (wl.alloc (.deferred (some []))) o
            rwa [World.size_alloc] at this
          have hd2 : ((wl.alloc (.deferred (some []))).alloc o).heap[wl.heap.size]? = some (.deferred (some [])) := (Below.heap_alloc _ _ _ (by simp)).trans (World.alloc_heap_new wl _)
          have hsz2 : ((wl.alloc (.deferred (some []))).alloc o).heap.size = wl.heap.size + 2 := by simp
          have hbl : Below wl.heap.size wl ((wl.alloc (.deferred (some []))).alloc o) := ((Below.refl _ wl).alloc (Nat.le_refl _) _).alloc (by simp) _
          have hH0 : Hold2 w Bc wl.heap.size Wz marks true kv kl (keepB name []) ((wl.alloc (.deferred (some []))).alloc o) :=
            Hold2.keep (W := wl) ⟨Nat.le_refl _, hcore, hmk, hkv, ⟨_, hb0, World.ownsRow_nil _ _ _ _⟩⟩ (by omega) (by rw [hsz]; exact hml) (by rw [hsz]; exact hkl) (by omega) (Mild.of_below hbl)
          have hbf : Boxed ((wl.alloc (.deferred (some []))).alloc o) (Wz + 1) 9 (.string f) := (hb1.alloc _).alloc _
          generalize ((wl.alloc (.deferred (some []))).alloc o) = W0 at hl2 hd2 hsz2 hH0 hbf ⊢
          refine pairs_in (n - 1) (wl.heap.size + 1) (Wz + 1) f w hT
            (fun pre W1 => Hold2 w Bc wl.heap.size Wz marks true kv kl (keepB name pre) W1 ∧ W1.heap[wl.heap.size + 1]? = some o ∧ W1.heap[wl.heap.size]? = some (.deferred (some []))) W0
            (fun pre W1 W2 ⟨h1, h2, h3⟩ ht => ⟨h1.keep (by omega) (by rw [hsz]; exact hml) (by rw [hsz]; exact hkl) (by omega) (Mild.of_turns (by rw [← hsz2]; exact ht)), (ht.block _ (Array.getElem?_eq_some_iff.1 h2).1 (Or.inl (by omega))).trans h2, (ht.block _ (Array.getElem?_eq_some_iff.1 h3).1 (Or.inl (by omega))).trans h3⟩)
            (fun pre W1 h => h.1.core.below)
            (fun pre x W1 hx hp h hs => (hy pre x W1 ⟨by omega, hp⟩ h).mono fun e W2 ⟨he, hj, hk⟩ => ⟨he, hj, (hk (by omega)).1, fun k k1 k2 => (hk (by omega)).2 k (by omega) (by omega)⟩)
            hbf hfz ⟨hH0, hl2, hd2⟩
        case assign =>
          rintro pre x W1 K hG hI ⟨r, hr⟩ hK
          have HI := hide hI
          have hW1 : wl.heap.size + 1 < W1.heap.size := (Array.getElem?_eq_some_iff.1 hr).1
          have HK := hide hK
          have HG := hide hG
          clear hI hr hK hG
          unfold pairV
          gi_wp2
          refine HK.out _ _ (HI.out.keep (by omega) (by rw [hsz]; exact hml) (by rw [hsz]; exact hkl) (by omega) (Mild.of_below ((Below.refl _ W1).alloc (Nat.le_refl _) _))) ⟨⟨by have := HG.out.1; simp; omega, HG.out.2⟩, _, rfl, World.alloc_heap_new _ _, by omega⟩ (Kp.below ((Below.refl _ W1).alloc (Nat.le_refl _) _)) (Below.heap_alloc _ _ _ (by omega)) (Below.heap_alloc _ _ _ (by omega))
        case body =>
          rintro pre x a' W1 hI ⟨⟨hG1, hG2⟩, p, rfl, hp, hpn⟩ ⟨r, hr⟩
          have HI := hide hI
          obtain ⟨tv, hbx, hown⟩ := hI.row
          have c3 := hI.core.box.cell
          have c4 : W1.cell? ⟨Bc, 0, none⟩ = some (.string name) := (hI.core.below.cell (p := ⟨Bc, 0, none⟩) hlt).trans hBc
          have c5 : Bc < W1.heap.size := Nat.lt_of_lt_of_le hlt hI.core.below.size
          have c6 := hbx.cell
          have c7 := hbx.lt
          have d0 : W1.cell? ⟨p, 0, none⟩ = some (.string x) := by simp [World.cell?, hp]
          have d1 : W1.cell? ⟨p, 1, none⟩ = some (.string (trimB (beforeB x))) := by simp [World.cell?, hp]
          have d2 : W1.cell? ⟨p, 2, none⟩ = some (.string (trimB (afterB x))) := by simp [World.cell?, hp]
          have hpl : p < W1.heap.size := (Array.getElem?_eq_some_iff.1 hp).1
          have hrl : wl.heap.size + 1 < W1.heap.size := (Array.getElem?_eq_some_iff.1 hr).1
          have hSl : S < W1.heap.size := by have := hI.core.size; have := HS.out; omega
          rw [← HS.out] at c3
          have HBX := hide hbx
          have HOW := hide hown
          have HLS := hide hLs
          have hlen : (keepB name pre).length ≤ 8388608 := Nat.le_trans (keepB_len _ _) (by omega)
          clear hp hr hI hbx hown
          obtain ⟨i0, hi0, hz0, hz1, hz2⟩ := info_parts info9
          cases hdr : dropB name x
          · have HBl := hide (show Below W1.heap.size W1 ((W1.alloc (.cells #[.string x, .string (trimB (beforeB x)), .string (trimB (afterB x))] 40)).alloc (.cells #[.string x] 9)) from ((Below.refl _ W1).alloc (Nat.le_refl _) _).alloc (by simp) _)
            gi_wp2_with (first
              | (gi_at_call 16; refine (CallsIn.inRound _ (callsIn_wide.2 (drop_any x name Bc _ c4 c5))).mono ?_; rintro e w' ⟨rfl, rfl⟩; rw [hdr])
              | (gi_at_builtin; refine wpListIn_append_own _ rfl _ _ 22 rfl (wl.heap.size + 8) 9 i0 (.string ByteArray.empty) 1 16 Tryd.underlying22 hi0 hz0 hz1 hz2 rfl (by decide) _ _ _ rfl ((HOW.out.alloc _).alloc _) ⟨W1.heap.size + 1, 0, none⟩ 1 1 [.string x] rfl rfl (by have := cell_one_new (W1.alloc (.cells #[.string x, .string (trimB (beforeB x)), .string (trimB (afterB x))] 40)) (.string x) 9; rwa [World.size_alloc] at this) (oneStr x) (by unfold maxLen; omega) (by omega) (by simp; omega) ?_
                 intro tv' w2 hown2 hgr2 hnil2
                 obtain ⟨g, cp, rfl⟩ := ownsRow_succ hown2
                 have HO2 := hide hown2
                 have HG2 := hide hgr2
                 have hne2 : some Wz ≠ tv.ownBlock := fun e => by have := (HOW.out.lt _ e.symm).1; omega
                 have hbx2 : Boxed w2 Wz 22 tv := (hgr2.block Wz (by simp; omega) hne2).trans ((HBl.out.block _ c7).trans HBX.out)
                 have g1 := hbx2.cell
                 have g2 := hbx2.frozen
                 clear hown2 hgr2 hnil2 hne2 hbx2)
              | fail)
            obtain ⟨p1, p2, p3⟩ := HI.out.push (ts' := keepB name (pre ++ [x])) (by omega) (by rw [hsz]; exact hml) (by rw [hsz]; exact hkl) (by omega) (by have := HLS.out; omega) HBl.out HBX.out (fun g hg => (HOW.out.lt g hg).1) HG2.out (by rw [keepB_snoc, hdr]; simpa using HO2.out)
            rw [← hsz]
            exact ⟨p2 _ (by omega) (by omega) (by omega), p2 _ (by omega) (by omega) (by omega), fun _ => ⟨p3, fun k k1 k2 => p2 k (by omega) (by omega) (by omega)⟩, p1⟩
          · gi_wp2_with (first | (gi_at_call 16; refine (CallsIn.inRound _ (callsIn_wide.2 (drop_any x name Bc _ c4 c5))).mono ?_; rintro e w' ⟨rfl, rfl⟩; rw [hdr]) | fail)
            rw [← hsz, keepB_snoc, if_pos hdr]
            exact ⟨Below.heap_alloc _ _ _ (by omega), Below.heap_alloc _ _ _ (by omega), Kp.below ((Below.refl _ _).alloc (Nat.le_refl _) _), HI.out.keep (by omega) (by rw [hsz]; exact hml) (by rw [hsz]; exact hkl) (by omega) (Mild.of_below ((Below.refl _ _).alloc (Nat.le_refl _) _))⟩
        case done =>
          rintro xs W1 rfl hI hD
          have HI := hide hI
          have HD := hide hD
          obtain ⟨tv, hbx, hown⟩ := hI.row
          have c6 := hbx.cell
          have HOW := hide hown
          clear hI hD hbx hown
          obtain ⟨ts, hts⟩ : ∃ ts, ts = keepB name (textsB f) := ⟨_, rfl⟩
          rw [← hts] at HI HOW
          have HTS := hide hts
          clear hts
          by_cases hz0 : ts.length = 0
          · rcases Joins.ownsRow_forms HOW.out with ⟨rfl, -⟩ | ⟨g, cp, rfl⟩
            all_goals
              try rw [hz0] at c6
              gi_wp2
              refine ⟨⟨i + 1, _, _, _, _, _, _, _, _, _, _, _, _, _, _, _, _, _, _, rfl, by omega, HI.out.core, ⟨⟨wl.heap.size, rfl, by omega, HD.out, fun d' hd' he => by have := hml d' hd' _ he; omega⟩, HI.out.marked⟩, ?_⟩, ?_⟩
              · rw [leftB_succ _ _ _ hlt2, ← HF.out, ← HTS.out, if_pos hz0, List.append_nil, ← HKL.out]
                exact HI.out.kept
              · simp [intOf]
                omega
          · obtain ⟨g, cp, rfl⟩ := Joins.ownsRow_form HOW.out (by omega)
            have hpos : (0 : Int) < (ts.length : Int) := by omega
            have hkeep : (keepB name (textsB f)).length ≤ 8388609 := Nat.le_trans (keepB_len _ _) (Nat.le_trans (textsB_len f) (by omega))
            have hjl : (Lib.join (ts.map (·.data.toList)) [59, 32]).length ≤ 16777216 := by rw [HTS.out]; exact Nat.le_trans (join_keep_len name f) (by omega)
            have hkll : kl.length ≤ 1048576 := by rw [HKL.out]; exact Nat.le_trans (leftB_len _ _) (by simp; omega)
            have HJ := hide (fun W (h : W.ownsRow (wl.heap.size + 8) 9 1 (.slice (some ⟨g, 0, none⟩) ts.length cp) ts.length (ts.map Value.string)) => join_any _ _ ts W h (by omega) (by rw [HTS.out]; omega) (by omega))
            obtain ⟨i0, hi0, hz0', hz1, hz2⟩ := info_parts info9
            clear hkeep hjl
            gi_wp2_with (first
              | (gi_at_call 20; refine (callsIn_wide.2 (HJ.out _ HOW.out)).mono ?_; rintro e w3 ⟨rfl, hb3⟩; have HB3 := hide hb3; clear hb3)
              | (gi_at_builtin; refine wpListIn_append_own _ rfl _ _ 22 rfl (w.heap.size + 2) 9 i0 (.string ByteArray.empty) 1 16 Tryd.underlying22 hi0 hz0' hz1 hz2 rfl (by decide) _ _ _ rfl ((owns_block HI.out.kept fun g hg => HB3.out.block g (HI.out.kept.lt g hg).2).alloc _) ⟨w3.heap.size, 0, none⟩ 1 1 [.string (joinB ts)] rfl rfl (cell_one_new _ _ _) (oneStr _) (by unfold maxLen; omega) (by omega) (by have := HB3.out.size; have := HI.out.core.size; simp; omega) ?_
                 intro kv' w4 hown4 hgr4 hnil4
                 obtain ⟨g4, cp4, rfl⟩ := ownsRow_succ hown4
                 have HO4 := hide hown4
                 have HG4 := hide hgr4
                 clear hown4 hgr4 hnil4)
              | fail)
            have hb4 : Below W1.heap.size W1 (w3.alloc (.cells #[.string (joinB ts)] 9)) := HB3.out.alloc HB3.out.size _
            have hk4 : (w3.alloc (.cells #[.string (joinB ts)] 9)).ownsRow (w.heap.size + 2) 9 1 kv kl.length (kl.map Value.string) := owns_block HI.out.kept fun g hg => hb4.block g (HI.out.kept.lt g hg).2
            have hm4 : Marks w.heap.size ({ target := .collected wl.heap.size, args := #[] } :: marks) W1 := ⟨⟨wl.heap.size, rfl, by omega, HD.out, fun d' hd' he => by have := hml d' hd' _ he; omega⟩, HI.out.marked⟩
            rw [hsz] at hm4
            refine ⟨⟨i + 1, _, _, _, _, _, _, _, _, _, _, _, _, _, _, _, _, _, _, rfl, by omega, (HI.out.core.keep HI.out.core.size hb4).grown HG4.out (fun k hk => (hk4.lt k hk).1), (hm4.below hm4.lt hb4).grown hk4 HG4.out, ?_⟩, ?_⟩
            · rw [leftB_succ _ _ _ hlt2, ← HF.out, ← HTS.out, if_neg hz0, ← HKL.out]
              simpa using HO4.out
            · simp [intOf]
              omega
      · have hif : i = fs.length := by omega
        subst hif
        rw [List.take_length] at HKv
        have HO1 := hide (HO0.out.below (Nat.le_refl _) HCo.out.below)
        have HC1 := hide (HC0.out.below (Nat.le_refl _) HCo.out.below)
        have HMW := hide ((HCo.out.below.block M hMl).trans hM)
        obtain ⟨kl, hklE⟩ : ∃ kl, kl = leftB name fs := ⟨_, rfl⟩
        rw [← hklE] at HKv
        have HKL := hide hklE
        clear hklE
        have hends : ∀ (es : Array MapEntry) (c : Nat) (cv' ov' : Value) (W2 : World) (M2 : Nat), Below w.heap.size w W2 → W2.heap[M2]? = some (.map es c) → LooksTo es kC cv' → LooksTo es kX ov' → StrSl W2 cv' kl → StrSl W2 ov' os →
            ∀ W3, Shut w.heap.size W2 W3 → ∃ M' es c cv' ov', Ending.returned (.map (some M2)) = .returned (.map (some M')) ∧ Below w.heap.size w W3 ∧ W3.heap[M']? = some (.map es c) ∧ LooksTo es kC cv' ∧ LooksTo es kX ov' ∧ StrSl W3 cv' (withoutB name fs) ∧ StrSl W3 ov' os := by
          intro es c cv' ov' W2 M2 h1 h3 h4 h5 h6 h7 W3 hS
          refine ⟨M2, es, c, cv', ov', rfl, hS.below h1, (hS.block M2 (.inr (by intro d; rw [h3]; simp))).trans h3, h4, h5, ?_, h7.shut hS⟩
          unfold withoutB
          rw [hhit, if_pos rfl, ← HKL.out]
          exact h6.shut hS
        have HE := hide hends
        have HCL := hide hCl
        clear hends
        have hmks : ∀ W2, Below W.heap.size W W2 → ∀ M2 o, W.heap.size ≤ M2 → Marks w.heap.size marks (W2.putObj M2 o) := fun W2 hb M2 o hM2 => (HMk.out.below HMk.out.lt hb).keep fun k hk ⟨d, hd, he⟩ => (World.putObj_heap_other (by have := HMk.out.lt d hd k he; omega)).trans hk
        have HMS := hide hmks
        clear hmks
        by_cases hz0 : kl.length = 0
        · have hk0 : kl = [] := List.length_eq_zero_iff.1 hz0
          rcases Joins.ownsRow_forms HKv.out with ⟨rfl, -⟩ | ⟨g, cp, rfl⟩
          all_goals
            gi_wp2_with (first
              | (gi_at_call 21; refine (callsIn_wide.2 (HCL.out M _ ov fs os _ HMW.out HC1.out HO1.out hl hlo)).mono ?_; rintro e w5 ⟨M2, cv2, ov2, rfl, hM2, hb5, ho5, hes⟩; obtain ⟨es, i5, b5, hes, hfi, her⟩ := two_forms hes; have HB5 := hide hb5; have HO5 := hide ho5; have HM2 := hide hM2; have HES := hide hes; have HFI := hide hfi; have HER := hide her; clear hb5 ho5 hM2 hes hfi her)
              | (refine wpListIn_delete33 rfl _ _ rfl rfl rfl HES.out HFI.out ?_)
              | fail)
            refine leaves_marks (fun W' => results_tmp rfl _ _ _) marks _ (HMS.out _ HB5.out _ _ HM2.out) ?_
            have hM2l : M2 < w5.heap.size := (Array.getElem?_eq_some_iff.1 HES.out).1
            have hbp : Below w.heap.size w (w5.putObj M2 (.map (es.eraseIdxIfInBounds i5) 2)) := (HCo.out.below.trans (HB5.out.mono HCo.out.below.size)).trans (below_put _ (Nat.le_trans HCo.out.below.size HM2.out))
            refine HE.out _ _ (.slice none 0 0) ov2 _ M2 hbp (World.putObj_heap_same hM2l) ?_ ?_ ?_ ?_
            · rw [HER.out]
              exact .inr ⟨by simp [Instr.findNow, Instr.sameNow, kCX], rfl⟩
            · rw [HER.out]
              exact .inl ⟨0, by simp [Instr.findNow, Instr.sameNow, kXX]⟩
            · rw [hk0]
              exact StrSl.nil _
            · exact HO5.out.blocks (by simp) fun k c t z hk => World.putObj_heap_other (by intro e; subst e; rw [HES.out] at hk; cases hk)
        · obtain ⟨g, cp, rfl⟩ := Joins.ownsRow_form HKv.out (by omega)
          have hpos : (0 : Int) < (kl.length : Int) := by omega
          gi_wp2_with (first
            | (gi_at_call 21; refine (callsIn_wide.2 (HCL.out M _ ov fs os _ HMW.out HC1.out HO1.out hl hlo)).mono ?_; rintro e w5 ⟨M2, cv2, ov2, rfl, hM2, hb5, ho5, hes⟩; obtain ⟨es, i5, b5, hes, hfi, her⟩ := two_forms hes; have HB5 := hide hb5; have HO5 := hide ho5; have HM2 := hide hM2; have HES := hide hes; have HFI := hide hfi; have HER := hide her; clear hb5 ho5 hM2 hes hfi her)
            | (refine wpListIn_delete33 rfl _ _ rfl rfl rfl HES.out HFI.out ?_; rw [HER.out])
            | (gi_at_mapUpdate; refine wpListIn_update33 rfl _ _ _ rfl rfl rfl rfl (World.putObj_heap_same (Array.getElem?_eq_some_iff.1 HES.out).1) (k := kC) (by simp [Instr.findNow, Instr.sameNow, kCX]) ?_; rw [putObj_putObj])
            | fail)
          refine leaves_marks (fun W' => results_tmp rfl _ _ _) marks _ (HMS.out _ HB5.out _ _ HM2.out) ?_
          have hM2l : M2 < w5.heap.size := (Array.getElem?_eq_some_iff.1 HES.out).1
          refine HE.out _ _ (.slice (some ⟨g, 0, none⟩) kl.length cp) ov2 _ M2 ((HCo.out.below.trans (HB5.out.mono HCo.out.below.size)).trans (below_put _ (Nat.le_trans HCo.out.below.size HM2.out))) (World.putObj_heap_same hM2l) ?_ ?_ ?_ ?_
          · exact .inl ⟨1, by simp [Instr.findNow, Instr.sameNow, kCX, kCC]⟩
          · exact .inl ⟨0, by simp [Instr.findNow, Instr.sameNow, kXX]⟩
          · refine StrSl.blocks (w := w5) (StrSl.of_owns (owns_block HKv.out fun g hg => HB5.out.block g (HKv.out.lt g hg).2)) (by simp) fun k c t z hk => World.putObj_heap_other (by intro e; subst e; rw [HES.out] at hk; cases hk)
          · exact HO5.out.blocks (by simp) fun k c t z hk => World.putObj_heap_other (by intro e; subst e; rw [HES.out] at hk; cases hk)
end Go.Proofs.Qxb6616118aDoor
