/-
  cookiePairs: what it yields, and its walk: an iterator that loops over another.
-/
import Derived.Test.Qxb6616118aDoorTexts
import Derived.Test.Qxb6616118aDoorRegion
import Derived.Sort.AtCallIn
namespace Go.Proofs.Qxb6616118aDoor
open Go.RowKit
attribute [local go_sem] Oper.semAt_some wide_fn wide_depth Fence.inRound_fn Fence.inRound_depth

/-- A cookie as it is handed on: its text, its name, its value. -/
def pairV (x : ByteArray) : Value := .agg #[.string x, .string (trimB (beforeB x)), .string (trimB (afterB x))]
/-- The texts of the parts that are not empty. -/
def txt (ps : List ByteArray) : List ByteArray := (ps.map trimB).filter fun x => x.size != 0
theorem txt_snoc (ps : List ByteArray) (x : ByteArray) : txt (ps ++ [x]) = if (trimB x).size = 0 then txt ps else txt ps ++ [trimB x] := by
  unfold txt
  rw [List.map_append, List.filter_append]
  by_cases h : (trimB x).size = 0 <;> simp [h]
theorem txt_len (ps : List ByteArray) : (txt ps).length ≤ ps.length := by
  unfold txt
  exact Nat.le_trans (List.length_filter_le _ _) (by simp)
/-- The cookies of a field. -/
def textsB (f : ByteArray) : List ByteArray := txt (piecesB f)

theorem yield_depth {m m' : Nat} {P : Program} {l : Nat} {args : Array Value} {W : World} {R : Ending → World → Prop} (h : YieldAt Fence.wide m P l args W R) : YieldAt Fence.wide m' P l args W R := by
  obtain ⟨fn, tmps, assign, body, hy, h1, h2⟩ := h
  exact ⟨fn, tmps, assign, body, hy, h1, fun c cs _ => h2 c cs (room_wide _)⟩
theorem roundIn_inRound (l' : Nat) {m : Nat} {P : Program} {l : Nat} {f : FuncId} {tmps : Array Value} {assign body : Code} {W : World} {R : Ending → World → Prop} (h : RoundIn Fence.wide m P l f tmps assign body W R) : RoundIn (Fence.wide.inRound l') m P l f tmps assign body W R := h
theorem boxed_turns {N B : Nat} {W W' : World} {t : TypeId} {v : Value} (h : Boxed W B t v) (hT : Turns N W W') (hB : B < N ∨ N + 6 ≤ B) : Boxed W' B t v := (hT.block B h.lt hB).trans h

set_option maxHeartbeats 1000000 in
theorem pairs_in (n l₁ Bf : Nat) (f : ByteArray) (w₀ : World) (hT : Tabs w₀) (J : List ByteArray → World → Prop) (W : World)
    (hJ : ∀ pre W1 W2, J pre W1 → Turns W.heap.size W1 W2 → J pre W2) (hJB : ∀ pre W1, J pre W1 → Below w₀.heap.size w₀ W1)
    (hY : ∀ pre x W1, x.size ≤ 8388608 → pre.length ≤ f.size → J pre W1 → W.heap.size + 6 ≤ W1.heap.size → YieldAt Fence.wide (n - 1) Tryd.prog l₁ #[pairV x] W1 fun e W' =>
      e = .returned (.bool true) ∧ J (pre ++ [x]) W' ∧ W1.heap.size ≤ W'.heap.size ∧ ∀ k, W.heap.size ≤ k → k < W.heap.size + 6 → W'.heap[k]? = W1.heap[k]?)
    (hf : Boxed W Bf 9 (.string f)) (hz : f.size ≤ 8388608) (h0 : J [] W) :
    CallsIn Fence.wide n Tryd.prog 23 #[.func (.yield l₁) #[] #[], .pointer (some ⟨Bf, 0, none⟩)] W fun e W' => (∃ v, e = .returned v) ∧ ∃ xs, xs = textsB f ∧ J xs W' := by
  refine callsIn_of_wp_marks Tryd.func23 rfl trivial ?_ rfl
  simp only [Tryd.ntmps23, List.size_toArray, List.length_cons, List.length_nil, Nat.reduceAdd, Nat.reduceSub, Array.replicate_succ, Array.replicate_zero, List.push_toArray, List.append_toArray, List.nil_append, List.cons_append]
  have c1 := hf.cell
  have hlt := hf.lt
  gi_wp2_with (first | (gi_at_call 24; refine (callsIn_wide.2 (SplitSeq_any f _)).mono ?_; rintro e w' ⟨rfl, rfl⟩) | fail)
  obtain ⟨N, hN⟩ : ∃ N, N = W.heap.size := ⟨_, rfl⟩
  rw [← hN] at hJ hY ⊢
  have hb1 : Boxed ((((W.alloc (Obj.cells #[Value.func (Fn.yield l₁) #[] #[]] 41)).alloc (Obj.cells #[Value.string f] 9)).alloc (Obj.cells #[Value.string { data := #[59] }] 9)).alloc (Obj.cells #[Value.int IntKind.i64 0] 3)) N 41 (.func (.yield l₁) #[] #[]) := by
    rw [hN]; exact (((Boxed.new W 41 _).alloc _).alloc _).alloc _
  have hb2 : Boxed ((((W.alloc (Obj.cells #[Value.func (Fn.yield l₁) #[] #[]] 41)).alloc (Obj.cells #[Value.string f] 9)).alloc (Obj.cells #[Value.string { data := #[59] }] 9)).alloc (Obj.cells #[Value.int IntKind.i64 0] 3)) (N + 1) 9 (.string f) := by
    have := Boxed.new (W.alloc (Obj.cells #[Value.func (Fn.yield l₁) #[] #[]] 41)) 9 (.string f)
    rw [World.size_alloc, ← hN] at this
    exact (this.alloc _).alloc _
  have hb3 : Boxed ((((W.alloc (Obj.cells #[Value.func (Fn.yield l₁) #[] #[]] 41)).alloc (Obj.cells #[Value.string f] 9)).alloc (Obj.cells #[Value.string { data := #[59] }] 9)).alloc (Obj.cells #[Value.int IntKind.i64 0] 3)) (N + 2) 9 (.string ⟨#[59]⟩) := by
    have := Boxed.new ((W.alloc (Obj.cells #[Value.func (Fn.yield l₁) #[] #[]] 41)).alloc (Obj.cells #[Value.string f] 9)) 9 (.string ⟨#[59]⟩)
    rw [World.size_alloc, World.size_alloc, ← hN] at this
    exact this.alloc _
  have hb4 : Boxed ((((W.alloc (Obj.cells #[Value.func (Fn.yield l₁) #[] #[]] 41)).alloc (Obj.cells #[Value.string f] 9)).alloc (Obj.cells #[Value.string { data := #[59] }] 9)).alloc (Obj.cells #[Value.int IntKind.i64 0] 3)) (N + 3) 3 (.int .i64 0) := by
    have := Boxed.new (((W.alloc (Obj.cells #[Value.func (Fn.yield l₁) #[] #[]] 41)).alloc (Obj.cells #[Value.string f] 9)).alloc (Obj.cells #[Value.string { data := #[59] }] 9)) 3 (.int .i64 0)
    rw [World.size_alloc, World.size_alloc, World.size_alloc, ← hN] at this
    exact this
  have ht : Turns N W ((((W.alloc (Obj.cells #[Value.func (Fn.yield l₁) #[] #[]] 41)).alloc (Obj.cells #[Value.string f] 9)).alloc (Obj.cells #[Value.string { data := #[59] }] 9)).alloc (Obj.cells #[Value.int IntKind.i64 0] 3)) :=
    (((Turns.alloc N W _).trans (Turns.alloc N _ _)).trans (Turns.alloc N _ _)).trans (Turns.alloc N _ _)
  have hsz : ((((W.alloc (Obj.cells #[Value.func (Fn.yield l₁) #[] #[]] 41)).alloc (Obj.cells #[Value.string f] 9)).alloc (Obj.cells #[Value.string { data := #[59] }] 9)).alloc (Obj.cells #[Value.int IntKind.i64 0] 3)).heap.size = N + 4 := by simp [hN]
  generalize ((((W.alloc (Obj.cells #[Value.func (Fn.yield l₁) #[] #[]] 41)).alloc (Obj.cells #[Value.string f] 9)).alloc (Obj.cells #[Value.string { data := #[59] }] 9)).alloc (Obj.cells #[Value.int IntKind.i64 0] 3)) = w at hb1 hb2 hb3 hb4 ht hsz ⊢
  have HN := hide hN
  clear hN
  refine range_law (gf := 37) (lb := #[.pointer (some ⟨N + 1 + 1, 0, none⟩), .pointer (some ⟨N + 1, 0, none⟩), .pointer (some ⟨N + 1 + 2, 0, none⟩)]) rfl (enters_of Tryd.func37 (by kernel_rfl) rfl) (fun x => #[.string x]) (fun _ => rfl)
    (fun W1 W2 => ∀ k, N + 1 ≤ k → k < N + 4 → W2.heap[k]? = W1.heap[k]?) (fun h k j h1 h2 => (k j h1 h2).trans (h j h1 h2)) (fun W1 o k h1 h2 => World.putObj_heap_other (by omega))
    (fun pre W1 => J (txt pre) W1 ∧ Boxed W1 N 41 (.func (.yield l₁) #[] #[]) ∧ N + 6 ≤ W1.heap.size) (fun pre W1 o ⟨h1, h2, h3⟩ => ⟨hJ _ _ _ h1 (Turns.putObj _ _ (by omega) (by omega)), (World.putObj_heap_other (by omega)).trans h2, by simpa using h3⟩)
    (fun pre x a' W1 => (x.size ≤ 8388608 ∧ pre.length ≤ f.size) ∧ a' = { tmps := #[Value.func (Fn.yield l₁) #[] #[], Value.pointer (some { block := Bf, off := 0 }), Value.pointer (some { block := N, off := 0 }), .string x, undef, undef, undef, Value.string f, Value.func (Fn.func 37) #[] #[.pointer (some ⟨N + 1 + 1, 0, none⟩), .pointer (some ⟨N + 1, 0, none⟩), .pointer (some ⟨N + 1 + 2, 0, none⟩)], .string x, undef, undef, undef, undef, undef, undef, undef, undef, undef, undef, undef, undef, undef, undef, undef, undef, undef, undef, undef], defers := [] }) (fun _ _ _ _ _ h => h)
    (fun xs => xs = piecesB f) (fun pre x _ => x.size ≤ 8388608 ∧ pre.length ≤ f.size) ?seq ?assign ?body ?done
  case seq =>
    intro o hy
    have ht2 : Turns N W ((w.alloc (.deferred (some []))).alloc o) := (ht.trans (Turns.alloc N _ _)).trans (Turns.alloc N _ _)
    have hl2 : ((w.alloc (.deferred (some []))).alloc o).heap[w.heap.size + 1]? = some o := by
      have := World.alloc_heap_new (w.alloc (.deferred (some []))) o
      rwa [World.size_alloc] at this
    have hd2 : ((w.alloc (.deferred (some []))).alloc o).heap[w.heap.size]? = some (.deferred (some [])) := (Below.heap_alloc _ _ _ (by simp)).trans (World.alloc_heap_new w _)
    refine split_in (n - 1) (w.heap.size + 1) (N + 1 + 1) (N + 1) (N + 1 + 2) f
      (fun pre W1 => (J (txt pre) W1 ∧ Boxed W1 N 41 (.func (.yield l₁) #[] #[]) ∧ N + 6 ≤ W1.heap.size) ∧ W1.heap[w.heap.size + 1]? = some o ∧ W1.heap[w.heap.size]? = some (.deferred (some []))) _
      (fun pre W1 v h => ⟨⟨hJ _ _ _ h.1.1 (Turns.setCell _ _ (by simp) (by simp)), h.1.2.1.other (by omega) _, by simpa using h.1.2.2⟩, (Below.heap_setCell _ _ _ _ (by simp; omega)).trans h.2.1, (Below.heap_setCell _ _ _ _ (by simp; omega)).trans h.2.2⟩)
      (fun pre x W1 hx hp h => (hy pre x W1 ⟨hx, hp⟩ h).mono fun e W2 ⟨he, hj, hk⟩ => ⟨he, hj, hk _ (by omega) (by omega), hk _ (by omega) (by omega), hk _ (by omega) (by omega)⟩)
      (by omega) (by omega) ((hb3.alloc _).alloc _) ((hb2.alloc _).alloc _) ((hb4.alloc _).alloc _) hz ⟨⟨hJ _ _ _ h0 ht2, (hb1.alloc _).alloc _, by simp; omega⟩, hl2, hd2⟩
  case assign =>
    rintro pre x W1 K hG ⟨h1, h2, h3⟩ _ hK
    gi_wp2
    exact hK _ _ ⟨h1, h2, h3⟩ ⟨hG, rfl⟩ (fun _ _ _ => rfl) rfl rfl
  case body =>
    rintro pre x a' W1 ⟨h1, h2, h3⟩ ⟨⟨hx, hpl⟩, rfl⟩ ⟨r, hr⟩
    have hpt : (txt pre).length ≤ f.size := Nat.le_trans (txt_len pre) hpl
    clear hpl
    have c2 := h2.cell
    have HJ1 := hide h1
    have HT1 := hide (hT.below (hJB _ _ h1))
    clear h1
    have keep : ∀ W2, Below W1.heap.size W1 W2 → W2.heap[N + 4 + 1]? = W1.heap[N + 4 + 1]? ∧ W2.heap[N + 4]? = W1.heap[N + 4]? ∧ (∀ k, N + 1 ≤ k → k < N + 4 → W2.heap[k]? = W1.heap[k]?) ∧ Boxed W2 N 41 (Value.func (Fn.yield l₁) #[] #[]) ∧ N + 6 ≤ W2.heap.size := fun W2 hb =>
      ⟨hb.block _ (by omega), hb.block _ (by omega), fun k _ _ => hb.block _ (by omega), (hb.block _ (by omega)).trans h2, Nat.le_trans h3 hb.size⟩
    have KEEP := hide keep
    clear keep
    have hnl : (trimB x).toList.isEmpty = decide ((trimB x).size = 0) := by
      rw [Lib.toList_data]
      cases h : (trimB x).data.toList with
      | nil =>
        have : (trimB x).size = 0 := by rw [Lib.size_eq, h]; rfl
        simp [this]
      | cons b r =>
        have : (trimB x).size ≠ 0 := by rw [Lib.size_eq, h]; simp
        simp [this]
    by_cases hE : (trimB x).size = 0
    · have hEl : (trimB x).toList.isEmpty = true := by rw [hnl]; simpa using hE
      clear hnl
      gi_wp2_with (first | (gi_at_call 25; refine (CallsIn.inRound _ (callsIn_wide.2 (trim_any x _ hx HT1.out))).mono ?_; rintro e w' ⟨rfl, hb⟩) | fail)
      obtain ⟨k1, k2, k3, k4, k5⟩ := KEEP.out _ hb
      exact ⟨k1, k2, k3, by rw [txt_snoc, if_pos hE]; exact hJ _ _ _ HJ1.out (Turns.of_below hb), k4, k5⟩
    · have hEl : (trimB x).toList.isEmpty = false := by rw [hnl]; simpa using hE
      clear hnl
      have hxt : (trimB x).size ≤ 8388608 := Nat.le_trans (trimB_le x) hx
      have hxb : (beforeB (trimB x)).size ≤ 8388608 := Nat.le_trans (beforeB_le _) hxt
      have hxa : (afterB (trimB x)).size ≤ 8388608 := Nat.le_trans (afterB_le _) hxt
      have HTX := hide (fun W2 (h : Below W1.heap.size W1 W2) => HT1.out.below h)
      gi_wp2_with (first | (gi_at_call 26; refine (CallsIn.inRound _ (callsIn_wide.2 (cut_any (trimB x) _ hxt))).mono ?_; rintro e w2 ⟨rfl, m2, rfl⟩) | (gi_at_call 25; refine (CallsIn.inRound _ (callsIn_wide.2 (trim_any x _ hx HT1.out))).mono ?_; rintro e w' ⟨rfl, hb⟩) | fail)
      have HB2 := hide hb
      have HT2 := hide (HTX.out _ hb)
      clear hb
      have c2b := (KEEP.out _ HB2.out).2.2.2.1.cell
      have HT2d := hide (show ∀ k, Tabs (w'.drewN k) from fun _ => HT2.out)
      have hmx : Tryd.prog.follows .mixedOrders = true := by kernel_rfl
      refine region_any_round hmx (by kernel_rfl) ?_
      refine wpAnyIn_take (i := 1) (v := .string (trimB x)) rfl rfl (by kernel_rfl) (by kernel_rfl) (by kernel_rfl) (fun _ _ _ h => h) ⟨Or.inl ⟨by rfl, ?_⟩, fun _ => rfl⟩ ?_
      · intro w; go_simp
      refine wpAnyIn_take (i := 2) (v := .string (beforeB (trimB x))) rfl rfl (by kernel_rfl) (by kernel_rfl) (by kernel_rfl) (fun _ _ _ h => h) ⟨Or.inl ⟨by rfl, ?_⟩, fun _ => rfl⟩ ?_
      · intro w; go_simp
      refine wpAnyIn_take (i := 4) (v := .string (afterB (trimB x))) rfl rfl (by kernel_rfl) (by kernel_rfl) (by kernel_rfl) (fun _ _ _ h => h) ⟨Or.inl ⟨by rfl, ?_⟩, fun _ => rfl⟩ ?_
      · intro w; go_simp
      refine wpAnyIn_ready (rs := [0, 3]) (by kernel_rfl) (by simp) ?_
      refine AllReadyIn.cons rfl (fun K hK => ?_) ?_
      · go_simp
        refine hK _ _ ?_
        clear hK K
        refine wpAnyIn_ready (rs := [3]) (by kernel_rfl) (by simp) ?_
        refine AllReadyIn.cons rfl (fun K hK => ?_) ?_
        · skip
          go_simp
          gi_wp2_with (first
            | (gi_at_call_has 25 (beforeB (trimB x)); go_loud (refine (callsIn_wide.2 (trim_any (beforeB (trimB x)) _ hxb (HT2d.out _))).mono ?_); rintro e w3 ⟨rfl, hb3⟩
               have hb3' : Below w'.heap.size w' w3 := ⟨hb3.os, hb3.tape, hb3.output, hb3.size, hb3.block⟩
               have HB3 := hide (HB2.out.trans (hb3'.mono HB2.out.size))
               have c3 := (KEEP.out _ HB3.out).2.2.2.1.cell
               clear hb3 hb3')
            | fail)
          try clear hK
          try clear K
          refine wpAnyIn_ready (rs := [5]) (by kernel_rfl) (by simp) ?_
          refine AllReadyIn.cons rfl (fun K hK => ?_) ?_
          · skip
            go_simp
            gi_wp2_with (first
              | (gi_at_call_has 25 (afterB (trimB x)); go_loud (refine (callsIn_wide.2 (trim_any (afterB (trimB x)) _ hxa (HTX.out _ HB3.out))).mono ?_); rintro e w4 ⟨rfl, hb4⟩
                 have HB4 := hide (HB3.out.trans (hb4.mono HB3.out.size))
                 have c4 := (KEEP.out _ HB4.out).2.2.2.1.cell
                 clear hb4)
              | fail)
            try clear hK
            try clear K
            refine wpAnyIn_take (i := 6) (v := .agg #[.string (trimB x), .string (trimB (beforeB (trimB x))), .string (trimB (afterB (trimB x)))]) rfl rfl (by kernel_rfl) (by kernel_rfl) (by kernel_rfl) (fun _ _ _ h => h) ⟨Or.inl ⟨by rfl, ?_⟩, fun _ => rfl⟩ ?_
            · intro w; go_simp
            obtain ⟨fn, tmps, assign, body, hy, hR⟩ := yield_depth (m' := n - 1 - 1 - 1) (hY (txt pre) (trimB x) w4 hxt hpt (hJ _ _ _ HJ1.out (Turns.of_below HB4.out)) (KEEP.out _ HB4.out).2.2.2.2)
            unfold pairV at hy
            refine wpAnyIn_ready (rs := [7]) (by kernel_rfl) (by simp) ?_
            refine AllReadyIn.cons rfl (fun K hK => ?_) ?_
            · go_simp
              gi_wp2_with (first | (with_reducible refine RoundIn.mono hR ?_; rintro e w5 ⟨rfl, hJ5, hs5, hk5⟩; have H5 := hide (And.intro hJ5 (And.intro hs5 hk5)); clear hJ5 hs5 hk5) | fail)
              try clear hK
              try clear K
              refine wpAnyIn_ready (rs := [8]) (by kernel_rfl) (by simp) ?_
              refine AllReadyIn.cons rfl (fun K hK => ?_) ?_
              · go_simp
                refine hK _ _ ?_
                clear hK K
                refine wpAnyIn_done (by kernel_rfl) ?_ _
                gi_wp2
                obtain ⟨hJ5, hs5, hk5⟩ := H5.out
                obtain ⟨k1, k2, k3, k4, k5⟩ := KEEP.out _ HB4.out
                exact ⟨(hk5 _ (by omega) (by omega)).trans k1, (hk5 _ (by omega) (by omega)).trans k2, fun k g1 g2 => (hk5 k (by omega) (by omega)).trans (k3 k g1 g2), by rw [txt_snoc, if_neg hE]; exact hJ5, (hk5 _ (by omega) (by omega)).trans k4, Nat.le_trans k5 hs5⟩
              · exact AllReadyIn.nil
            · exact AllReadyIn.nil
          · exact AllReadyIn.nil
        · exact AllReadyIn.nil
      refine AllReadyIn.cons rfl (fun K hK => ?_) ?_
      · skip
        go_simp
        gi_wp2_with (first
          | (gi_at_call_has 25 (beforeB (trimB x)); go_loud (refine (callsIn_wide.2 (trim_any (beforeB (trimB x)) _ hxb (HT2d.out _))).mono ?_); rintro e w3 ⟨rfl, hb3⟩
             have hb3' : Below w'.heap.size w' w3 := ⟨hb3.os, hb3.tape, hb3.output, hb3.size, hb3.block⟩
             have HB3 := hide (HB2.out.trans (hb3'.mono HB2.out.size))
             have c3 := (KEEP.out _ HB3.out).2.2.2.1.cell
             clear hb3 hb3')
          | fail)
        try clear hK
        try clear K
        refine wpAnyIn_ready (rs := [0, 5]) (by kernel_rfl) (by simp) ?_
        refine AllReadyIn.cons rfl (fun K hK => ?_) ?_
        · skip
          go_simp
          refine hK _ _ ?_
          clear hK K
          refine wpAnyIn_ready (rs := [5]) (by kernel_rfl) (by simp) ?_
          refine AllReadyIn.cons rfl (fun K hK => ?_) ?_
          · skip
            go_simp
            gi_wp2_with (first
              | (gi_at_call_has 25 (afterB (trimB x)); go_loud (refine (callsIn_wide.2 (trim_any (afterB (trimB x)) _ hxa (HTX.out _ HB3.out))).mono ?_); rintro e w4 ⟨rfl, hb4⟩
                 have HB4 := hide (HB3.out.trans (hb4.mono HB3.out.size))
                 have c4 := (KEEP.out _ HB4.out).2.2.2.1.cell
                 clear hb4)
              | fail)
            try clear hK
            try clear K
            refine wpAnyIn_take (i := 6) (v := .agg #[.string (trimB x), .string (trimB (beforeB (trimB x))), .string (trimB (afterB (trimB x)))]) rfl rfl (by kernel_rfl) (by kernel_rfl) (by kernel_rfl) (fun _ _ _ h => h) ⟨Or.inl ⟨by rfl, ?_⟩, fun _ => rfl⟩ ?_
            · intro w; go_simp
            obtain ⟨fn, tmps, assign, body, hy, hR⟩ := yield_depth (m' := n - 1 - 1 - 1) (hY (txt pre) (trimB x) w4 hxt hpt (hJ _ _ _ HJ1.out (Turns.of_below HB4.out)) (KEEP.out _ HB4.out).2.2.2.2)
            unfold pairV at hy
            refine wpAnyIn_ready (rs := [7]) (by kernel_rfl) (by simp) ?_
            refine AllReadyIn.cons rfl (fun K hK => ?_) ?_
            · go_simp
              gi_wp2_with (first | (with_reducible refine RoundIn.mono hR ?_; rintro e w5 ⟨rfl, hJ5, hs5, hk5⟩; have H5 := hide (And.intro hJ5 (And.intro hs5 hk5)); clear hJ5 hs5 hk5) | fail)
              try clear hK
              try clear K
              refine wpAnyIn_ready (rs := [8]) (by kernel_rfl) (by simp) ?_
              refine AllReadyIn.cons rfl (fun K hK => ?_) ?_
              · go_simp
                refine hK _ _ ?_
                clear hK K
                refine wpAnyIn_done (by kernel_rfl) ?_ _
                gi_wp2
                obtain ⟨hJ5, hs5, hk5⟩ := H5.out
                obtain ⟨k1, k2, k3, k4, k5⟩ := KEEP.out _ HB4.out
                exact ⟨(hk5 _ (by omega) (by omega)).trans k1, (hk5 _ (by omega) (by omega)).trans k2, fun k g1 g2 => (hk5 k (by omega) (by omega)).trans (k3 k g1 g2), by rw [txt_snoc, if_neg hE]; exact hJ5, (hk5 _ (by omega) (by omega)).trans k4, Nat.le_trans k5 hs5⟩
              · exact AllReadyIn.nil
            · exact AllReadyIn.nil
          · exact AllReadyIn.nil
        refine AllReadyIn.cons rfl (fun K hK => ?_) ?_
        · skip
          go_simp
          gi_wp2_with (first
            | (gi_at_call_has 25 (afterB (trimB x)); go_loud (refine (callsIn_wide.2 (trim_any (afterB (trimB x)) _ hxa (HTX.out _ HB3.out))).mono ?_); rintro e w4 ⟨rfl, hb4⟩
               have HB4 := hide (HB3.out.trans (hb4.mono HB3.out.size))
               have c4 := (KEEP.out _ HB4.out).2.2.2.1.cell
               clear hb4)
            | fail)
          try clear hK
          try clear K
          refine wpAnyIn_take (i := 6) (v := .agg #[.string (trimB x), .string (trimB (beforeB (trimB x))), .string (trimB (afterB (trimB x)))]) rfl rfl (by kernel_rfl) (by kernel_rfl) (by kernel_rfl) (fun _ _ _ h => h) ⟨Or.inl ⟨by rfl, ?_⟩, fun _ => rfl⟩ ?_
          · intro w; go_simp
          refine wpAnyIn_ready (rs := [0]) (by kernel_rfl) (by simp) ?_
          refine AllReadyIn.cons rfl (fun K hK => ?_) ?_
          · skip
            go_simp
            refine hK _ _ ?_
            clear hK K
            obtain ⟨fn, tmps, assign, body, hy, hR⟩ := yield_depth (m' := n - 1 - 1 - 1) (hY (txt pre) (trimB x) w4 hxt hpt (hJ _ _ _ HJ1.out (Turns.of_below HB4.out)) (KEEP.out _ HB4.out).2.2.2.2)
            unfold pairV at hy
            refine wpAnyIn_ready (rs := [7]) (by kernel_rfl) (by simp) ?_
            refine AllReadyIn.cons rfl (fun K hK => ?_) ?_
            · go_simp
              gi_wp2_with (first | (with_reducible refine RoundIn.mono hR ?_; rintro e w5 ⟨rfl, hJ5, hs5, hk5⟩; have H5 := hide (And.intro hJ5 (And.intro hs5 hk5)); clear hJ5 hs5 hk5) | fail)
              try clear hK
              try clear K
              refine wpAnyIn_ready (rs := [8]) (by kernel_rfl) (by simp) ?_
              refine AllReadyIn.cons rfl (fun K hK => ?_) ?_
              · go_simp
                refine hK _ _ ?_
                clear hK K
                refine wpAnyIn_done (by kernel_rfl) ?_ _
                gi_wp2
                obtain ⟨hJ5, hs5, hk5⟩ := H5.out
                obtain ⟨k1, k2, k3, k4, k5⟩ := KEEP.out _ HB4.out
                exact ⟨(hk5 _ (by omega) (by omega)).trans k1, (hk5 _ (by omega) (by omega)).trans k2, fun k g1 g2 => (hk5 k (by omega) (by omega)).trans (k3 k g1 g2), by rw [txt_snoc, if_neg hE]; exact hJ5, (hk5 _ (by omega) (by omega)).trans k4, Nat.le_trans k5 hs5⟩
              · exact AllReadyIn.nil
            · exact AllReadyIn.nil
          · exact AllReadyIn.nil
        · exact AllReadyIn.nil
      · exact AllReadyIn.nil
  case done =>
    rintro xs W1 rfl ⟨h1, h2, h3⟩ hK
    gi_wp2
    refine ⟨by simp, .inl ⟨_, _, rfl, run_takeDeferred hK, ?_⟩⟩
    exact ⟨_, results_none rfl _ _ _, ⟨_, rfl⟩, _, rfl, hJ _ _ _ h1 (Turns.putObj _ _ (by omega) (by omega))⟩
end Go.Proofs.Qxb6616118aDoor
