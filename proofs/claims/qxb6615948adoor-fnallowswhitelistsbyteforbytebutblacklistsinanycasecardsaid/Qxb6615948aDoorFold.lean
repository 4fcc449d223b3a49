/-
  Walk: names.Fold.
-/
import Derived.Test.Qxb6615948aDoorFoldRune
import Derived.Test.Qxb6615948aDoorFoldStr
import Derived.BigCall
namespace Go.Proofs.Qxb6615948aDoor
open Go.RowKit Go.Lib

set_option maxHeartbeats 1000000 in
set_option maxRecDepth 100000 in
theorem fold_any (s : ByteArray) (w : World) (hT : FoldTabs w) (hs : s.size ≤ 1048576) :
    Calls Tryd.prog 11 #[.string s] w fun e w' => e = .returned (.string (foldB s)) ∧ Below w.heap.size w w' := by
  have hsl := stop_le s
  go_enter Tryd.func11, Tryd.ntmps11
  go_wp2
  go_loop [3] (fun i => ∃ k : Nat, k ≤ stopAt s ∧ i = .int .i64 k) (fun i => s.size - (RowKit.intOf i).toNat)
  case atStart => exact ⟨0, Nat.zero_le _, rfl⟩
  case round =>
    obtain ⟨k, hk, rfl⟩ := hrel
    by_cases hlt : k < s.size
    · have st1 := stop_step s k hlt hk
      have st2 := stop_stop s k hlt hk
      have S1 := hide st1
      have S2 := hide st2
      clear st1 st2
      by_cases h128 : s[k].toNat < 128
      · by_cases h65 : s[k].toNat < 65
        · go_wp2
          go_round
          case rel => exact ⟨k + 1, S1.out h128 (Or.inl h65), by go_num⟩
          case measure => simp [RowKit.intOf]; omega
        · by_cases h90 : 90 < s[k].toNat
          · go_wp2
            go_round
            case rel => exact ⟨k + 1, S1.out h128 (Or.inr h90), by go_num⟩
            case measure => simp [RowKit.intOf]; omega
          · have hst := S2.out (Or.inr ⟨by omega, by omega⟩)
            have hne : ((k : Int) == (s.size : Int)) = false := by simp; omega
            have hf : foldB s = ⟨((s.extract 0 k).data.toList ++ foldFrom (s.extract k s.size) (s.size - k) 0).toArray⟩ := by
              unfold foldB
              rw [hst, if_neg (by omega)]
            have HF := hide hf
            clear hf hst S1 S2
            have hbk : (w.alloc (.cells #[.pointer none, .slice none 0 0] 44)).heap[w.heap.size]? = some (.cells #[.pointer none, .slice none 0 0] 44 (0, 0)) := (MapKept.heap_alloc w _).1
            have cG := Tryd.Builder_Grow_fresh w.heap.size w.heap.size s.size (w.alloc (.cells #[.pointer none, .slice none 0 0] 44)) (Nat.le_refl _) hbk (by simp) (by omega)
            clear hbk
            go_wp2_with fail
            refine cG.mono ?_
            rintro e W1 ⟨rfl, hB1, hb1⟩
            clear cG
            have hz1 := hb1.size
            simp at hz1
            have cW := Tryd.Builder_WriteString_k w.heap.size w.heap.size [] (s.extract 0 k) W1 (Or.inr (Lib.BuilderAtF.of hB1)) (by simp; omega) (by omega)
            clear hB1
            go_wp2_with fail
            refine cW.mono ?_
            rintro e W2 ⟨rfl, hB2, hb2, _⟩
            clear cW
            rw [List.nil_append, Lib.strCells_eq] at hB2
            have hz2 := hb2.size
            have hbw : Below w.heap.size w W2 := (((Below.refl _ w).alloc (Nat.le_refl _) _).trans hb1).trans hb2
            have hlt2 : (s.extract k s.size).size = s.size - k := by simp
            have hl0 : (s.extract 0 k).data.toList.length ≤ 1048576 := by simp; omega
            generalize htt : s.extract k s.size = tt at hlt2 HF
            generalize hll : (s.extract 0 k).data.toList = ll at HF hB2 hl0
            go_wp2
            go_loopw [] (fun wr => ∃ (pos fuel : Nat) (acc : List UInt8), Lib.IsBuilderF 44 5 w.heap.size w.heap.size (Lib.byteCells acc) wr ∧ wr.heap[W2.heap.size]? = some (.stringIter tt pos) ∧ Below w.heap.size w wr ∧ acc ++ foldFrom tt fuel pos = ll ++ foldFrom tt (s.size - k) 0 ∧ tt.size ≤ pos + fuel ∧ acc.length ≤ 1048576 + 4 * pos) (fun wr => tt.size - wr.iterPos W2.heap.size)
            case atStart =>
              refine ⟨0, s.size - k, ll, IsBuilderF.alloc (Or.inr hB2) _, World.iter_heap W2 tt 0, hbw.alloc (by omega) _, rfl, by omega, by omega⟩
            case round =>
              obtain ⟨pos, fuel, acc, hI, hit, hbwr, hacc, hfu, hal⟩ := hrel
              have hsz : W2.heap.size < wr.heap.size := (Array.getElem?_eq_some_iff.1 hit).1
              clear hbw hb1 hb2 hB2 hne
              by_cases hp : pos < tt.size
              · have hnx : ∀ ty, (Instr.next (.pointer (some ⟨W2.heap.size, 0, none⟩)) true ty).run Tryd.prog wr = _ := fun ty => Lib.run_next_any_at wr W2.heap.size tt pos ty hit hp
                have hwd := rune_width tt pos
                have hd1 := rune_top tt pos
                have hI2 := hI.iterAt hit (pos + (Utf8.decode tt pos).2)
                have hit2 := Lib.iterAt_heap wr W2.heap.size tt pos (pos + (Utf8.decode tt pos).2) hit
                have hbw2 := Lib.below_iterAt hbwr (k := W2.heap.size) (by omega) tt (pos + (Utf8.decode tt pos).2)
                have hsz2 : w.heap.size ≤ (wr.iterAt W2.heap.size tt (pos + (Utf8.decode tt pos).2)).heap.size := by rw [Lib.iterAt_size]; omega
                obtain ⟨f, rfl⟩ : ∃ f, fuel = f + 1 := ⟨fuel - 1, by omega⟩
                have hff : foldFrom tt (f + 1) pos = encodeRune (foldRuneR (Utf8.decode tt pos).1) ++ foldFrom tt f (pos + (Utf8.decode tt pos).2) := by simp [foldFrom, hp]
                rw [hff] at hacc
                have hrr := foldRuneR_range ((Utf8.decode tt pos).1 : Int) (by omega) (by omega)
                have cF := foldRune_any ((Utf8.decode tt pos).1 : Int) (wr.iterAt W2.heap.size tt (pos + (Utf8.decode tt pos).2)) (hT.below (Nat.le_refl _) hbw2) (by omega) (by omega)
                have HA := hide hacc
                clear hff hacc
                generalize hD : Utf8.decode tt pos = D at *
                go_wp2_with fail
                refine cF.mono ?_
                rintro e w' ⟨rfl, q, rfl⟩
                clear cF
                have hl4 := Lib.runeCells_le (foldRuneR (D.1 : Int))
                rw [Lib.runeCells_length] at hl4
                have cR := Tryd.Builder_WriteRune_k w.heap.size w.heap.size _ (foldRuneR (D.1 : Int)) (by omega) (by omega) ((wr.iterAt W2.heap.size tt (pos + D.2)).drewN q) hI2 (by rw [Lib.byteCells_length]; omega) hsz2
                clear hnx
                go_wp2_with fail
                refine cR.mono ?_
                rintro e W3 ⟨rfl, h3, b3, k3⟩
                have hit3 := k3.iter hit2 (by omega)
                clear cR k3
                go_wp2
                go_roundw
                case rel =>
                  refine ⟨pos + D.2, f, acc ++ encodeRune (foldRuneR (D.1 : Int)), ?_, hit3, (below_drewN hbw2 q).trans b3, ?_, by omega, by simp; omega⟩
                  · rw [Lib.byteCells_append, Lib.byteCells_encodeRune]; exact Or.inr h3
                  · rw [← HA.out]; simp
                case measure =>
                  simp only [World.iterPos, hit3, hit]
                  omega
              · have hnx : ∀ ty, (Instr.next (.pointer (some ⟨W2.heap.size, 0, none⟩)) true ty).run Tryd.prog wr = _ := fun ty => Lib.run_next_end_at wr W2.heap.size tt pos ty hit hp
                rw [foldFrom_end tt fuel pos hp, List.append_nil] at hacc
                have HA := hide hacc
                clear hacc
                have cS := Tryd.Builder_String_any_k w.heap.size w.heap.size acc wr hI (by omega)
                go_wp2_with fail
                refine cS.mono ?_
                rintro e W3 ⟨rfl, _, hb3, _⟩
                go_wp2
                go_ret
                refine ⟨?_, hbwr.trans hb3⟩
                rw [HF.out, ← HA.out]
                rfl
      · have hst := S2.out (Or.inl (by omega))
        have hne : ((k : Int) == (s.size : Int)) = false := by simp; omega
        have hf : foldB s = ⟨((s.extract 0 k).data.toList ++ foldFrom (s.extract k s.size) (s.size - k) 0).toArray⟩ := by
          unfold foldB
          rw [hst, if_neg (by omega)]
        have HF := hide hf
        clear hf hst S1 S2
        have hbk : (w.alloc (.cells #[.pointer none, .slice none 0 0] 44)).heap[w.heap.size]? = some (.cells #[.pointer none, .slice none 0 0] 44 (0, 0)) := (MapKept.heap_alloc w _).1
        have cG := Tryd.Builder_Grow_fresh w.heap.size w.heap.size s.size (w.alloc (.cells #[.pointer none, .slice none 0 0] 44)) (Nat.le_refl _) hbk (by simp) (by omega)
        clear hbk
        go_wp2_with fail
        refine cG.mono ?_
        rintro e W1 ⟨rfl, hB1, hb1⟩
        clear cG
        have hz1 := hb1.size
        simp at hz1
        have cW := Tryd.Builder_WriteString_k w.heap.size w.heap.size [] (s.extract 0 k) W1 (Or.inr (Lib.BuilderAtF.of hB1)) (by simp; omega) (by omega)
        clear hB1
        go_wp2_with fail
        refine cW.mono ?_
        rintro e W2 ⟨rfl, hB2, hb2, _⟩
        clear cW
        rw [List.nil_append, Lib.strCells_eq] at hB2
        have hz2 := hb2.size
        have hbw : Below w.heap.size w W2 := (((Below.refl _ w).alloc (Nat.le_refl _) _).trans hb1).trans hb2
        have hlt2 : (s.extract k s.size).size = s.size - k := by simp
        have hl0 : (s.extract 0 k).data.toList.length ≤ 1048576 := by simp; omega
        generalize htt : s.extract k s.size = tt at hlt2 HF
        generalize hll : (s.extract 0 k).data.toList = ll at HF hB2 hl0
        go_wp2
        go_loopw [] (fun wr => ∃ (pos fuel : Nat) (acc : List UInt8), Lib.IsBuilderF 44 5 w.heap.size w.heap.size (Lib.byteCells acc) wr ∧ wr.heap[W2.heap.size]? = some (.stringIter tt pos) ∧ Below w.heap.size w wr ∧ acc ++ foldFrom tt fuel pos = ll ++ foldFrom tt (s.size - k) 0 ∧ tt.size ≤ pos + fuel ∧ acc.length ≤ 1048576 + 4 * pos) (fun wr => tt.size - wr.iterPos W2.heap.size)
        case atStart =>
          refine ⟨0, s.size - k, ll, IsBuilderF.alloc (Or.inr hB2) _, World.iter_heap W2 tt 0, hbw.alloc (by omega) _, rfl, by omega, by omega⟩
        case round =>
          obtain ⟨pos, fuel, acc, hI, hit, hbwr, hacc, hfu, hal⟩ := hrel
          have hsz : W2.heap.size < wr.heap.size := (Array.getElem?_eq_some_iff.1 hit).1
          clear hbw hb1 hb2 hB2 hne
          by_cases hp : pos < tt.size
          · have hnx : ∀ ty, (Instr.next (.pointer (some ⟨W2.heap.size, 0, none⟩)) true ty).run Tryd.prog wr = _ := fun ty => Lib.run_next_any_at wr W2.heap.size tt pos ty hit hp
            have hwd := rune_width tt pos
            have hd1 := rune_top tt pos
            have hI2 := hI.iterAt hit (pos + (Utf8.decode tt pos).2)
            have hit2 := Lib.iterAt_heap wr W2.heap.size tt pos (pos + (Utf8.decode tt pos).2) hit
            have hbw2 := Lib.below_iterAt hbwr (k := W2.heap.size) (by omega) tt (pos + (Utf8.decode tt pos).2)
            have hsz2 : w.heap.size ≤ (wr.iterAt W2.heap.size tt (pos + (Utf8.decode tt pos).2)).heap.size := by rw [Lib.iterAt_size]; omega
            obtain ⟨f, rfl⟩ : ∃ f, fuel = f + 1 := ⟨fuel - 1, by omega⟩
            have hff : foldFrom tt (f + 1) pos = encodeRune (foldRuneR (Utf8.decode tt pos).1) ++ foldFrom tt f (pos + (Utf8.decode tt pos).2) := by simp [foldFrom, hp]
            rw [hff] at hacc
            have hrr := foldRuneR_range ((Utf8.decode tt pos).1 : Int) (by omega) (by omega)
            have cF := foldRune_any ((Utf8.decode tt pos).1 : Int) (wr.iterAt W2.heap.size tt (pos + (Utf8.decode tt pos).2)) (hT.below (Nat.le_refl _) hbw2) (by omega) (by omega)
            have HA := hide hacc
            clear hff hacc
            generalize hD : Utf8.decode tt pos = D at *
            go_wp2_with fail
            refine cF.mono ?_
            rintro e w' ⟨rfl, q, rfl⟩
            clear cF
            have hl4 := Lib.runeCells_le (foldRuneR (D.1 : Int))
            rw [Lib.runeCells_length] at hl4
            have cR := Tryd.Builder_WriteRune_k w.heap.size w.heap.size _ (foldRuneR (D.1 : Int)) (by omega) (by omega) ((wr.iterAt W2.heap.size tt (pos + D.2)).drewN q) hI2 (by rw [Lib.byteCells_length]; omega) hsz2
            clear hnx
            go_wp2_with fail
            refine cR.mono ?_
            rintro e W3 ⟨rfl, h3, b3, k3⟩
            have hit3 := k3.iter hit2 (by omega)
            clear cR k3
            go_wp2
            go_roundw
            case rel =>
              refine ⟨pos + D.2, f, acc ++ encodeRune (foldRuneR (D.1 : Int)), ?_, hit3, (below_drewN hbw2 q).trans b3, ?_, by omega, by simp; omega⟩
              · rw [Lib.byteCells_append, Lib.byteCells_encodeRune]; exact Or.inr h3
              · rw [← HA.out]; simp
            case measure =>
              simp only [World.iterPos, hit3, hit]
              omega
          · have hnx : ∀ ty, (Instr.next (.pointer (some ⟨W2.heap.size, 0, none⟩)) true ty).run Tryd.prog wr = _ := fun ty => Lib.run_next_end_at wr W2.heap.size tt pos ty hit hp
            rw [foldFrom_end tt fuel pos hp, List.append_nil] at hacc
            have HA := hide hacc
            clear hacc
            have cS := Tryd.Builder_String_any_k w.heap.size w.heap.size acc wr hI (by omega)
            go_wp2_with fail
            refine cS.mono ?_
            rintro e W3 ⟨rfl, _, hb3, _⟩
            go_wp2
            go_ret
            refine ⟨?_, hbwr.trans hb3⟩
            rw [HF.out, ← HA.out]
            rfl
    · have hst : stopAt s = s.size := by omega
      have hf : foldB s = s := by unfold foldB; rw [if_pos hst]
      have hkk : k = s.size := by omega
      subst hkk
      have HF := hide hf
      clear hf hst
      go_wp2
      go_ret
      exact ⟨by rw [HF.out]; rfl, Below.refl _ _⟩
end Go.Proofs.Qxb6615948aDoor
