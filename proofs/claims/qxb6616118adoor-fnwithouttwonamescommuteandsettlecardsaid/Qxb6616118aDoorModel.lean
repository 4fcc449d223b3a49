/-
  The model modelWithout: the walk.
-/
import Derived.Test.Qxb6616118aDoorBuf
import Derived.WalkSmall
namespace Go.Proofs.Qxb6616118aDoor
open Go.RowKit Go.PlainAid

theorem four (n1 n2 x : ByteArray) : (x.size = 0 ∧ x.toList.isEmpty = true) ∨ (¬ x.size = 0 ∧ x.toList.isEmpty = false ∧ ((trimB (beforeB x)).toList == n1.toList) = true) ∨ (¬ x.size = 0 ∧ x.toList.isEmpty = false ∧ ((trimB (beforeB x)).toList == n1.toList) = false ∧ ((trimB (beforeB x)).toList == n2.toList) = true) ∨ (¬ x.size = 0 ∧ x.toList.isEmpty = false ∧ ((trimB (beforeB x)).toList == n1.toList) = false ∧ ((trimB (beforeB x)).toList == n2.toList) = false) := by
  rw [isEmpty_size]
  by_cases h : x.size = 0
  · exact .inl ⟨h, by simpa using h⟩
  · cases h1 : ((trimB (beforeB x)).toList == n1.toList)
    · cases h2 : ((trimB (beforeB x)).toList == n2.toList)
      · exact .inr (.inr (.inr ⟨h, by simpa using h, rfl, rfl⟩))
      · exact .inr (.inr (.inl ⟨h, by simpa using h, rfl, rfl⟩))
    · exact .inr (.inl ⟨h, by simpa using h, rfl⟩)

set_option maxRecDepth 8000 in
set_option maxHeartbeats 4000000 in
theorem model_any (n1 n2 : ByteArray) (v : Value) (fs : List ByteArray) (w : World) (hv : StrSl w v fs) (hz : ∀ s ∈ fs, s.size ≤ 8388608) (hl : fs.length ≤ 1048576) :
    Calls Tryd.prog 9 #[v, .string n1, .string n2] w fun e w' => ∃ v', e = .returned v' ∧ Below w.heap.size w w' ∧ StrSl w' v' (without2 n1 n2 fs) := by
  have HV := hide hv
  obtain ⟨a, cap, rfl, hcell⟩ := hv
  go_enter Tryd.func9, Tryd.ntmps9
  go_wp2
  go_loopw [7, 8] (fun v7 v8 wr => ∃ i n : Nat, v8 = .int .i64 i ∧ i ≤ fs.length ∧ v7 = .bool (hit2 n1 n2 (fs.take i)) ∧ wr = w.drewN n) (fun _ v8 _ => fs.length - (intOf v8).toNat)
  case atStart => exact ⟨0, 0, rfl, Nat.zero_le _, rfl, rfl⟩
  case round =>
    obtain ⟨i, n, rfl, hi, rfl, rfl⟩ := hrel
    by_cases hlt : i < fs.length
    · obtain ⟨b, off, rfl, hb, hce⟩ := hcell i hlt
      obtain ⟨f, hf⟩ : ∃ f, f = fs.getD i ByteArray.empty := ⟨_, rfl⟩
      rw [← hf] at hce
      have hfz : f.size ≤ 8388608 := by rw [hf, List.getD, List.getElem?_eq_getElem hlt]; exact hz _ (List.getElem_mem hlt)
      have HF := hide hf
      obtain ⟨hh, hhE⟩ : ∃ hh, hh = hit2 n1 n2 (fs.take i) := ⟨_, rfl⟩
      rw [← hhE]
      have HHE := hide hhE
      clear hf hhE hcell
      go_wp2
      go_loopw [7, 10] (fun v7 v10 wr => ∃ (st n : Nat) (ps : List ByteArray), v10 = .int .i64 st ∧ v7 = .bool (hh || (txt ps).any (dropP n1 n2)) ∧ wr = w.drewN n ∧ Prog f ps st) (fun _ v10 _ => f.size + 1 - (intOf v10).toNat)
      case atStart => exact ⟨0, n, [], rfl, by simp [txt], rfl, Prog.start f⟩
      case round =>
        obtain ⟨st, n', ps, rfl, rfl, rfl, hP⟩ := hrel
        rcases hP with ⟨hst, hP⟩ | ⟨hst, hP⟩
        · have HP := hide hP
          have HN := hide (fun w => next_any f st w hst hfz)
          clear hP
          have HT := hide (fun (k : Nat) (hk : k ≤ f.size) w => trimModel_any (f.extract st k) w (by simp [ByteArray.size_extract]; omega))
          --ROUND1
          go_wp2_with (first
            | (go_at_call 12; refine (HN.out _).mono ?_; rintro e w' ⟨rfl, k, rfl, hk1, hk2, hno, hke⟩; have HNO := hide hno; have HKE := hide hke; clear hno hke)
            | (go_at_call 13; refine (HT.out k hk2 _).mono ?_; rintro e w' ⟨rfl, m, rfl⟩; generalize hx' : trimB (f.extract st k) = x; have hx := hx'.symm; clear hx'; have HXT := hide (show trimB x = x from by rw [hx, trimB_idem]); have hxz : x.size ≤ f.size := (by rw [hx]; exact Nat.le_trans (trimB_le _) (by simp [ByteArray.size_extract]; omega)); have HX := hide hx; clear hx; rcases four n1 n2 x with ⟨hE, hEl⟩ | ⟨hE, hEl, hd1⟩ | ⟨hE, hEl, hd1, hd2⟩ | ⟨hE, hEl, hd1, hd2⟩)
            | (go_at_call 14; refine (pieceName_any x _ HXT.out (by omega)).mono ?_; rintro e w' ⟨rfl, m2, rfl⟩)
            | fail)
          · go_roundw
            case rel => exact ⟨k + 1, n' + m, ps ++ [f.extract st k], by go_num, by rw [txt_any_snoc, ← HX.out, if_pos hE], rfl, Prog.step HP.out hk1 hk2 HNO.out HKE.out⟩
            case measure => simp [intOf]; omega
          · go_roundw
            case rel => exact ⟨k + 1, n' + m + m2, ps ++ [f.extract st k], by go_num, by rw [txt_any_snoc, ← HX.out, if_neg hE, show dropP n1 n2 x = true from by unfold dropP dropB; rw [hd1]; rfl]; simp, rfl, Prog.step HP.out hk1 hk2 HNO.out HKE.out⟩
            case measure => simp [intOf]; omega
          · go_roundw
            case rel => exact ⟨k + 1, n' + m + m2, ps ++ [f.extract st k], by go_num, by rw [txt_any_snoc, ← HX.out, if_neg hE, show dropP n1 n2 x = true from by unfold dropP dropB; rw [hd1, hd2]; rfl]; simp, rfl, Prog.step HP.out hk1 hk2 HNO.out HKE.out⟩
            case measure => simp [intOf]; omega
          · go_roundw
            case rel => exact ⟨k + 1, n' + m + m2, ps ++ [f.extract st k], by go_num, by rw [txt_any_snoc, ← HX.out, if_neg hE, show dropP n1 n2 x = false from by unfold dropP dropB; rw [hd1, hd2]; rfl]; simp, rfl, Prog.step HP.out hk1 hk2 HNO.out HKE.out⟩
            case measure => simp [intOf]; omega
        · subst hst
          have HP := hide hP
          clear hP
          go_wp2
          go_roundw
          case rel => exact ⟨i + 1, n', by go_num, by omega, by rw [hit2_succ _ _ _ _ hlt, ← HF.out, ← HHE.out]; unfold textsB; rw [HP.out], rfl⟩
          case measure => simp [intOf]; omega
    · have hie : i = fs.length := by omega
      subst hie
      rw [List.take_length]
      --SECOND
      cases hhit : hit2 n1 n2 fs
      · go_wp2
        go_ret
        refine ⟨_, rfl, ⟨rfl, rfl, rfl, Nat.le_refl _, fun _ _ => rfl⟩, ?_⟩
        unfold without2
        rw [hhit]
        exact HV.out
      · go_wp2
        go_loopw [14, 15] (fun kv v15 wr => ∃ i : Nat, v15 = .int .i64 i ∧ i ≤ fs.length ∧ Below w.heap.size w wr ∧ wr.ownsRow w.heap.size 9 1 kv (left2 n1 n2 (fs.take i)).length ((left2 n1 n2 (fs.take i)).map Value.string)) (fun _ v15 _ => fs.length - (intOf v15).toNat)
        case atStart => exact ⟨0, rfl, Nat.zero_le _, ⟨rfl, rfl, rfl, Nat.le_refl _, fun _ _ => rfl⟩, World.ownsRow_nil _ _ _ _⟩
        case round =>
          obtain ⟨i, rfl, hi2, hbel, hkv⟩ := hrel
          by_cases hlt2 : i < fs.length
          · obtain ⟨b, off, rfl, hb, hce⟩ := hcell i hlt2
            obtain ⟨f, hf⟩ : ∃ f, f = fs.getD i ByteArray.empty := ⟨_, rfl⟩
            rw [← hf] at hce
            have hcW : wr.cell? ⟨b, off + i, none⟩ = some (.string f) := (hbel.cell (p := ⟨b, off + i, none⟩) hb).trans hce
            have hfz : f.size ≤ 8388608 := by rw [hf, List.getD, List.getElem?_eq_getElem hlt2]; exact hz _ (List.getElem_mem hlt2)
            have HF := hide hf
            obtain ⟨kl, hkE⟩ : ∃ kl, kl = left2 n1 n2 (fs.take i) := ⟨_, rfl⟩
            rw [← hkE] at hkv
            have hkll : kl.length ≤ 1048576 := by rw [hkE]; exact Nat.le_trans (left2_len _ _ _) (by simp; omega)
            have HKE2 := hide hkE
            have HB0 := hide (show Both w wr u14 kl (.slice none 0 0) [] from ⟨hbel, hkv, World.ownsRow_nil _ _ _ _⟩)
            clear hf hkE hcell hce hbel hkv
            obtain ⟨i5, hi5, hz5, hy5, hq5⟩ := info_parts info5
            obtain ⟨i9, hi9, hz9, hy9, hq9⟩ := info_parts info9
            go_wp2
            go_loopw [17, 18, 19] (fun bv cn sv wr => ∃ (st : Nat) (ps ks : List ByteArray) (J : List UInt8), sv = .int .i64 st ∧ cn = .int .i64 ks.length ∧ ks = keep2 n1 n2 (txt ps) ∧ J = Lib.join (ks.map (·.data.toList)) [59, 32] ∧ Prog f ps st ∧ Both w wr u14 kl bv J) (fun _ _ sv _ => f.size + 1 - (intOf sv).toNat)
            case atStart => exact ⟨0, [], [], [], rfl, rfl, rfl, rfl, Prog.start f, HB0.out⟩
            case round =>
              clear HB0 hcW
              obtain ⟨st, ps, ks, J, rfl, rfl, hks0, hJ0, hP, hBo⟩ := hrel
              have hJl : J.length ≤ 16777220 := by rw [hJ0, hks0]; have := join_le_wt (keep2 n1 n2 (txt ps)); have := keep2_wt n1 n2 hP; omega
              have hkl : ks.length ≤ 8388610 := by rw [hks0]; have h1 : (keep2 n1 n2 (txt ps)).length ≤ (txt ps).length := List.length_filter_le _ _; have h2 := txt_len ps; have h3 := hP.len; omega
              have HBO := hide hBo
              have HKS := hide hks0
              have HJ := hide hJ0
              clear hBo hks0 hJ0
              rcases hP with ⟨hst, hP⟩ | ⟨hst, hP⟩
              · have HP := hide hP
                have HN := hide (fun w => next_any f st w hst hfz)
                clear hP
                have HT := hide (fun (k : Nat) (hk : k ≤ f.size) w => trimModel_any (f.extract st k) w (by simp [ByteArray.size_extract]; omega))
                go_wp2_with (first
                  | (go_at_call 12; refine (HN.out _).mono ?_; rintro e w' ⟨hw', k, rfl, hk1, hk2, hno, hke⟩; obtain rfl := hw'.symm; have HNO := hide hno; have HKE := hide hke; clear hno hke)
                  | (go_at_call 13; refine (HT.out k hk2 _).mono ?_; rintro e w' ⟨rfl, m, rfl⟩; generalize hx' : trimB (f.extract st k) = x; have hx := hx'.symm; clear hx'; have HXT := hide (show trimB x = x from by rw [hx, trimB_idem]); have hxz : x.size ≤ f.size := (by rw [hx]; exact Nat.le_trans (trimB_le _) (by simp [ByteArray.size_extract]; omega)); have HX := hide hx; clear hx; rcases four n1 n2 x with ⟨hE, hEl⟩ | ⟨hE, hEl, hd1⟩ | ⟨hE, hEl, hd1, hd2⟩ | ⟨hE, hEl, hd1, hd2⟩; rotate_left 3; rcases Nat.eq_zero_or_pos ks.length with hks | hks)
                  | (go_at_call 14; refine (pieceName_any x _ HXT.out (by omega)).mono ?_; rintro e w' ⟨rfl, m2, rfl⟩)
                  | (at_builtin; refine wpList_append_own _ rfl _ _ 37 rfl w.heap.size 5 i5 (.int .u8 0) 1 1 Tryd.underlying37 hi5 hz5 hy5 hq5 rfl (by decide) _ _ _ rfl (((HBO.out.drewN _).alloc _).buf) ⟨wr.heap.size, 0, none⟩ 2 2 [.int .u8 59, .int .u8 32] rfl rfl (cell_two_new (wr.drewN _) _ _ _) twoBytes (by unfold maxLen; omega) (by omega) (by have := HBO.out.below.size; simp; omega) ?_; intro bv' w2 hown2 hgr2 hnil2; have HB2 := hide (Both.step (J' := J ++ [59, 32]) ((HBO.out.drewN _).alloc _) hgr2 (by simpa [bcells] using hown2)); have hJ2 : (J ++ [59, 32]).length = J.length + 2 := (by simp); clear hown2 hgr2 hnil2)
                  | (at_builtin; have _t := HB2; refine Lib.wpList_append_own_string _ rfl _ _ 37 9 rfl w.heap.size 5 i5 Tryd.underlying37 Tryd.underlying9 hi5 hz5 hy5 hq5 _ _ _ rfl (HB2.out.buf) x rfl (by unfold maxLen; omega) (by omega) (by have := HB2.out.below.size; first | omega | (simp; omega)) ?_; clear _t; intro bv3 w3 hown3 hgr3 hnil3; have HB3 := hide (Both.step (J' := (J ++ [59, 32]) ++ x.data.toList) (HB2.out) hgr3 (buf_str hown3)); clear hown3 hgr3 hnil3)
                  | (at_builtin; refine Lib.wpList_append_own_string _ rfl _ _ 37 9 rfl w.heap.size 5 i5 Tryd.underlying37 Tryd.underlying9 hi5 hz5 hy5 hq5 _ _ _ rfl ((HBO.out.drewN _).buf) x rfl (by unfold maxLen; omega) (by omega) (by have := HBO.out.below.size; first | omega | (simp; omega)) ?_; intro bv3 w3 hown3 hgr3 hnil3; have HB3 := hide (Both.step (J' := J ++ x.data.toList) (HBO.out.drewN _) hgr3 (buf_str hown3)); clear hown3 hgr3 hnil3)
                  | fail)
                · go_roundw
                  case rel =>
                    refine ⟨k + 1, ps ++ [f.extract st k], ks ++ [x], J ++ x.data.toList, by go_num, by rw [List.length_append]; go_num, by rw [txt_snoc, ← HX.out, if_neg hE, keep2_snoc, show dropP n1 n2 x = false from by unfold dropP dropB; rw [hd1, hd2]; rfl, ← HKS.out]; rfl, ?_, Prog.step HP.out hk1 hk2 HNO.out HKE.out, HB3.out⟩
                    have hk0 : ks = [] := List.length_eq_zero_iff.1 hks
                    rw [join_snoc, if_pos hks, HJ.out, hk0]
                    rfl
                  case measure => simp [intOf]; omega
                · go_roundw
                  case rel =>
                    refine ⟨k + 1, ps ++ [f.extract st k], ks ++ [x], (J ++ [59, 32]) ++ x.data.toList, by go_num, by rw [List.length_append]; go_num, by rw [txt_snoc, ← HX.out, if_neg hE, keep2_snoc, show dropP n1 n2 x = false from by unfold dropP dropB; rw [hd1, hd2]; rfl, ← HKS.out]; rfl, ?_, Prog.step HP.out hk1 hk2 HNO.out HKE.out, HB3.out⟩
                    rw [join_snoc, if_neg (by omega), HJ.out]
                  case measure => simp [intOf]; omega
                · go_roundw
                  case rel => exact ⟨k + 1, ps ++ [f.extract st k], ks, J, by go_num, rfl, by rw [txt_snoc, ← HX.out, if_pos hE, ← HKS.out], HJ.out, Prog.step HP.out hk1 hk2 HNO.out HKE.out, HBO.out.drewN _⟩
                  case measure => simp [intOf]; omega
                · go_roundw
                  case rel => exact ⟨k + 1, ps ++ [f.extract st k], ks, J, by go_num, rfl, by rw [txt_snoc, ← HX.out, if_neg hE, keep2_snoc, show dropP n1 n2 x = true from by unfold dropP dropB; rw [hd1]; rfl, ← HKS.out]; rfl, HJ.out, Prog.step HP.out hk1 hk2 HNO.out HKE.out, HBO.out.drewN _⟩
                  case measure => simp [intOf]; omega
                · go_roundw
                  case rel => exact ⟨k + 1, ps ++ [f.extract st k], ks, J, by go_num, rfl, by rw [txt_snoc, ← HX.out, if_neg hE, keep2_snoc, show dropP n1 n2 x = true from by unfold dropP dropB; rw [hd1, hd2]; rfl, ← HKS.out]; rfl, HJ.out, Prog.step HP.out hk1 hk2 HNO.out HKE.out, HBO.out.drewN _⟩
                  case measure => simp [intOf]; omega
              · subst hst
                have hps : txt ps = textsB f := by unfold textsB; rw [hP]
                rw [hps] at HKS
                clear hP hps
                rcases Nat.eq_zero_or_pos ks.length with hks | hks
                · go_wp2
                  go_roundw
                  case rel =>
                    refine ⟨i + 1, by go_num, by omega, HBO.out.below, ?_⟩
                    rw [left2_succ _ _ _ _ hlt2, ← HF.out, ← HKS.out, if_pos hks, List.append_nil, ← HKE2.out]
                    exact HBO.out.kept
                  case measure => simp [intOf]; omega
                · have hksi : (0 : Int) < (ks.length : Int) := by omega
                  go_wp2_with (first
                    | (refine wpList_bytes_string rfl _ rfl rfl HBO.out.buf ?_)
                    | (at_builtin; refine wpList_append_own _ rfl _ _ 22 rfl w.heap.size 9 i9 (.string ByteArray.empty) 1 16 Tryd.underlying22 hi9 hz9 hy9 hq9 rfl (by decide) _ _ _ rfl ((HBO.out.alloc _).kept) ⟨wr.heap.size, 0, none⟩ 1 1 [.string ⟨J.toArray⟩] rfl rfl (cell_one_new _ _ _) (oneStr _) (by unfold maxLen; omega) (by omega) (by have := HBO.out.below.size; simp; omega) ?_; intro kv' w4 hown4 hgr4 hnil4; have HO4 := hide hown4; have HG4 := hide hgr4; clear hown4 hgr4 hnil4)
                    | fail)
                  go_roundw
                  case rel =>
                    refine ⟨i + 1, by go_num, by omega, (HBO.out.alloc _).below.grown HG4.out (HBO.out.alloc _).below.size (fun k hk => ((HBO.out.alloc (.cells #[.string ⟨J.toArray⟩] 9)).kept.lt k hk).1), ?_⟩
                    rw [left2_succ _ _ _ _ hlt2, ← HF.out, ← HKS.out, if_neg (by omega), ← HKE2.out]
                    have e : joinB ks = ⟨J.toArray⟩ := by unfold joinB; rw [HJ.out]
                    rw [e]
                    simpa using HO4.out
                  case measure => simp [intOf]; omega
          · have hie : i = fs.length := by omega
            subst hie
            rw [List.take_length] at hkv
            have HKV := hide hkv
            have HBE := hide hbel
            clear hkv hbel
            go_wp2
            go_ret
            refine ⟨_, rfl, HBE.out, ?_⟩
            unfold without2
            rw [hhit, if_pos rfl]
            exact StrSl.of_owns HKV.out
end Go.Proofs.Qxb6616118aDoor
