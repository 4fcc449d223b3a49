/-
  The walk of the law, and its plain side.
-/
import Derived.Test.Qxb6616037aDoorType
namespace Go.Proofs.Qxb6616037aDoor
open Go.RowKit Go.PlainAid

theorem trim_pad (l : List UInt8) (k : Nat) : Lib.trimRightB (l ++ List.replicate k 0) 0 = Lib.trimRightB l 0 := by
  unfold Lib.trimRightB
  rw [List.reverse_append, List.reverse_replicate]
  congr 1
  induction k with
  | zero => simp
  | succ k ih => rw [List.replicate_succ, List.cons_append, List.dropWhile_cons]; simp [ih]

theorem said_packet (l : List UInt8) : said (pad16 ([80, 65, 82, 32, 50, 46, 48, 0] ++ l)) = ⟨(Lib.trimRightB (l.take 8) 0).toArray⟩ := by
  have e : Lib.trimPrefix (pad16 ([80, 65, 82, 32, 50, 46, 48, 0] ++ l)) [80, 65, 82, 32, 50, 46, 48, 0] = (l ++ List.replicate 16 0).take 8 := by
    unfold Lib.trimPrefix pad16 Lib.hasPrefix
    simp [List.isPrefixOf]
  unfold said
  rw [e, List.take_append, List.take_replicate, trim_pad]

theorem ret_str {a b : ByteArray} (h : a = b) : Ending.returned (.string a) = .returned (.string b) := by rw [h]
theorem ret_bool {a b : Bool} (h : a = b) : Ending.returned (.bool a) = .returned (.bool b) := by rw [h]
theorem zeros_any (s : ByteArray) (w : World) (hs : s.size ≤ 65536) : Calls Tryd.prog 6 #[.string s] w fun e w' => e = .returned (.string ⟨(Lib.trimRightB s.data.toList 0).toArray⟩) ∧ w' = w := by
  have hg := get_bt s
  have hfin : ∀ k : Nat, k ≤ s.size → (∀ j, k ≤ j → j < s.size → bt s j = 0) → (0 < k → bt s (k - 1) ≠ 0) → s.extract 0 k = ⟨(Lib.trimRightB s.data.toList 0).toArray⟩ := fun k hk h1 h2 => by
    rw [Lib.trimRightB_take s.data.toList 0 k (by simpa using hk) (fun j b hj hb => ?_) (fun b h0 hb => ?_)]
    · apply ByteArray.ext
      apply Array.toList_inj.1
      simp [ByteArray.data_extract, Array.toList_extract]
    · have hjl : j < s.size := by
        have := (List.getElem?_eq_some_iff.1 hb).1
        simpa using this
      have := h1 j hj hjl
      rw [bt_list] at this
      simp [List.getD, hb] at this
      exact UInt8.toNat.inj (by simpa using this)
    · intro e
      subst e
      refine h2 h0 ?_
      rw [bt_list]
      simp [List.getD, hb]
  have HF := hide hfin
  clear hfin
  go_enter Tryd.func6, Tryd.ntmps6
  go_wp2
  go_loop [3] (fun i => ∃ k : Nat, k ≤ s.size ∧ i = .int .i64 k ∧ ∀ j, k ≤ j → j < s.size → bt s j = 0) (fun i => (intOf i).toNat)
  case atStart => exact ⟨s.size, Nat.le_refl _, rfl, fun j h1 h2 => by omega⟩
  case round =>
    obtain ⟨k, hk, rfl, hz⟩ := hrel
    have HZ := hide hz
    clear hz
    by_cases h0 : 0 < k
    · have hv := hg (k - 1) (by omega)
      have e1 : ((k : Int) - 1).toNat = k - 1 := by omega
      have e2 : (k : Int) - 1 < (s.size : Int) := by omega
      have e3 : (0 : Int) ≤ (k : Int) - 1 := by omega
      have e4 : (0 : Int) < (k : Int) := by omega
      by_cases hc : bt s (k - 1) = 0
      · go_wp2
        go_round
        case rel =>
          refine ⟨k - 1, by omega, by rw [show ((k - 1 : Nat) : Int) = (k : Int) - 1 by omega], fun j h1 h2 => ?_⟩
          by_cases hj : k ≤ j
          · exact HZ.out j hj h2
          · have : j = k - 1 := by omega
            subst this
            exact hc
        case measure => simp [intOf]; omega
      · have hcb : (bt s (k - 1) == 0) = false := by simpa using hc
        go_wp2
        go_ret
        exact ⟨ret_str (HF.out k hk HZ.out (fun _ => hc)), rfl⟩
    · have e0 : k = 0 := by omega
      subst e0
      go_wp2
      go_ret
      exact ⟨ret_str (by have := HF.out 0 (by omega) HZ.out (fun h => by omega); simpa using this), rfl⟩

theorem bytes_no (t : ByteArray) (w : World) (ht : ¬ t.size ≤ 1048576) : Calls Tryd.prog 5 #[.string t] w fun e w' => e = .returned (.bool false) ∧ w' = w := by
  have h1 : (1048576 : Int) < (t.size : Int) := by omega
  go_enter Tryd.func5, Tryd.ntmps5
  go_wp2
  go_ret
  exact ⟨rfl, rfl⟩
theorem bytes_yes (t : ByteArray) (w : World) (ht : t.size ≤ 1048576) : Calls Tryd.prog 5 #[.string t] w fun e w' => e = .returned (.bool true) ∧ w' = w := by
  have h1 : (t.size : Int) ≤ 1048576 := by omega
  go_enter Tryd.func5, Tryd.ntmps5
  go_wp2
  go_ret
  exact ⟨rfl, rfl⟩
theorem law_long (t : ByteArray) (w : World) (ht : ¬ t.size ≤ 65536) : Calls Tryd.prog 3 #[.string t] w fun e w' => e = .returned (.bool true) ∧ Below w.heap.size w w' := by
  by_cases h : t.size ≤ 1048576
  · have h1 : (65536 : Int) < (t.size : Int) := by omega
    go_enter Tryd.func3, Tryd.ntmps3
    go_wp2_with (first | (go_at_call 5; refine (bytes_yes t _ h).mono ?_; rintro e w' ⟨rfl, rfl⟩) | fail)
    go_ret
    exact ⟨rfl, Below.refl _ _⟩
  · go_enter Tryd.func3, Tryd.ntmps3
    go_wp2_with (first | (go_at_call 5; refine (bytes_no t _ h).mono ?_; rintro e w' ⟨rfl, rfl⟩) | fail)
    go_ret
    exact ⟨rfl, Below.refl _ _⟩

theorem packet_said (name : ByteArray) : said (pad16 (pre ++ name).data.toList) = ⟨(Lib.trimRightB (name.data.toList.take 8) 0).toArray⟩ := by
  have e : (pre ++ name).data.toList = [80, 65, 82, 32, 50, 46, 48, 0] ++ name.data.toList := by
    rw [ByteArray.data_append, Array.toList_append]
    rfl
  rw [e, said_packet]

set_option maxHeartbeats 1000000 in
theorem law_short (name : ByteArray) (w : World) (hn : name.size ≤ 65536) : Calls Tryd.prog 3 #[.string name] w fun e w' => e = .returned (.bool true) ∧ Below w.heap.size w w' := by
  have h1 : (name.size : Int) ≤ 65536 := by omega
  have hn2 : name.size ≤ 1048576 := by omega
  have HS := hide (fun w => shim_any name w hn)
  have HT := hide (fun w => string_any (pre ++ name) w)
  rw [packet_said] at HT
  generalize row16 (pre ++ name) = r at HS HT
  by_cases h8 : 8 < name.size
  · have h8z : (8 : Int) < (name.size : Int) := by omega
    have hsz : (name.extract 0 8).size ≤ 65536 := by simp [ByteArray.size_extract]; omega
    have HZ := hide (fun w => zeros_any (name.extract 0 8) w hsz)
    have e8 : (name.extract 0 8).data.toList = name.data.toList.take 8 := by simp [ByteArray.data_extract, Array.toList_extract]
    rw [e8] at HZ
    generalize Lib.trimRightB (name.data.toList.take 8) 0 = x at HT HZ
    clear hsz e8
    go_enter Tryd.func3, Tryd.ntmps3
    go_wp2_with (first | (go_at_call 5; refine (bytes_yes name _ hn2).mono ?_; rintro e w' ⟨rfl, rfl⟩) | (go_at_call 6; refine (HZ.out _).mono ?_; rintro e w' ⟨rfl, rfl⟩) | (go_at_call 7; refine (HS.out _).mono ?_; rintro e w1 ⟨rfl, hb1⟩) | (go_at_call 8; refine (HT.out _).mono ?_; rintro e w2 ⟨rfl, hb2⟩) | fail)
    go_ret
    refine ⟨ret_bool ?_, hb1.trans (hb2.mono hb1.size)⟩
    simp
  · have h8z : (name.size : Int) ≤ 8 := by omega
    have HZ := hide (fun w => zeros_any name w hn)
    have e8 : name.data.toList.take 8 = name.data.toList := List.take_of_length_le (by simp; omega)
    rw [e8] at HT
    generalize Lib.trimRightB name.data.toList 0 = x at HT HZ
    clear e8
    go_enter Tryd.func3, Tryd.ntmps3
    go_wp2_with (first | (go_at_call 5; refine (bytes_yes name _ hn2).mono ?_; rintro e w' ⟨rfl, rfl⟩) | (go_at_call 6; refine (HZ.out _).mono ?_; rintro e w' ⟨rfl, rfl⟩) | (go_at_call 7; refine (HS.out _).mono ?_; rintro e w1 ⟨rfl, hb1⟩) | (go_at_call 8; refine (HT.out _).mono ?_; rintro e w2 ⟨rfl, hb2⟩) | fail)
    go_ret
    refine ⟨ret_bool ?_, hb1.trans (hb2.mono hb1.size)⟩
    simp

theorem law_any (name : ByteArray) (w : World) : Calls Tryd.prog 3 #[.string name] w fun e w' => e = .returned (.bool true) ∧ Below w.heap.size w w' := by
  by_cases h : name.size ≤ 65536
  · exact law_short name w h
  · exact law_long name w h
end Go.Proofs.Qxb6616037aDoor
