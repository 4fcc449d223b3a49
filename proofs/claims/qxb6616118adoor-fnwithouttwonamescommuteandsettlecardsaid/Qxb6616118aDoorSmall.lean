/-
  cloneStrings, sameStrings and the two zzBytes functions: the walks.
-/
import Derived.Test.Qxb6616118aDoorOps
import Derived.BigQuiet
namespace Go.Proofs.Qxb6616118aDoor
open Go.RowKit
attribute [local go_sem] eqSl0 eqSl1

set_option maxHeartbeats 1000000 in
theorem clones_any (v : Value) (ss : List ByteArray) (w : World) (hv : StrSl w v ss) (hl : ss.length ≤ 1048576) :
    Calls Tryd.prog 6 #[v] w fun e w' => ∃ v', e = .returned v' ∧ Below w.heap.size w w' ∧ StrSl w' v' ss := by
  obtain ⟨a, cap, rfl, hcell⟩ := hv
  cases a with
  | none =>
    have hs : ss = [] := by
      cases hs : ss with
      | nil => rfl
      | cons y ys =>
        obtain ⟨b, off, hbad, -⟩ := hcell 0 (by rw [hs]; simp)
        cases hbad
    have HS := hide hs
    clear hcell hs
    go_enter Tryd.func6, Tryd.ntmps6
    go_wp2
    go_ret
    exact ⟨_, rfl, Below.refl _ _, by rw [HS.out]; exact StrSl.nil _⟩
  | some ad =>
    obtain ⟨i0, hi0, hz0, hz1, hz2⟩ := info_parts info9
    obtain ⟨n, hn⟩ : ∃ n, n = ss.length := ⟨_, rfl⟩
    rw [← hn] at hl ⊢
    have HN := hide hn
    have HC := hide hcell
    clear hn hcell
    go_enter Tryd.func6, Tryd.ntmps6
    go_wp2_with (first
      | (at_make; refine wpList_make_full _ rfl _ _ 22 rfl w.heap.size 9 i0 (.string ByteArray.empty) 1 Tryd.underlying22 hi0 hz0 hz1 _ _ _ _ n rfl rfl rfl rfl (by rw [hz2]; omega) (by unfold maxLen; omega) (Nat.le_refl _) ?_
         intro w2 hown2 hgr2
         have HO2 := hide hown2
         have HG2 := hide hgr2
         clear hown2 hgr2)
      | fail)
    go_loopw [4] (fun v wr => ∃ (k : Nat) (xs : List Value), v = .int .i64 k ∧ k ≤ n ∧ Below w.heap.size w wr ∧ wr.ownsRow w.heap.size 9 1 (.slice (some ⟨w.heap.size, 0, none⟩) n n) n xs ∧ xs.take k = (ss.take k).map Value.string) (fun v _ => n - (intOf v).toNat)
    case atStart => exact ⟨0, _, rfl, Nat.zero_le _, (Below.refl _ w).grown HG2.out (Nat.le_refl _) (fun k hk => by cases hk), HO2.out, by simp⟩
    case round =>
      obtain ⟨k, xs, rfl, hk, hb, hown, hxs⟩ := hrel
      have hxl : xs.length = n := by have := hown.1; omega
      by_cases hlt : k < n
      · obtain ⟨b, off, hade, hbl, hce⟩ := HC.out k (by rw [← HN.out]; exact hlt)
        cases hade
        obtain ⟨s, hs⟩ : ∃ s, s = ss.getD k ByteArray.empty := ⟨_, rfl⟩
        rw [← hs] at hce
        have hc1 : wr.cell? ⟨b, off + k, none⟩ = some (.string s) := (hb.cell (p := ⟨b, off + k, none⟩) hbl).trans hce
        obtain ⟨old, hold⟩ : ∃ old, xs[k]? = some old := ⟨_, List.getElem?_eq_getElem (by omega)⟩
        have hc2 : wr.cell? ⟨w.heap.size, k, none⟩ = some old := by rw [hown.cellAt k (by omega), hold]
        have hf2 := hown.frozenAt k
        have hsn : (ss.take (k + 1)).map Value.string = (ss.take k).map Value.string ++ [.string s] := by
          rw [take_snoc' ss k (by rw [← HN.out]; exact hlt), List.map_append, ← hs]
          rfl
        have HSN := hide hsn
        have HO := hide (hown.stored k (.string s))
        have HX := hide hxs
        have HB := hide hb
        clear hown hxs hs hold hb hce hsn
        go_wp2
        go_roundw
        case rel =>
          refine ⟨k + 1, xs.set k (.string s), by go_num, by omega, HB.out.setCell (p := ⟨w.heap.size, k, none⟩) (Nat.le_refl _) _, HO.out.1, ?_⟩
          rw [HSN.out, ← HX.out, List.take_add_one, List.getElem?_set_self (by omega), List.take_set_of_le (Nat.le_refl _)]
          rfl
        case measure => simp [intOf]; omega
      · have hke : k = n := by omega
        subst hke
        have hall : xs = ss.map Value.string := by
          have := hxs
          rw [List.take_of_length_le (by omega), List.take_of_length_le (by rw [← HN.out]; exact Nat.le_refl _)] at this
          exact this
        have HO := hide hown
        have HB := hide hb
        have HA := hide hall
        clear hown hb hall hxs
        go_wp2
        go_ret
        refine ⟨_, rfl, HB.out, ?_⟩
        have h := HO.out
        rw [HA.out, HN.out] at h
        rw [HN.out]
        exact StrSl.of_owns h

set_option maxHeartbeats 1000000 in
theorem same_any (va vb : Value) (ss : List ByteArray) (w : World) (ha : StrSl w va ss) (hb : StrSl w vb ss) (hl : ss.length ≤ 1048576) :
    Calls Tryd.prog 8 #[va, vb] w fun e w' => e = .returned (.bool true) ∧ ∃ n, w' = w.drewN n := by
  obtain ⟨aa, ca, rfl, hca⟩ := ha
  obtain ⟨ab, cb, rfl, hcb⟩ := hb
  have HA := hide hca
  have HB := hide hcb
  clear hca hcb
  go_enter Tryd.func8, Tryd.ntmps8
  go_wp2
  go_loopw [5] (fun v wr => ∃ k n : Nat, v = .int .i64 k ∧ k ≤ ss.length ∧ wr = w.drewN n) (fun v _ => ss.length - (intOf v).toNat)
  case atStart => exact ⟨0, 0, rfl, Nat.zero_le _, rfl⟩
  case round =>
    obtain ⟨k, n, rfl, hk, rfl⟩ := hrel
    by_cases hlt : k < ss.length
    · obtain ⟨b, off, rfl, hb, hc1⟩ := HA.out k hlt
      obtain ⟨b', off', rfl, hb', hc2⟩ := HB.out k hlt
      generalize ss.getD k ByteArray.empty = s at hc1 hc2
      have hss : (s.toList == s.toList) = true := by simp
      go_wp2
      go_quiet (fail)
      go_wp2
      go_roundw
      case rel => exact ⟨k + 1, _, by go_num, by omega, rfl⟩
      case measure => simp [intOf]; omega
    · have hke : k = ss.length := by omega
      subst hke
      go_wp2
      go_ret
      exact ⟨rfl, _, rfl⟩

/-- A bool comes back; if it is true, N is bounded; nothing has turned. -/
def BytesOk (N : Nat) (w : World) (e : Ending) (w' : World) : Prop := (∃ b, e = .returned (.bool b) ∧ (b = true → N ≤ 1048576)) ∧ w' = w
theorem BytesOk.no (N : Nat) (w : World) : BytesOk N w (.returned (.bool false)) w := ⟨⟨false, rfl, fun h => by cases h⟩, rfl⟩
theorem BytesOk.yes {N : Nat} (w : World) (h : N ≤ 1048576) : BytesOk N w (.returned (.bool true)) w := ⟨⟨true, rfl, fun _ => h⟩, rfl⟩

set_option maxHeartbeats 1000000 in
theorem bytes5_any (name : ByteArray) (sec : Bool) (va vb : Value) (sa sb : List ByteArray) (w : World) (ha : StrSl w va sa) (hb : StrSl w vb sb)
    (hla : sa.length ≤ maxLen) (hlb : sb.length ≤ maxLen) (hx : name.size ≤ maxLen) (hsa : ∀ s ∈ sa, s.size ≤ maxLen) (hsb : ∀ s ∈ sb, s.size ≤ maxLen) :
    Calls Tryd.prog 5 #[.string name, .bool sec, va, vb] w (BytesOk (name.size + sa.length + lenSum sa + sb.length + lenSum sb) w) := by
  unfold maxLen at hla hlb hx
  obtain ⟨aa, capa, rfl, hca⟩ := ha
  obtain ⟨ab, capb, rfl, hcb⟩ := hb
  go_enter Tryd.func5, Tryd.ntmps5
  go_wp2
  all_goals try (go_ret; exact BytesOk.no _ _)
  go_loop [9, 10] (fun a i => ∃ k : Nat, k ≤ sa.length ∧ i = .int .i64 k ∧ a = .int .i64 ((name.size + sa.length + lenSum (sa.take k) : Nat) : Int) ∧ name.size + sa.length + lenSum (sa.take k) ≤ 1048576) (fun _ i => sa.length - (intOf i).toNat)
  case atStart => exact ⟨0, Nat.zero_le _, rfl, by simp [lenSum], by simp [lenSum]; omega⟩
  case round =>
    obtain ⟨k, hk, rfl, rfl, hz⟩ := hrel
    by_cases hlt : k < sa.length
    · obtain ⟨b, off, rfl, hb, hcell⟩ := hca k hlt
      obtain ⟨s, hs⟩ : ∃ s, s = sa.getD k ByteArray.empty := ⟨_, rfl⟩
      have hsum := lenSum_take_succ sa k hlt
      rw [← hs] at hcell hsum
      have hsz : s.size ≤ 9223372036854775807 := by
        rw [hs, List.getD, List.getElem?_eq_getElem hlt]
        exact hsa _ (List.getElem_mem hlt)
      have HS := hide hsum
      clear hs hca hcb hsum hsa hsb
      go_wp2
      all_goals try (go_ret; exact BytesOk.no _ _)
      go_round
      case rel =>
        have := HS.out
        refine ⟨k + 1, by omega, by go_num, ?_, ?_⟩
        · rw [this]; go_num
        · omega
      case measure => simp [intOf]; omega
    · have : k = sa.length := by omega
      subst this
      rw [List.take_length] at hz ⊢
      clear hca hsa
      go_wp2
      all_goals try (go_ret; exact BytesOk.no _ _)
      go_loop [9, 11] (fun a i => ∃ k : Nat, k ≤ sb.length ∧ i = .int .i64 k ∧ a = .int .i64 ((name.size + sa.length + lenSum sa + sb.length + lenSum (sb.take k) : Nat) : Int) ∧ name.size + sa.length + lenSum sa + sb.length + lenSum (sb.take k) ≤ 1048576) (fun _ i => sb.length - (intOf i).toNat)
      case atStart => exact ⟨0, Nat.zero_le _, rfl, by simp [lenSum], by simp [lenSum]; omega⟩
      case round =>
        obtain ⟨k, hk, rfl, rfl, hz⟩ := hrel
        by_cases hlt : k < sb.length
        · obtain ⟨b, off, rfl, hb, hcell⟩ := hcb k hlt
          obtain ⟨s, hs⟩ : ∃ s, s = sb.getD k ByteArray.empty := ⟨_, rfl⟩
          have hsum := lenSum_take_succ sb k hlt
          rw [← hs] at hcell hsum
          have hsz : s.size ≤ 9223372036854775807 := by
            rw [hs, List.getD, List.getElem?_eq_getElem hlt]
            exact hsb _ (List.getElem_mem hlt)
          have HS := hide hsum
          clear hs hcb hsum hsb
          go_wp2
          all_goals try (go_ret; exact BytesOk.no _ _)
          go_round
          case rel =>
            have := HS.out
            refine ⟨k + 1, by omega, by go_num, ?_, ?_⟩
            · rw [this]; go_num
            · omega
          case measure => simp [intOf]; omega
        · have : k = sb.length := by omega
          subst this
          rw [List.take_length] at hz ⊢
          clear hcb hsb
          go_wp2
          all_goals go_ret
          all_goals first | exact BytesOk.no _ _ | exact BytesOk.yes _ (by omega)
set_option maxHeartbeats 1000000 in
theorem bytes10_any (n1 n2 : ByteArray) (s1 s2 : Bool) (va : Value) (sa : List ByteArray) (w : World) (ha : StrSl w va sa)
    (hla : sa.length ≤ maxLen) (hx : n1.size ≤ maxLen) (hy : n2.size ≤ maxLen) (hsa : ∀ s ∈ sa, s.size ≤ maxLen) :
    Calls Tryd.prog 10 #[.string n1, .bool s1, .string n2, .bool s2, va] w (BytesOk (n1.size + n2.size + sa.length + lenSum sa) w) := by
  unfold maxLen at hla hx hy
  obtain ⟨aa, capa, rfl, hca⟩ := ha
  go_enter Tryd.func10, Tryd.ntmps10
  go_wp2
  all_goals try (go_ret; exact BytesOk.no _ _)
  go_loop [11, 12] (fun a i => ∃ k : Nat, k ≤ sa.length ∧ i = .int .i64 k ∧ a = .int .i64 ((n1.size + n2.size + sa.length + lenSum (sa.take k) : Nat) : Int) ∧ n1.size + n2.size + sa.length + lenSum (sa.take k) ≤ 1048576) (fun _ i => sa.length - (intOf i).toNat)
  case atStart => exact ⟨0, Nat.zero_le _, rfl, by simp [lenSum], by simp [lenSum]; omega⟩
  case round =>
    obtain ⟨k, hk, rfl, rfl, hz⟩ := hrel
    by_cases hlt : k < sa.length
    · obtain ⟨b, off, rfl, hb, hcell⟩ := hca k hlt
      obtain ⟨s, hs⟩ : ∃ s, s = sa.getD k ByteArray.empty := ⟨_, rfl⟩
      have hsum := lenSum_take_succ sa k hlt
      rw [← hs] at hcell hsum
      have hsz : s.size ≤ 9223372036854775807 := by
        rw [hs, List.getD, List.getElem?_eq_getElem hlt]
        exact hsa _ (List.getElem_mem hlt)
      have HS := hide hsum
      clear hs hca hsum hsa
      go_wp2
      all_goals try (go_ret; exact BytesOk.no _ _)
      go_round
      case rel =>
        have := HS.out
        refine ⟨k + 1, by omega, by go_num, ?_, ?_⟩
        · rw [this]; go_num
        · omega
      case measure => simp [intOf]; omega
    · have : k = sa.length := by omega
      subst this
      rw [List.take_length] at hz ⊢
      clear hca hsa
      go_wp2
      all_goals go_ret
      all_goals first | exact BytesOk.no _ _ | exact BytesOk.yes _ (by omega)
end Go.Proofs.Qxb6616118aDoor
