/-
  Walks: cfgB1AddLen, cfgB1Size, cfgB1PolicySize: some number, nothing turned.
-/
import Derived.Test.Qxb6615948aDoorBase
namespace Go.Proofs.Qxb6615948aDoor
open Go.RowKit

set_option maxHeartbeats 400000 in
theorem addLen_any (a n : Int) (w : World) (ha : 0 ≤ a) (ha' : a ≤ 1048577) (hn : 0 ≤ n) :
    Calls Tryd.prog 15 #[.int .i64 a, .int .i64 n] w fun e w' => (∃ z : Int, e = .returned (.int .i64 z) ∧ 0 ≤ z ∧ z ≤ 1048577) ∧ w' = w := by
  by_cases h1 : 1048576 < a
  · go_enter Tryd.func15, Tryd.ntmps15
    go_wp2
    go_ret
    exact ⟨⟨_, rfl, by omega, by omega⟩, rfl⟩
  · by_cases h2 : 1048576 < n
    · go_enter Tryd.func15, Tryd.ntmps15
      go_wp2
      go_ret
      exact ⟨⟨_, rfl, by omega, by omega⟩, rfl⟩
    · by_cases h3 : 1048576 < a + n
      all_goals
        go_enter Tryd.func15, Tryd.ntmps15
        go_wp2
        go_ret
        exact ⟨⟨_, rfl, by omega, by omega⟩, rfl⟩

set_option maxHeartbeats 400000 in
theorem size_any (acc : Int) (v : Value) (ss : List ByteArray) (w : World) (h0 : 0 ≤ acc) (h1 : acc ≤ 1048577) (hl : ss.length ≤ 1048576) (hv : StrSl w v ss) :
    Calls Tryd.prog 16 #[.int .i64 acc, v] w fun e w' => (∃ z : Int, e = .returned (.int .i64 z) ∧ 0 ≤ z ∧ z ≤ 1048577) ∧ w' = w := by
  obtain ⟨a, cap, rfl, hc⟩ := hv
  go_enter Tryd.func16, Tryd.ntmps16
  go_wp2
  go_loop [0, 5] (fun a i => ∃ (k : Nat) (z : Int), k ≤ ss.length ∧ i = .int .i64 k ∧ a = .int .i64 z ∧ 0 ≤ z ∧ z ≤ 1048577) (fun _ i => ss.length - (intOf i).toNat)
  case atStart => exact ⟨0, acc, Nat.zero_le _, rfl, rfl, h0, h1⟩
  case round =>
    obtain ⟨k, z, hk, rfl, rfl, hz0, hz1⟩ := hrel
    by_cases hlt : k < ss.length
    · obtain ⟨b, off, rfl, hb, hcell⟩ := hc k hlt
      obtain ⟨s, hs⟩ : ∃ s, s = ss.getD k ByteArray.empty := ⟨_, rfl⟩
      rw [← hs] at hcell
      clear hs hc
      go_wp2_with fail
      refine (addLen_any z 16 w hz0 hz1 (by omega)).mono ?_
      rintro e w' ⟨⟨z1, rfl, hz2, hz3⟩, rfl⟩
      go_wp2_with fail
      refine (addLen_any z1 _ _ hz2 hz3 (by omega)).mono ?_
      rintro e w' ⟨⟨z2, rfl, hz4, hz5⟩, rfl⟩
      go_wp2
      · go_ret
        exact ⟨⟨_, rfl, hz4, hz5⟩, rfl⟩
      · go_round
        case rel => exact ⟨k + 1, z2, by omega, by go_num, rfl, hz4, hz5⟩
        case measure => simp [intOf]; omega
    · go_wp2
      go_ret
      exact ⟨⟨_, rfl, hz0, hz1⟩, rfl⟩

set_option maxHeartbeats 400000 in
theorem policySize_any (x tool : ByteArray) (va vb vc : Value) (sa sb sc : List ByteArray) (w : World) (hx : x.size ≤ 1048576) (ht : tool.size ≤ 1048576) (ha : StrSl w va sa) (hb : StrSl w vb sb) (hc : StrSl w vc sc)
    (hla : sa.length ≤ 1048576) (hlb : sb.length ≤ 1048576) (hlc : sc.length ≤ 1048576) :
    Calls Tryd.prog 6 #[.string x, .string tool, va, vb, vc] w fun e w' => (∃ z : Int, e = .returned (.int .i64 z)) ∧ w' = w := by
  go_enter Tryd.func6, Tryd.ntmps6
  go_wp2_with fail
  refine (addLen_any 0 _ w (by omega) (by omega) (by omega)).mono ?_
  rintro e w' ⟨⟨z1, rfl, hz1, hz1'⟩, rfl⟩
  go_wp2_with fail
  refine (addLen_any z1 _ _ hz1 hz1' (by omega)).mono ?_
  rintro e w' ⟨⟨z2, rfl, hz2, hz2'⟩, rfl⟩
  go_wp2_with fail
  refine (size_any z2 _ sa _ hz2 hz2' hla ha).mono ?_
  rintro e w' ⟨⟨z3, rfl, hz3, hz3'⟩, rfl⟩
  go_wp2_with fail
  refine (size_any z3 _ sb _ hz3 hz3' hlb hb).mono ?_
  rintro e w' ⟨⟨z4, rfl, hz4, hz4'⟩, rfl⟩
  go_wp2_with fail
  refine (size_any z4 _ sc _ hz4 hz4' hlc hc).mono ?_
  rintro e w' ⟨⟨z5, rfl, hz5, hz5'⟩, rfl⟩
  go_wp2
  go_ret
  exact ⟨⟨_, rfl⟩, rfl⟩
end Go.Proofs.Qxb6615948aDoor
