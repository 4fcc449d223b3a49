/-
  Walks: the two zzBytes functions: where they answer true, the lengths are bounded. cfgB1Has.
-/
import Derived.Test.Qxb6615948aDoorBase
namespace Go.Proofs.Qxb6615948aDoor
open Go.RowKit

/-- A bool comes back; if it is true, N is bounded; nothing has turned. -/
def BytesOk (N : Nat) (w : World) (e : Ending) (w' : World) : Prop := (∃ b, e = .returned (.bool b) ∧ (b = true → N ≤ 1048576)) ∧ w' = w
theorem BytesOk.no (N : Nat) (w : World) : BytesOk N w (.returned (.bool false)) w := ⟨⟨false, rfl, fun h => by cases h⟩, rfl⟩
theorem BytesOk.yes {N : Nat} (w : World) (h : N ≤ 1048576) : BytesOk N w (.returned (.bool true)) w := ⟨⟨true, rfl, fun _ => h⟩, rfl⟩

set_option maxHeartbeats 1000000 in
theorem bytes5_any (va vb : Value) (sa sb : List ByteArray) (i : Int) (x tool : ByteArray) (w : World) (ha : StrSl w va sa) (hb : StrSl w vb sb)
    (hla : sa.length ≤ maxLen) (hlb : sb.length ≤ maxLen) (hx : x.size ≤ maxLen) (ht : tool.size ≤ maxLen) (hsa : ∀ s ∈ sa, s.size ≤ maxLen) (hsb : ∀ s ∈ sb, s.size ≤ maxLen) :
    Calls Tryd.prog 5 #[va, vb, .int .i64 i, .string x, .string tool] w (BytesOk (sa.length + lenSum sa + sb.length + lenSum sb + x.size + tool.size) w) := by
  unfold maxLen at hla hlb hx ht
  obtain ⟨aa, capa, rfl, hca⟩ := ha
  obtain ⟨ab, capb, rfl, hcb⟩ := hb
  go_enter Tryd.func5, Tryd.ntmps5
  go_wp2
  · go_ret
    exact BytesOk.no _ _
  · go_loop [11, 12] (fun a i => ∃ k : Nat, k ≤ sa.length ∧ i = .int .i64 k ∧ a = .int .i64 ((sa.length + lenSum (sa.take k) : Nat) : Int) ∧ sa.length + lenSum (sa.take k) ≤ 1048576) (fun _ i => sa.length - (intOf i).toNat)
    case atStart => exact ⟨0, Nat.zero_le _, rfl, by simp [lenSum], by simp [lenSum]; omega⟩
    case round =>
      obtain ⟨k, hk, rfl, rfl, hz⟩ := hrel
      by_cases hlt : k < sa.length
      · obtain ⟨b, off, rfl, hb, hcell⟩ := hca k hlt
        obtain ⟨s, hs⟩ : ∃ s, s = sa.getD k ByteArray.empty := ⟨_, rfl⟩
        have hsum := lenSum_take_succ sa k hlt
        rw [← hs] at hcell hsum
        have hsz : s.size ≤ 9223372036854775807 := by
          rw [hs, List.getD, List.getElem?_eq_getElem hlt]
          exact hsa _ (List.getElem_mem hlt)
        have HS := hide hsum
        clear hs hca hcb hsum hsa hsb
        go_wp2
        · go_ret
          exact BytesOk.no _ _
        · go_ret
          exact BytesOk.no _ _
        · go_round
          case rel => 
            have := HS.out
            refine ⟨k + 1, by omega, by go_num, ?_, ?_⟩
            · rw [this]; go_num
            · omega
          case measure => simp [intOf]; omega
      · have : k = sa.length := by omega
        subst this
        rw [List.take_length] at hz ⊢
        clear hca hsa
        go_wp2
        · go_ret
          exact BytesOk.no _ _
        · go_ret
          exact BytesOk.no _ _
        · go_loop [11, 13] (fun a i => ∃ k : Nat, k ≤ sb.length ∧ i = .int .i64 k ∧ a = .int .i64 ((sa.length + lenSum sa + sb.length + lenSum (sb.take k) : Nat) : Int) ∧ sa.length + lenSum sa + sb.length + lenSum (sb.take k) ≤ 1048576) (fun _ i => sb.length - (intOf i).toNat)
          case atStart => exact ⟨0, Nat.zero_le _, rfl, by simp [lenSum], by simp [lenSum]; omega⟩
          case round =>
            obtain ⟨k, hk, rfl, rfl, hz⟩ := hrel
            by_cases hlt : k < sb.length
            · obtain ⟨b, off, rfl, hb, hcell⟩ := hcb k hlt
              obtain ⟨s, hs⟩ : ∃ s, s = sb.getD k ByteArray.empty := ⟨_, rfl⟩
              have hsum := lenSum_take_succ sb k hlt
              rw [← hs] at hcell hsum
              have hsz : s.size ≤ 9223372036854775807 := by
                rw [hs, List.getD, List.getElem?_eq_getElem hlt]
                exact hsb _ (List.getElem_mem hlt)
              have HS := hide hsum
              clear hs hcb hsum hsb
              go_wp2
              · go_ret
                exact BytesOk.no _ _
              · go_ret
                exact BytesOk.no _ _
              · go_round
                case rel =>
                  have := HS.out
                  refine ⟨k + 1, by omega, by go_num, ?_, ?_⟩
                  · rw [this]; go_num
                  · omega
                case measure => simp [intOf]; omega
            · have : k = sb.length := by omega
              subst this
              rw [List.take_length] at hz ⊢
              clear hcb hsb
              go_wp2
              all_goals go_ret
              all_goals first | exact BytesOk.no _ _ | exact BytesOk.yes _ (by omega)
end Go.Proofs.Qxb6615948aDoor
