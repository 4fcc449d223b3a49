/-
  Walk: the second statement's zzBytes function.
-/
import Derived.Test.Qxb6615948aDoorBytes
namespace Go.Proofs.Qxb6615948aDoor
open Go.RowKit

set_option maxHeartbeats 1000000 in
theorem bytes12_any (va vb : Value) (sa sb : List ByteArray) (tool : ByteArray) (w : World) (ha : StrSl w va sa) (hb : StrSl w vb sb)
    (hla : sa.length ≤ maxLen) (hlb : sb.length ≤ maxLen) (ht : tool.size ≤ maxLen) (hsa : ∀ s ∈ sa, s.size ≤ maxLen) (hsb : ∀ s ∈ sb, s.size ≤ maxLen) :
    Calls Tryd.prog 12 #[va, vb, .string tool] w (BytesOk (sa.length + lenSum sa + sb.length + lenSum sb + tool.size) w) := by
  unfold maxLen at hla hlb ht
  obtain ⟨aa, capa, rfl, hca⟩ := ha
  obtain ⟨ab, capb, rfl, hcb⟩ := hb
  go_enter Tryd.func12, Tryd.ntmps12
  go_wp2
  · go_ret
    exact BytesOk.no _ _
  · go_loop [7, 8] (fun a i => ∃ k : Nat, k ≤ sa.length ∧ i = .int .i64 k ∧ a = .int .i64 ((sa.length + lenSum (sa.take k) : Nat) : Int) ∧ sa.length + lenSum (sa.take k) ≤ 1048576) (fun _ i => sa.length - (intOf i).toNat)
    case atStart => exact ⟨0, Nat.zero_le _, rfl, by simp [lenSum], by simp [lenSum]; omega⟩
    case round =>
      obtain ⟨k, hk, rfl, rfl, hz⟩ := hrel
      by_cases hlt : k < sa.length
      · obtain ⟨b, off, rfl, hb, hcell⟩ := hca k hlt
        obtain ⟨s, hs⟩ : ∃ s, s = sa.getD k ByteArray.empty := ⟨_, rfl⟩
        have hsum := lenSum_take_succ sa k hlt
        rw [← hs] at hcell hsum
        have hsz : s.size ≤ 9223372036854775807 := by
          rw [hs, List.getD, List.getElem?_eq_getElem hlt]
          exact hsa _ (List.getElem_mem hlt)
        have HS := hide hsum
        clear hs hca hcb hsum hsa hsb
        go_wp2
        · go_ret
          exact BytesOk.no _ _
        · go_ret
          exact BytesOk.no _ _
        · go_round
          case rel => 
            have := HS.out
            refine ⟨k + 1, by omega, by go_num, ?_, ?_⟩
            · rw [this]; go_num
            · omega
          case measure => simp [intOf]; omega
      · have : k = sa.length := by omega
        subst this
        rw [List.take_length] at hz ⊢
        clear hca hsa
        go_wp2
        · go_ret
          exact BytesOk.no _ _
        · go_ret
          exact BytesOk.no _ _
        · go_loop [7, 9] (fun a i => ∃ k : Nat, k ≤ sb.length ∧ i = .int .i64 k ∧ a = .int .i64 ((sa.length + lenSum sa + sb.length + lenSum (sb.take k) : Nat) : Int) ∧ sa.length + lenSum sa + sb.length + lenSum (sb.take k) ≤ 1048576) (fun _ i => sb.length - (intOf i).toNat)
          case atStart => exact ⟨0, Nat.zero_le _, rfl, by simp [lenSum], by simp [lenSum]; omega⟩
          case round =>
            obtain ⟨k, hk, rfl, rfl, hz⟩ := hrel
            by_cases hlt : k < sb.length
            · obtain ⟨b, off, rfl, hb, hcell⟩ := hcb k hlt
              obtain ⟨s, hs⟩ : ∃ s, s = sb.getD k ByteArray.empty := ⟨_, rfl⟩
              have hsum := lenSum_take_succ sb k hlt
              rw [← hs] at hcell hsum
              have hsz : s.size ≤ 9223372036854775807 := by
                rw [hs, List.getD, List.getElem?_eq_getElem hlt]
                exact hsb _ (List.getElem_mem hlt)
              have HS := hide hsum
              clear hs hcb hsum hsb
              go_wp2
              · go_ret
                exact BytesOk.no _ _
              · go_ret
                exact BytesOk.no _ _
              · go_round
                case rel =>
                  have := HS.out
                  refine ⟨k + 1, by omega, by go_num, ?_, ?_⟩
                  · rw [this]; go_num
                  · omega
                case measure => simp [intOf]; omega
            · have : k = sb.length := by omega
              subst this
              rw [List.take_length] at hz ⊢
              clear hcb hsb
              go_wp2
              all_goals go_ret
              all_goals first | exact BytesOk.no _ _ | exact BytesOk.yes _ (by omega)
end Go.Proofs.Qxb6615948aDoor
