/-
  The model's white space: spaceAt, spaceBefore.
-/
import Derived.Test.Qxb6616118aDoorSp
import Derived.Test.Qxb6616118aDoorRange
namespace Go.Proofs.Qxb6616118aDoor
open Go.RowKit Go.PlainAid

def spAt (s : ByteArray) (i j : Nat) : Nat :=
  if bt s i = 32 ∨ (9 ≤ bt s i ∧ bt s i ≤ 13) then 1
  else if (2 : Int) ≤ (j : Int) - (i : Int) ∧ bt s i = 194 ∧ (bt s (i + 1) = 133 ∨ bt s (i + 1) = 160) then 2
  else if (3 : Int) ≤ (j : Int) - (i : Int) ∧ sp3 (bt s i) (bt s (i + 1)) (bt s (i + 2)) = true then 3 else 0
def spBe (s : ByteArray) (i j : Nat) : Nat :=
  if bt s (j - 1) = 32 ∨ (9 ≤ bt s (j - 1) ∧ bt s (j - 1) ≤ 13) then 1
  else if (2 : Int) ≤ (j : Int) - (i : Int) ∧ bt s (j - 2) = 194 ∧ (bt s (j - 1) = 133 ∨ bt s (j - 1) = 160) then 2
  else if (3 : Int) ≤ (j : Int) - (i : Int) ∧ sp3 (bt s (j - 3)) (bt s (j - 2)) (bt s (j - 1)) = true then 3 else 0

set_option maxHeartbeats 1000000 in
theorem spaceAt_any (s : ByteArray) (i j : Nat) (w : World) (hij : i < j) (hj : j ≤ s.size) (hz : s.size ≤ 8388608) : Calls Tryd.prog 17 #[.string s, .int .i64 i, .int .i64 j] w fun e w' => e = .returned (.int .i64 (spAt s i j : Nat)) ∧ ∃ n, w' = w.drewN n := by
  have hv0 := get_bt s i (by omega)
  by_cases h0 : bt s i = 32
  · skip
    have e : spAt s i j = 1 := by unfold spAt; rw [if_pos (by omega)]
    try clear h3
    try clear h7
    go_enter Tryd.func17, Tryd.ntmps17
    go_wp2
    go_ret
    exact ⟨by first | (rw [e]; rfl) | rfl, 0, rfl⟩
  · skip
    have kh0 : (bt s i == 32) = false := by simpa using h0
    by_cases h1 : 9 ≤ bt s i
    · skip
      by_cases h1b : bt s i ≤ 13
      · skip
        have e : spAt s i j = 1 := by unfold spAt; rw [if_pos (by omega)]
        try clear h3
        try clear h7
        go_enter Tryd.func17, Tryd.ntmps17
        go_wp2
        go_ret
        exact ⟨by first | (rw [e]; rfl) | rfl, 0, rfl⟩
      · skip
        by_cases h2 : (2 : Int) ≤ (j : Int) - (i : Int)
        · skip
          have hv1 := get_bt s (i + 1) (by omega)
          by_cases h3 : bt s i = 194
          · skip
            have kh3 : (bt s i == 194) = true := by simpa using h3
            by_cases h4 : bt s (i + 1) = 133
            · skip
              have e : spAt s i j = 2 := by unfold spAt; rw [if_neg (by omega), if_pos (by omega)]
              try clear h3
              try clear h7
              go_enter Tryd.func17, Tryd.ntmps17
              go_wp2
              go_ret
              exact ⟨by first | (rw [e]; rfl) | rfl, 0, rfl⟩
            · skip
              have kh4 : (bt s (i + 1) == 133) = false := by simpa using h4
              by_cases h5 : bt s (i + 1) = 160
              · skip
                have e : spAt s i j = 2 := by unfold spAt; rw [if_neg (by omega), if_pos (by omega)]
                try clear h3
                try clear h7
                go_enter Tryd.func17, Tryd.ntmps17
                go_wp2
                go_ret
                exact ⟨by first | (rw [e]; rfl) | rfl, 0, rfl⟩
              · skip
                have kh5 : (bt s (i + 1) == 160) = false := by simpa using h5
                by_cases h6 : (3 : Int) ≤ (j : Int) - (i : Int)
                · skip
                  have hv2 := get_bt s (i + 2) (by omega)
                  have HS := hide (fun w => isSpace3_any (bt s i) (bt s (i + 1)) (bt s (i + 2)) w)
                  cases h7 : sp3 (bt s i) (bt s (i + 1)) (bt s (i + 2))
                  · rw [h7] at HS
                    have e : spAt s i j = 0 := by unfold spAt; rw [if_neg (by omega), if_neg (by omega), if_neg (by rw [h7]; simp)]
                    try clear h3
                    try clear h7
                    go_enter Tryd.func17, Tryd.ntmps17
                    go_wp2
                    have wr0 : IntKind.i64.wrap ((j : Int) - (i : Int)) = (j : Int) - (i : Int) := IntWalk.i64_in _ ⟨by omega, by omega⟩
                    have wr1 : IntKind.i64.wrap ((i : Int) + 1) = (i : Int) + 1 := IntWalk.i64_in _ ⟨by omega, by omega⟩
                    have wr2 : IntKind.i64.wrap ((i : Int) + 2) = (i : Int) + 2 := IntWalk.i64_in _ ⟨by omega, by omega⟩
                    have t1 : ((i : Int) + 1).toNat = i + 1 := by omega
                    have t2 : ((i : Int) + 2).toNat = i + 2 := by omega
                    go_quiet (first | (go_at_call 22; exact Calls.quiet_of_same (HS.out _)) | fail)
                    go_wp2
                    go_ret
                    exact ⟨by first | (rw [e]; rfl) | rfl, _, rfl⟩
                  · rw [h7] at HS
                    have e : spAt s i j = 3 := by unfold spAt; rw [if_neg (by omega), if_neg (by omega), if_pos ⟨by omega, h7⟩]
                    try clear h3
                    try clear h7
                    go_enter Tryd.func17, Tryd.ntmps17
                    go_wp2
                    have wr0 : IntKind.i64.wrap ((j : Int) - (i : Int)) = (j : Int) - (i : Int) := IntWalk.i64_in _ ⟨by omega, by omega⟩
                    have wr1 : IntKind.i64.wrap ((i : Int) + 1) = (i : Int) + 1 := IntWalk.i64_in _ ⟨by omega, by omega⟩
                    have wr2 : IntKind.i64.wrap ((i : Int) + 2) = (i : Int) + 2 := IntWalk.i64_in _ ⟨by omega, by omega⟩
                    have t1 : ((i : Int) + 1).toNat = i + 1 := by omega
                    have t2 : ((i : Int) + 2).toNat = i + 2 := by omega
                    go_quiet (first | (go_at_call 22; exact Calls.quiet_of_same (HS.out _)) | fail)
                    go_wp2
                    go_ret
                    exact ⟨by first | (rw [e]; rfl) | rfl, _, rfl⟩
                · skip
                  have kd : decide ((3 : Int) ≤ (j : Int) - (i : Int)) = false := decide_eq_false h6
                  have e : spAt s i j = 0 := by unfold spAt; rw [if_neg (by omega), if_neg (by omega), if_neg (by omega)]
                  try clear h3
                  try clear h7
                  go_enter Tryd.func17, Tryd.ntmps17
                  go_wp2
                  have wr0 : IntKind.i64.wrap ((j : Int) - (i : Int)) = (j : Int) - (i : Int) := IntWalk.i64_in _ ⟨by omega, by omega⟩
                  have wr1 : IntKind.i64.wrap ((i : Int) + 1) = (i : Int) + 1 := IntWalk.i64_in _ ⟨by omega, by omega⟩
                  have wr2 : IntKind.i64.wrap ((i : Int) + 2) = (i : Int) + 2 := IntWalk.i64_in _ ⟨by omega, by omega⟩
                  have t1 : ((i : Int) + 1).toNat = i + 1 := by omega
                  have t2 : ((i : Int) + 2).toNat = i + 2 := by omega
                  go_quiet (fail)
                  go_wp2
                  go_ret
                  exact ⟨by first | (rw [e]; rfl) | rfl, _, rfl⟩
          · skip
            have kh3 : (bt s i == 194) = false := by simpa using h3
            by_cases h6 : (3 : Int) ≤ (j : Int) - (i : Int)
            · skip
              have hv2 := get_bt s (i + 2) (by omega)
              have HS := hide (fun w => isSpace3_any (bt s i) (bt s (i + 1)) (bt s (i + 2)) w)
              cases h7 : sp3 (bt s i) (bt s (i + 1)) (bt s (i + 2))
              · rw [h7] at HS
                have e : spAt s i j = 0 := by unfold spAt; rw [if_neg (by omega), if_neg (by omega), if_neg (by rw [h7]; simp)]
                try clear h3
                try clear h7
                go_enter Tryd.func17, Tryd.ntmps17
                go_wp2
                have wr0 : IntKind.i64.wrap ((j : Int) - (i : Int)) = (j : Int) - (i : Int) := IntWalk.i64_in _ ⟨by omega, by omega⟩
                have wr1 : IntKind.i64.wrap ((i : Int) + 1) = (i : Int) + 1 := IntWalk.i64_in _ ⟨by omega, by omega⟩
                have wr2 : IntKind.i64.wrap ((i : Int) + 2) = (i : Int) + 2 := IntWalk.i64_in _ ⟨by omega, by omega⟩
                have t1 : ((i : Int) + 1).toNat = i + 1 := by omega
                have t2 : ((i : Int) + 2).toNat = i + 2 := by omega
                go_quiet (first | (go_at_call 22; exact Calls.quiet_of_same (HS.out _)) | fail)
                go_wp2
                go_ret
                exact ⟨by first | (rw [e]; rfl) | rfl, _, rfl⟩
              · rw [h7] at HS
                have e : spAt s i j = 3 := by unfold spAt; rw [if_neg (by omega), if_neg (by omega), if_pos ⟨by omega, h7⟩]
                try clear h3
                try clear h7
                go_enter Tryd.func17, Tryd.ntmps17
                go_wp2
                have wr0 : IntKind.i64.wrap ((j : Int) - (i : Int)) = (j : Int) - (i : Int) := IntWalk.i64_in _ ⟨by omega, by omega⟩
                have wr1 : IntKind.i64.wrap ((i : Int) + 1) = (i : Int) + 1 := IntWalk.i64_in _ ⟨by omega, by omega⟩
                have wr2 : IntKind.i64.wrap ((i : Int) + 2) = (i : Int) + 2 := IntWalk.i64_in _ ⟨by omega, by omega⟩
                have t1 : ((i : Int) + 1).toNat = i + 1 := by omega
                have t2 : ((i : Int) + 2).toNat = i + 2 := by omega
                go_quiet (first | (go_at_call 22; exact Calls.quiet_of_same (HS.out _)) | fail)
                go_wp2
                go_ret
                exact ⟨by first | (rw [e]; rfl) | rfl, _, rfl⟩
            · skip
              have kd : decide ((3 : Int) ≤ (j : Int) - (i : Int)) = false := decide_eq_false h6
              have e : spAt s i j = 0 := by unfold spAt; rw [if_neg (by omega), if_neg (by omega), if_neg (by omega)]
              try clear h3
              try clear h7
              go_enter Tryd.func17, Tryd.ntmps17
              go_wp2
              have wr0 : IntKind.i64.wrap ((j : Int) - (i : Int)) = (j : Int) - (i : Int) := IntWalk.i64_in _ ⟨by omega, by omega⟩
              have wr1 : IntKind.i64.wrap ((i : Int) + 1) = (i : Int) + 1 := IntWalk.i64_in _ ⟨by omega, by omega⟩
              have wr2 : IntKind.i64.wrap ((i : Int) + 2) = (i : Int) + 2 := IntWalk.i64_in _ ⟨by omega, by omega⟩
              have t1 : ((i : Int) + 1).toNat = i + 1 := by omega
              have t2 : ((i : Int) + 2).toNat = i + 2 := by omega
              go_quiet (fail)
              go_wp2
              go_ret
              exact ⟨by first | (rw [e]; rfl) | rfl, _, rfl⟩
        · skip
          have h6 : ¬ (3 : Int) ≤ (j : Int) - (i : Int) := by omega
          have kd : decide ((3 : Int) ≤ (j : Int) - (i : Int)) = false := decide_eq_false h6
          have e : spAt s i j = 0 := by unfold spAt; rw [if_neg (by omega), if_neg (by omega), if_neg (by omega)]
          try clear h3
          try clear h7
          go_enter Tryd.func17, Tryd.ntmps17
          go_wp2
          have wr0 : IntKind.i64.wrap ((j : Int) - (i : Int)) = (j : Int) - (i : Int) := IntWalk.i64_in _ ⟨by omega, by omega⟩
          have wr1 : IntKind.i64.wrap ((i : Int) + 1) = (i : Int) + 1 := IntWalk.i64_in _ ⟨by omega, by omega⟩
          have wr2 : IntKind.i64.wrap ((i : Int) + 2) = (i : Int) + 2 := IntWalk.i64_in _ ⟨by omega, by omega⟩
          have t1 : ((i : Int) + 1).toNat = i + 1 := by omega
          have t2 : ((i : Int) + 2).toNat = i + 2 := by omega
          go_quiet (fail)
          go_wp2
          go_ret
          exact ⟨by first | (rw [e]; rfl) | rfl, _, rfl⟩
    · skip
      by_cases h2 : (2 : Int) ≤ (j : Int) - (i : Int)
      · skip
        have hv1 := get_bt s (i + 1) (by omega)
        have h3 : ¬ bt s i = 194 := by omega
        have kh3 : (bt s i == 194) = false := by simpa using h3
        by_cases h6 : (3 : Int) ≤ (j : Int) - (i : Int)
        · skip
          have hv2 := get_bt s (i + 2) (by omega)
          have HS := hide (fun w => isSpace3_any (bt s i) (bt s (i + 1)) (bt s (i + 2)) w)
          cases h7 : sp3 (bt s i) (bt s (i + 1)) (bt s (i + 2))
          · rw [h7] at HS
            have e : spAt s i j = 0 := by unfold spAt; rw [if_neg (by omega), if_neg (by omega), if_neg (by rw [h7]; simp)]
            try clear h3
            try clear h7
            go_enter Tryd.func17, Tryd.ntmps17
            go_wp2
            have wr0 : IntKind.i64.wrap ((j : Int) - (i : Int)) = (j : Int) - (i : Int) := IntWalk.i64_in _ ⟨by omega, by omega⟩
            have wr1 : IntKind.i64.wrap ((i : Int) + 1) = (i : Int) + 1 := IntWalk.i64_in _ ⟨by omega, by omega⟩
            have wr2 : IntKind.i64.wrap ((i : Int) + 2) = (i : Int) + 2 := IntWalk.i64_in _ ⟨by omega, by omega⟩
            have t1 : ((i : Int) + 1).toNat = i + 1 := by omega
            have t2 : ((i : Int) + 2).toNat = i + 2 := by omega
            go_quiet (first | (go_at_call 22; exact Calls.quiet_of_same (HS.out _)) | fail)
            go_wp2
            go_ret
            exact ⟨by first | (rw [e]; rfl) | rfl, _, rfl⟩
          · rw [h7] at HS
            have e : spAt s i j = 3 := by unfold spAt; rw [if_neg (by omega), if_neg (by omega), if_pos ⟨by omega, h7⟩]
            try clear h3
            try clear h7
            go_enter Tryd.func17, Tryd.ntmps17
            go_wp2
            have wr0 : IntKind.i64.wrap ((j : Int) - (i : Int)) = (j : Int) - (i : Int) := IntWalk.i64_in _ ⟨by omega, by omega⟩
            have wr1 : IntKind.i64.wrap ((i : Int) + 1) = (i : Int) + 1 := IntWalk.i64_in _ ⟨by omega, by omega⟩
            have wr2 : IntKind.i64.wrap ((i : Int) + 2) = (i : Int) + 2 := IntWalk.i64_in _ ⟨by omega, by omega⟩
            have t1 : ((i : Int) + 1).toNat = i + 1 := by omega
            have t2 : ((i : Int) + 2).toNat = i + 2 := by omega
            go_quiet (first | (go_at_call 22; exact Calls.quiet_of_same (HS.out _)) | fail)
            go_wp2
            go_ret
            exact ⟨by first | (rw [e]; rfl) | rfl, _, rfl⟩
        · skip
          have kd : decide ((3 : Int) ≤ (j : Int) - (i : Int)) = false := decide_eq_false h6
          have e : spAt s i j = 0 := by unfold spAt; rw [if_neg (by omega), if_neg (by omega), if_neg (by omega)]
          try clear h3
          try clear h7
          go_enter Tryd.func17, Tryd.ntmps17
          go_wp2
          have wr0 : IntKind.i64.wrap ((j : Int) - (i : Int)) = (j : Int) - (i : Int) := IntWalk.i64_in _ ⟨by omega, by omega⟩
          have wr1 : IntKind.i64.wrap ((i : Int) + 1) = (i : Int) + 1 := IntWalk.i64_in _ ⟨by omega, by omega⟩
          have wr2 : IntKind.i64.wrap ((i : Int) + 2) = (i : Int) + 2 := IntWalk.i64_in _ ⟨by omega, by omega⟩
          have t1 : ((i : Int) + 1).toNat = i + 1 := by omega
          have t2 : ((i : Int) + 2).toNat = i + 2 := by omega
          go_quiet (fail)
          go_wp2
          go_ret
          exact ⟨by first | (rw [e]; rfl) | rfl, _, rfl⟩
      · skip
        have h6 : ¬ (3 : Int) ≤ (j : Int) - (i : Int) := by omega
        have kd : decide ((3 : Int) ≤ (j : Int) - (i : Int)) = false := decide_eq_false h6
        have e : spAt s i j = 0 := by unfold spAt; rw [if_neg (by omega), if_neg (by omega), if_neg (by omega)]
        try clear h3
        try clear h7
        go_enter Tryd.func17, Tryd.ntmps17
        go_wp2
        have wr0 : IntKind.i64.wrap ((j : Int) - (i : Int)) = (j : Int) - (i : Int) := IntWalk.i64_in _ ⟨by omega, by omega⟩
        have wr1 : IntKind.i64.wrap ((i : Int) + 1) = (i : Int) + 1 := IntWalk.i64_in _ ⟨by omega, by omega⟩
        have wr2 : IntKind.i64.wrap ((i : Int) + 2) = (i : Int) + 2 := IntWalk.i64_in _ ⟨by omega, by omega⟩
        have t1 : ((i : Int) + 1).toNat = i + 1 := by omega
        have t2 : ((i : Int) + 2).toNat = i + 2 := by omega
        go_quiet (fail)
        go_wp2
        go_ret
        exact ⟨by first | (rw [e]; rfl) | rfl, _, rfl⟩
end Go.Proofs.Qxb6616118aDoor
