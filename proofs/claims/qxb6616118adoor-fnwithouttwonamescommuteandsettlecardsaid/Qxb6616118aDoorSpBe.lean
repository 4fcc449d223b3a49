/-
  The model's white space: spaceBefore.
-/
import Derived.Test.Qxb6616118aDoorSpAt
namespace Go.Proofs.Qxb6616118aDoor
open Go.RowKit Go.PlainAid

set_option maxHeartbeats 1000000 in
theorem spaceBefore_any (s : ByteArray) (i j : Nat) (w : World) (hij : i < j) (hj : j ≤ s.size) (hz : s.size ≤ 8388608) : Calls Tryd.prog 18 #[.string s, .int .i64 i, .int .i64 j] w fun e w' => e = .returned (.int .i64 (spBe s i j : Nat)) ∧ ∃ n, w' = w.drewN n := by
  have t1 : ((j : Int) - 1).toNat = j - 1 := by omega
  have t2 : ((j : Int) - 2).toNat = j - 2 := by omega
  have t3 : ((j : Int) - 3).toNat = j - 3 := by omega
  have hv0 := get_bt s (j - 1) (by omega)
  by_cases h0 : bt s (j - 1) = 32
  · skip
    have e : spBe s i j = 1 := by unfold spBe; rw [if_pos (by omega)]
    try clear h3
    try clear h7
    go_enter Tryd.func18, Tryd.ntmps18
    go_wp2
    go_ret
    exact ⟨by first | (rw [e]; rfl) | rfl, 0, rfl⟩
  · skip
    have kh0 : (bt s (j - 1) == 32) = false := by simpa using h0
    by_cases h1 : 9 ≤ bt s (j - 1)
    · skip
      by_cases h1b : bt s (j - 1) ≤ 13
      · skip
        have e : spBe s i j = 1 := by unfold spBe; rw [if_pos (by omega)]
        try clear h3
        try clear h7
        go_enter Tryd.func18, Tryd.ntmps18
        go_wp2
        go_ret
        exact ⟨by first | (rw [e]; rfl) | rfl, 0, rfl⟩
      · skip
        by_cases h2 : (2 : Int) ≤ (j : Int) - (i : Int)
        · skip
          have hv1 := get_bt s (j - 2) (by omega)
          by_cases h3 : bt s (j - 2) = 194
          · skip
            have kh3 : (bt s (j - 2) == 194) = true := by simpa using h3
            by_cases h4 : bt s (j - 1) = 133
            · skip
              have e : spBe s i j = 2 := by unfold spBe; rw [if_neg (by omega), if_pos (by omega)]
              try clear h3
              try clear h7
              go_enter Tryd.func18, Tryd.ntmps18
              go_wp2
              go_ret
              exact ⟨by first | (rw [e]; rfl) | rfl, 0, rfl⟩
            · skip
              have kh4 : (bt s (j - 1) == 133) = false := by simpa using h4
              by_cases h5 : bt s (j - 1) = 160
              · skip
                have e : spBe s i j = 2 := by unfold spBe; rw [if_neg (by omega), if_pos (by omega)]
                try clear h3
                try clear h7
                go_enter Tryd.func18, Tryd.ntmps18
                go_wp2
                go_ret
                exact ⟨by first | (rw [e]; rfl) | rfl, 0, rfl⟩
              · skip
                have kh5 : (bt s (j - 1) == 160) = false := by simpa using h5
                by_cases h6 : (3 : Int) ≤ (j : Int) - (i : Int)
                · skip
                  have hv2 := get_bt s (j - 3) (by omega)
                  have HS := hide (fun w => isSpace3_any (bt s (j - 3)) (bt s (j - 2)) (bt s (j - 1)) w)
                  cases h7 : sp3 (bt s (j - 3)) (bt s (j - 2)) (bt s (j - 1))
                  · rw [h7] at HS
                    have e : spBe s i j = 0 := by unfold spBe; rw [if_neg (by omega), if_neg (by omega), if_neg (by rw [h7]; simp)]
                    try clear h3
                    try clear h7
                    go_enter Tryd.func18, Tryd.ntmps18
                    go_wp2
                    have wr0 : IntKind.i64.wrap ((j : Int) - (i : Int)) = (j : Int) - (i : Int) := IntWalk.i64_in _ ⟨by omega, by omega⟩
                    have wr1 : IntKind.i64.wrap ((j : Int) - 1) = (j : Int) - 1 := IntWalk.i64_in _ ⟨by omega, by omega⟩
                    have wr2 : IntKind.i64.wrap ((j : Int) - 2) = (j : Int) - 2 := IntWalk.i64_in _ ⟨by omega, by omega⟩
                    have wr3 : IntKind.i64.wrap ((j : Int) - 3) = (j : Int) - 3 := IntWalk.i64_in _ ⟨by omega, by omega⟩
                    go_quiet (first | (go_at_call 22; exact Calls.quiet_of_same (HS.out _)) | fail)
                    go_wp2
                    go_ret
                    exact ⟨by first | (rw [e]; rfl) | rfl, _, rfl⟩
                  · rw [h7] at HS
                    have e : spBe s i j = 3 := by unfold spBe; rw [if_neg (by omega), if_neg (by omega), if_pos ⟨by omega, h7⟩]
                    try clear h3
                    try clear h7
                    go_enter Tryd.func18, Tryd.ntmps18
                    go_wp2
                    have wr0 : IntKind.i64.wrap ((j : Int) - (i : Int)) = (j : Int) - (i : Int) := IntWalk.i64_in _ ⟨by omega, by omega⟩
                    have wr1 : IntKind.i64.wrap ((j : Int) - 1) = (j : Int) - 1 := IntWalk.i64_in _ ⟨by omega, by omega⟩
                    have wr2 : IntKind.i64.wrap ((j : Int) - 2) = (j : Int) - 2 := IntWalk.i64_in _ ⟨by omega, by omega⟩
                    have wr3 : IntKind.i64.wrap ((j : Int) - 3) = (j : Int) - 3 := IntWalk.i64_in _ ⟨by omega, by omega⟩
                    go_quiet (first | (go_at_call 22; exact Calls.quiet_of_same (HS.out _)) | fail)
                    go_wp2
                    go_ret
                    exact ⟨by first | (rw [e]; rfl) | rfl, _, rfl⟩
                · skip
                  have kd : decide ((3 : Int) ≤ (j : Int) - (i : Int)) = false := decide_eq_false h6
                  have e : spBe s i j = 0 := by unfold spBe; rw [if_neg (by omega), if_neg (by omega), if_neg (by omega)]
                  try clear h3
                  try clear h7
                  go_enter Tryd.func18, Tryd.ntmps18
                  go_wp2
                  have wr0 : IntKind.i64.wrap ((j : Int) - (i : Int)) = (j : Int) - (i : Int) := IntWalk.i64_in _ ⟨by omega, by omega⟩
                  have wr1 : IntKind.i64.wrap ((j : Int) - 1) = (j : Int) - 1 := IntWalk.i64_in _ ⟨by omega, by omega⟩
                  have wr2 : IntKind.i64.wrap ((j : Int) - 2) = (j : Int) - 2 := IntWalk.i64_in _ ⟨by omega, by omega⟩
                  have wr3 : IntKind.i64.wrap ((j : Int) - 3) = (j : Int) - 3 := IntWalk.i64_in _ ⟨by omega, by omega⟩
                  go_quiet (fail)
                  go_wp2
                  go_ret
                  exact ⟨by first | (rw [e]; rfl) | rfl, _, rfl⟩
          · skip
            have kh3 : (bt s (j - 2) == 194) = false := by simpa using h3
            by_cases h6 : (3 : Int) ≤ (j : Int) - (i : Int)
            · skip
              have hv2 := get_bt s (j - 3) (by omega)
              have HS := hide (fun w => isSpace3_any (bt s (j - 3)) (bt s (j - 2)) (bt s (j - 1)) w)
              cases h7 : sp3 (bt s (j - 3)) (bt s (j - 2)) (bt s (j - 1))
              · rw [h7] at HS
                have e : spBe s i j = 0 := by unfold spBe; rw [if_neg (by omega), if_neg (by omega), if_neg (by rw [h7]; simp)]
                try clear h3
                try clear h7
                go_enter Tryd.func18, Tryd.ntmps18
                go_wp2
                have wr0 : IntKind.i64.wrap ((j : Int) - (i : Int)) = (j : Int) - (i : Int) := IntWalk.i64_in _ ⟨by omega, by omega⟩
                have wr1 : IntKind.i64.wrap ((j : Int) - 1) = (j : Int) - 1 := IntWalk.i64_in _ ⟨by omega, by omega⟩
                have wr2 : IntKind.i64.wrap ((j : Int) - 2) = (j : Int) - 2 := IntWalk.i64_in _ ⟨by omega, by omega⟩
                have wr3 : IntKind.i64.wrap ((j : Int) - 3) = (j : Int) - 3 := IntWalk.i64_in _ ⟨by omega, by omega⟩
                go_quiet (first | (go_at_call 22; exact Calls.quiet_of_same (HS.out _)) | fail)
                go_wp2
                go_ret
                exact ⟨by first | (rw [e]; rfl) | rfl, _, rfl⟩
              · rw [h7] at HS
                have e : spBe s i j = 3 := by unfold spBe; rw [if_neg (by omega), if_neg (by omega), if_pos ⟨by omega, h7⟩]
                try clear h3
                try clear h7
                go_enter Tryd.func18, Tryd.ntmps18
                go_wp2
                have wr0 : IntKind.i64.wrap ((j : Int) - (i : Int)) = (j : Int) - (i : Int) := IntWalk.i64_in _ ⟨by omega, by omega⟩
                have wr1 : IntKind.i64.wrap ((j : Int) - 1) = (j : Int) - 1 := IntWalk.i64_in _ ⟨by omega, by omega⟩
                have wr2 : IntKind.i64.wrap ((j : Int) - 2) = (j : Int) - 2 := IntWalk.i64_in _ ⟨by omega, by omega⟩
                have wr3 : IntKind.i64.wrap ((j : Int) - 3) = (j : Int) - 3 := IntWalk.i64_in _ ⟨by omega, by omega⟩
                go_quiet (first | (go_at_call 22; exact Calls.quiet_of_same (HS.out _)) | fail)
                go_wp2
                go_ret
                exact ⟨by first | (rw [e]; rfl) | rfl, _, rfl⟩
            · skip
              have kd : decide ((3 : Int) ≤ (j : Int) - (i : Int)) = false := decide_eq_false h6
              have e : spBe s i j = 0 := by unfold spBe; rw [if_neg (by omega), if_neg (by omega), if_neg (by omega)]
              try clear h3
              try clear h7
              go_enter Tryd.func18, Tryd.ntmps18
              go_wp2
              have wr0 : IntKind.i64.wrap ((j : Int) - (i : Int)) = (j : Int) - (i : Int) := IntWalk.i64_in _ ⟨by omega, by omega⟩
              have wr1 : IntKind.i64.wrap ((j : Int) - 1) = (j : Int) - 1 := IntWalk.i64_in _ ⟨by omega, by omega⟩
              have wr2 : IntKind.i64.wrap ((j : Int) - 2) = (j : Int) - 2 := IntWalk.i64_in _ ⟨by omega, by omega⟩
              have wr3 : IntKind.i64.wrap ((j : Int) - 3) = (j : Int) - 3 := IntWalk.i64_in _ ⟨by omega, by omega⟩
              go_quiet (fail)
              go_wp2
              go_ret
              exact ⟨by first | (rw [e]; rfl) | rfl, _, rfl⟩
        · skip
          have h6 : ¬ (3 : Int) ≤ (j : Int) - (i : Int) := by omega
          have kd : decide ((3 : Int) ≤ (j : Int) - (i : Int)) = false := decide_eq_false h6
          have e : spBe s i j = 0 := by unfold spBe; rw [if_neg (by omega), if_neg (by omega), if_neg (by omega)]
          try clear h3
          try clear h7
          go_enter Tryd.func18, Tryd.ntmps18
          go_wp2
          have wr0 : IntKind.i64.wrap ((j : Int) - (i : Int)) = (j : Int) - (i : Int) := IntWalk.i64_in _ ⟨by omega, by omega⟩
          have wr1 : IntKind.i64.wrap ((j : Int) - 1) = (j : Int) - 1 := IntWalk.i64_in _ ⟨by omega, by omega⟩
          have wr2 : IntKind.i64.wrap ((j : Int) - 2) = (j : Int) - 2 := IntWalk.i64_in _ ⟨by omega, by omega⟩
          have wr3 : IntKind.i64.wrap ((j : Int) - 3) = (j : Int) - 3 := IntWalk.i64_in _ ⟨by omega, by omega⟩
          go_quiet (fail)
          go_wp2
          go_ret
          exact ⟨by first | (rw [e]; rfl) | rfl, _, rfl⟩
    · skip
      by_cases h2 : (2 : Int) ≤ (j : Int) - (i : Int)
      · skip
        have hv1 := get_bt s (j - 2) (by omega)
        by_cases h3 : bt s (j - 2) = 194
        · skip
          have kh3 : (bt s (j - 2) == 194) = true := by simpa using h3
          have h4 : ¬ bt s (j - 1) = 133 := by omega
          have kh4 : (bt s (j - 1) == 133) = false := by simpa using h4
          have h5 : ¬ bt s (j - 1) = 160 := by omega
          have kh5 : (bt s (j - 1) == 160) = false := by simpa using h5
          by_cases h6 : (3 : Int) ≤ (j : Int) - (i : Int)
          · skip
            have hv2 := get_bt s (j - 3) (by omega)
            have HS := hide (fun w => isSpace3_any (bt s (j - 3)) (bt s (j - 2)) (bt s (j - 1)) w)
            cases h7 : sp3 (bt s (j - 3)) (bt s (j - 2)) (bt s (j - 1))
            · rw [h7] at HS
              have e : spBe s i j = 0 := by unfold spBe; rw [if_neg (by omega), if_neg (by omega), if_neg (by rw [h7]; simp)]
              try clear h3
              try clear h7
              go_enter Tryd.func18, Tryd.ntmps18
              go_wp2
              have wr0 : IntKind.i64.wrap ((j : Int) - (i : Int)) = (j : Int) - (i : Int) := IntWalk.i64_in _ ⟨by omega, by omega⟩
              have wr1 : IntKind.i64.wrap ((j : Int) - 1) = (j : Int) - 1 := IntWalk.i64_in _ ⟨by omega, by omega⟩
              have wr2 : IntKind.i64.wrap ((j : Int) - 2) = (j : Int) - 2 := IntWalk.i64_in _ ⟨by omega, by omega⟩
              have wr3 : IntKind.i64.wrap ((j : Int) - 3) = (j : Int) - 3 := IntWalk.i64_in _ ⟨by omega, by omega⟩
              go_quiet (first | (go_at_call 22; exact Calls.quiet_of_same (HS.out _)) | fail)
              go_wp2
              go_ret
              exact ⟨by first | (rw [e]; rfl) | rfl, _, rfl⟩
            · rw [h7] at HS
              have e : spBe s i j = 3 := by unfold spBe; rw [if_neg (by omega), if_neg (by omega), if_pos ⟨by omega, h7⟩]
              try clear h3
              try clear h7
              go_enter Tryd.func18, Tryd.ntmps18
              go_wp2
              have wr0 : IntKind.i64.wrap ((j : Int) - (i : Int)) = (j : Int) - (i : Int) := IntWalk.i64_in _ ⟨by omega, by omega⟩
              have wr1 : IntKind.i64.wrap ((j : Int) - 1) = (j : Int) - 1 := IntWalk.i64_in _ ⟨by omega, by omega⟩
              have wr2 : IntKind.i64.wrap ((j : Int) - 2) = (j : Int) - 2 := IntWalk.i64_in _ ⟨by omega, by omega⟩
              have wr3 : IntKind.i64.wrap ((j : Int) - 3) = (j : Int) - 3 := IntWalk.i64_in _ ⟨by omega, by omega⟩
              go_quiet (first | (go_at_call 22; exact Calls.quiet_of_same (HS.out _)) | fail)
              go_wp2
              go_ret
              exact ⟨by first | (rw [e]; rfl) | rfl, _, rfl⟩
          · skip
            have kd : decide ((3 : Int) ≤ (j : Int) - (i : Int)) = false := decide_eq_false h6
            have e : spBe s i j = 0 := by unfold spBe; rw [if_neg (by omega), if_neg (by omega), if_neg (by omega)]
            try clear h3
            try clear h7
            go_enter Tryd.func18, Tryd.ntmps18
            go_wp2
            have wr0 : IntKind.i64.wrap ((j : Int) - (i : Int)) = (j : Int) - (i : Int) := IntWalk.i64_in _ ⟨by omega, by omega⟩
            have wr1 : IntKind.i64.wrap ((j : Int) - 1) = (j : Int) - 1 := IntWalk.i64_in _ ⟨by omega, by omega⟩
            have wr2 : IntKind.i64.wrap ((j : Int) - 2) = (j : Int) - 2 := IntWalk.i64_in _ ⟨by omega, by omega⟩
            have wr3 : IntKind.i64.wrap ((j : Int) - 3) = (j : Int) - 3 := IntWalk.i64_in _ ⟨by omega, by omega⟩
            go_quiet (fail)
            go_wp2
            go_ret
            exact ⟨by first | (rw [e]; rfl) | rfl, _, rfl⟩
        · skip
          have kh3 : (bt s (j - 2) == 194) = false := by simpa using h3
          by_cases h6 : (3 : Int) ≤ (j : Int) - (i : Int)
          · skip
            have hv2 := get_bt s (j - 3) (by omega)
            have HS := hide (fun w => isSpace3_any (bt s (j - 3)) (bt s (j - 2)) (bt s (j - 1)) w)
            cases h7 : sp3 (bt s (j - 3)) (bt s (j - 2)) (bt s (j - 1))
            · rw [h7] at HS
              have e : spBe s i j = 0 := by unfold spBe; rw [if_neg (by omega), if_neg (by omega), if_neg (by rw [h7]; simp)]
              try clear h3
              try clear h7
              go_enter Tryd.func18, Tryd.ntmps18
              go_wp2
              have wr0 : IntKind.i64.wrap ((j : Int) - (i : Int)) = (j : Int) - (i : Int) := IntWalk.i64_in _ ⟨by omega, by omega⟩
              have wr1 : IntKind.i64.wrap ((j : Int) - 1) = (j : Int) - 1 := IntWalk.i64_in _ ⟨by omega, by omega⟩
              have wr2 : IntKind.i64.wrap ((j : Int) - 2) = (j : Int) - 2 := IntWalk.i64_in _ ⟨by omega, by omega⟩
              have wr3 : IntKind.i64.wrap ((j : Int) - 3) = (j : Int) - 3 := IntWalk.i64_in _ ⟨by omega, by omega⟩
              go_quiet (first | (go_at_call 22; exact Calls.quiet_of_same (HS.out _)) | fail)
              go_wp2
              go_ret
              exact ⟨by first | (rw [e]; rfl) | rfl, _, rfl⟩
            · rw [h7] at HS
              have e : spBe s i j = 3 := by unfold spBe; rw [if_neg (by omega), if_neg (by omega), if_pos ⟨by omega, h7⟩]
              try clear h3
              try clear h7
              go_enter Tryd.func18, Tryd.ntmps18
              go_wp2
              have wr0 : IntKind.i64.wrap ((j : Int) - (i : Int)) = (j : Int) - (i : Int) := IntWalk.i64_in _ ⟨by omega, by omega⟩
              have wr1 : IntKind.i64.wrap ((j : Int) - 1) = (j : Int) - 1 := IntWalk.i64_in _ ⟨by omega, by omega⟩
              have wr2 : IntKind.i64.wrap ((j : Int) - 2) = (j : Int) - 2 := IntWalk.i64_in _ ⟨by omega, by omega⟩
              have wr3 : IntKind.i64.wrap ((j : Int) - 3) = (j : Int) - 3 := IntWalk.i64_in _ ⟨by omega, by omega⟩
              go_quiet (first | (go_at_call 22; exact Calls.quiet_of_same (HS.out _)) | fail)
              go_wp2
              go_ret
              exact ⟨by first | (rw [e]; rfl) | rfl, _, rfl⟩
          · skip
            have kd : decide ((3 : Int) ≤ (j : Int) - (i : Int)) = false := decide_eq_false h6
            have e : spBe s i j = 0 := by unfold spBe; rw [if_neg (by omega), if_neg (by omega), if_neg (by omega)]
            try clear h3
            try clear h7
            go_enter Tryd.func18, Tryd.ntmps18
            go_wp2
            have wr0 : IntKind.i64.wrap ((j : Int) - (i : Int)) = (j : Int) - (i : Int) := IntWalk.i64_in _ ⟨by omega, by omega⟩
            have wr1 : IntKind.i64.wrap ((j : Int) - 1) = (j : Int) - 1 := IntWalk.i64_in _ ⟨by omega, by omega⟩
            have wr2 : IntKind.i64.wrap ((j : Int) - 2) = (j : Int) - 2 := IntWalk.i64_in _ ⟨by omega, by omega⟩
            have wr3 : IntKind.i64.wrap ((j : Int) - 3) = (j : Int) - 3 := IntWalk.i64_in _ ⟨by omega, by omega⟩
            go_quiet (fail)
            go_wp2
            go_ret
            exact ⟨by first | (rw [e]; rfl) | rfl, _, rfl⟩
      · skip
        have h6 : ¬ (3 : Int) ≤ (j : Int) - (i : Int) := by omega
        have kd : decide ((3 : Int) ≤ (j : Int) - (i : Int)) = false := decide_eq_false h6
        have e : spBe s i j = 0 := by unfold spBe; rw [if_neg (by omega), if_neg (by omega), if_neg (by omega)]
        try clear h3
        try clear h7
        go_enter Tryd.func18, Tryd.ntmps18
        go_wp2
        have wr0 : IntKind.i64.wrap ((j : Int) - (i : Int)) = (j : Int) - (i : Int) := IntWalk.i64_in _ ⟨by omega, by omega⟩
        have wr1 : IntKind.i64.wrap ((j : Int) - 1) = (j : Int) - 1 := IntWalk.i64_in _ ⟨by omega, by omega⟩
        have wr2 : IntKind.i64.wrap ((j : Int) - 2) = (j : Int) - 2 := IntWalk.i64_in _ ⟨by omega, by omega⟩
        have wr3 : IntKind.i64.wrap ((j : Int) - 3) = (j : Int) - 3 := IntWalk.i64_in _ ⟨by omega, by omega⟩
        go_quiet (fail)
        go_wp2
        go_ret
        exact ⟨by first | (rw [e]; rfl) | rfl, _, rfl⟩
end Go.Proofs.Qxb6616118aDoor
