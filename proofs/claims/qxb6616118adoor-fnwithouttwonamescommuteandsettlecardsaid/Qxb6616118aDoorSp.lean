/-
  The model's white space: isSpace3, spaceAt, spaceBefore.
-/
import Derived.Test.Qxb6616118aDoorRows
import Derived.Test.Qxb6616118aDoorPieces
import Derived.WalkKit
import Derived.PlainAid
import Derived.Deep.QuietTactic
import Derived.BigQuiet
namespace Go.Proofs.Qxb6616118aDoor
open Go.RowKit Go.PlainAid

def sp3 (a b c : Int) : Bool := (a == 225 && b == 154 && c == 128) || (a == 226 && b == 128 && ((decide (128 ≤ c) && decide (c ≤ 138)) || c == 168 || c == 169 || c == 175)) || (a == 226 && b == 129 && c == 159) || (a == 227 && b == 128 && c == 128)

set_option maxHeartbeats 1000000 in
theorem isSpace3_any (a b c : Int) (w : World) : Calls Tryd.prog 22 #[.int .u8 a, .int .u8 b, .int .u8 c] w fun e w' => e = .returned (.bool (sp3 a b c)) ∧ w' = w := by
  by_cases h1 : a = 225
  · subst h1
    by_cases h2 : b = 154
    · subst h2
      by_cases h3 : c = 128
      · subst h3
        have e : sp3 225 154 128 = true := by simp [sp3]
        go_enter Tryd.func22, Tryd.ntmps22
        go_wp2
        go_ret
        exact ⟨by first | (rw [e]; rfl) | rfl, rfl⟩
      · skip
        have e : sp3 225 154 c = false := by simp [sp3, h3]
        have kh3 : (c == 128) = false := by simpa using h3
        go_enter Tryd.func22, Tryd.ntmps22
        go_wp2
        go_ret
        exact ⟨by first | (rw [e]; rfl) | rfl, rfl⟩
    · skip
      have e : sp3 225 b c = false := by simp [sp3, h2]
      have kh2 : (b == 154) = false := by simpa using h2
      go_enter Tryd.func22, Tryd.ntmps22
      go_wp2
      go_ret
      exact ⟨by first | (rw [e]; rfl) | rfl, rfl⟩
  · skip
    by_cases h1b : a = 226
    · subst h1b
      by_cases h2 : b = 128
      · subst h2
        by_cases h3 : 128 ≤ c
        · skip
          by_cases h4 : c ≤ 138
          · skip
            have e : sp3 226 128 c = true := by simp [sp3, h3, h4]
            go_enter Tryd.func22, Tryd.ntmps22
            go_wp2
            go_ret
            exact ⟨by first | (rw [e]; rfl) | rfl, rfl⟩
          · skip
            by_cases h5 : c = 168
            · subst h5
              have e : sp3 226 128 168 = true := by simp [sp3]
              go_enter Tryd.func22, Tryd.ntmps22
              go_wp2
              go_ret
              exact ⟨by first | (rw [e]; rfl) | rfl, rfl⟩
            · skip
              by_cases h6 : c = 169
              · subst h6
                have e : sp3 226 128 169 = true := by simp [sp3]
                go_enter Tryd.func22, Tryd.ntmps22
                go_wp2
                go_ret
                exact ⟨by first | (rw [e]; rfl) | rfl, rfl⟩
              · skip
                by_cases h7 : c = 175
                · subst h7
                  have e : sp3 226 128 175 = true := by simp [sp3]
                  go_enter Tryd.func22, Tryd.ntmps22
                  go_wp2
                  go_ret
                  exact ⟨by first | (rw [e]; rfl) | rfl, rfl⟩
                · skip
                  have e : sp3 226 128 c = false := by simp [sp3, h3, h4, h5, h6, h7]
                  have kh5 : (c == 168) = false := by simpa using h5
                  have kh6 : (c == 169) = false := by simpa using h6
                  have kh7 : (c == 175) = false := by simpa using h7
                  go_enter Tryd.func22, Tryd.ntmps22
                  go_wp2
                  go_ret
                  exact ⟨by first | (rw [e]; rfl) | rfl, rfl⟩
        · skip
          have g1 : ¬ c = 168 := by omega
          have g2 : ¬ c = 169 := by omega
          have g3 : ¬ c = 175 := by omega
          have e : sp3 226 128 c = false := by simp [sp3, h3, g1, g2, g3]
          have kg1 : (c == 168) = false := by simpa using g1
          have kg2 : (c == 169) = false := by simpa using g2
          have kg3 : (c == 175) = false := by simpa using g3
          go_enter Tryd.func22, Tryd.ntmps22
          go_wp2
          go_ret
          exact ⟨by first | (rw [e]; rfl) | rfl, rfl⟩
      · skip
        by_cases h2b : b = 129
        · subst h2b
          by_cases h3 : c = 159
          · subst h3
            have e : sp3 226 129 159 = true := by simp [sp3]
            go_enter Tryd.func22, Tryd.ntmps22
            go_wp2
            go_ret
            exact ⟨by first | (rw [e]; rfl) | rfl, rfl⟩
          · skip
            have e : sp3 226 129 c = false := by simp [sp3, h3]
            have kh3 : (c == 159) = false := by simpa using h3
            go_enter Tryd.func22, Tryd.ntmps22
            go_wp2
            go_ret
            exact ⟨by first | (rw [e]; rfl) | rfl, rfl⟩
        · skip
          have e : sp3 226 b c = false := by simp [sp3, h2, h2b]
          have kh2 : (b == 128) = false := by simpa using h2
          have kh2b : (b == 129) = false := by simpa using h2b
          go_enter Tryd.func22, Tryd.ntmps22
          go_wp2
          go_ret
          exact ⟨by first | (rw [e]; rfl) | rfl, rfl⟩
    · skip
      by_cases h1c : a = 227
      · subst h1c
        by_cases h2 : b = 128
        · subst h2
          by_cases h3 : c = 128
          · subst h3
            have e : sp3 227 128 128 = true := by simp [sp3]
            go_enter Tryd.func22, Tryd.ntmps22
            go_wp2
            go_ret
            exact ⟨by first | (rw [e]; rfl) | rfl, rfl⟩
          · skip
            have e : sp3 227 128 c = false := by simp [sp3, h3]
            have kh3 : (c == 128) = false := by simpa using h3
            go_enter Tryd.func22, Tryd.ntmps22
            go_wp2
            go_ret
            exact ⟨by first | (rw [e]; rfl) | rfl, rfl⟩
        · skip
          have e : sp3 227 b c = false := by simp [sp3, h2]
          have kh2 : (b == 128) = false := by simpa using h2
          go_enter Tryd.func22, Tryd.ntmps22
          go_wp2
          go_ret
          exact ⟨by first | (rw [e]; rfl) | rfl, rfl⟩
      · skip
        have e : sp3 a b c = false := by simp [sp3, h1, h1b, h1c]
        have kh1 : (a == 225) = false := by simpa using h1
        have kh1b : (a == 226) = false := by simpa using h1b
        have kh1c : (a == 227) = false := by simpa using h1c
        go_enter Tryd.func22, Tryd.ntmps22
        go_wp2
        go_ret
        exact ⟨by first | (rw [e]; rfl) | rfl, rfl⟩
end Go.Proofs.Qxb6616118aDoor
