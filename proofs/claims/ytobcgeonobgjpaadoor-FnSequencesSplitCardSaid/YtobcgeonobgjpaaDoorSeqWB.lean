/-
  The sequences of ranges of bytes: how wide a letter is by its first byte. Conditions: as stated.
-/
import Derived.Test.YtobcgeonobgjpaaDoorSeqWA
namespace Go.Proofs.YtobcgeonobgjpaaDoor
open Go.ChangeShapes Go.WideShapes Go.ChangeAt Go.RowKit
set_option linter.unusedVariables false

/-- how many bytes, and what the first one says -/
def wideF (c : Int) : Int × Int := if c ≤ 127 then (1, c) else if 194 ≤ c ∧ c ≤ 223 then (2, c - 192) else if 224 ≤ c ∧ c ≤ 239 then (3, c - 224) else if 240 ≤ c ∧ c ≤ 244 then (4, c - 240) else (0, 0)

set_option maxHeartbeats 400000 in
theorem wide_any (c : Int) (w : World) (h : 0 ≤ c ∧ c ≤ 255) : Calls Tryd.prog 12 #[.int .u8 c] w fun e w' => e = .returned (.tuple #[.int .i64 (wideF c).1, .int .i64 (wideF c).2]) ∧ w = w' := by
  unfold wideF
  by_cases h1 : c ≤ 127
  · rw [if_pos h1]
    go_enter Tryd.func12, Tryd.ntmps12
    go_wp2
    go_returns
    exact ⟨rfl, rfl⟩
  · rw [if_neg h1]
    by_cases h2 : 194 ≤ c ∧ c ≤ 223
    · rw [if_pos h2]
      obtain ⟨h3, h4⟩ := h2
      go_enter Tryd.func12, Tryd.ntmps12
      go_wp2
      go_returns
      exact ⟨rfl, rfl⟩
    · rw [if_neg h2]
      by_cases h3 : 224 ≤ c ∧ c ≤ 239
      · rw [if_pos h3]
        obtain ⟨h4, h5⟩ := h3
        have h6 : ¬ c ≤ 223 := by omega
        clear h2
        go_enter Tryd.func12, Tryd.ntmps12
        go_wp2
        all_goals go_returns
        all_goals exact ⟨rfl, rfl⟩
      · rw [if_neg h3]
        by_cases h4 : 240 ≤ c ∧ c ≤ 244
        · rw [if_pos h4]
          obtain ⟨h5, h6⟩ := h4
          have h7 : ¬ c ≤ 223 := by omega
          have h8 : ¬ c ≤ 239 := by omega
          clear h2 h3
          go_enter Tryd.func12, Tryd.ntmps12
          go_wp2
          all_goals go_returns
          all_goals exact ⟨rfl, rfl⟩
        · rw [if_neg h4]
          by_cases h5 : c < 194
          · have h6 : ¬ 194 ≤ c := by omega
            have h7 : ¬ 224 ≤ c := by omega
            have h8 : ¬ 240 ≤ c := by omega
            clear h2 h3 h4
            go_enter Tryd.func12, Tryd.ntmps12
            go_wp2
            all_goals go_returns
            all_goals exact ⟨rfl, rfl⟩
          · have h6 : ¬ c ≤ 223 := by omega
            have h7 : ¬ c ≤ 239 := by omega
            have h8 : ¬ c ≤ 244 := by omega
            clear h2 h3 h4
            go_enter Tryd.func12, Tryd.ntmps12
            go_wp2
            all_goals go_returns
            all_goals exact ⟨rfl, rfl⟩

end Go.Proofs.YtobcgeonobgjpaaDoor
