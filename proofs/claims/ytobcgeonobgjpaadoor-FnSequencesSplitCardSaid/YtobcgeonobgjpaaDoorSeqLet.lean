/-
  The sequences of ranges of bytes: which bytes are one letter (spec.Letter, in plain Lean). Conditions: none.
-/
import Derived.Test.YtobcgeonobgjpaaDoorSeqOne
namespace Go.Proofs.YtobcgeonobgjpaaDoor
set_option linter.unusedVariables false

/-- the number that so many bytes would be, by their first byte -/
def numOf : List Int → Int
  | [x] => x
  | [x, y] => 64 * (x - 192) + y - 128
  | [x, y, u] => 64 * (64 * (x - 224) + y - 128) + u - 128
  | [x, y, u, v] => 64 * (64 * (64 * (x - 240) + y - 128) + u - 128) + v - 128
  | _ => 0

/-- a letter's bytes lead back to it -/
theorem numOf_ub (r : Int) (h0 : 0 ≤ r) (h1 : r ≤ 1114111) : numOf (ub r) = r := by
  by_cases h2 : r ≤ 127
  · rw [ub1 r h2]; rfl
  · by_cases h3 : r ≤ 2047
    · rw [ub2 r h2 h3]; simp only [numOf]; omega
    · by_cases h4 : r ≤ 65535
      · rw [ub3 r h3 h4]; simp only [numOf]; omega
      · rw [ub4 r h4]; simp only [numOf]; omega

/-- bytes of the form of one letter, whose number is a letter of just so many bytes, are that letter's bytes -/
theorem ub_numOf_two (x y : Int) (h1 : 194 ≤ x ∧ x ≤ 223) (h2 : 128 ≤ y ∧ y ≤ 191) : ub (numOf [x, y]) = [x, y] := by
  simp only [numOf]
  rw [ub2 _ (by omega) (by omega)]
  simp
  omega
theorem ub_numOf_three (x y u : Int) (h1 : 224 ≤ x ∧ x ≤ 239) (h2 : 128 ≤ y ∧ y ≤ 191) (h3 : 128 ≤ u ∧ u ≤ 191) (hn : 2047 < numOf [x, y, u]) : ub (numOf [x, y, u]) = [x, y, u] := by
  simp only [numOf] at hn ⊢
  rw [ub3 _ (by omega) (by omega)]
  simp
  omega
theorem ub_numOf_four (x y u v : Int) (h1 : 240 ≤ x ∧ x ≤ 244) (h2 : 128 ≤ y ∧ y ≤ 191) (h3 : 128 ≤ u ∧ u ≤ 191) (h4 : 128 ≤ v ∧ v ≤ 191) (hn : 65535 < numOf [x, y, u, v]) : ub (numOf [x, y, u, v]) = [x, y, u, v] := by
  simp only [numOf] at hn ⊢
  rw [ub4 _ (by omega)]
  simp
  omega

end Go.Proofs.YtobcgeonobgjpaaDoor
