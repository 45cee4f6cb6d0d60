/-
  The sequences of ranges of bytes: small functions. Conditions: as stated.
-/
import Derived.Test.YtobcgeonobgjpaaDoorSeqLet
import Derived.Handy
namespace Go.Proofs.YtobcgeonobgjpaaDoor
open Go.ChangeShapes Go.WideShapes Go.ChangeAt Go.RowKit
set_option linter.unusedVariables false

theorem tail_any (c : Int) (w : World) (h : 0 ≤ c ∧ c ≤ 255) : Calls Tryd.prog 13 #[.int .u8 c] w fun e w' => e = .returned (.bool (decide (128 ≤ c ∧ c ≤ 191))) ∧ w = w' := by
  by_cases h1 : 128 ≤ c
  · by_cases h2 : c ≤ 191
    · rw [decide_eq_true (show 128 ≤ c ∧ c ≤ 191 from ⟨h1, h2⟩)]
      go_enter Tryd.func13, Tryd.ntmps13
      go_wp2
      go_returns
      exact ⟨rfl, rfl⟩
    · rw [decide_eq_false (show ¬ (128 ≤ c ∧ c ≤ 191) by omega)]
      go_enter Tryd.func13, Tryd.ntmps13
      go_wp2
      go_returns
      exact ⟨rfl, rfl⟩
  · rw [decide_eq_false (show ¬ (128 ≤ c ∧ c ≤ 191) by omega)]
    go_enter Tryd.func13, Tryd.ntmps13
    go_wp2
    go_returns
    exact ⟨rfl, rfl⟩

theorem maxsv_any (n : Int) (w : World) (h : 1 ≤ n ∧ n ≤ 3) : Calls Tryd.prog 21 #[.int .i64 n] w fun e w' => e = .returned (.int .i32 (if n = 1 then 127 else if n = 2 then 2047 else 65535)) ∧ w = w' := by
  have hn : n = 1 ∨ n = 2 ∨ n = 3 := by omega
  rcases hn with rfl | rfl | rfl
  · go_enter Tryd.func21, Tryd.ntmps21
    go_wp2
    go_returns
    exact ⟨rfl, rfl⟩
  · go_enter Tryd.func21, Tryd.ntmps21
    go_wp2
    go_returns
    exact ⟨rfl, rfl⟩
  · go_enter Tryd.func21, Tryd.ntmps21
    go_wp2
    go_returns
    exact ⟨rfl, rfl⟩

end Go.Proofs.YtobcgeonobgjpaaDoor
