/-
  The walks of FnExtractBit, FnUnpackSizes, FnScalarValid, FnDelta: each returns true. Conditions: none.
-/
import Derived.Test.YtpmkkajbmdoflaaBase
namespace Go.Proofs.Ytpmkkajbmdoflaa.small
open Go.ChangeShapes Go.WideShapes Go.ChangeAt Go.RowKit
set_option linter.unusedVariables false

theorem extractBit (a0 a1 : Int) (w1 : (Lit.int .u8 a1).wf = true) (w : World) :
    Calls Try.prog 3 #[.int .u64 a0, .int .u8 a1] w fun e w' => e = .returned (.bool true) ∧ Below w.heap.size w w' := by
  have hx := bd_u8 w1
  by_cases h : a1 > 63
  all_goals
    go_enter Try.func3, Try.ntmps3
    go_wp2
    go_ret
    exact ⟨rfl, Below.refl _ _⟩

theorem unpackSizes (a0 : Int) (w0 : (Lit.int .u8 a0).wf = true) (w : World) :
    Calls Try.prog 4 #[.int .u8 a0] w fun e w' => e = .returned (.bool true) ∧ Below w.heap.size w w' := by
  have hx := bd_u8 w0
  go_enter Try.func4, Try.ntmps4
  go_wp2
  go_ret
  exact ⟨rfl, Below.refl _ _⟩

theorem scalarValid (a0 a1 : Int) (w0 : (Lit.int .i32 a0).wf = true) (w1 : (Lit.int .i32 a1).wf = true) (w : World) :
    Calls Try.prog 5 #[.int .i32 a0, .int .i32 a1] w fun e w' => e = .returned (.bool true) ∧ Below w.heap.size w w' := by
  have hx := bd_i32 w0
  have hy := bd_i32 w1
  clear w0 w1
  by_cases h : 0 ≤ a0 ∧ a0 ≤ 1114111 ∧ 0 ≤ a1 ∧ a1 ≤ 1114111
  · obtain ⟨h1, h2, h3, h4⟩ := h
    go_enter Try.func5, Try.ntmps5
    go_wp2
    go_quiet (fail)
    go_wp2
    go_ret
    exact ⟨by congr 2, below_drewN ((Below.refl _ _).alloc (Nat.le_refl _) _) _⟩
  · go_enter Try.func5, Try.ntmps5
    go_wp2
    all_goals (go_ret; exact ⟨rfl, Below.refl _ _⟩)

theorem delta (a0 a1 : Int) (w0 : (Lit.int .u64 a0).wf = true) (w1 : (Lit.int .u64 a1).wf = true) (w : World) :
    Calls Try.prog 6 #[.int .u64 a0, .int .u64 a1] w fun e w' => e = .returned (.bool true) ∧ Below w.heap.size w w' := by
  have hx := bd_u64 w0
  have hy := bd_u64 w1
  clear w0 w1
  by_cases h : a1 = 0
  all_goals
    go_enter Try.func6, Try.ntmps6
    go_wp2
    go_ret
    exact ⟨rfl, Below.refl _ _⟩

end Go.Proofs.Ytpmkkajbmdoflaa.small
