/-
  FnOutputs: the common part of two outputs is the lesser one; what is taken off and put on again is there. Conditions: none.
-/
import Derived.Test.YtpmkkajbmdoflabBase
import Derived.Laws.BitsAllLaws
namespace Go.Proofs.Ytpmkkajbmdoflab.fnOutputs
open Go.ChangeShapes Go.WideShapes Go.ChangeAt Go.RowKit
set_option linter.unusedVariables false

theorem walk (a0 a1 : Int) (w0 : (Lit.int .u64 a0).wf = true) (w1 : (Lit.int .u64 a1).wf = true) (w : World) :
    Calls Try.prog 5 #[.int .u64 a0, .int .u64 a1] w fun e w' => e = .returned (.bool true) ∧ Below w.heap.size w w' := by
  have hx := bd_u64 w0
  have hy := bd_u64 w1
  have h3 : IntKind.u64.wrap (IntKind.u64.wrap (a0 + a1) - a1) = a0 := by simp only [IntKind.wrap_u64]; omega
  clear w0 w1
  rcases Int.lt_trichotomy a0 a1 with h | rfl | h
  all_goals
    go_enter Try.func5, Try.ntmps5
    go_wp2
    all_goals first | (go_ret; exact ⟨rfl, Below.refl _ _⟩) | (exfalso; omega)
end Go.Proofs.Ytpmkkajbmdoflab.fnOutputs
