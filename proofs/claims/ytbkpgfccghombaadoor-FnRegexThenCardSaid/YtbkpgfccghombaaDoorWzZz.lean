/-
  The law's expression out of any one: what is made is right, at any number of levels. Conditions: as stated.
-/
import Derived.Test.YtbkpgfccghombaaDoorM11
import Derived.Test.YtbkpgfccghombaaDoorWmcZz
import Derived.Test.YtbkpgfccghombaaDoorWmdZz
import Derived.Test.YtbkpgfccghombaaDoorWmeZz
namespace Go.Proofs.YtbkpgfccghombaaDoor.rx
open Go.ChangeShapes Go.WideShapes Go.ChangeAt Go.RowKit
set_option linter.unusedVariables false

theorem exp_ok : ∀ d : Nat, 1 ≤ d → d ≤ 5 → ExpOk d
  | 0, h, _ => by omega
  | d + 1, _, h5 => by
    intro w cs hR
    obtain ⟨op, mn, mx, lz, fo, ra, rc, sa, sc, rs, ls, rfl, h2, h3⟩ := hR
    have IH : 1 ≤ d → ExpOk d := fun h => exp_ok d h (by omega)
    rcases oSel_is op (d + 1) ls.length with h | h | h | h | h | h
    · exact exp_leaf d (d + 1) rfl h5 IH op mn mx lz fo ra rs rc sa ls sc w h2 h3 (.inl h)
    · exact exp_lit d (d + 1) rfl h5 IH op mn mx lz fo ra rs rc sa ls sc w h2 h3 h
    · exact exp_leaf d (d + 1) rfl h5 IH op mn mx lz fo ra rs rc sa ls sc w h2 h3 (.inr (.inl h))
    · exact exp_leaf d (d + 1) rfl h5 IH op mn mx lz fo ra rs rc sa ls sc w h2 h3 (.inr (.inr (.inl h)))
    · exact exp_leaf d (d + 1) rfl h5 IH op mn mx lz fo ra rs rc sa ls sc w h2 h3 (.inr (.inr (.inr h)))
    · by_cases h17 : oSel op (d + 1) ls.length = 17
      · exact exp_rep d (d + 1) rfl h5 IH op mn mx lz fo ra rs rc sa ls sc w h2 h3 h17
      · exact exp_sub d (d + 1) rfl h5 IH op mn mx lz fo ra rs rc sa ls sc w h2 h3 ⟨h, h17⟩
end Go.Proofs.YtbkpgfccghombaaDoor.rx
