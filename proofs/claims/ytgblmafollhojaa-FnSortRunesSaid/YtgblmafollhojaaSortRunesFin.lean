/-
  FnSortRunes: the last step: the row of the law, out of its walk. Conditions: none.
-/
import Derived.Test.YtgblmafollhojaaSortRunes
namespace Go.Proofs.Ytgblmafollhojaa.fnSortRunes
open Go.ChangeShapes Go.WideShapes Go.ChangeAt Go.RowKit
open Go.ChangeMaps (open_string shut_string)
set_option linter.unusedVariables false

set_option maxRecDepth 100000 in
theorem lifted (os : Os) (started : os.Started) (H : Type) (enc : TypeId × Value → H) :
    ReturnsInHanded {} Try.checked os 3 .any (Rows.fnSortRunesSpec.pre6 enc Try.prog Try.f3 Rows.fnSortRunesRow.domain false) (Rows.fnSortRunesSpec.post enc Try.prog Try.f3 false true false false) := by
  refine law_lift (C := Try.checked) own started (by kernel_rfl) Try.func3 laidOut rfl rfl Try.underlying4 (by kernel_rfl) (fun ds h => by match ds, h with | [_], _ => rfl)
    (ChangeSpec.witness6 (enc := enc) (C := Try.checked) false ⟨#[], #[.slice none 0 0], []⟩ 8 (by kernel_rfl) (by kernel_rfl) (by kernel_rfl) (by kernel_rfl)) ?_
  intro W base args ds p hval hA hlt hsz
  rw [Try.params3] at hA hval hsz
  obtain ⟨v0, vs0, d0, ds0, p0, u0, hargs, rfl, rfl, h0, r0⟩ := trodAll_cons hA
  obtain ⟨rfl, rfl, rfl⟩ := trodAll_nil r0
  obtain rfl : args = #[v0] := by cases args; simp_all
  obtain ⟨s0, c0, z0, rfl, hl0, hc0, hw0, hs0, hd0⟩ := open_ints_arg Try.underlying22 Try.underlying21 (by kernel_rfl) (hval 0 22 v0 rfl rfl) h0 (fun x hx => hlt x (by simp [hx]))
  exact (law_any _ z0 _ W (by omega) hs0)

theorem proved : Rows.FnSortRunesSaid :=
  OpenClaim.holds_of_wide 3 Try.f3 rfl rfl rfl rfl rfl rfl rfl ⟨rfl, rfl, rfl, rfl, rfl⟩ rfl rfl rfl rfl rfl (by kernel_rfl) Try.func3 (by kernel_rfl)
    (of_decide_eq_true (by kernel_rfl)) (by unfold Func.isWrapper; first | (rw [if_pos (by decide +kernel)]; kernel_rfl) | (rw [if_neg (by decide +kernel)]; exact ⟨rfl, rfl⟩))
    (fun os started H enc _ => lifted os started H enc)
#print axioms proved
end Go.Proofs.Ytgblmafollhojaa.fnSortRunes
