/-
  FnMergeVals: the last step: the row of the law, out of its walk. Conditions: none.
-/
import Derived.Test.YtpmkkajbmdoflacMergeVals
namespace Go.Proofs.Ytpmkkajbmdoflac.fnMergeVals
open Go.ChangeShapes Go.WideShapes Go.ChangeAt Go.RowKit
open Go.ChangeMaps (open_string shut_string)
set_option linter.unusedVariables false

set_option maxRecDepth 100000 in
theorem lifted (os : Os) (started : os.Started) (H : Type) (enc : TypeId × Value → H) :
    ReturnsInHanded {} Try.checked os 3 .any (Rows.fnMergeValsSpec.pre6 enc Try.prog Try.f3 Rows.fnMergeValsRow.domain false) (Rows.fnMergeValsSpec.post enc Try.prog Try.f3 false true false false) := by
  refine law_lift (C := Try.checked) own started (by kernel_rfl) Try.func3 laidOut rfl rfl Try.underlying4 (by kernel_rfl) (fun ds h => by match ds, h with | [_, _], _ => rfl)
    (ChangeSpec.witness6 (enc := enc) (C := Try.checked) false ⟨#[], #[.slice none 0 0, .int .i64 0], []⟩ 8 (by kernel_rfl) (by kernel_rfl) (by kernel_rfl) (by kernel_rfl)) ?_
  intro W base args ds p hval hA hlt hsz
  rw [Try.params3] at hA hval hsz
  obtain ⟨v0, vs0, d0, ds0, p0, u0, hargs, rfl, rfl, h0, r0⟩ := trodAll_cons hA
  obtain ⟨v1, vs1, d1, ds1, p1, u1, rfl, rfl, rfl, h1, r1⟩ := trodAll_cons r0
  obtain ⟨rfl, rfl, rfl⟩ := trodAll_nil r1
  obtain rfl : args = #[v0, v1] := by cases args; simp_all
  obtain ⟨s0, c0, z0, rfl, hl0, hc0, hw0, hs0, hd0⟩ := open_ints_arg Try.underlying22 Try.underlying23 (by kernel_rfl) (hval 0 22 v0 rfl rfl) h0 (fun x hx => hlt x (by simp [hx]))
  obtain ⟨a1, rfl, rfl, rfl, w1⟩ := open_int Try.underlying3 (hval 1 3 v1 rfl rfl) h1
  exact (walk s0 z0 c0 a1 W.heap.size W (by omega) hl0 (fun z hz => bd_u64 (hw0 z hz)) hs0)

theorem proved : Rows.FnMergeValsSaid :=
  OpenClaim.holds_of_wide 3 Try.f3 rfl rfl rfl rfl rfl rfl rfl ⟨rfl, rfl, rfl, rfl, rfl⟩ rfl rfl rfl rfl rfl (by kernel_rfl) Try.func3 (by kernel_rfl)
    (of_decide_eq_true (by kernel_rfl)) (by unfold Func.isWrapper; first | (rw [if_pos (by decide +kernel)]; kernel_rfl) | (rw [if_neg (by decide +kernel)]; exact ⟨rfl, rfl⟩))
    (fun os started H enc _ => lifted os started H enc)
#print axioms proved
end Go.Proofs.Ytpmkkajbmdoflac.fnMergeVals
