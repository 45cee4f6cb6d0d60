/-
  FnShiftAndMask: the last step: the row of the law, out of its walk. Conditions: none.
-/
import Derived.Test.YtpmkkajbmdoflaaShift
namespace Go.Proofs.Ytpmkkajbmdoflaa.fnShiftAndMask
open Go.ChangeShapes Go.WideShapes Go.ChangeAt Go.RowKit
open Go.ChangeMaps (open_string shut_string)
set_option linter.unusedVariables false

set_option maxRecDepth 100000 in
theorem lifted (os : Os) (started : os.Started) (H : Type) (enc : TypeId × Value → H) :
    ReturnsInHanded {} Try.checked os 8 .any (Rows.fnShiftAndMaskSpec.pre6 enc Try.prog Try.f8 Rows.fnShiftAndMaskRow.domain false) (Rows.fnShiftAndMaskSpec.post enc Try.prog Try.f8 false true false false) := by
  refine law_lift (C := Try.checked) own started (by kernel_rfl) Try.func8 laidOut rfl rfl Try.underlying4 (by kernel_rfl) (fun ds h => by match ds, h with | [_, _, _], _ => rfl)
    (ChangeSpec.witness6 (enc := enc) (C := Try.checked) false ⟨#[], #[.slice none 0 0, .int .u32 0, .int .u32 0], []⟩ 8 (by kernel_rfl) (by kernel_rfl) (by kernel_rfl) (by kernel_rfl)) ?_
  intro W base args ds p hval hA hlt hsz
  rw [Try.params8] at hA hval hsz
  obtain ⟨v0, vs0, d0, ds0, p0, u0, hargs, rfl, rfl, h0, r0⟩ := trodAll_cons hA
  obtain ⟨v1, vs1, d1, ds1, p1, u1, rfl, rfl, rfl, h1, r1⟩ := trodAll_cons r0
  obtain ⟨v2, vs2, d2, ds2, p2, u2, rfl, rfl, rfl, h2, r2⟩ := trodAll_cons r1
  obtain ⟨rfl, rfl, rfl⟩ := trodAll_nil r2
  obtain rfl : args = #[v0, v1, v2] := by cases args; simp_all
  obtain ⟨s0, c0, z0, rfl, hl0, hc0, hw0, hs0, hd0⟩ := open_ints_arg Try.underlying33 Try.underlying34 (by kernel_rfl) (hval 0 33 v0 rfl rfl) h0 (fun x hx => hlt x (by simp [hx]))
  obtain ⟨a1, rfl, rfl, rfl, w1⟩ := open_int Try.underlying34 (hval 1 34 v1 rfl rfl) h1
  obtain ⟨a2, rfl, rfl, rfl, w2⟩ := open_int Try.underlying34 (hval 2 34 v2 rfl rfl) h2
  exact (walk s0 z0 c0 a1 a2 W (by omega) (fun z hz => bd_u32 (hw0 z hz)) (bd_u32 w1) (bd_u32 w2) (fun j hj => hs0.ints j hj))

theorem proved : Rows.FnShiftAndMaskSaid :=
  OpenClaim.holds_of_wide 8 Try.f8 rfl rfl rfl rfl rfl rfl rfl ⟨rfl, rfl, rfl, rfl, rfl⟩ rfl rfl rfl rfl rfl (by kernel_rfl) Try.func8 (by kernel_rfl)
    (of_decide_eq_true (by kernel_rfl)) (by unfold Func.isWrapper; first | (rw [if_pos (by decide +kernel)]; kernel_rfl) | (rw [if_neg (by decide +kernel)]; exact ⟨rfl, rfl⟩))
    (fun os started H enc _ => lifted os started H enc)
#print axioms proved
end Go.Proofs.Ytpmkkajbmdoflaa.fnShiftAndMask
