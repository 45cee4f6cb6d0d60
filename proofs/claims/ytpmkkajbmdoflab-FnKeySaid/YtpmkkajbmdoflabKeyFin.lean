/-
  FnKey: the last step: the row of the law, out of its walk. Conditions: none.
-/
import Derived.Test.YtpmkkajbmdoflabKey
namespace Go.Proofs.Ytpmkkajbmdoflab.fnKey
open Go.ChangeShapes Go.WideShapes Go.ChangeAt Go.RowKit
open Go.ChangeMaps (open_string shut_string)
set_option linter.unusedVariables false

set_option maxRecDepth 100000 in
theorem lifted (os : Os) (started : os.Started) (H : Type) (enc : TypeId × Value → H) :
    ReturnsInHanded {} Try.checked os 6 .any (Rows.fnKeySpec.pre6 enc Try.prog Try.f6 Rows.fnKeyRow.domain false) (Rows.fnKeySpec.post enc Try.prog Try.f6 false true false false) := by
  refine law_lift (C := Try.checked) own started (by kernel_rfl) Try.func6 laidOut rfl rfl Try.underlying4 (by kernel_rfl) (fun ds h => by match ds, h with | [_, _], _ => rfl)
    (ChangeSpec.witness6 (enc := enc) (C := Try.checked) false ⟨#[], #[.slice none 0 0, .slice none 0 0], []⟩ 8 (by kernel_rfl) (by kernel_rfl) (by kernel_rfl) (by kernel_rfl)) ?_
  intro W base args ds p hval hA hlt hsz
  rw [Try.params6] at hA hval hsz
  obtain ⟨v0, vs0, d0, ds0, p0, u0, hargs, rfl, rfl, h0, r0⟩ := trodAll_cons hA
  obtain ⟨v1, vs1, d1, ds1, p1, u1, rfl, rfl, rfl, h1, r1⟩ := trodAll_cons r0
  obtain ⟨rfl, rfl, rfl⟩ := trodAll_nil r1
  obtain rfl : args = #[v0, v1] := by cases args; simp_all
  obtain ⟨s0, c0, z0, rfl, hl0, hc0, hw0, hs0, hd0⟩ := open_ints_arg Try.underlying30 Try.underlying33 (by kernel_rfl) (hval 0 30 v0 rfl rfl) h0 (fun x hx => hlt x (by simp [hx]))
  obtain ⟨s1, c1, z1, rfl, hl1, hc1, hw1, hs1, hd1⟩ := open_ints_arg Try.underlying30 Try.underlying33 (by kernel_rfl) (hval 1 30 v1 rfl rfl) h1 (fun x hx => hlt x (by simp [hx]))
  exact (walk s0 s1 z0 z1 c0 c1 W (by omega) (by omega) (fun z hz => bd_u32 (hw0 z hz)) (fun z hz => bd_u32 (hw1 z hz)) hs0 hs1)

theorem proved : Rows.FnKeySaid :=
  OpenClaim.holds_of_wide 6 Try.f6 rfl rfl rfl rfl rfl rfl rfl ⟨rfl, rfl, rfl, rfl, rfl⟩ rfl rfl rfl rfl rfl (by kernel_rfl) Try.func6 (by kernel_rfl)
    (of_decide_eq_true (by kernel_rfl)) (by unfold Func.isWrapper; first | (rw [if_pos (by decide +kernel)]; kernel_rfl) | (rw [if_neg (by decide +kernel)]; exact ⟨rfl, rfl⟩))
    (fun os started H enc _ => lifted os started H enc)
#print axioms proved
end Go.Proofs.Ytpmkkajbmdoflab.fnKey
