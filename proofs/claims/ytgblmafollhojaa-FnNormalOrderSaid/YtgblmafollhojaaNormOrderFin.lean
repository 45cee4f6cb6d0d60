/-
  FnNormalOrder: the last step: the row of the law, out of its walk. Conditions: none.
-/
import Derived.Test.YtgblmafollhojaaNormOrder
import Derived.Test.YtgblmafollhojaaPlcOpen
namespace Go.Proofs.Ytgblmafollhojaa.fnNormalOrder
open Go.ChangeShapes Go.WideShapes Go.ChangeAt Go.RowKit
open Go.ChangeMaps (open_string shut_string)
set_option linter.unusedVariables false

set_option maxRecDepth 100000 in
theorem lifted (os : Os) (started : os.Started) (H : Type) (enc : TypeId × Value → H) :
    ReturnsInHanded {} Try.checked os 4 .any (Rows.fnNormalOrderSpec.pre6 enc Try.prog Try.f4 Rows.fnNormalOrderRow.domain false) (Rows.fnNormalOrderSpec.post enc Try.prog Try.f4 false true false false) := by
  refine law_lift (C := Try.checked) own started (by kernel_rfl) Try.func4 laidOut rfl rfl Try.underlying4 (by kernel_rfl) (fun ds h => by match ds, h with | [_], _ => rfl)
    (ChangeSpec.witness6 (enc := enc) (C := Try.checked) false ⟨#[], #[.slice none 0 0], []⟩ 8 (by kernel_rfl) (by kernel_rfl) (by kernel_rfl) (by kernel_rfl)) ?_
  intro W base args ds p hval hA hlt hsz
  rw [Try.params4] at hA hval hsz
  obtain ⟨v0, vs0, d0, ds0, p0, u0, hargs, rfl, rfl, h0, r0⟩ := trodAll_cons hA
  obtain ⟨rfl, rfl, rfl⟩ := trodAll_nil r0
  obtain rfl : args = #[v0] := by cases args; simp_all
  have k0 := hval 0 26 v0 rfl rfl
  have q0 : ∀ x ∈ p0, x.block < W.heap.size := fun x hx => hlt x (by simp [hx])
  obtain ⟨s0, c0, l0, rfl, hl0, hc0, -, hs0⟩ := open_slice_arg enc3 3 _ (fun _ => rfl) (by omega) Try.underlying26 (by kernel_rfl) read_place k0 h0 q0
  exact (law_any s0 l0 c0 W (by omega) hs0)

theorem proved : Rows.FnNormalOrderSaid :=
  OpenClaim.holds_of_wide 4 Try.f4 rfl rfl rfl rfl rfl rfl rfl ⟨rfl, rfl, rfl, rfl, rfl⟩ rfl rfl rfl rfl rfl (by kernel_rfl) Try.func4 (by kernel_rfl)
    (of_decide_eq_true (by kernel_rfl)) (by unfold Func.isWrapper; first | (rw [if_pos (by decide +kernel)]; kernel_rfl) | (rw [if_neg (by decide +kernel)]; exact ⟨rfl, rfl⟩))
    (fun os started H enc _ => lifted os started H enc)
#print axioms proved
end Go.Proofs.Ytgblmafollhojaa.fnNormalOrder
