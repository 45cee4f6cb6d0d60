/-
  FnNfa: the last step: the row of the law, out of its walk. Conditions: none.
-/
import Derived.Test.YtgblmafollhojaaNfa
namespace Go.Proofs.Ytgblmafollhojaa.fnNfa
open Go.ChangeShapes Go.WideShapes Go.ChangeAt Go.RowKit
open Go.ChangeMaps (open_string shut_string)
set_option linter.unusedVariables false

set_option maxRecDepth 100000 in
theorem lifted (os : Os) (started : os.Started) (H : Type) (enc : TypeId × Value → H) :
    ReturnsInHanded {} Try.checked os 6 .any (Rows.fnNfaSpec.pre6 enc Try.prog Try.f6 Rows.fnNfaRow.domain false) (Rows.fnNfaSpec.post enc Try.prog Try.f6 false true false false) := by
  refine law_lift (C := Try.checked) own started (by kernel_rfl) Try.func6 laidOut rfl rfl Try.underlying4 (by kernel_rfl) (fun ds h => by match ds, h with | [_, _, _, _], _ => rfl)
    (ChangeSpec.witness6 (enc := enc) (C := Try.checked) false ⟨#[], #[.slice none 0 0, .slice none 0 0, .int .u8 0, .bool false], []⟩ 8 (by kernel_rfl) (by kernel_rfl) (by kernel_rfl) (by kernel_rfl)) ?_
  intro W base args ds p hval hA hlt hsz
  rw [Try.params6] at hA hval hsz
  obtain ⟨v0, vs0, d0, ds0, p0, u0, hargs, rfl, rfl, h0, r0⟩ := trodAll_cons hA
  obtain ⟨v1, vs1, d1, ds1, p1, u1, rfl, rfl, rfl, h1, r1⟩ := trodAll_cons r0
  obtain ⟨v2, vs2, d2, ds2, p2, u2, rfl, rfl, rfl, h2, r2⟩ := trodAll_cons r1
  obtain ⟨v3, vs3, d3, ds3, p3, u3, rfl, rfl, rfl, h3, r3⟩ := trodAll_cons r2
  obtain ⟨rfl, rfl, rfl⟩ := trodAll_nil r3
  obtain rfl : args = #[v0, v1, v2, v3] := by cases args; simp_all
  obtain ⟨s0, c0, z0, rfl, hl0, hc0, hw0, hs0, hd0⟩ := open_ints_arg Try.underlying22 Try.underlying21 (by kernel_rfl) (hval 0 22 v0 rfl rfl) h0 (fun x hx => hlt x (by simp [hx]))
  obtain ⟨s1, c1, z1, rfl, hl1, hc1, hw1, hs1, hd1⟩ := open_ints_arg Try.underlying22 Try.underlying21 (by kernel_rfl) (hval 1 22 v1 rfl rfl) h1 (fun x hx => hlt x (by simp [hx]))
  obtain ⟨a2, rfl, rfl, rfl, w2⟩ := open_int Try.underlying5 (hval 2 5 v2 rfl rfl) h2
  obtain ⟨b3, rfl, rfl, rfl⟩ := open_bool Try.underlying4 (hval 3 4 v3 rfl rfl) h3
  exact (walk s0 c0 z0 s1 c1 z1 a2 b3 W (by omega) (by omega) hs0 hs1 (fun z hz => bd_i32 (hw0 z hz)) (fun z hz => bd_i32 (hw1 z hz)) (by have := bd_u8 w2; omega))

theorem proved : Rows.FnNfaSaid :=
  OpenClaim.holds_of_wide 6 Try.f6 rfl rfl rfl rfl rfl rfl rfl ⟨rfl, rfl, rfl, rfl, rfl⟩ rfl rfl rfl rfl rfl (by kernel_rfl) Try.func6 (by kernel_rfl)
    (of_decide_eq_true (by kernel_rfl)) (by unfold Func.isWrapper; first | (rw [if_pos (by decide +kernel)]; kernel_rfl) | (rw [if_neg (by decide +kernel)]; exact ⟨rfl, rfl⟩))
    (fun os started H enc _ => lifted os started H enc)
#print axioms proved
end Go.Proofs.Ytgblmafollhojaa.fnNfa
