/-
  FnHash: the last step: the row of the law, out of its walk. Conditions: none.
-/
import Derived.Test.YtobcgeonobgjpaaHashOpen
namespace Go.Proofs.Ytobcgeonobgjpaa.fnHash
open Go.ChangeShapes Go.WideShapes Go.ChangeAt Go.RowKit
open Go.ChangeMaps (open_string shut_string)
set_option linter.unusedVariables false

set_option maxRecDepth 100000 in
theorem lifted (os : Os) (started : os.Started) (H : Type) (enc : TypeId × Value → H) :
    ReturnsInHanded {} Try.checked os 3 .any (Rows.fnHashSpec.pre6 enc Try.prog Try.f3 Rows.fnHashRow.domain false) (Rows.fnHashSpec.post enc Try.prog Try.f3 false true false false) := by
  refine law_lift (C := Try.checked) own started (by kernel_rfl) Try.func3 laidOut rfl rfl Try.underlying4 (by kernel_rfl) (fun ds h => by match ds, h with | [_, _, _], _ => rfl)
    (ChangeSpec.witness6 (enc := enc) (C := Try.checked) false ⟨#[], #[.agg #[.bool false, .int .u64 0, .slice none 0 0], .agg #[.bool false, .int .u64 0, .slice none 0 0], .int .i64 0], []⟩ 8 (by kernel_rfl) (by kernel_rfl) (by kernel_rfl) (by kernel_rfl)) ?_
  intro W base args ds p hval hA hlt hsz
  rw [Try.params3] at hA hval hsz
  obtain ⟨v0, vs0, d0, ds0, p0, u0, hargs, rfl, rfl, h0, r0⟩ := trodAll_cons hA
  obtain ⟨v1, vs1, d1, ds1, p1, u1, rfl, rfl, rfl, h1, r1⟩ := trodAll_cons r0
  obtain ⟨v2, vs2, d2, ds2, p2, u2, rfl, rfl, rfl, h2, r2⟩ := trodAll_cons r1
  obtain ⟨rfl, rfl, rfl⟩ := trodAll_nil r2
  obtain rfl : args = #[v0, v1, v2] := by cases args; simp_all
  have k0 := hval 0 25 v0 rfl rfl
  obtain ⟨f0, o0, s0, c0, l0, rfl, hl0, hg0, hs0⟩ := open_state (B := W.heap.size) k0 h0 (fun x hx => hlt x (by simp [hx]))
  have k1 := hval 1 25 v1 rfl rfl
  obtain ⟨f1, o1, s1, c1, l1, rfl, hl1, hg1, hs1⟩ := open_state (B := W.heap.size) k1 h1 (fun x hx => hlt x (by simp [hx]))
  obtain ⟨a2, rfl, rfl, rfl, w2⟩ := open_int Try.underlying3 (hval 2 3 v2 rfl rfl) h2
  exact (walk f0 f1 o0 o1 s0 s1 c0 c1 l0 l1 a2 W hs0 hs1 (bd_i64 w2) hl0 hl1 hg0 hg1)

theorem proved : Rows.FnHashSaid :=
  OpenClaim.holds_of_wide 3 Try.f3 rfl rfl rfl rfl rfl rfl rfl ⟨rfl, rfl, rfl, rfl, rfl⟩ rfl rfl rfl rfl rfl (by kernel_rfl) Try.func3 (by kernel_rfl)
    (of_decide_eq_true (by kernel_rfl)) (by unfold Func.isWrapper; first | (rw [if_pos (by decide +kernel)]; kernel_rfl) | (rw [if_neg (by decide +kernel)]; exact ⟨rfl, rfl⟩))
    (fun os started H enc _ => lifted os started H enc)
#print axioms proved
end Go.Proofs.Ytobcgeonobgjpaa.fnHash
