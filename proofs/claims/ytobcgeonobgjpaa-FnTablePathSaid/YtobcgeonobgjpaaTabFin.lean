/-
  FnTablePath: the last step: the row of the law, out of its walk. Conditions: none.
-/
import Derived.Test.YtobcgeonobgjpaaTabG
import Derived.Test.YtobcgeonobgjpaaTabOpen
namespace Go.Proofs.Ytobcgeonobgjpaa.fnTablePath
open Go.ChangeShapes Go.WideShapes Go.ChangeAt Go.RowKit
open Go.ChangeMaps (open_string shut_string)
set_option linter.unusedVariables false

set_option maxRecDepth 100000 in
theorem lifted (os : Os) (started : os.Started) (H : Type) (enc : TypeId × Value → H) :
    ReturnsInHanded {} Try.checked os 5 .any (Rows.fnTablePathSpec.pre6 enc Try.prog Try.f5 Rows.fnTablePathRow.domain false) (Rows.fnTablePathSpec.post enc Try.prog Try.f5 false true false false) := by
  refine law_lift (C := Try.checked) own started (by kernel_rfl) Try.func5 laidOut rfl rfl Try.underlying4 (by kernel_rfl) (fun ds h => by match ds, h with | [_, _], _ => rfl)
    (ChangeSpec.witness6 (enc := enc) (C := Try.checked) false ⟨#[], #[.agg #[.int .i64 0, .slice none 0 0, .slice none 0 0, .slice none 0 0, .slice none 0 0, .slice none 0 0], .string .empty], []⟩ 8 (by kernel_rfl) (by kernel_rfl) (by kernel_rfl) (by kernel_rfl)) ?_
  intro W base args ds p hval hA hlt hsz
  rw [Try.params5] at hA hval hsz
  obtain ⟨v0, vs0, d0, ds0, p0, u0, hargs, rfl, rfl, h0, r0⟩ := trodAll_cons hA
  obtain ⟨v1, vs1, d1, ds1, p1, u1, rfl, rfl, rfl, h1, r1⟩ := trodAll_cons r0
  obtain ⟨rfl, rfl, rfl⟩ := trodAll_nil r1
  obtain rfl : args = #[v0, v1] := by cases args; simp_all
  have k0 := hval 0 41 v0 rfl rfl
  have q0 : ∀ x ∈ p0, x.block < W.heap.size := fun x hx => hlt x (by simp [hx])
  obtain ⟨st, a0, a1, a2, a3, a4, n3, n4, c0, c1, c2, c3, c4, cl, rws, mt, rfl, g0, g1, g2, g3, g4, hx, s0, s1, s2⟩ := open_table (B := W.heap.size) k0 h0 q0
  obtain ⟨t1, rfl, rfl, rfl, m1⟩ := open_string Try.underlying9 (hval 1 9 v1 rfl rfl) h1
  exact walk st a0 a1 a2 a3 a4 n3 n4 c0 c1 c2 c3 c4 cl rws mt t1 W g0 g1 g2 g3 g4 m1 hx s0 s1 s2

theorem proved : Rows.FnTablePathSaid :=
  OpenClaim.holds_of_wide 5 Try.f5 rfl rfl rfl rfl rfl rfl rfl ⟨rfl, rfl, rfl, rfl, rfl⟩ rfl rfl rfl rfl rfl (by kernel_rfl) Try.func5 (by kernel_rfl)
    (of_decide_eq_true (by kernel_rfl)) (by unfold Func.isWrapper; first | (rw [if_pos (by decide +kernel)]; kernel_rfl) | (rw [if_neg (by decide +kernel)]; exact ⟨rfl, rfl⟩))
    (fun os started H enc _ => lifted os started H enc)
#print axioms proved
end Go.Proofs.Ytobcgeonobgjpaa.fnTablePath
