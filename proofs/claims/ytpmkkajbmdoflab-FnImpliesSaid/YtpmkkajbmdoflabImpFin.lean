/-
  FnImplies: the last step: the row of the law, out of its walk. Conditions: none.
-/
import Derived.Test.YtpmkkajbmdoflabImpD
import Derived.Lib.SmallJoins
namespace Go.Proofs.Ytpmkkajbmdoflab.fnImplies
open Go.ChangeShapes Go.WideShapes Go.ChangeAt Go.RowKit
open Go.ChangeMaps (open_string shut_string)
set_option linter.unusedVariables false

theorem open_place {H : Type} {enc : TypeId × Value → H} {w : World} {base b0 : Nat} {v : Value} {d : DataW H} {p : List MemPlace}
    (hv : Value.okWide Try.prog w .any b0 38 v) (h : DataW.Trod enc Try.prog w base (fun _ => true) true 38 v d p) :
    ∃ (o k : Nat) (t : Bool), v = .agg #[.int .u32 o, .int .u8 k, .bool t] ∧ o ≤ 4294967295 ∧ k ≤ 255 := by
  obtain ⟨v0, v1, v2, y0, y1, y2, n, rfl, _, hp, h0, h1, h2⟩ := Joins.open_agg3 Try.underlying38 (by kernel_rfl) (by kernel_rfl) hv h
  obtain ⟨o, q0, _, w0⟩ := DataW.trod_int Try.underlying33 h0
  obtain ⟨k, q1, _, w1⟩ := DataW.trod_int Try.underlying5 h1
  obtain ⟨f, q2, _⟩ := DataW.trod_bool Try.underlying4 h2
  simp at q0 q1 q2
  subst q0 q1 q2
  have b0 := bd_u32 w0
  have b1 := bd_u8 w1
  obtain ⟨o', rfl⟩ : ∃ o' : Nat, o = (o' : Int) := ⟨o.toNat, by omega⟩
  obtain ⟨k', rfl⟩ : ∃ k' : Nat, k = (k' : Int) := ⟨k.toNat, by omega⟩
  exact ⟨o', k', f, rfl, by omega, by omega⟩

set_option maxRecDepth 100000 in
theorem lifted (os : Os) (started : os.Started) (H : Type) (enc : TypeId × Value → H) :
    ReturnsInHanded {} Try.checked os 7 .any (Rows.fnImpliesSpec.pre6 enc Try.prog Try.f7 Rows.fnImpliesRow.domain false) (Rows.fnImpliesSpec.post enc Try.prog Try.f7 false true false false) := by
  refine law_lift (C := Try.checked) own started (by kernel_rfl) Try.func7 laidOut rfl rfl Try.underlying4 (by kernel_rfl) (fun ds h => by match ds, h with | [_, _, _, _], _ => rfl)
    (ChangeSpec.witness6 (enc := enc) (C := Try.checked) false ⟨#[], #[.agg #[.int .u32 0, .int .u8 0, .bool false], .agg #[.int .u32 0, .int .u8 0, .bool false], .slice none 0 0, .slice none 0 0], []⟩ 8 (by kernel_rfl) (by kernel_rfl) (by kernel_rfl) (by kernel_rfl)) ?_
  intro W base args ds p hval hA hlt hsz
  rw [Try.params7] at hA hval hsz
  obtain ⟨v0, vs0, d0, ds0, p0, u0, hargs, rfl, rfl, h0, r0⟩ := trodAll_cons hA
  obtain ⟨v1, vs1, d1, ds1, p1, u1, rfl, rfl, rfl, h1, r1⟩ := trodAll_cons r0
  obtain ⟨v2, vs2, d2, ds2, p2, u2, rfl, rfl, rfl, h2, r2⟩ := trodAll_cons r1
  obtain ⟨v3, vs3, d3, ds3, p3, u3, rfl, rfl, rfl, h3, r3⟩ := trodAll_cons r2
  obtain ⟨rfl, rfl, rfl⟩ := trodAll_nil r3
  obtain rfl : args = #[v0, v1, v2, v3] := by cases args; simp_all
  have k0 := hval 0 38 v0 rfl rfl
  obtain ⟨o0, e0, t0, rfl, g0, j0⟩ := open_place k0 h0
  have k1 := hval 1 38 v1 rfl rfl
  obtain ⟨o1, e1, t1, rfl, g1, j1⟩ := open_place k1 h1
  obtain ⟨s2, c2, z2, rfl, hl2, hc2, hw2, hs2, hd2⟩ := open_ints_arg Try.underlying39 Try.underlying21 (by kernel_rfl) (hval 2 39 v2 rfl rfl) h2 (fun x hx => hlt x (by simp [hx]))
  obtain ⟨s3, c3, z3, rfl, hl3, hc3, hw3, hs3, hd3⟩ := open_ints_arg Try.underlying39 Try.underlying21 (by kernel_rfl) (hval 3 39 v3 rfl rfl) h3 (fun x hx => hlt x (by simp [hx]))
  exact walk o0 o1 e0 e1 t0 t1 s2 s3 c2 c3 z2 z3 W g0 g1 j0 j1 (by omega) (by omega) hs2 hs3 (fun z hz => bd_i32 (hw2 z hz)) (fun z hz => bd_i32 (hw3 z hz))

theorem proved : Rows.FnImpliesSaid :=
  OpenClaim.holds_of_wide 7 Try.f7 rfl rfl rfl rfl rfl rfl rfl ⟨rfl, rfl, rfl, rfl, rfl⟩ rfl rfl rfl rfl rfl (by kernel_rfl) Try.func7 (by kernel_rfl)
    (of_decide_eq_true (by kernel_rfl)) (by unfold Func.isWrapper; first | (rw [if_pos (by decide +kernel)]; kernel_rfl) | (rw [if_neg (by decide +kernel)]; exact ⟨rfl, rfl⟩))
    (fun os started H enc _ => lifted os started H enc)
#print axioms proved
end Go.Proofs.Ytpmkkajbmdoflab.fnImplies
