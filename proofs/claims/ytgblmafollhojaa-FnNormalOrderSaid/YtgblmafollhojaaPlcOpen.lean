/-
  An argument that is a slice of places. Conditions: none.
-/
import Derived.Test.YtgblmafollhojaaPlc
import Derived.Lib.SmallJoins
namespace Go.Proofs.Ytgblmafollhojaa
open Go.ChangeShapes Go.WideShapes Go.ChangeAt Go.RowKit Go.Deep
set_option linter.unusedVariables false

theorem read_place {H : Type} {enc : TypeId × Value → H} {w : World} {base : Nat} (fuel : Nat) (cs : List Value) (y : DataW H × List MemPlace) (hl : cs.length = 3)
    (h : DataW.trod enc Try.prog w base (fun _ => true) true fuel 29 cs = some y) : ∃ x : Pl, cs = enc3 x ∧ True := by
  match cs, hl with
  | [c0, c1, c2], _ =>
    obtain ⟨y0, y1, y2, n, hx, _, r0, r1, r2⟩ := trod_struct3 (P := Try.prog) Try.underlying29 h
    have k0 : Try.prog.cellsOf 27 = 1 := by kernel_rfl
    have k1 : Try.prog.cellsOf 5 = 1 := by kernel_rfl
    have k2 : Try.prog.cellsOf 4 = 1 := by kernel_rfl
    simp only [k0, k1, k2] at r0 r1 r2
    obtain ⟨z0, e0, _, w0⟩ := DataW.trod_int Try.underlying27 r0
    obtain ⟨z1, e1, _, w1⟩ := DataW.trod_int Try.underlying5 r1
    obtain ⟨b2, e2, _⟩ := DataW.trod_bool Try.underlying4 r2
    simp at e0 e1 e2
    subst e0 e1 e2
    have b0 := bd_u32 w0
    have b1 := bd_u8 w1
    refine ⟨(z0.toNat, z1.toNat, b2), ?_, trivial⟩
    unfold enc3
    simp only
    rw [Int.toNat_of_nonneg b0.1, Int.toNat_of_nonneg b1.1]

end Go.Proofs.Ytgblmafollhojaa
