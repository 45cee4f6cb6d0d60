/-
  The first argument of FnSequenceMatches, opened: a slice of pairs of bytes. Conditions: none.
-/
import Derived.Test.YtpmkkajbmdoflabSeqMatch
namespace Go.Proofs.Ytpmkkajbmdoflab.fnSequenceMatches
open Go.ChangeShapes Go.WideShapes Go.ChangeAt Go.RowKit
set_option linter.unusedVariables false

theorem read_pair {H : Type} {enc : TypeId × Value → H} {w : World} {base : Nat} (fuel : Nat) (cs : List Value) (y : DataW H × List MemPlace) (hl : cs.length = 2)
    (h : DataW.trod enc Try.prog w base (fun _ => true) true fuel 48 cs = some y) : ∃ x : Int × Int, cs = pr x ∧ ((0 ≤ x.1 ∧ x.1 ≤ 255) ∧ (0 ≤ x.2 ∧ x.2 ≤ 255)) := by
  match cs, hl with
  | [c0, c1], _ =>
    obtain ⟨xs, m, rfl, hx, _, hlen, hi⟩ := DataW.trod_array (P := Try.prog) Try.underlying48 h
    have hc : Try.prog.cellsOf 5 = 1 := by kernel_rfl
    have h0 := hi 0 (by omega)
    have h1 := hi 1 (by omega)
    rw [hc] at h0 h1
    rw [List.getElem?_eq_getElem (by omega)] at h0 h1
    obtain ⟨z0, e0, _, w0⟩ := DataW.trod_int Try.underlying5 h0
    obtain ⟨z1, e1, _, w1⟩ := DataW.trod_int Try.underlying5 h1
    simp at e0 e1
    subst e0 e1
    exact ⟨(z0, z1), rfl, bd_u8 w0, bd_u8 w1⟩

end Go.Proofs.Ytpmkkajbmdoflab.fnSequenceMatches
