/-
  FnHash: a state as an argument, opened. Conditions: none.
-/
import Derived.Test.YtobcgeonobgjpaaHash
import Derived.Lib.SmallJoins
namespace Go.Proofs.Ytobcgeonobgjpaa.fnHash
open Go.ChangeShapes Go.WideShapes Go.ChangeAt Go.RowKit
set_option linter.unusedVariables false

theorem read_arc {H : Type} {enc : TypeId × Value → H} {w : World} {base : Nat} (fuel : Nat) (cs : List Value) (y : DataW H × List MemPlace) (hl : cs.length = 3)
    (h : DataW.trod enc Try.prog w base (fun _ => true) true fuel 48 cs = some y) : ∃ x : Arc, cs = ac x ∧ goodArc x := by
  match cs, hl with
  | [c0, c1, c2], _ =>
    obtain ⟨y0, y1, y2, n, _, _, h0, h1, h2⟩ := Deep.trod_struct3 Try.underlying48 h
    have e0 : Try.prog.cellsOf 5 = 1 := by kernel_rfl
    have e1 : Try.prog.cellsOf 22 = 1 := by kernel_rfl
    have e2 : Try.prog.cellsOf 3 = 1 := by kernel_rfl
    simp only [e0, e1, e2, List.drop_zero, List.drop_succ_cons, List.take_succ_cons, List.take_zero] at h0 h1 h2
    obtain ⟨z0, q0, _, w0⟩ := DataW.trod_int Try.underlying5 h0
    obtain ⟨z1, q1, _, w1⟩ := DataW.trod_int Try.underlying22 h1
    obtain ⟨z2, q2, _, w2⟩ := DataW.trod_int Try.underlying3 h2
    simp at q0 q1 q2
    subst q0 q1 q2
    exact ⟨(z0, z1, z2), rfl, bd_u8 w0, bd_u64 w1, bd_i64 w2⟩

theorem open_state {H : Type} {enc : TypeId × Value → H} {w : World} {base b0 B : Nat} {v : Value} {d : DataW H} {p : List MemPlace}
    (hv : Value.okWide Try.prog w .any b0 25 v) (h : DataW.Trod enc Try.prog w base (fun _ => true) true 25 v d p) (hlt : ∀ x ∈ p, x.block < B) :
    ∃ (f : Bool) (o : Int) (a : Option Addr) (c : Nat) (l : List Arc), v = .agg #[.bool f, .int .u64 o, .slice a l.length c] ∧ l.length ≤ maxLen ∧ (∀ x ∈ l, goodArc x) ∧ Sl w B a (l.flatMap ac) := by
  obtain ⟨v0, v1, v2, y0, y1, y2, n, rfl, _, hp, h0, h1, h2⟩ := Joins.open_agg3 Try.underlying25 (by kernel_rfl) (by kernel_rfl) hv h
  obtain ⟨f, q0, _⟩ := DataW.trod_bool Try.underlying4 h0
  obtain ⟨o, q1, _, _⟩ := DataW.trod_int Try.underlying22 h1
  simp at q0 q1
  subst q0 q1
  obtain ⟨a, c, l, rfl, hl, hc, hg, hs⟩ := open_slice_field ac 3 goodArc ac_len (by omega) Try.underlying23 (by kernel_rfl) read_arc h2 (fun x hx => hlt x (by rw [hp]; simp [hx]))
  exact ⟨f, o, a, c, l, rfl, by omega, hg, hs⟩

end Go.Proofs.Ytobcgeonobgjpaa.fnHash
