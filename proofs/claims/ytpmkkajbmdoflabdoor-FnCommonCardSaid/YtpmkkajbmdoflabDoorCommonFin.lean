/-
  FnCommon: the last step: the row of the law out of its walk, and the card. Conditions: the listed variables, which the card ties.
-/
import Derived.Test.YtpmkkajbmdoflabDoorCommon
namespace Go.Proofs.YtpmkkajbmdoflabDoor.fnCommon
open Go.ChangeShapes Go.WideShapes Go.ChangeAt Go.RowKit
open Go.ChangeMaps (open_string shut_string)
set_option linter.unusedVariables false

noncomputable def laidWorld (os : Os) : World :=
  let N := (World.settled Tryd.prog os).heap.size
  let w0 := World.holding Tryd.prog os ⟨#[.cells (Lib.intCellsOf .u8 nat1) 5, .cells (Lib.intCellsOf .u8 nat2) 5], #[], []⟩
  let put (h : Array Obj) (g : Nat) (cs : Array Value) : Array Obj := h.modify g fun
    | .cells _ t frozen => .cells cs t frozen
    | o => o
  let h1 := put w0.heap 0 #[.slice (some ⟨N, 0, none⟩) 256 256]
  let h2 := put h1 1 #[.slice (some ⟨N + 1, 0, none⟩) 256 256]
  { w0 with heap := h2 }

set_option maxRecDepth 1000000 in
noncomputable abbrev N0 : Nat := (World.settled Tryd.prog default).heap.size
set_option maxRecDepth 1000000 in
theorem piece1 (os : Os) : LaidIn Tryd.prog ((laidWorld os).forCall (fun _ _ => 0) ⟨#[], #[.int .u8 0, .int .u8 0], []⟩).memory [("pub-traverser/pub/vellum.commonInputs", Lib.sliceData .u8 nat1)] [0, N0] :=
  Lib.laidIn_slice (t := 26) (e := 5) (te := 5) nat1 N0 (by kernel_rfl) (by kernel_rfl) (by kernel_rfl) (by kernel_rfl) (by kernel_rfl) (by kernel_rfl) (by kernel_rfl) (by kernel_rfl) (of_decide_eq_true (by kernel_rfl)) (of_decide_eq_true (by kernel_rfl))
set_option maxRecDepth 1000000 in
theorem piece2 (os : Os) : LaidIn Tryd.prog ((laidWorld os).forCall (fun _ _ => 0) ⟨#[], #[.int .u8 0, .int .u8 0], []⟩).memory [("pub-traverser/pub/vellum.commonInputsInv", Lib.sliceData .u8 nat2)] [1, N0 + 1] :=
  Lib.laidIn_slice (t := 26) (e := 5) (te := 5) nat2 (N0 + 1) (by kernel_rfl) (by kernel_rfl) (by kernel_rfl) (by kernel_rfl) (by kernel_rfl) (by kernel_rfl) (by kernel_rfl) (by kernel_rfl) (of_decide_eq_true (by kernel_rfl)) (of_decide_eq_true (by kernel_rfl))
theorem same1 : (Lib.sliceData .u8 nat1 : DataW Unit) = Rows.laid_pub_traverser_pub_vellum_commonInputs := by kernel_rfl
theorem same2 : (Lib.sliceData .u8 nat2 : DataW Unit) = Rows.laid_pub_traverser_pub_vellum_commonInputsInv := by kernel_rfl
theorem laid_met (os : Os) : laidMet Tryd.prog Rows.fnCommonRow.laid ((laidWorld os).forCall (fun _ _ => 0) ⟨#[], #[.int .u8 0, .int .u8 0], []⟩).memory := by
  have h := ((piece1 os).append (piece2 os) (by kernel_rfl)).met
  rw [same1, same2] at h
  exact h

theorem witness_row (os : Os) {H : Type} (enc : TypeId × Value → H) :
    (OpenSpec.ofChange Rows.fnCommonSpec).preRow enc Tryd.prog Tryd.f3 Rows.fnCommonRow.domain false Rows.fnCommonRow.laid ((laidWorld os).forCall (fun _ _ => 0) ⟨#[], #[.int .u8 0, .int .u8 0], []⟩).memory #[.int .u8 0, .int .u8 0] := by
  have hw : (DataW.whole enc Tryd.prog ((laidWorld os).forCall (fun _ _ => 0) ⟨#[], #[.int .u8 0, .int .u8 0], []⟩).memory Tryd.f3.params.toList Rows.fnCommonSpec.vars false (#[(.int .u8 0 : Value), .int .u8 0] : Array Value).toList 8).map (fun x => (x.1, x.2.1)) =
      some ([.lit (.int .u8 0), .lit (.int .u8 0)], []) := by kernel_rfl
  obtain ⟨⟨x1, x2, x3⟩, hx, hx1⟩ := Option.map_eq_some_iff.1 hw
  simp only [Prod.mk.injEq] at hx1
  obtain ⟨rfl, rfl⟩ := hx1
  exact OpenSpec.preRow_of_cond 8 hx (by kernel_rfl) (fun k hk => by cases hk) (by kernel_rfl) (laid_met os)

set_option maxRecDepth 100000 in
set_option maxHeartbeats 2000000 in
theorem lifted (os : Os) (started : os.Started) (H : Type) (enc : TypeId × Value → H) (G : Stop.Interp) :
    ReturnsInHanded {} Tryd.checked os 3 .any ((OpenSpec.ofChange Rows.fnCommonSpec).preRow enc Tryd.prog Tryd.f3 Rows.fnCommonRow.domain false Rows.fnCommonRow.laid) (((OpenSpec.ofChange Rows.fnCommonSpec).at G).post enc Tryd.prog Tryd.f3 false true false false) := by
  refine law_lift_row (C := Tryd.checked) own started (by kernel_rfl) Tryd.func3 laidOut rfl rfl Tryd.underlying4 (by kernel_rfl) (fun ds h => by match ds, h with | [_, _], _ => rfl)
    (witness_row_atRef (enc := enc) (C := Tryd.checked) false (laidWorld os) #[.int .u8 0, .int .u8 0] rfl (by kernel_rfl) (by kernel_rfl) (by kernel_rfl) (witness_row os enc)) ?_
  intro W base args ds p hval hA hlt hsz hL
  rw [Tryd.params3] at hA hval hsz
  obtain ⟨v0, vs0, d0, ds0, p0, u0, hargs, rfl, rfl, h0, r0⟩ := trodAll_cons hA
  obtain ⟨v1, vs1, d1, ds1, p1, u1, rfl, rfl, rfl, h1, r1⟩ := trodAll_cons r0
  obtain ⟨rfl, rfl, rfl⟩ := trodAll_nil r1
  obtain rfl : args = #[v0, v1] := by cases args; simp_all
  obtain ⟨a0, rfl, rfl, rfl, w0⟩ := open_int Tryd.underlying5 (hval 0 5 v0 rfl rfl) h0
  obtain ⟨a1, rfl, rfl, rfl, w1⟩ := open_int Tryd.underlying5 (hval 1 5 v1 rfl rfl) h1
  exact (by
    obtain ⟨n, rfl⟩ := Int.eq_ofNat_of_zero_le (bd_u8 w0).1
    obtain ⟨m, rfl⟩ := Int.eq_ofNat_of_zero_le (bd_u8 w1).1
    exact law_any n m W (by have := bd_u8 w0; omega) (by have := bd_u8 w1; omega) (tabs_of hL))

theorem said : Rows.FnCommonSaid :=
  OpenClaim.holds_of_cond 3 Tryd.f3 rfl rfl rfl rfl rfl rfl rfl ⟨rfl, rfl, rfl, rfl, rfl⟩ rfl rfl rfl rfl rfl (by kernel_rfl) Tryd.func3 (by kernel_rfl)
    (of_decide_eq_true (by kernel_rfl)) (by unfold Func.isWrapper; first | (rw [if_pos (by decide +kernel)]; kernel_rfl) | (rw [if_neg (by decide +kernel)]; exact ⟨rfl, rfl⟩))
    (fun os started H enc _ G => by rw [OpenClaim.pre_eq_preRow]; exact lifted os started H enc G)

theorem plain (f : FuncId) (fn : Func) (hf : Tryd.pinned.checked.prog.funcNamed "pub-traverser/laws.FnCommon" = some f) (hfn : Tryd.pinned.checked.prog.funcs[f]? = some fn) :
    false = Tryd.pinned.checked.prog.looks [] ∧ ∀ (j : Nat) t, fn.params[j]? = some t → Tryd.pinned.checked.prog.wantsStandIn t = false := by
  obtain rfl : f = 3 := Option.some.inj ((show Tryd.prog.funcNamed "pub-traverser/laws.FnCommon" = some 3 by kernel_rfl).symm.trans hf) |>.symm
  obtain rfl : fn = Tryd.f3 := (Option.some.inj (Tryd.func3.symm.trans hfn)).symm
  refine ⟨by kernel_rfl, fun j t ht => ?_⟩
  rw [Tryd.params3] at ht
  have hm := Array.mem_of_getElem? ht
  simp only [List.mem_toArray, List.mem_cons, List.not_mem_nil, or_false] at hm
  rcases hm with rfl | rfl
  · exact (show Tryd.prog.wantsStandIn 5 = false by kernel_rfl)
  · exact (show Tryd.prog.wantsStandIn 5 = false by kernel_rfl)

theorem card : Rows.FnCommonCardSaid :=
  Claim7.holds_tied_plain_at .later [] _ _ _ _ said (fun _ h => by cases h) (by kernel_rfl) (fun _ h => by cases h) fnCommon_row_tie rfl ⟨rfl, rfl⟩ (by kernel_rfl) rfl plain (by kernel_rfl)
#print axioms card
end Go.Proofs.YtpmkkajbmdoflabDoor.fnCommon
