/-
  FnStateFor: the last step: the row of the law out of its walk, and the card. Conditions: the listed variables, which the card ties.
-/
import Derived.Test.YtjonmfaeonldcaaDoorStLawB
import Derived.Test.YtjonmfaeonldcaaDoorCards
import Derived.Test.YtjonmfaeonldcaaDoorTie
import Derived.SevenTiedAt
import Derived.Lib.LaidSlice
namespace Go.Proofs.YtjonmfaeonldcaaDoor.fnStateFor
open Go.ChangeShapes Go.WideShapes Go.ChangeAt Go.RowKit
open Go.ChangeMaps (open_string shut_string)
set_option linter.unusedVariables false

noncomputable def laidWorld (os : Os) : World :=
  let N := (World.settled Tryd.prog os).heap.size
  let w0 := World.holding Tryd.prog os ⟨#[.cells (Lib.intCellsOf .u8 nat1) 5, .cells (Lib.intCellsOf .u8 nat2) 5, .cells #[.string ⟨#[115, 104, 111, 114, 116, 32, 119, 114, 105, 116, 101]⟩] 101], #[], []⟩
  let put (h : Array Obj) (g : Nat) (cs : Array Value) : Array Obj := h.modify g fun
    | .cells _ t frozen => .cells cs t frozen
    | o => o
  let h1 := put w0.heap 1 #[.slice (some ⟨N, 0, none⟩) 256 256]
  let h2 := put h1 3 #[.slice (some ⟨N + 1, 0, none⟩) 256 256]
  let h3 := put h2 2 #[.iface 99 (.pointer (some ⟨N + 2, 0, none⟩))]
  { w0 with heap := h3 }

set_option maxRecDepth 1000000 in
noncomputable abbrev N0 : Nat := (World.settled Tryd.prog default).heap.size
set_option maxRecDepth 1000000 in
theorem piece1 (os : Os) : LaidIn Tryd.prog ((laidWorld os).forCall (fun _ _ => 0) ⟨#[], #[.slice none 0 0, .int .i64 0, .int .u8 0], []⟩).memory [("pub-traverser/pub/vellum.commonInputs", Lib.sliceData .u8 nat1)] [1, N0] :=
  Lib.laidIn_slice (t := 34) (e := 5) (te := 5) nat1 N0 (by kernel_rfl) (by kernel_rfl) (by kernel_rfl) (by kernel_rfl) (by kernel_rfl) (by kernel_rfl) (by kernel_rfl) (by kernel_rfl) (of_decide_eq_true (by kernel_rfl)) (of_decide_eq_true (by kernel_rfl))
set_option maxRecDepth 1000000 in
theorem piece2 (os : Os) : LaidIn Tryd.prog ((laidWorld os).forCall (fun _ _ => 0) ⟨#[], #[.slice none 0 0, .int .i64 0, .int .u8 0], []⟩).memory [("pub-traverser/pub/vellum.commonInputsInv", Lib.sliceData .u8 nat2)] [3, N0 + 1] :=
  Lib.laidIn_slice (t := 34) (e := 5) (te := 5) nat2 (N0 + 1) (by kernel_rfl) (by kernel_rfl) (by kernel_rfl) (by kernel_rfl) (by kernel_rfl) (by kernel_rfl) (by kernel_rfl) (by kernel_rfl) (of_decide_eq_true (by kernel_rfl)) (of_decide_eq_true (by kernel_rfl))
set_option maxRecDepth 1000000 in
theorem piece0 (os : Os) : LaidIn Tryd.prog ((laidWorld os).forCall (fun _ _ => 0) ⟨#[], #[.slice none 0 0, .int .i64 0, .int .u8 0], []⟩).memory [("io.ErrShortWrite", Rows.laid_io_ErrShortWrite)] [2, N0 + 2] :=
  LaidIn.of_run _ 8 (by kernel_rfl) (by kernel_rfl) (by kernel_rfl) (by kernel_rfl)
theorem same1 : (Lib.sliceData .u8 nat1 : DataW Unit) = Rows.laid_pub_traverser_pub_vellum_commonInputs := by kernel_rfl
theorem same2 : (Lib.sliceData .u8 nat2 : DataW Unit) = Rows.laid_pub_traverser_pub_vellum_commonInputsInv := by kernel_rfl
theorem laid_met (os : Os) : laidMet Tryd.prog Rows.fnStateForRow.laid ((laidWorld os).forCall (fun _ _ => 0) ⟨#[], #[.slice none 0 0, .int .i64 0, .int .u8 0], []⟩).memory := by
  have h := ((piece0 os).append ((piece1 os).append (piece2 os) (by kernel_rfl)) (by kernel_rfl)).met
  rw [same1, same2] at h
  exact h

theorem tabs_of {W : World} (h : laidMetH Tryd.prog Rows.fnStateForRow.laid W) : Tabs W := by
  obtain ⟨ps, h1, _⟩ := (show laidMet Tryd.prog Rows.fnStateForRow.laid W from h)
  have h0 : DataW.LaidVars Tryd.prog W [("io.ErrShortWrite", Rows.laid_io_ErrShortWrite), ("pub-traverser/pub/vellum.commonInputs", Rows.laid_pub_traverser_pub_vellum_commonInputs), ("pub-traverser/pub/vellum.commonInputsInv", Rows.laid_pub_traverser_pub_vellum_commonInputsInv)] ps := h1
  obtain ⟨g, t, cs, fuel, p, q, _, _, _, _, h2, _⟩ := h0
  rw [eq1, eq2] at h2
  obtain ⟨⟨a, c, hc, hs, _⟩, q, h3⟩ := laid_slice (g := 1) (by kernel_rfl) (by kernel_rfl) Tryd.underlying34 Tryd.underlying5 (by kernel_rfl) h2
  obtain ⟨⟨a', c', hc', hs', _⟩, _⟩ := laid_slice (g := 3) (by kernel_rfl) (by kernel_rfl) Tryd.underlying34 Tryd.underlying5 (by kernel_rfl) h3
  exact ⟨⟨a, c, hc, hs⟩, ⟨a', c', hc', hs'⟩⟩

theorem witness_row (os : Os) {H : Type} (enc : TypeId × Value → H) :
    (OpenSpec.ofChange Rows.fnStateForSpec).preRow enc Tryd.prog Tryd.f3 Rows.fnStateForRow.domain false Rows.fnStateForRow.laid ((laidWorld os).forCall (fun _ _ => 0) ⟨#[], #[.slice none 0 0, .int .i64 0, .int .u8 0], []⟩).memory #[.slice none 0 0, .int .i64 0, .int .u8 0] := by
  have hw : (DataW.whole enc Tryd.prog ((laidWorld os).forCall (fun _ _ => 0) ⟨#[], #[.slice none 0 0, .int .i64 0, .int .u8 0], []⟩).memory Tryd.f3.params.toList Rows.fnStateForSpec.vars false (#[(.slice none 0 0 : Value), .int .i64 0, .int .u8 0] : Array Value).toList 8).map (fun x => (x.1, x.2.1)) =
      some ([.nil, .lit (.int .i64 0), .lit (.int .u8 0)], []) := by kernel_rfl
  obtain ⟨⟨x1, x2, x3⟩, hx, hx1⟩ := Option.map_eq_some_iff.1 hw
  simp only [Prod.mk.injEq] at hx1
  obtain ⟨rfl, rfl⟩ := hx1
  exact OpenSpec.preRow_of_cond 8 hx (by kernel_rfl) (fun k hk => by cases hk) (by kernel_rfl) (laid_met os)

set_option maxRecDepth 100000 in
set_option maxHeartbeats 2000000 in
theorem lifted (os : Os) (started : os.Started) (H : Type) (enc : TypeId × Value → H) (G : Stop.Interp) :
    ReturnsInHanded {} Tryd.checked os 3 .any ((OpenSpec.ofChange Rows.fnStateForSpec).preRow enc Tryd.prog Tryd.f3 Rows.fnStateForRow.domain false Rows.fnStateForRow.laid) (((OpenSpec.ofChange Rows.fnStateForSpec).at G).post enc Tryd.prog Tryd.f3 false true false false) := by
  refine law_lift_row (C := Tryd.checked) own started (by kernel_rfl) Tryd.func3 laidOut rfl rfl Tryd.underlying4 (by kernel_rfl) (fun ds h => by match ds, h with | [_, _, _], _ => rfl)
    (witness_row_atRef (enc := enc) (C := Tryd.checked) false (laidWorld os) #[.slice none 0 0, .int .i64 0, .int .u8 0] rfl (by kernel_rfl) (by kernel_rfl) (by kernel_rfl) (witness_row os enc)) ?_
  intro W base args ds p hval hA hlt hsz hL
  rw [Tryd.params3] at hA hval hsz
  obtain ⟨v0, vs0, d0, ds0, p0, u0, hargs, rfl, rfl, h0, r0⟩ := trodAll_cons hA
  obtain ⟨v1, vs1, d1, ds1, p1, u1, rfl, rfl, rfl, h1, r1⟩ := trodAll_cons r0
  obtain ⟨v2, vs2, d2, ds2, p2, u2, rfl, rfl, rfl, h2, r2⟩ := trodAll_cons r1
  obtain ⟨rfl, rfl, rfl⟩ := trodAll_nil r2
  obtain rfl : args = #[v0, v1, v2] := by cases args; simp_all
  have k0 := hval 0 22 v0 rfl rfl
  have q0 : ∀ x ∈ p0, x.block < W.heap.size := fun x hx => hlt x (by simp [hx])
  obtain ⟨a1, rfl, rfl, rfl, w1⟩ := open_int Tryd.underlying3 (hval 1 3 v1 rfl rfl) h1
  obtain ⟨a2, rfl, rfl, rfl, w2⟩ := open_int Tryd.underlying5 (hval 2 5 v2 rfl rfl) h2
  exact (by
    obtain ⟨s0, c0, ls, rfl, hl0, hg0, hs0⟩ := open_states k0 h0 q0
    exact law_any s0 c0 ls _ _ W hl0 hg0 hs0 (tabs_of hL) (bd_i64 w1) (bd_u8 w2))

theorem said : Rows.FnStateForSaid :=
  OpenClaim.holds_of_cond 3 Tryd.f3 rfl rfl rfl rfl rfl rfl rfl ⟨rfl, rfl, rfl, rfl, rfl⟩ rfl rfl rfl rfl rfl (by kernel_rfl) Tryd.func3 (by kernel_rfl)
    (of_decide_eq_true (by kernel_rfl)) (by unfold Func.isWrapper; first | (rw [if_pos (by decide +kernel)]; kernel_rfl) | (rw [if_neg (by decide +kernel)]; exact ⟨rfl, rfl⟩))
    (fun os started H enc _ G => by rw [OpenClaim.pre_eq_preRow]; exact lifted os started H enc G)

theorem plain (f : FuncId) (fn : Func) (hf : Tryd.pinned.checked.prog.funcNamed "pub-traverser/laws.FnStateFor" = some f) (hfn : Tryd.pinned.checked.prog.funcs[f]? = some fn) :
    true = Tryd.pinned.checked.prog.looks [] ∧ ∀ (j : Nat) t, fn.params[j]? = some t → Tryd.pinned.checked.prog.wantsStandIn t = false := by
  obtain rfl : f = 3 := Option.some.inj ((show Tryd.prog.funcNamed "pub-traverser/laws.FnStateFor" = some 3 by kernel_rfl).symm.trans hf) |>.symm
  obtain rfl : fn = Tryd.f3 := (Option.some.inj (Tryd.func3.symm.trans hfn)).symm
  refine ⟨by kernel_rfl, fun j t ht => ?_⟩
  rw [Tryd.params3] at ht
  have hm := Array.mem_of_getElem? ht
  simp only [List.mem_toArray, List.mem_cons, List.not_mem_nil, or_false] at hm
  rcases hm with rfl | rfl | rfl
  · exact (show Tryd.prog.wantsStandIn 22 = false by kernel_rfl)
  · exact (show Tryd.prog.wantsStandIn 3 = false by kernel_rfl)
  · exact (show Tryd.prog.wantsStandIn 5 = false by kernel_rfl)

theorem card : Rows.FnStateForCardSaid :=
  Claim7.holds_tied_plain_at .later [] _ _ _ _ said (fun _ h => by cases h) (by kernel_rfl) (fun _ h => by cases h) fnStateFor_row_tie rfl ⟨rfl, rfl⟩ (by kernel_rfl) rfl plain (by kernel_rfl)
#print axioms card
end Go.Proofs.YtjonmfaeonldcaaDoor.fnStateFor
