/-
  FnSequencesSplit: the last step: the row of the law out of its walk, and the card. Conditions: the listed variables, which the card ties.
-/
import Derived.Test.YtobcgeonobgjpaaDoorSeqLaw
import Derived.Test.YtobcgeonobgjpaaDoorCards
import Derived.Test.YtobcgeonobgjpaaDoorTie
import Derived.SevenTiedAt
namespace Go.Proofs.YtobcgeonobgjpaaDoor.fnSequencesSplit
open Go.ChangeShapes Go.WideShapes Go.ChangeAt Go.RowKit
open Go.ChangeMaps (open_string shut_string)
set_option linter.unusedVariables false

noncomputable def laidWorld (os : Os) : World :=
  let N := (World.settled Tryd.prog os).heap.size
  let w0 := World.holding Tryd.prog os ⟨#[], #[], []⟩
  let put (h : Array Obj) (g : Nat) (cs : Array Value) : Array Obj := h.modify g fun
    | .cells _ t frozen => .cells cs t frozen
    | o => o
  let h1 := put w0.heap 0 #[.int .i32 65535, .int .i32 0]
  let h2 := put h1 1 #[.int .u8 255, .int .u8 0]
  { w0 with heap := h2 }

set_option maxRecDepth 1000000 in
theorem laid_met (os : Os) : laidMet Tryd.prog Rows.fnSequencesSplitRow.laid ((laidWorld os).forCall (fun _ _ => 0) ⟨#[], #[.int .i32 0, .int .i32 0, .int .i32 0, .slice none 0 0], []⟩).memory :=
  laidMet_of_run' 8 (by kernel_rfl) (by kernel_rfl)

theorem witness_row (os : Os) {H : Type} (enc : TypeId × Value → H) :
    (OpenSpec.ofChange Rows.fnSequencesSplitSpec).preRow enc Tryd.prog Tryd.f4 Rows.fnSequencesSplitRow.domain false Rows.fnSequencesSplitRow.laid ((laidWorld os).forCall (fun _ _ => 0) ⟨#[], #[.int .i32 0, .int .i32 0, .int .i32 0, .slice none 0 0], []⟩).memory #[.int .i32 0, .int .i32 0, .int .i32 0, .slice none 0 0] := by
  have hw : (DataW.whole enc Tryd.prog ((laidWorld os).forCall (fun _ _ => 0) ⟨#[], #[.int .i32 0, .int .i32 0, .int .i32 0, .slice none 0 0], []⟩).memory Tryd.f4.params.toList Rows.fnSequencesSplitSpec.vars false (#[(.int .i32 0 : Value), .int .i32 0, .int .i32 0, .slice none 0 0] : Array Value).toList 8).map (fun x => (x.1, x.2.1)) =
      some ([.lit (.int .i32 0), .lit (.int .i32 0), .lit (.int .i32 0), .nil], []) := by kernel_rfl
  obtain ⟨⟨x1, x2, x3⟩, hx, hx1⟩ := Option.map_eq_some_iff.1 hw
  simp only [Prod.mk.injEq] at hx1
  obtain ⟨rfl, rfl⟩ := hx1
  exact OpenSpec.preRow_of_cond 8 hx (by kernel_rfl) (fun k hk => by cases hk) (by kernel_rfl) (laid_met os)

set_option maxRecDepth 100000 in
set_option maxHeartbeats 2000000 in
theorem lifted (os : Os) (started : os.Started) (H : Type) (enc : TypeId × Value → H) (G : Stop.Interp) :
    ReturnsInHanded {} Tryd.checked os 4 .any ((OpenSpec.ofChange Rows.fnSequencesSplitSpec).preRow enc Tryd.prog Tryd.f4 Rows.fnSequencesSplitRow.domain false Rows.fnSequencesSplitRow.laid) (((OpenSpec.ofChange Rows.fnSequencesSplitSpec).at G).post enc Tryd.prog Tryd.f4 false true false false) := by
  refine law_lift_row (C := Tryd.checked) own started (by kernel_rfl) Tryd.func4 laidOut rfl rfl Tryd.underlying4 (by kernel_rfl) (fun ds h => by match ds, h with | [_, _, _, _], _ => rfl)
    (witness_row_atRef (enc := enc) (C := Tryd.checked) false (laidWorld os) #[.int .i32 0, .int .i32 0, .int .i32 0, .slice none 0 0] rfl (by kernel_rfl) (by kernel_rfl) (by kernel_rfl) (witness_row os enc)) ?_
  intro W base args ds p hval hA hlt hsz hL
  rw [Tryd.params4] at hA hval hsz
  obtain ⟨v0, vs0, d0, ds0, p0, u0, hargs, rfl, rfl, h0, r0⟩ := trodAll_cons hA
  obtain ⟨v1, vs1, d1, ds1, p1, u1, rfl, rfl, rfl, h1, r1⟩ := trodAll_cons r0
  obtain ⟨v2, vs2, d2, ds2, p2, u2, rfl, rfl, rfl, h2, r2⟩ := trodAll_cons r1
  obtain ⟨v3, vs3, d3, ds3, p3, u3, rfl, rfl, rfl, h3, r3⟩ := trodAll_cons r2
  obtain ⟨rfl, rfl, rfl⟩ := trodAll_nil r3
  obtain rfl : args = #[v0, v1, v2, v3] := by cases args; simp_all
  obtain ⟨a0, rfl, rfl, rfl, w0⟩ := open_int Tryd.underlying21 (hval 0 21 v0 rfl rfl) h0
  obtain ⟨a1, rfl, rfl, rfl, w1⟩ := open_int Tryd.underlying21 (hval 1 21 v1 rfl rfl) h1
  obtain ⟨a2, rfl, rfl, rfl, w2⟩ := open_int Tryd.underlying21 (hval 2 21 v2 rfl rfl) h2
  obtain ⟨s3, c3, z3, rfl, hl3, hc3, hw3, hs3, hd3⟩ := open_ints_arg Tryd.underlying22 Tryd.underlying5 (by kernel_rfl) (hval 3 22 v3 rfl rfl) h3 (fun x hx => hlt x (by simp [hx]))
  exact (split_any _ _ _ _ z3 _ W (bd_i32 w0) (bd_i32 w1) (bd_i32 w2) (by omega) hs3 (nils_of hL))

theorem said : Rows.FnSequencesSplitSaid :=
  OpenClaim.holds_of_cond 4 Tryd.f4 rfl rfl rfl rfl rfl rfl rfl ⟨rfl, rfl, rfl, rfl, rfl⟩ rfl rfl rfl rfl rfl (by kernel_rfl) Tryd.func4 (by kernel_rfl)
    (of_decide_eq_true (by kernel_rfl)) (by unfold Func.isWrapper; first | (rw [if_pos (by decide +kernel)]; kernel_rfl) | (rw [if_neg (by decide +kernel)]; exact ⟨rfl, rfl⟩))
    (fun os started H enc _ G => by rw [OpenClaim.pre_eq_preRow]; exact lifted os started H enc G)

theorem plain (f : FuncId) (fn : Func) (hf : Tryd.pinned.checked.prog.funcNamed "pub-traverser/laws.FnSequencesSplit" = some f) (hfn : Tryd.pinned.checked.prog.funcs[f]? = some fn) :
    false = Tryd.pinned.checked.prog.looks [] ∧ ∀ (j : Nat) t, fn.params[j]? = some t → Tryd.pinned.checked.prog.wantsStandIn t = false := by
  obtain rfl : f = 4 := Option.some.inj ((show Tryd.prog.funcNamed "pub-traverser/laws.FnSequencesSplit" = some 4 by kernel_rfl).symm.trans hf) |>.symm
  obtain rfl : fn = Tryd.f4 := (Option.some.inj (Tryd.func4.symm.trans hfn)).symm
  refine ⟨by kernel_rfl, fun j t ht => ?_⟩
  rw [Tryd.params4] at ht
  have hm := Array.mem_of_getElem? ht
  simp only [List.mem_toArray, List.mem_cons, List.not_mem_nil, or_false] at hm
  rcases hm with rfl | rfl | rfl | rfl
  · exact (show Tryd.prog.wantsStandIn 21 = false by kernel_rfl)
  · exact (show Tryd.prog.wantsStandIn 21 = false by kernel_rfl)
  · exact (show Tryd.prog.wantsStandIn 21 = false by kernel_rfl)
  · exact (show Tryd.prog.wantsStandIn 22 = false by kernel_rfl)

theorem card : Rows.FnSequencesSplitCardSaid :=
  Claim7.holds_tied_plain_at .later [] _ _ _ _ said (fun _ h => by cases h) (by kernel_rfl) (fun _ h => by cases h) fnSequencesSplit_row_tie rfl ⟨rfl, rfl⟩ (by kernel_rfl) rfl plain (by kernel_rfl)
#print axioms card
end Go.Proofs.YtobcgeonobgjpaaDoor.fnSequencesSplit
