/-
  FnRegexThen: the last step: the row of the law out of its walk, and the card. Conditions: the listed variables, which the card ties.
-/
import Derived.Test.YtbkpgfccghombaaDoorU00
import Derived.Test.YtbkpgfccghombaaDoorM17
import Derived.Test.YtbkpgfccghombaaDoorM18
import Derived.Test.YtbkpgfccghombaaDoorShelfZz
import Derived.Test.YtbkpgfccghombaaDoorCards
import Derived.Test.YtbkpgfccghombaaDoorTie
import Derived.SevenTiedAt
import Derived.Lib.LaidCaseMet
import Derived.PinnedBridge
import Derived.Lib.LaidSlice
import Derived.Deep.CondSized
namespace Go.Proofs.YtbkpgfccghombaaDoor.fnRegexThen
open Go.ChangeShapes Go.WideShapes Go.ChangeAt Go.RowKit
open Go.ChangeMaps (open_string shut_string)
set_option linter.unusedVariables false

noncomputable def laidWorld (os : Os) : World :=
  let N := (World.settled Tryd.prog os).heap.size
  let w0 := World.holding Tryd.prog os ⟨#[.cells #[.int .u16 75, .int .u16 107, .int .u16 83, .int .u16 115, .int .u16 107, .int .u16 8490, .int .u16 115, .int .u16 383, .int .u16 181, .int .u16 924, .int .u16 197, .int .u16 229, .int .u16 223, .int .u16 7838, .int .u16 229, .int .u16 8491, .int .u16 304, .int .u16 304, .int .u16 305, .int .u16 305, .int .u16 383, .int .u16 83, .int .u16 452, .int .u16 453, .int .u16 453, .int .u16 454, .int .u16 454, .int .u16 452, .int .u16 455, .int .u16 456, .int .u16 456, .int .u16 457, .int .u16 457, .int .u16 455, .int .u16 458, .int .u16 459, .int .u16 459, .int .u16 460, .int .u16 460, .int .u16 458, .int .u16 497, .int .u16 498, .int .u16 498, .int .u16 499, .int .u16 499, .int .u16 497, .int .u16 837, .int .u16 921, .int .u16 912, .int .u16 8147, .int .u16 914, .int .u16 946, .int .u16 917, .int .u16 949, .int .u16 920, .int .u16 952, .int .u16 921, .int .u16 953, .int .u16 922, .int .u16 954, .int .u16 924, .int .u16 956, .int .u16 928, .int .u16 960, .int .u16 929, .int .u16 961, .int .u16 931, .int .u16 962, .int .u16 934, .int .u16 966, .int .u16 937, .int .u16 969, .int .u16 944, .int .u16 8163, .int .u16 946, .int .u16 976, .int .u16 949, .int .u16 1013, .int .u16 952, .int .u16 977, .int .u16 953, .int .u16 8126, .int .u16 954, .int .u16 1008, .int .u16 956, .int .u16 181, .int .u16 960, .int .u16 982, .int .u16 961, .int .u16 1009, .int .u16 962, .int .u16 963, .int .u16 963, .int .u16 931, .int .u16 966, .int .u16 981, .int .u16 969, .int .u16 8486, .int .u16 976, .int .u16 914, .int .u16 977, .int .u16 1012, .int .u16 981, .int .u16 934, .int .u16 982, .int .u16 928, .int .u16 1008, .int .u16 922, .int .u16 1009, .int .u16 929, .int .u16 1012, .int .u16 920, .int .u16 1013, .int .u16 917, .int .u16 1042, .int .u16 1074, .int .u16 1044, .int .u16 1076, .int .u16 1054, .int .u16 1086, .int .u16 1057, .int .u16 1089, .int .u16 1058, .int .u16 1090, .int .u16 1066, .int .u16 1098, .int .u16 1074, .int .u16 7296, .int .u16 1076, .int .u16 7297, .int .u16 1086, .int .u16 7298, .int .u16 1089, .int .u16 7299, .int .u16 1090, .int .u16 7300, .int .u16 1098, .int .u16 7302, .int .u16 1122, .int .u16 1123, .int .u16 1123, .int .u16 7303, .int .u16 7296, .int .u16 1042, .int .u16 7297, .int .u16 1044, .int .u16 7298, .int .u16 1054, .int .u16 7299, .int .u16 1057, .int .u16 7300, .int .u16 7301, .int .u16 7301, .int .u16 1058, .int .u16 7302, .int .u16 1066, .int .u16 7303, .int .u16 1122, .int .u16 7304, .int .u16 42570, .int .u16 7776, .int .u16 7777, .int .u16 7777, .int .u16 7835, .int .u16 7835, .int .u16 7776, .int .u16 7838, .int .u16 223, .int .u16 8126, .int .u16 837, .int .u16 8147, .int .u16 912, .int .u16 8163, .int .u16 944, .int .u16 8486, .int .u16 937, .int .u16 8490, .int .u16 75, .int .u16 8491, .int .u16 197, .int .u16 42570, .int .u16 42571, .int .u16 42571, .int .u16 7304, .int .u16 64261, .int .u16 64262, .int .u16 64262, .int .u16 64261] 177, .cells #[.string ⟨#[100, 102, 97, 32, 99, 111, 110, 116, 97, 105, 110, 115, 32, 109, 111, 114, 101, 32, 116, 104, 97, 110, 32, 49, 48, 48, 48, 48, 32, 115, 116, 97, 116, 101, 115]⟩] 210, .cells #[.string ⟨#[122, 101, 114, 111, 32, 119, 105, 100, 116, 104, 32, 97, 115, 115, 101, 114, 116, 105, 111, 110, 115, 32, 110, 111, 116, 32, 97, 108, 108, 111, 119, 101, 100]⟩] 210, .cells #[.string ⟨#[119, 111, 114, 100, 32, 98, 111, 117, 110, 100, 97, 114, 105, 101, 115, 32, 97, 114, 101, 32, 110, 111, 116, 32, 97, 108, 108, 111, 119, 101, 100]⟩] 210, .cells #[.string ⟨#[108, 97, 122, 121, 32, 113, 117, 97, 110, 116, 105, 102, 105, 101, 114, 115, 32, 97, 114, 101, 32, 110, 111, 116, 32, 97, 108, 108, 111, 119, 101, 100]⟩] 210, .cells #[.string ⟨#[116, 111, 111, 32, 109, 97, 110, 121, 32, 105, 110, 115, 116, 114, 117, 99, 116, 105, 111, 110, 115]⟩] 210, .cells Lib.caseCells5 204], #[], []⟩
  let put (h : Array Obj) (g : Nat) (cs : Array Value) : Array Obj := h.modify g fun
    | .cells _ t frozen => .cells cs t frozen
    | o => o
  let h1 := put w0.heap 8 #[.int .i32 65535, .int .i32 0]
  let h2 := put h1 9 #[.int .u8 255, .int .u8 0]
  let h3 := put h2 5 #[.int .u16 0, .int .u16 1, .int .u16 2, .int .u16 3, .int .u16 4, .int .u16 5, .int .u16 6, .int .u16 7, .int .u16 8, .int .u16 9, .int .u16 10, .int .u16 11, .int .u16 12, .int .u16 13, .int .u16 14, .int .u16 15, .int .u16 16, .int .u16 17, .int .u16 18, .int .u16 19, .int .u16 20, .int .u16 21, .int .u16 22, .int .u16 23, .int .u16 24, .int .u16 25, .int .u16 26, .int .u16 27, .int .u16 28, .int .u16 29, .int .u16 30, .int .u16 31, .int .u16 32, .int .u16 33, .int .u16 34, .int .u16 35, .int .u16 36, .int .u16 37, .int .u16 38, .int .u16 39, .int .u16 40, .int .u16 41, .int .u16 42, .int .u16 43, .int .u16 44, .int .u16 45, .int .u16 46, .int .u16 47, .int .u16 48, .int .u16 49, .int .u16 50, .int .u16 51, .int .u16 52, .int .u16 53, .int .u16 54, .int .u16 55, .int .u16 56, .int .u16 57, .int .u16 58, .int .u16 59, .int .u16 60, .int .u16 61, .int .u16 62, .int .u16 63, .int .u16 64, .int .u16 97, .int .u16 98, .int .u16 99, .int .u16 100, .int .u16 101, .int .u16 102, .int .u16 103, .int .u16 104, .int .u16 105, .int .u16 106, .int .u16 107, .int .u16 108, .int .u16 109, .int .u16 110, .int .u16 111, .int .u16 112, .int .u16 113, .int .u16 114, .int .u16 115, .int .u16 116, .int .u16 117, .int .u16 118, .int .u16 119, .int .u16 120, .int .u16 121, .int .u16 122, .int .u16 91, .int .u16 92, .int .u16 93, .int .u16 94, .int .u16 95, .int .u16 96, .int .u16 65, .int .u16 66, .int .u16 67, .int .u16 68, .int .u16 69, .int .u16 70, .int .u16 71, .int .u16 72, .int .u16 73, .int .u16 74, .int .u16 8490, .int .u16 76, .int .u16 77, .int .u16 78, .int .u16 79, .int .u16 80, .int .u16 81, .int .u16 82, .int .u16 383, .int .u16 84, .int .u16 85, .int .u16 86, .int .u16 87, .int .u16 88, .int .u16 89, .int .u16 90, .int .u16 123, .int .u16 124, .int .u16 125, .int .u16 126, .int .u16 127]
  let h4 := put h3 6 #[.slice (some ⟨N, 0, none⟩) 94 94]
  let h5 := put h4 4 #[.iface 208 (.pointer (some ⟨N + 1, 0, none⟩))]
  let h6 := put h5 1 #[.iface 208 (.pointer (some ⟨N + 2, 0, none⟩))]
  let h7 := put h6 2 #[.iface 208 (.pointer (some ⟨N + 3, 0, none⟩))]
  let h8 := put h7 0 #[.iface 208 (.pointer (some ⟨N + 4, 0, none⟩))]
  let h9 := put h8 3 #[.iface 208 (.pointer (some ⟨N + 5, 0, none⟩))]
  let h10 := put h9 7 #[.slice (some ⟨N + 6, 0, none⟩) 336 336]
  { w0 with heap := h10 }

set_option maxRecDepth 1000000 in
def caseRen : Go.Shelf.Ren := ⟨Tryd.lays274_ren.f, Tryd.lays274_ren.t, fun | 13 => 7 | n => n⟩
theorem caseLays : Go.Proofs.Lays.n274 Tryd.prog caseRen := { Tryd.lays274 with }
noncomputable abbrev N0 : Nat := (World.settled Tryd.prog default).heap.size
theorem listed : Rows.fnRegexThenRow.laid.take 9 ++ [("unicode.CaseRanges", Lib.caseData)] = Rows.fnRegexThenRow.laid := by
  rw [← Pinned.caseRanges_eq]
  rfl
set_option maxRecDepth 1000000 in
theorem laid_met (os : Os) : laidMet Tryd.prog Rows.fnRegexThenRow.laid ((laidWorld os).forCall (fun _ _ => 0) ⟨#[], #[.agg #[.int .i64 0, .slice none 0 0, .int .i64 0, .int .i64 0, .bool false, .bool false, .slice none 0 0], .agg #[.int .i64 0, .slice none 0 0, .int .i64 0, .int .i64 0, .bool false, .bool false, .slice none 0 0], .string ⟨#[]⟩], []⟩).memory := by
  rw [← listed]
  exact laidMet_with_case (ρ := caseRen) caseLays (by kernel_rfl) ⟨by kernel_rfl, by kernel_rfl, by kernel_rfl, by kernel_rfl, by kernel_rfl, by kernel_rfl⟩ (l := Rows.fnRegexThenRow.laid.take 9)
    10 (by kernel_rfl) (by kernel_rfl) (by kernel_rfl) (N0 + 6) 204 (of_decide_eq_true (by kernel_rfl)) (by kernel_rfl) (by kernel_rfl) (by kernel_rfl)

theorem witness_row (os : Os) {H : Type} (enc : TypeId × Value → H) :
    (OpenSpec.ofChange Rows.fnRegexThenSpec).preRow enc Tryd.prog Tryd.f6 Rows.fnRegexThenRow.domain false Rows.fnRegexThenRow.laid ((laidWorld os).forCall (fun _ _ => 0) ⟨#[], #[.agg #[.int .i64 0, .slice none 0 0, .int .i64 0, .int .i64 0, .bool false, .bool false, .slice none 0 0], .agg #[.int .i64 0, .slice none 0 0, .int .i64 0, .int .i64 0, .bool false, .bool false, .slice none 0 0], .string ⟨#[]⟩], []⟩).memory #[.agg #[.int .i64 0, .slice none 0 0, .int .i64 0, .int .i64 0, .bool false, .bool false, .slice none 0 0], .agg #[.int .i64 0, .slice none 0 0, .int .i64 0, .int .i64 0, .bool false, .bool false, .slice none 0 0], .string ⟨#[]⟩] := by
  have hw : (DataW.whole enc Tryd.prog ((laidWorld os).forCall (fun _ _ => 0) ⟨#[], #[.agg #[.int .i64 0, .slice none 0 0, .int .i64 0, .int .i64 0, .bool false, .bool false, .slice none 0 0], .agg #[.int .i64 0, .slice none 0 0, .int .i64 0, .int .i64 0, .bool false, .bool false, .slice none 0 0], .string ⟨#[]⟩], []⟩).memory Tryd.f6.params.toList Rows.fnRegexThenSpec.vars false (#[(.agg #[.int .i64 0, .slice none 0 0, .int .i64 0, .int .i64 0, .bool false, .bool false, .slice none 0 0] : Value), .agg #[.int .i64 0, .slice none 0 0, .int .i64 0, .int .i64 0, .bool false, .bool false, .slice none 0 0], .string ⟨#[]⟩] : Array Value).toList 8).map (fun x => (x.1, x.2.1)) =
      some ([.agg [.lit (.int .i64 0), .nil, .lit (.int .i64 0), .lit (.int .i64 0), .lit (.bool false), .lit (.bool false), .nil], .agg [.lit (.int .i64 0), .nil, .lit (.int .i64 0), .lit (.int .i64 0), .lit (.bool false), .lit (.bool false), .nil], .lit (.string [])], []) := by kernel_rfl
  obtain ⟨⟨x1, x2, x3⟩, hx, hx1⟩ := Option.map_eq_some_iff.1 hw
  simp only [Prod.mk.injEq] at hx1
  obtain ⟨rfl, rfl⟩ := hx1
  exact OpenSpec.preRow_of_cond 8 hx (by kernel_rfl) (fun k hk => by cases hk) (by kernel_rfl) (laid_met os)

set_option maxRecDepth 100000 in
set_option maxHeartbeats 2000000 in
theorem lifted (os : Os) (started : os.Started) (H : Type) (enc : TypeId × Value → H) (G : Stop.Interp) :
    ReturnsInHanded {} Tryd.checked os 6 .any ((OpenSpec.ofChange Rows.fnRegexThenSpec).preRow enc Tryd.prog Tryd.f6 Rows.fnRegexThenRow.domain false Rows.fnRegexThenRow.laid) (((OpenSpec.ofChange Rows.fnRegexThenSpec).at G).post enc Tryd.prog Tryd.f6 false true false false) := by
  refine law_lift_row (C := Tryd.checked) own started (by kernel_rfl) Tryd.func6 laidOut rfl rfl Tryd.underlying4 (by kernel_rfl) (fun ds h => by match ds, h with | [_, _, _], _ => rfl)
    (witness_row_atRef (enc := enc) (C := Tryd.checked) false (laidWorld os) #[.agg #[.int .i64 0, .slice none 0 0, .int .i64 0, .int .i64 0, .bool false, .bool false, .slice none 0 0], .agg #[.int .i64 0, .slice none 0 0, .int .i64 0, .int .i64 0, .bool false, .bool false, .slice none 0 0], .string ⟨#[]⟩] rfl (by kernel_rfl) (by kernel_rfl) (by kernel_rfl) (witness_row os enc)) ?_
  intro W base args ds p hval hA hlt hsz hL
  rw [Tryd.params6] at hA hval hsz
  obtain ⟨v0, vs0, d0, ds0, p0, u0, hargs, rfl, rfl, h0, r0⟩ := trodAll_cons hA
  obtain ⟨v1, vs1, d1, ds1, p1, u1, rfl, rfl, rfl, h1, r1⟩ := trodAll_cons r0
  obtain ⟨v2, vs2, d2, ds2, p2, u2, rfl, rfl, rfl, h2, r2⟩ := trodAll_cons r1
  obtain ⟨rfl, rfl, rfl⟩ := trodAll_nil r2
  obtain rfl : args = #[v0, v1, v2] := by cases args; simp_all
  have k0 := hval 0 25 v0 rfl rfl
  have q0 : ∀ x ∈ p0, x.block < W.heap.size := fun x hx => hlt x (by simp [hx])
  have k1 := hval 1 25 v1 rfl rfl
  have q1 : ∀ x ∈ p1, x.block < W.heap.size := fun x hx => hlt x (by simp [hx])
  obtain ⟨t2, rfl, rfl, rfl, m2⟩ := open_string Tryd.underlying9 (hval 2 9 v2 rfl rfl) h2
  exact (by obtain ⟨cs, rfl, hR⟩ := rx.open_raw k0 h0 q0; obtain ⟨cs2, rfl, hQ⟩ := rx.open_raw k1 h1 q1; obtain ⟨b0, b1, b2, b3, b4, hLD⟩ := rx.laid_all hL; exact rx.then_walk cs cs2 t2 W hR hQ hLD (by unfold maxLen at m2; omega))

theorem said : Rows.FnRegexThenSaid :=
  OpenClaim.holds_of_cond 6 Tryd.f6 rfl rfl rfl rfl rfl rfl rfl ⟨rfl, rfl, rfl, rfl, rfl⟩ rfl rfl rfl rfl rfl (by kernel_rfl) Tryd.func6 (by kernel_rfl)
    (of_decide_eq_true (by kernel_rfl)) (by unfold Func.isWrapper; first | (rw [if_pos (by decide +kernel)]; kernel_rfl) | (rw [if_neg (by decide +kernel)]; exact ⟨rfl, rfl⟩))
    (fun os started H enc _ G => by rw [OpenClaim.pre_eq_preRow]; exact lifted os started H enc G)

theorem plain (f : FuncId) (fn : Func) (hf : Tryd.pinned.checked.prog.funcNamed "pub-traverser/laws.FnRegexThen" = some f) (hfn : Tryd.pinned.checked.prog.funcs[f]? = some fn) :
    true = Tryd.pinned.checked.prog.looks [] ∧ ∀ (j : Nat) t, fn.params[j]? = some t → Tryd.pinned.checked.prog.wantsStandIn t = false := by
  obtain rfl : f = 6 := Option.some.inj ((show Tryd.prog.funcNamed "pub-traverser/laws.FnRegexThen" = some 6 by kernel_rfl).symm.trans hf) |>.symm
  obtain rfl : fn = Tryd.f6 := (Option.some.inj (Tryd.func6.symm.trans hfn)).symm
  refine ⟨by kernel_rfl, fun j t ht => ?_⟩
  rw [Tryd.params6] at ht
  have hm := Array.mem_of_getElem? ht
  simp only [List.mem_toArray, List.mem_cons, List.not_mem_nil, or_false] at hm
  rcases hm with rfl | rfl | rfl
  · exact (show Tryd.prog.wantsStandIn 25 = false by kernel_rfl)
  · exact (show Tryd.prog.wantsStandIn 25 = false by kernel_rfl)
  · exact (show Tryd.prog.wantsStandIn 9 = false by kernel_rfl)

theorem card : Rows.FnRegexThenCardSaid :=
  Claim7.holds_tied_plain_at .later [] _ _ _ _ said (fun _ h => by cases h) (by kernel_rfl) (fun _ h => by cases h) fnRegexThen_row_tie rfl ⟨rfl, rfl⟩ (by kernel_rfl) rfl plain (by kernel_rfl)
#print axioms card
end Go.Proofs.YtbkpgfccghombaaDoor.fnRegexThen
