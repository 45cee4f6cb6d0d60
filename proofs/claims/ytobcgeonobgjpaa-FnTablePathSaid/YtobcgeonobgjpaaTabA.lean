/-
  FnTablePath: the methods of a table as an automaton. Conditions: as stated.
-/
import Derived.Test.YtobcgeonobgjpaaBase
import Derived.Handy
namespace Go.Proofs.Ytobcgeonobgjpaa.fnTablePath
open Go.ChangeShapes Go.WideShapes Go.ChangeAt Go.RowKit
set_option linter.unusedVariables false

theorem Sl.bool {w : World} {B : Nat} {a : Option Addr} {bs : List Bool} (h : Sl w B a (bs.map .bool)) (j : Nat) (hj : j < bs.length) :
    ∃ ad, a = some ad ∧ ad.block < B ∧ w.cell? (ad.add j) = some (.bool bs[j]) := h j _ (by rw [List.getElem?_map, List.getElem?_eq_getElem hj]; rfl)

set_option maxHeartbeats 400000 in
theorem iat_any (a : Option Addr) (c k : Nat) (bs : List Bool) (w : World) (hs : Sl w w.heap.size a (bs.map .bool)) (hk : k < bs.length) (hl : bs.length ≤ 2147483647) :
    Calls Try.prog 54 #[.slice a bs.length c, .int .i64 k] w fun e w' => e = .returned (.bool bs[k]) ∧ Below w.heap.size w w' := by
  obtain ⟨ad, rfl, hb, hc⟩ := Sl.bool hs k hk
  generalize bs[k] = r at *
  clear hs
  go_enter Try.func54, Try.ntmps54
  go_wp2
  go_returns
  exact ⟨rfl, Below.refl _ _⟩

set_option maxHeartbeats 400000 in
theorem ismatch_any (st : Int) (a0 a1 a2 a3 a4 : Option Addr) (n0 n1 n3 n4 c0 c1 c2 c3 c4 k : Nat) (bs : List Bool) (w : World) (hs : Sl w w.heap.size a2 (bs.map .bool)) (hk : k < bs.length) (hl : bs.length ≤ 2147483647) :
    Calls Try.prog 51 #[.agg #[.int .i64 st, .slice a0 n0 c0, .slice a1 n1 c1, .slice a2 bs.length c2, .slice a3 n3 c3, .slice a4 n4 c4], .int .i64 ((k : Int) + 2)] w fun e w' => e = .returned (.bool bs[k]) ∧ Below w.heap.size w w' := by
  have C := Lib.hid (fun (W : World) (hb : Below w.heap.size w W) => iat_any a2 c2 k bs W ((hs.below hb).more hb.size) hk hl)
  have ew : IntKind.i64.wrap ((k : Int) + 2 - 2) = k := by rw [IntKind.wrap_i64]; omega
  generalize bs[k] = r at *
  clear hs
  go_enter Try.func51, Try.ntmps51
  go_wp2_with (go_at_call 54; refine (C.out _ ((Below.refl _ _).alloc (Nat.le_refl _) _)).mono ?_; rintro e w1 ⟨rfl, hb1⟩)
  go_returns
  exact ⟨rfl, ((Below.refl _ _).alloc (Nat.le_refl _) _).trans (hb1.mono (by simp))⟩

set_option maxHeartbeats 400000 in
theorem canmatch_any (st : Int) (a0 a1 a2 a3 a4 : Option Addr) (n0 n1 n2 n4 c0 c1 c2 c3 c4 k : Nat) (bs : List Bool) (w : World) (hs : Sl w w.heap.size a3 (bs.map .bool)) (hk : k < bs.length) (hl : bs.length ≤ 2147483647) :
    Calls Try.prog 50 #[.agg #[.int .i64 st, .slice a0 n0 c0, .slice a1 n1 c1, .slice a2 n2 c2, .slice a3 bs.length c3, .slice a4 n4 c4], .int .i64 ((k : Int) + 2)] w fun e w' => e = .returned (.bool bs[k]) ∧ Below w.heap.size w w' := by
  have C := Lib.hid (fun (W : World) (hb : Below w.heap.size w W) => iat_any a3 c3 k bs W ((hs.below hb).more hb.size) hk hl)
  have ew : IntKind.i64.wrap ((k : Int) + 2 - 2) = k := by rw [IntKind.wrap_i64]; omega
  generalize bs[k] = r at *
  clear hs
  go_enter Try.func50, Try.ntmps50
  go_wp2_with (go_at_call 54; refine (C.out _ ((Below.refl _ _).alloc (Nat.le_refl _) _)).mono ?_; rintro e w1 ⟨rfl, hb1⟩)
  go_returns
  exact ⟨rfl, ((Below.refl _ _).alloc (Nat.le_refl _) _).trans (hb1.mono (by simp))⟩

set_option maxHeartbeats 400000 in
theorem will_any (st : Int) (a0 a1 a2 a3 a4 : Option Addr) (n0 n1 n2 n3 c0 c1 c2 c3 c4 k : Nat) (bs : List Bool) (w : World) (hs : Sl w w.heap.size a4 (bs.map .bool)) (hk : k < bs.length) (hl : bs.length ≤ 2147483647) :
    Calls Try.prog 53 #[.agg #[.int .i64 st, .slice a0 n0 c0, .slice a1 n1 c1, .slice a2 n2 c2, .slice a3 n3 c3, .slice a4 bs.length c4], .int .i64 ((k : Int) + 2)] w fun e w' => e = .returned (.bool bs[k]) ∧ Below w.heap.size w w' := by
  have C := Lib.hid (fun (W : World) (hb : Below w.heap.size w W) => iat_any a4 c4 k bs W ((hs.below hb).more hb.size) hk hl)
  have ew : IntKind.i64.wrap ((k : Int) + 2 - 2) = k := by rw [IntKind.wrap_i64]; omega
  generalize bs[k] = r at *
  clear hs
  go_enter Try.func53, Try.ntmps53
  go_wp2_with (go_at_call 54; refine (C.out _ ((Below.refl _ _).alloc (Nat.le_refl _) _)).mono ?_; rintro e w1 ⟨rfl, hb1⟩)
  go_returns
  exact ⟨rfl, ((Below.refl _ _).alloc (Nat.le_refl _) _).trans (hb1.mono (by simp))⟩

set_option maxHeartbeats 400000 in
theorem start_any (st : Int) (a0 a1 a2 a3 a4 : Option Addr) (n0 n1 n2 n3 n4 c0 c1 c2 c3 c4 : Nat) (w : World) (h : 0 ≤ st ∧ st ≤ 2147483647) :
    Calls Try.prog 52 #[.agg #[.int .i64 st, .slice a0 n0 c0, .slice a1 n1 c1, .slice a2 n2 c2, .slice a3 n3 c3, .slice a4 n4 c4]] w fun e w' => e = .returned (.int .i64 (st + 2)) ∧ Below w.heap.size w w' := by
  go_enter Try.func52, Try.ntmps52
  go_wp2
  go_returns
  exact ⟨rfl, (Below.refl _ _).alloc (Nat.le_refl _) _⟩

set_option maxHeartbeats 800000 in
theorem accept_any (st : Int) (a0 a1 a2 a3 a4 ar : Option Addr) (n2 n3 n4 c0 c1 c2 c3 c4 k n nr cr : Nat) (cl b to : Int) (cls : List Int) (w : World) (hcl : cls.length = 256) (hk : k < n) (hn : n ≤ 2147483647) (hb : 0 ≤ b ∧ b ≤ 255)
    (h0 : ∃ ad, a0 = some ad ∧ w.cell? (ad.add b.toNat) = some (.int .i64 cl)) (h1 : ∃ ad, a1 = some ad ∧ w.cell? (ad.add k) = some (.slice ar nr cr)) (hc : 0 ≤ cl ∧ cl < nr) (hnr : nr ≤ 2147483647)
    (h2 : ∃ ad, ar = some ad ∧ w.cell? (ad.add cl.toNat) = some (.int .i64 to)) (ht : 0 ≤ to ∧ to ≤ 2147483647) :
    Calls Try.prog 49 #[.agg #[.int .i64 st, .slice a0 256 c0, .slice a1 n c1, .slice a2 n2 c2, .slice a3 n3 c3, .slice a4 n4 c4], .int .i64 ((k : Int) + 2), .int .u8 b] w fun e w' => e = .returned (.int .i64 (to + 2)) ∧ Below w.heap.size w w' := by
  obtain ⟨d0, rfl, h0⟩ := h0
  obtain ⟨d1, rfl, h1⟩ := h1
  obtain ⟨d2, rfl, h2⟩ := h2
  have l0 := World.block_lt_of_cell? w _ h0
  have l1 := World.block_lt_of_cell? w _ h1
  have l2 := World.block_lt_of_cell? w _ h2
  have ew : IntKind.i64.wrap ((k : Int) + 2 - 2) = k := by rw [IntKind.wrap_i64]; omega
  go_enter Try.func49, Try.ntmps49
  go_wp2
  go_returns
  exact ⟨rfl, (Below.refl _ _).alloc (Nat.le_refl _) _⟩

end Go.Proofs.Ytobcgeonobgjpaa.fnTablePath
