/-
  The sequences of ranges of bytes: split, valid, ascii, encode, the sequence of two letters' bytes. Conditions: as stated.
-/
import Derived.Test.YtobcgeonobgjpaaDoorSeqWC
import Derived.Test.YtobcgeonobgjpaaDoorEncode
namespace Go.Proofs.YtobcgeonobgjpaaDoor
open Go.ChangeShapes Go.WideShapes Go.ChangeAt Go.RowKit
set_option linter.unusedVariables false

theorem al1 {w : World} {p : Addr} {v : Value} (h : w.cell? p = some v) : ∀ o, (w.alloc o).cell? p = some v := fun o =>
  (((Below.refl w.heap.size w).alloc (Nat.le_refl _) o).cell (World.block_lt_of_cell? w p h)).trans h
theorem al2 {w : World} {p : Addr} {v : Value} (h : w.cell? p = some v) : ∀ o o2, ((w.alloc o).alloc o2).cell? p = some v := fun o o2 => al1 (al1 h o) o2

theorem split_yes (R : Nat) (a z : Int) (w : World) (h0 : w.cell? ⟨R, 0, none⟩ = some (.int .i32 a)) (h1 : w.cell? ⟨R, 1, none⟩ = some (.int .i32 z)) (ha : a < 57344) (hz : 55295 < z) :
    Calls Tryd.prog 19 #[.pointer (some ⟨R, 0, none⟩)] w fun e w' => e = .returned (.tuple #[.agg #[.int .i32 a, .int .i32 55295], .agg #[.int .i32 57344, .int .i32 z]]) ∧ Below w.heap.size w w' := by
  have hR := World.block_lt_of_cell? w _ h0
  have s0 := al2 h0
  have s1 := al2 h1
  clear h0 h1
  go_enter Tryd.func19, Tryd.ntmps19
  go_wp2
  go_region
  all_goals
    go_wp2
    go_returns
    exact ⟨rfl, by repeat (first | exact Below.refl _ _ | apply Below.drew | refine Below.setCell ?_ (by simp) _ | refine Below.alloc ?_ (by simp) _)⟩

theorem split_no (R : Nat) (a z : Int) (w : World) (hN : Nils w) (h0 : w.cell? ⟨R, 0, none⟩ = some (.int .i32 a)) (h1 : w.cell? ⟨R, 1, none⟩ = some (.int .i32 z)) (h : 57344 ≤ a ∨ z ≤ 55295) :
    Calls Tryd.prog 19 #[.pointer (some ⟨R, 0, none⟩)] w fun e w' => e = .returned (.tuple #[.agg #[.int .i32 65535, .int .i32 0], .agg #[.int .i32 65535, .int .i32 0]]) ∧ Below w.heap.size w w' := by
  have hR := World.block_lt_of_cell? w _ h0
  have s0 := al2 h0
  have s1 := al2 h1
  have n0 := al2 hN.s0
  have n1 := al2 hN.s1
  have hlt := hN.lt
  clear h0 h1 hN
  by_cases ha : a < 57344
  · have hz : ¬ 55295 < z := by omega
    clear h
    go_enter Tryd.func19, Tryd.ntmps19
    go_wp2
    go_region
    all_goals
      go_wp2
      go_returns
      exact ⟨rfl, by repeat (first | exact Below.refl _ _ | apply Below.drew | refine Below.setCell ?_ (by simp) _ | refine Below.alloc ?_ (by simp) _)⟩
  · clear h
    go_enter Tryd.func19, Tryd.ntmps19
    go_wp2
    go_region
    all_goals
      go_wp2
      go_returns
      exact ⟨rfl, by repeat (first | exact Below.refl _ _ | apply Below.drew | refine Below.setCell ?_ (by simp) _ | refine Below.alloc ?_ (by simp) _)⟩

theorem valid_any (R : Nat) (a z : Int) (w : World) (h0 : w.cell? ⟨R, 0, none⟩ = some (.int .i32 a)) (h1 : w.cell? ⟨R, 1, none⟩ = some (.int .i32 z)) :
    Calls Tryd.prog 20 #[.pointer (some ⟨R, 0, none⟩)] w fun e w' => e = .returned (.bool (decide (a ≤ z))) ∧ ∃ n, w' = w.drewN n := by
  go_enter Tryd.func20, Tryd.ntmps20
  go_wp2
  go_quiet (fail)
  go_wp2
  go_returns
  exact ⟨rfl, _, rfl⟩

theorem ascii_yes (R : Nat) (a z : Int) (w : World) (h0 : w.cell? ⟨R, 0, none⟩ = some (.int .i32 a)) (h1 : w.cell? ⟨R, 1, none⟩ = some (.int .i32 z)) (ha : 0 ≤ a) (haz : a ≤ z) (hz : z ≤ 127) :
    Calls Tryd.prog 22 #[.pointer (some ⟨R, 0, none⟩)] w fun e w' => e = .returned (.agg #[.int .u8 a, .int .u8 z]) ∧ Below w.heap.size w w' := by
  have hR := World.block_lt_of_cell? w _ h0
  have s0 := al1 h0
  have s1 := al1 h1
  have C := fun o => valid_any R a z (w.alloc o) (s0 o) (s1 o)
  rw [decide_eq_true haz] at C
  have C' := Lib.hid C
  clear h0 h1 C
  go_enter Tryd.func22, Tryd.ntmps22
  go_wp2_with (first | (go_at_call 20; refine (C'.out _).mono ?_; rintro e w' ⟨rfl, m, rfl⟩))
  go_region
  all_goals
    go_wp2
    go_returns
    exact ⟨rfl, by repeat (first | exact Below.refl _ _ | apply Below.drew | apply below_drewN | refine Below.setCell ?_ (by simp) _ | refine Below.alloc ?_ (by simp) _)⟩

theorem ascii_no (R : Nat) (a z : Int) (w : World) (hN : Nils w) (h0 : w.cell? ⟨R, 0, none⟩ = some (.int .i32 a)) (h1 : w.cell? ⟨R, 1, none⟩ = some (.int .i32 z)) (haz : a ≤ z) (hz : ¬ z ≤ 127) :
    Calls Tryd.prog 22 #[.pointer (some ⟨R, 0, none⟩)] w fun e w' => e = .returned (.agg #[.int .u8 255, .int .u8 0]) ∧ Below w.heap.size w w' := by
  have hR := World.block_lt_of_cell? w _ h0
  have s0 := al1 h0
  have s1 := al1 h1
  have n0 := al1 hN.r0
  have n1 := al1 hN.r1
  have hlt := hN.lt
  have C := fun o => valid_any R a z (w.alloc o) (s0 o) (s1 o)
  rw [decide_eq_true haz] at C
  have C' := Lib.hid C
  clear h0 h1 C hN
  go_enter Tryd.func22, Tryd.ntmps22
  go_wp2_with (first | (go_at_call 20; refine (C'.out _).mono ?_; rintro e w' ⟨rfl, m, rfl⟩))
  go_returns
  exact ⟨rfl, by repeat (first | exact Below.refl _ _ | apply Below.drew | apply below_drewN | refine Below.setCell ?_ (by simp) _ | refine Below.alloc ?_ (by simp) _)⟩

set_option maxHeartbeats 400000 in
theorem senc_any (gs ga gb ca cb : Nat) (x0 x1 x2 x3 y0 y1 y2 y3 : Value) (a b : Int) (w : World) (ha : isL a = true) (hb : isL b = true)
    (s0 : w.cell? ⟨gs, 0, none⟩ = some (.int .i32 a)) (s1 : w.cell? ⟨gs, 1, none⟩ = some (.int .i32 b)) (hA : Blk w ga 5 [x0, x1, x2, x3]) (hB : Blk w gb 5 [y0, y1, y2, y3]) (h1 : ga ≠ gs) (h3 : ga ≠ gb) :
    Calls Tryd.prog 23 #[.pointer (some ⟨gs, 0, none⟩), .slice (some ⟨ga, 0, none⟩) 4 ca, .slice (some ⟨gb, 0, none⟩) 4 cb] w fun e w' =>
      e = .returned (.tuple #[.int .i64 ((ub a).length : Nat), .int .i64 ((ub b).length : Nat)]) ∧ (∃ r, r.length + (ub a).length = 4 ∧ Blk w' ga 5 ((ub a).map (.int .u8) ++ r)) ∧ (∃ r, r.length + (ub b).length = 4 ∧ Blk w' gb 5 ((ub b).map (.int .u8) ++ r)) ∧
        ∃ w1, w.grownBy w1 (some ga) ∧ w1.grownBy w' (some gb) := by
  have C1 := Lib.hid (enc_any ga ca x0 x1 x2 x3 a w ha hA)
  have C2 := Lib.hid (fun (W : World) (h : Blk W gb 5 [y0, y1, y2, y3]) => enc_any gb cb y0 y1 y2 y3 b W hb h)
  have HA := Lib.hid hA
  have HB := Lib.hid hB
  have H3 := Lib.hid h3
  have S1 := Lib.hid s1
  have hgs := World.block_lt_of_cell? w _ s0
  clear hA hB s1 ha hb
  go_enter Tryd.func23, Tryd.ntmps23
  go_wp2_with fail
  refine C1.out.mono ?_
  rintro e w1 ⟨rfl, ⟨r1, hr1, hb1⟩, hg1⟩
  have s1 : w1.cell? ⟨gs, 1, none⟩ = some (.int .i32 b) := (World.cell?_of_block (w := w) (hg1.block gs hgs (fun e => h1 (by injection e with e; exact e.symm)))).trans S1.out
  have HB1 := Lib.hid (HB.out.grown hg1 (fun e => H3.out (by injection e with e; exact e.symm)))
  have HA1 := Lib.hid hb1
  have HG1 := Lib.hid hg1
  have HR1 := Lib.hid hr1
  clear hb1 hg1 hr1 HB C1
  go_wp2_with fail
  refine (C2.out _ HB1.out).mono ?_
  rintro e w2 ⟨rfl, ⟨r2, hr2, hb2⟩, hg2⟩
  have HB2 := Lib.hid hb2
  have HA2 := Lib.hid (HA1.out.grown hg2 (fun e => H3.out (by injection e)))
  have HG2 := Lib.hid hg2
  have HR2 := Lib.hid hr2
  clear hb2 hg2 hr2
  go_wp2
  go_ret2
  exact ⟨rfl, ⟨_, HR1.out, HA2.out⟩, ⟨_, HR2.out, HB2.out⟩, _, HG1.out, HG2.out⟩

end Go.Proofs.YtobcgeonobgjpaaDoor
