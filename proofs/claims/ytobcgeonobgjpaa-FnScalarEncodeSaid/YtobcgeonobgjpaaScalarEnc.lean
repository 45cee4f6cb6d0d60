/-
  FnScalarEncode: the ends of a range are encoded as letters are. Conditions: none.
-/
import Derived.Test.YtobcgeonobgjpaaEncode
import Derived.Test.YtobcgeonobgjpaaSameBytes
namespace Go.Proofs.Ytobcgeonobgjpaa.fnScalarEncode
open Go.ChangeShapes Go.WideShapes Go.ChangeAt Go.RowKit
set_option linter.unusedVariables false

theorem below_only {B g : Nat} {w w' : World} (h : w.grownBy w' (some g)) (hB : B ≤ g) (hs : g < w.heap.size) : Below B w w' :=
  ⟨h.os, h.tape, h.output, h.size, fun k hk => h.block k (by omega) (fun e => by injection e; omega)⟩

set_option maxHeartbeats 400000 in
theorem senc_any (gs ga gb ca cb : Nat) (x0 x1 x2 x3 y0 y1 y2 y3 : Value) (a b : Int) (w : World) (ha : isL a = true) (hb : isL b = true)
    (s0 : w.cell? ⟨gs, 0, none⟩ = some (.int .i32 a)) (s1 : w.cell? ⟨gs, 1, none⟩ = some (.int .i32 b)) (hA : Blk w ga 5 [x0, x1, x2, x3]) (hB : Blk w gb 5 [y0, y1, y2, y3]) (h1 : ga ≠ gs) (h3 : ga ≠ gb)
    (B : Nat) (hBa : B ≤ ga) (hBb : B ≤ gb) :
    Calls Try.prog 29 #[.pointer (some ⟨gs, 0, none⟩), .slice (some ⟨ga, 0, none⟩) 4 ca, .slice (some ⟨gb, 0, none⟩) 4 cb] w fun e w' =>
      e = .returned (.tuple #[.int .i64 ((ub a).length : Nat), .int .i64 ((ub b).length : Nat)]) ∧ (∃ r, Blk w' ga 5 ((ub a).map (.int .u8) ++ r)) ∧ (∃ r, Blk w' gb 5 ((ub b).map (.int .u8) ++ r)) ∧ Below B w w' := by
  have C1 := Lib.hid (enc_any ga ca x0 x1 x2 x3 a w ha hA)
  have C2 := Lib.hid (fun (W : World) (h : Blk W gb 5 [y0, y1, y2, y3]) => enc_any gb cb y0 y1 y2 y3 b W hb h)
  have HA := Lib.hid hA
  have HB := Lib.hid hB
  have H3 := Lib.hid h3
  have S1 := Lib.hid s1
  have hgs := World.block_lt_of_cell? w _ s0
  clear hA hB s1 ha hb
  go_enter Try.func29, Try.ntmps29
  go_wp2_with fail
  refine C1.out.mono ?_
  rintro e w1 ⟨rfl, ⟨r1, hr1, hb1⟩, hg1⟩
  have s1 : w1.cell? ⟨gs, 1, none⟩ = some (.int .i32 b) := (World.cell?_of_block (w := w) (hg1.block gs hgs (fun e => h1 (by injection e with e; exact e.symm)))).trans S1.out
  have HB1 := Lib.hid (HB.out.grown hg1 (fun e => H3.out (by injection e with e; exact e.symm)))
  have HA1 := Lib.hid hb1
  have HG1 := Lib.hid hg1
  clear hb1 hg1 hr1 HB C1
  go_wp2_with fail
  refine (C2.out _ HB1.out).mono ?_
  rintro e w2 ⟨rfl, ⟨r2, hr2, hb2⟩, hg2⟩
  have HB2 := Lib.hid hb2
  have HA2 := Lib.hid (HA1.out.grown hg2 (fun e => H3.out (by injection e)))
  have HBEL := Lib.hid ((below_only HG1.out hBa HA.out.lt).trans (below_only hg2 hBb HB1.out.lt))
  clear hb2 hg2 hr2
  go_wp2
  go_ret2
  exact ⟨rfl, ⟨_, HA2.out⟩, ⟨_, HB2.out⟩, HBEL.out⟩

theorem three (w : World) (t t1 t2 : TypeId) (l l1 l2 : List Value) :
    Blk ((((w.alloc (.cells l.toArray t)).alloc (.cells l1.toArray t1)).alloc (.cells l2.toArray t2)).drew) w.heap.size t l ∧
    Blk ((((w.alloc (.cells l.toArray t)).alloc (.cells l1.toArray t1)).alloc (.cells l2.toArray t2)).drew) (w.heap.size + 1) t1 l1 ∧
    Blk ((((w.alloc (.cells l.toArray t)).alloc (.cells l1.toArray t1)).alloc (.cells l2.toArray t2)).drew) (w.heap.size + 1 + 1) t2 l2 := by
  refine ⟨(((Blk.new w t l).alloc _).alloc _).drew, ?_, ?_⟩
  · have h := ((Blk.new (w.alloc (.cells l.toArray t)) t1 l1).alloc (.cells l2.toArray t2)).drew
    simpa using h
  · have h := (Blk.new ((w.alloc (.cells l.toArray t)).alloc (.cells l1.toArray t1)) t2 l2).drew
    simpa using h

theorem sl_pre {w : World} {B : Nat} {a : Option Addr} {xs ys : List Value} (h : Sl w B a (xs ++ ys)) : Sl w B a xs := fun j v hv =>
  h j v (by rw [List.getElem?_append_left (List.getElem?_eq_some_iff.1 hv).1]; exact hv)

theorem ub_le (r : Int) : (ub r).length ≤ 4 := by
  unfold ub
  split
  · simp
  · split
    · simp
    · split <;> simp

set_option maxHeartbeats 800000 in
theorem ienc_any (a b : Int) (w : World) (ha : isL a = true) (hb : isL b = true) :
    Calls Try.prog 11 #[.int .i32 a, .int .i32 b] w fun e w' => ∃ v u, e = .returned (.tuple #[v, u]) ∧ BytesV w' v (ub a) ∧ BytesV w' u (ub b) ∧ Below w.heap.size w w' := by
  have hmk : ∀ w : World, (Instr.makeSlice 31 (.int .i64 4) (.int .i64 4)).run Try.prog w = .ok (.slice (some ⟨w.heap.size, 0, none⟩) 4 4) (w.alloc (.cells #[.int .u8 0, .int .u8 0, .int .u8 0, .int .u8 0] 5)) := fun _ => by kernel_rfl
  go_enter Try.func11, Try.ntmps11
  go_wp2
  go_region
  · go_wp2_with fail
    obtain ⟨t0, t1, t2⟩ := three w 72 5 5 [.int .i32 a, .int .i32 b] [.int .u8 0, .int .u8 0, .int .u8 0, .int .u8 0] [.int .u8 0, .int .u8 0, .int .u8 0, .int .u8 0]
    refine (senc_any w.heap.size (w.heap.size + 1) (w.heap.size + 1 + 1) 4 4 _ _ _ _ _ _ _ _ a b _ ha hb (t0.cell 0) (t0.cell 1) t1 t2 (by omega) (by omega) w.heap.size (by omega) (by omega)).mono ?_
    rintro e w1 ⟨rfl, ⟨ra, hA⟩, ⟨rb, hB⟩, hbel⟩
    have HA := Lib.hid (sl_pre (hA.sl hA.lt))
    have HB := Lib.hid (sl_pre (hB.sl hB.lt))
    have HBEL := Lib.hid ((((((Below.refl w.heap.size w).alloc (Nat.le_refl _) _).alloc (by simp) _).alloc (by simp; omega) _).drew).trans hbel)
    have k1 := ub_le a
    have k2 := ub_le b
    have k3 : ((ub a).length : Int) ≤ 4 := by omega
    have k4 : ((ub b).length : Int) ≤ 4 := by omega
    clear hA hB hbel t0 t1 t2 ha hb
    go_wp2
    go_quiet (fail)
    go_wp2
    go_ret2
    exact ⟨_, _, rfl, ⟨_, _, rfl, HA.out⟩, ⟨_, _, rfl, HB.out⟩, below_drewN HBEL.out _⟩
  · go_wp2_with fail
    obtain ⟨t0, t1, t2⟩ := three w 72 5 5 [.int .i32 a, .int .i32 b] [.int .u8 0, .int .u8 0, .int .u8 0, .int .u8 0] [.int .u8 0, .int .u8 0, .int .u8 0, .int .u8 0]
    refine (senc_any w.heap.size (w.heap.size + 1 + 1) (w.heap.size + 1) 4 4 _ _ _ _ _ _ _ _ a b _ ha hb (t0.cell 0) (t0.cell 1) t2 t1 (by omega) (by omega) w.heap.size (by omega) (by omega)).mono ?_
    rintro e w1 ⟨rfl, ⟨ra, hA⟩, ⟨rb, hB⟩, hbel⟩
    have HA := Lib.hid (sl_pre (hA.sl hA.lt))
    have HB := Lib.hid (sl_pre (hB.sl hB.lt))
    have HBEL := Lib.hid ((((((Below.refl w.heap.size w).alloc (Nat.le_refl _) _).alloc (by simp) _).alloc (by simp; omega) _).drew).trans hbel)
    have k1 := ub_le a
    have k2 := ub_le b
    have k3 : ((ub a).length : Int) ≤ 4 := by omega
    have k4 : ((ub b).length : Int) ≤ 4 := by omega
    clear hA hB hbel t0 t1 t2 ha hb
    go_wp2
    go_quiet (fail)
    go_wp2
    go_ret2
    exact ⟨_, _, rfl, ⟨_, _, rfl, HA.out⟩, ⟨_, _, rfl, HB.out⟩, below_drewN HBEL.out _⟩

theorem sameL_self (xs : List Int) : sameL xs xs = true := decide_eq_true rfl

set_option maxHeartbeats 800000 in
theorem law_any (a b : Int) (w : World) (ha : -2147483648 ≤ a ∧ a ≤ 2147483647) (hb : -2147483648 ≤ b ∧ b ≤ 2147483647) :
    Calls Try.prog 4 #[.int .i32 a, .int .i32 b] w fun e w' => e = .returned (.bool true) ∧ Below w.heap.size w w' := by
  have I1 := Lib.hid (fun W => isl_any a W ha)
  have I2 := Lib.hid (fun W => isl_any b W hb)
  cases h1 : isL a with
  | false =>
    rw [h1] at I1
    clear I2 h1
    go_enter Try.func4, Try.ntmps4
    go_wp2_with (first | (go_at_call 10; refine (I1.out _).mono ?_; rintro e w' ⟨rfl, rfl⟩))
    go_ret
    exact ⟨rfl, Below.refl _ _⟩
  | true =>
    cases h2 : isL b with
    | false =>
      rw [h1] at I1
      rw [h2] at I2
      clear h1 h2
      go_enter Try.func4, Try.ntmps4
      go_wp2_with fail
      refine (I1.out _).mono ?_
      rintro e w' ⟨rfl, rfl⟩
      go_wp2_with fail
      refine (I2.out _).mono ?_
      rintro e w' ⟨rfl, rfl⟩
      go_wp2
      go_ret
      exact ⟨rfl, Below.refl _ _⟩
    | true =>
      have E := Lib.hid (ienc_any a b w h1 h2)
      rw [h1] at I1
      rw [h2] at I2
      have r1 : 0 ≤ a ∧ a ≤ 1114111 := by have := of_decide_eq_true h1; omega
      have r2 : 0 ≤ b ∧ b ≤ 1114111 := by have := of_decide_eq_true h2; omega
      clear h1 h2
      have C1 := Lib.hid (fun W => bytes_any a W r1.1 r1.2)
      have C2 := Lib.hid (fun W => bytes_any b W r2.1 r2.2)
      have l1 := ub_le a
      have l2 := ub_le b
      generalize ub a = xs at *
      generalize ub b = ys at *
      go_enter Try.func4, Try.ntmps4
      go_wp2_with fail
      refine (I1.out _).mono ?_
      rintro e w' ⟨rfl, rfl⟩
      go_wp2_with fail
      refine (I2.out _).mono ?_
      rintro e w' ⟨rfl, rfl⟩
      go_wp2_with fail
      refine E.out.mono ?_
      rintro e w1 ⟨v, u, rfl, hv, hu, hb1⟩
      go_wp2_with fail
      refine (C1.out _).mono ?_
      rintro e w2 ⟨v2, rfl, hv2, hb2⟩
      obtain ⟨a1, c1, rfl, hs1⟩ := hv.below hb2
      obtain ⟨a2, c2, rfl, hs2⟩ := hv2
      have S1 := Lib.hid (same_any a1 a2 xs xs c1 c2 _ w2 (by omega) (by omega) hs1 hs2)
      rw [sameL_self] at S1
      have HB2 := Lib.hid (hb1.trans (hb2.mono hb1.size))
      have HU := Lib.hid (hu.below hb2)
      clear hv hs1 hs2 hu hb1 hb2 I1 I2 C1 E
      go_wp2_with fail
      refine S1.out.mono ?_
      rintro e w3 ⟨rfl, hb3⟩
      go_wp2_with fail
      refine (C2.out _).mono ?_
      rintro e w4 ⟨v4, rfl, hv4, hb4⟩
      obtain ⟨a3, c3, rfl, hs3⟩ := (HU.out.below hb3).below hb4
      obtain ⟨a4, c4, rfl, hs4⟩ := hv4
      have S2 := Lib.hid (same_any a3 a4 ys ys c3 c4 _ w4 (by omega) (by omega) hs3 hs4)
      rw [sameL_self] at S2
      have HB4 := Lib.hid ((HB2.out.trans (hb3.mono HB2.out.size)).trans (hb4.mono (Nat.le_trans HB2.out.size hb3.size)))
      clear hs3 hs4 hb3 hb4 C2 S1 HB2
      go_wp2_with fail
      refine S2.out.mono ?_
      rintro e w5 ⟨rfl, hb5⟩
      have HB5 := Lib.hid (HB4.out.trans (hb5.mono HB4.out.size))
      clear hb5 S2
      go_wp2
      go_ret
      exact ⟨rfl, HB5.out⟩

end Go.Proofs.Ytobcgeonobgjpaa.fnScalarEncode
