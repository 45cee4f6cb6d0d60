/-
  ZzImplies, impl.Implies, of any two places (made by wip/tools/impg.py). Conditions: as stated.
-/
import Derived.Test.YtgblmafollhojaaNormA
namespace Go.Proofs.Ytgblmafollhojaa
open Go.ChangeShapes Go.WideShapes Go.ChangeAt Go.RowKit
set_option linter.unusedVariables false

set_option maxHeartbeats 400000 in
theorem zzi_any (o1 d1 : Nat) (f1 : Bool) (o2 d2 : Nat) (f2 : Bool) (w : World) (hp : okP (o1, d1, f1)) (hq : okP (o2, d2, f2)) :
    Calls Try.prog 36 #[.agg #[.int .u32 o1, .int .u8 d1, .bool f1], .agg #[.int .u32 o2, .int .u8 d2, .bool f2]] w fun e w' => e = .returned (.bool (impB (o1, d1, f1) (o2, d2, f2))) ∧ Below w.heap.size w w' := by
  have B := (Blk.new w 63 [.int .u32 o1, .int .u8 d1, .bool f1]).alloc (.cells #[.int .u32 o2, .int .u8 d2, .bool f2] 63)
  have C := Lib.hid (imply_any w.heap.size (o1, d1, f1) (o2, d2, f2) _ hp hq (B.cell 0) (B.cell 1) (B.cell 2))
  unfold agg3 at C
  simp only at C
  clear B hp hq
  go_enter Try.func36, Try.ntmps36
  go_wp2_with (go_at_call 40; refine C.out.mono ?_; rintro e w1 ⟨rfl, hb⟩)
  go_returns
  exact ⟨rfl, (((Below.refl _ _).alloc (Nat.le_refl _) _).alloc (by simp) _).trans (hb.mono (by simp <;> omega))⟩

theorem in_one (g o d : Nat) (tr : Bool) (w : World) (k0 : w.cell? ⟨g, 0, none⟩ = some (.int .u32 o)) (k1 : w.cell? ⟨g, 1, none⟩ = some (.int .u8 d)) (k2 : w.cell? ⟨g, 2, none⟩ = some (.bool tr)) :
    Calls Try.prog 19 #[.slice (some ⟨g, 0, none⟩) 1 1] w fun e w' => ∃ h c, e = .returned (.slice (some ⟨h, 0, none⟩) 1 c) ∧ h < w'.heap.size ∧ w'.cell? ⟨h, 0, none⟩ = some (.int .u32 o) ∧ w'.cell? ⟨h, 1, none⟩ = some (.int .u8 d) ∧ w'.cell? ⟨h, 2, none⟩ = some (.bool tr) ∧ Below w.heap.size w w' := by
  have hg := World.block_lt_of_cell? w _ k0
  have hs : Sl w w.heap.size (some ⟨g, 0, none⟩) ([(o, d, tr)].flatMap enc3) := fun j u hj => by
    have hlt := (List.getElem?_eq_some_iff.1 hj).1
    simp [enc3] at hlt
    refine ⟨_, rfl, hg, ?_⟩
    match j, hlt with
    | 0, _ => simp [enc3] at hj; subst hj; exact k0
    | 1, _ => simp [enc3] at hj; subst hj; exact k1
    | 2, _ => simp [enc3] at hj; subst hj; exact k2
  refine (in_any (some ⟨g, 0, none⟩) [(o, d, tr)] 1 w (by simp) hs).mono fun e w' ⟨v, he, ho, hb⟩ => ?_
  obtain ⟨h, c, hv, -, -⟩ := World.ownsRow.form ho (by simp)
  subst hv
  have hsl := sl_of_own ho
  obtain ⟨x0, e0, h0, q0⟩ := hsl 0 _ rfl
  obtain ⟨x1, e1, -, q1⟩ := hsl 1 _ rfl
  obtain ⟨x2, e2, -, q2⟩ := hsl 2 _ rfl
  injection e0 with e0
  injection e1 with e1
  injection e2 with e2
  subst e0
  rw [← e1] at q1
  rw [← e2] at q2
  exact ⟨_, _, he, h0, by simpa [Addr.add] using q0, by simpa [Addr.add] using q1, by simpa [Addr.add] using q2, hb⟩

theorem blk_new_at (w : World) (t : TypeId) (l : List Value) (n : Nat) (hn : n = w.heap.size) : Blk (w.alloc (.cells l.toArray t)) n t l := by subst hn; exact Blk.new w t l
theorem bel1 (w0 : World) (o : Obj) : Below w0.heap.size w0 (w0.alloc o).drew := ((Below.refl _ _).alloc (Nat.le_refl _) _).drew
theorem bel2 (w0 : World) (o o' : Obj) : Below w0.heap.size w0 ((w0.alloc o).alloc o').drew := (((Below.refl _ _).alloc (Nat.le_refl _) _).alloc (by simp) _).drew

set_option maxHeartbeats 6400000 in
theorem implies_any (o1 d1 : Nat) (f1 : Bool) (o2 d2 : Nat) (f2 : Bool) (w : World) (hp : okP (o1, d1, f1)) (hq : okP (o2, d2, f2)) :
    Calls Try.prog 25 #[.agg #[.int .u32 o1, .int .u8 d1, .bool f1], .agg #[.int .u32 o2, .int .u8 d2, .bool f2]] w fun e w' => e = .returned (.bool (impB (o1, d1, f1) (o2, d2, f2))) ∧ Below w.heap.size w w' := by
  have Z := Lib.hid (fun W => zzi_any o1 d1 f1 o2 d2 f2 W hp hq)
  have B0 := Lib.hid ((Blk.new w 29 [.int .u32 o1, .int .u8 d1, .bool f1]).alloc (.cells #[.int .u32 o2, .int .u8 d2, .bool f2] 29))
  have B1 := Lib.hid (blk_new_at (w.alloc (.cells #[.int .u32 o1, .int .u8 d1, .bool f1] 29)) 29 [.int .u32 o2, .int .u8 d2, .bool f2] (w.heap.size + 1) (by simp))
  have HW := Lib.hid (((Below.refl w.heap.size w).alloc (Nat.le_refl _) (.cells #[.int .u32 o1, .int .u8 d1, .bool f1] 29)).alloc (by simp) (.cells #[.int .u32 o2, .int .u8 d2, .bool f2] 29))
  have HS : Hid (((w.alloc (.cells #[.int .u32 o1, .int .u8 d1, .bool f1] 29)).alloc (.cells #[.int .u32 o2, .int .u8 d2, .bool f2] 29)).heap.size = w.heap.size + 2) := Lib.hid (by simp)
  go_enter Try.func25, Try.ntmps25
  go_wp2_with fail
  generalize ((w.alloc (.cells #[.int .u32 o1, .int .u8 d1, .bool f1] 29)).alloc (.cells #[.int .u32 o2, .int .u8 d2, .bool f2] 29)) = w0 at *
  have x0 : w0.cell? ⟨w.heap.size, 0, none⟩ = some (.int .u32 o1) := B0.out.cell 0
  have x1 : w0.cell? ⟨w.heap.size, 1, none⟩ = some (.int .u8 d1) := B0.out.cell 1
  have x2 : w0.cell? ⟨w.heap.size, 2, none⟩ = some (.bool f1) := B0.out.cell 2
  have x3 : w0.cell? ⟨w.heap.size + 1, 0, none⟩ = some (.int .u32 o2) := B1.out.cell 0
  have x4 : w0.cell? ⟨w.heap.size + 1, 1, none⟩ = some (.int .u8 d2) := B1.out.cell 1
  have x5 : w0.cell? ⟨w.heap.size + 1, 2, none⟩ = some (.bool f2) := B1.out.cell 2
  have x0a : ∀ o, (w0.alloc o).cell? ⟨w.heap.size, 0, none⟩ = some (.int .u32 o1) := fun o => (B0.out.alloc o).cell 0
  have x1a : ∀ o, (w0.alloc o).cell? ⟨w.heap.size, 1, none⟩ = some (.int .u8 d1) := fun o => (B0.out.alloc o).cell 1
  have x2a : ∀ o, (w0.alloc o).cell? ⟨w.heap.size, 2, none⟩ = some (.bool f1) := fun o => (B0.out.alloc o).cell 2
  have x3a : ∀ o, (w0.alloc o).cell? ⟨w.heap.size + 1, 0, none⟩ = some (.int .u32 o2) := fun o => (B1.out.alloc o).cell 0
  have x4a : ∀ o, (w0.alloc o).cell? ⟨w.heap.size + 1, 1, none⟩ = some (.int .u8 d2) := fun o => (B1.out.alloc o).cell 1
  have x5a : ∀ o, (w0.alloc o).cell? ⟨w.heap.size + 1, 2, none⟩ = some (.bool f2) := fun o => (B1.out.alloc o).cell 2
  go_region_law
    (first
      | (go_simp; go_at_call 36; refine (Z.out _).mono ?_
         rintro e w3 ⟨rfl, hb3⟩
         have n0 : w3.cell? ⟨w.heap.size, 0, none⟩ = some (.int .u32 o1) := (hb3.cell (show w.heap.size < _ by omega)).trans m0
         have n1 : w3.cell? ⟨w.heap.size, 1, none⟩ = some (.int .u8 d1) := (hb3.cell (show w.heap.size < _ by omega)).trans m1
         have n2 : w3.cell? ⟨w.heap.size, 2, none⟩ = some (.bool f1) := (hb3.cell (show w.heap.size < _ by omega)).trans m2
         have n3 : w3.cell? ⟨w.heap.size + 1, 0, none⟩ = some (.int .u32 o2) := (hb3.cell (show w.heap.size + 1 < _ by omega)).trans m3
         have n4 : w3.cell? ⟨w.heap.size + 1, 1, none⟩ = some (.int .u8 d2) := (hb3.cell (show w.heap.size + 1 < _ by omega)).trans m4
         have n5 : w3.cell? ⟨w.heap.size + 1, 2, none⟩ = some (.bool f2) := (hb3.cell (show w.heap.size + 1 < _ by omega)).trans m5
         have HB3 : Hid (Below w.heap.size w w3) := Lib.hid (HB2.out.trans (hb3.mono (by omega))))
      | (go_simp; go_at_call 19; with_reducible show Calls _ _ _ w1 _; refine (in_one _ o2 d2 f2 _ (y0) (y1) (y2)).mono ?_
         rintro e w2 ⟨a2, c2, rfl, h2, r0, r1, r2, hb2⟩
         have hc : Below w1.heap.size w1 w2 := hb2
         have m0 : w2.cell? ⟨w.heap.size, 0, none⟩ = some (.int .u32 o1) := (hc.cell (show w.heap.size < _ by omega)).trans k0
         have m1 : w2.cell? ⟨w.heap.size, 1, none⟩ = some (.int .u8 d1) := (hc.cell (show w.heap.size < _ by omega)).trans k1
         have m2 : w2.cell? ⟨w.heap.size, 2, none⟩ = some (.bool f1) := (hc.cell (show w.heap.size < _ by omega)).trans k2
         have m3 : w2.cell? ⟨w.heap.size + 1, 0, none⟩ = some (.int .u32 o2) := (hc.cell (show w.heap.size + 1 < _ by omega)).trans k3
         have m4 : w2.cell? ⟨w.heap.size + 1, 1, none⟩ = some (.int .u8 d2) := (hc.cell (show w.heap.size + 1 < _ by omega)).trans k4
         have m5 : w2.cell? ⟨w.heap.size + 1, 2, none⟩ = some (.bool f2) := (hc.cell (show w.heap.size + 1 < _ by omega)).trans k5
         have t0 : w2.cell? ⟨a1, 0, none⟩ = some (.int .u32 o1) := (hc.cell h1).trans q0
         have t1 : w2.cell? ⟨a1, 1, none⟩ = some (.int .u8 d1) := (hc.cell h1).trans q1
         have t2 : w2.cell? ⟨a1, 2, none⟩ = some (.bool f1) := (hc.cell h1).trans q2
         have HB2 : Hid (Below w.heap.size w w2) := Lib.hid (HB1.out.trans (hc.mono (by omega)))
         have hz2 : w.heap.size + 2 ≤ w2.heap.size := Nat.le_trans hz1 hc.size)
      | (go_simp; go_at_call 19; with_reducible show Calls _ _ _ (World.alloc w1 _) _; refine (in_one _ o2 d2 f2 _ ((blk_new_at w1 29 [.int .u32 o2, .int .u8 d2, .bool f2] _ rfl).cell 0) ((blk_new_at w1 29 [.int .u32 o2, .int .u8 d2, .bool f2] _ rfl).cell 1) ((blk_new_at w1 29 [.int .u32 o2, .int .u8 d2, .bool f2] _ rfl).cell 2)).mono ?_
         rintro e w2 ⟨a2, c2, rfl, h2, r0, r1, r2, hb2⟩
         have hc : Below w1.heap.size w1 w2 := ((Below.refl _ _).alloc (Nat.le_refl _) _).trans (hb2.mono (by simp))
         have m0 : w2.cell? ⟨w.heap.size, 0, none⟩ = some (.int .u32 o1) := (hc.cell (show w.heap.size < _ by omega)).trans k0
         have m1 : w2.cell? ⟨w.heap.size, 1, none⟩ = some (.int .u8 d1) := (hc.cell (show w.heap.size < _ by omega)).trans k1
         have m2 : w2.cell? ⟨w.heap.size, 2, none⟩ = some (.bool f1) := (hc.cell (show w.heap.size < _ by omega)).trans k2
         have m3 : w2.cell? ⟨w.heap.size + 1, 0, none⟩ = some (.int .u32 o2) := (hc.cell (show w.heap.size + 1 < _ by omega)).trans k3
         have m4 : w2.cell? ⟨w.heap.size + 1, 1, none⟩ = some (.int .u8 d2) := (hc.cell (show w.heap.size + 1 < _ by omega)).trans k4
         have m5 : w2.cell? ⟨w.heap.size + 1, 2, none⟩ = some (.bool f2) := (hc.cell (show w.heap.size + 1 < _ by omega)).trans k5
         have t0 : w2.cell? ⟨a1, 0, none⟩ = some (.int .u32 o1) := (hc.cell h1).trans q0
         have t1 : w2.cell? ⟨a1, 1, none⟩ = some (.int .u8 d1) := (hc.cell h1).trans q1
         have t2 : w2.cell? ⟨a1, 2, none⟩ = some (.bool f1) := (hc.cell h1).trans q2
         have HB2 : Hid (Below w.heap.size w w2) := Lib.hid (HB1.out.trans (hc.mono (by omega)))
         have hz2 : w.heap.size + 2 ≤ w2.heap.size := Nat.le_trans hz1 hc.size)
      | (go_simp; go_at_call 19; with_reducible show Calls _ _ #[.slice (some ⟨w0.heap.size, 0, none⟩) 1 1] (World.drew (World.alloc w0 _)) _; have bA := (blk_new_at w0 29 [.int .u32 o1, .int .u8 d1, .bool f1] w0.heap.size rfl).drew; have z0 := bA.cell 0; have z1 := bA.cell 1; have z2 := bA.cell 2; clear bA; refine (in_one (w0.heap.size) o1 d1 f1 _ z0 z1 z2).mono ?_
         rintro e w1 ⟨a1, c1, rfl, h1, q0, q1, q2, hb1⟩
         clear z0 z1 z2
         have hbw : Below w0.heap.size w0 w1 := (bel1 w0 _).trans (hb1.mono (bel1 w0 _).size)
         have hz1 : w.heap.size + 2 ≤ w1.heap.size := Nat.le_trans (Nat.le_of_eq HS.out.symm) hbw.size
         have k0 : w1.cell? ⟨w.heap.size, 0, none⟩ = some (.int .u32 o1) := (hbw.cell (show w.heap.size < _ by have := HS.out; omega)).trans (B0.out.cell 0)
         have k1 : w1.cell? ⟨w.heap.size, 1, none⟩ = some (.int .u8 d1) := (hbw.cell (show w.heap.size < _ by have := HS.out; omega)).trans (B0.out.cell 1)
         have k2 : w1.cell? ⟨w.heap.size, 2, none⟩ = some (.bool f1) := (hbw.cell (show w.heap.size < _ by have := HS.out; omega)).trans (B0.out.cell 2)
         have k3 : w1.cell? ⟨w.heap.size + 1, 0, none⟩ = some (.int .u32 o2) := (hbw.cell (show w.heap.size + 1 < _ by have := HS.out; omega)).trans (B1.out.cell 0)
         have k4 : w1.cell? ⟨w.heap.size + 1, 1, none⟩ = some (.int .u8 d2) := (hbw.cell (show w.heap.size + 1 < _ by have := HS.out; omega)).trans (B1.out.cell 1)
         have k5 : w1.cell? ⟨w.heap.size + 1, 2, none⟩ = some (.bool f2) := (hbw.cell (show w.heap.size + 1 < _ by have := HS.out; omega)).trans (B1.out.cell 2)
         have q0a : ∀ o, (w1.alloc o).cell? ⟨a1, 0, none⟩ = some (.int .u32 o1) := fun o => (World.cell?_alloc_lt _ _ _ h1).trans q0
         have q1a : ∀ o, (w1.alloc o).cell? ⟨a1, 1, none⟩ = some (.int .u8 d1) := fun o => (World.cell?_alloc_lt _ _ _ h1).trans q1
         have q2a : ∀ o, (w1.alloc o).cell? ⟨a1, 2, none⟩ = some (.bool f1) := fun o => (World.cell?_alloc_lt _ _ _ h1).trans q2
         have HB1 : Hid (Below w.heap.size w w1) := Lib.hid (HW.out.trans (hbw.mono (by have := HS.out; omega))))
      | (go_simp; go_at_call 19; with_reducible show Calls _ _ #[.slice (some ⟨w0.heap.size, 0, none⟩) 1 1] (World.drew (World.alloc (World.alloc w0 _) _)) _; have bA := ((blk_new_at w0 29 [.int .u32 o1, .int .u8 d1, .bool f1] w0.heap.size rfl).alloc (.cells [.int .u32 o2, .int .u8 d2, .bool f2].toArray 29)).drew; have z0 := bA.cell 0; have z1 := bA.cell 1; have z2 := bA.cell 2; clear bA; refine (in_one (w0.heap.size) o1 d1 f1 _ z0 z1 z2).mono ?_
         rintro e w1 ⟨a1, c1, rfl, h1, q0, q1, q2, hb1⟩
         clear z0 z1 z2
         have hbw : Below w0.heap.size w0 w1 := (bel2 w0 _ _).trans (hb1.mono (bel2 w0 _ _).size)
         have hz1 : w.heap.size + 2 ≤ w1.heap.size := Nat.le_trans (Nat.le_of_eq HS.out.symm) hbw.size
         have k0 : w1.cell? ⟨w.heap.size, 0, none⟩ = some (.int .u32 o1) := (hbw.cell (show w.heap.size < _ by have := HS.out; omega)).trans (B0.out.cell 0)
         have k1 : w1.cell? ⟨w.heap.size, 1, none⟩ = some (.int .u8 d1) := (hbw.cell (show w.heap.size < _ by have := HS.out; omega)).trans (B0.out.cell 1)
         have k2 : w1.cell? ⟨w.heap.size, 2, none⟩ = some (.bool f1) := (hbw.cell (show w.heap.size < _ by have := HS.out; omega)).trans (B0.out.cell 2)
         have k3 : w1.cell? ⟨w.heap.size + 1, 0, none⟩ = some (.int .u32 o2) := (hbw.cell (show w.heap.size + 1 < _ by have := HS.out; omega)).trans (B1.out.cell 0)
         have k4 : w1.cell? ⟨w.heap.size + 1, 1, none⟩ = some (.int .u8 d2) := (hbw.cell (show w.heap.size + 1 < _ by have := HS.out; omega)).trans (B1.out.cell 1)
         have k5 : w1.cell? ⟨w.heap.size + 1, 2, none⟩ = some (.bool f2) := (hbw.cell (show w.heap.size + 1 < _ by have := HS.out; omega)).trans (B1.out.cell 2)
         have q0a : ∀ o, (w1.alloc o).cell? ⟨a1, 0, none⟩ = some (.int .u32 o1) := fun o => (World.cell?_alloc_lt _ _ _ h1).trans q0
         have q1a : ∀ o, (w1.alloc o).cell? ⟨a1, 1, none⟩ = some (.int .u8 d1) := fun o => (World.cell?_alloc_lt _ _ _ h1).trans q1
         have q2a : ∀ o, (w1.alloc o).cell? ⟨a1, 2, none⟩ = some (.bool f1) := fun o => (World.cell?_alloc_lt _ _ _ h1).trans q2
         have HB1 : Hid (Below w.heap.size w w1) := Lib.hid (HW.out.trans (hbw.mono (by have := HS.out; omega)))
         have bB := (blk_new_at (w0.alloc (.cells [.int .u32 o1, .int .u8 d1, .bool f1].toArray 29)) 29 [.int .u32 o2, .int .u8 d2, .bool f2] (w0.heap.size + 1) (by simp)).drew
         have bC := bB.below hb1 bB.lt
         have y0 := bC.cell 0
         have y1 := bC.cell 1
         have y2 := bC.cell 2
         clear bB bC)
      | (go_simp; go_at_call 19; with_reducible show Calls _ _ #[.slice (some ⟨w0.heap.size + 1, 0, none⟩) 1 1] (World.drew (World.alloc (World.alloc w0 _) _)) _; have bA := (blk_new_at (w0.alloc (.cells [.int .u32 o2, .int .u8 d2, .bool f2].toArray 29)) 29 [.int .u32 o1, .int .u8 d1, .bool f1] (w0.heap.size + 1) (by simp)).drew; have z0 := bA.cell 0; have z1 := bA.cell 1; have z2 := bA.cell 2; clear bA; refine (in_one (w0.heap.size + 1) o1 d1 f1 _ z0 z1 z2).mono ?_
         rintro e w1 ⟨a1, c1, rfl, h1, q0, q1, q2, hb1⟩
         clear z0 z1 z2
         have hbw : Below w0.heap.size w0 w1 := (bel2 w0 _ _).trans (hb1.mono (bel2 w0 _ _).size)
         have hz1 : w.heap.size + 2 ≤ w1.heap.size := Nat.le_trans (Nat.le_of_eq HS.out.symm) hbw.size
         have k0 : w1.cell? ⟨w.heap.size, 0, none⟩ = some (.int .u32 o1) := (hbw.cell (show w.heap.size < _ by have := HS.out; omega)).trans (B0.out.cell 0)
         have k1 : w1.cell? ⟨w.heap.size, 1, none⟩ = some (.int .u8 d1) := (hbw.cell (show w.heap.size < _ by have := HS.out; omega)).trans (B0.out.cell 1)
         have k2 : w1.cell? ⟨w.heap.size, 2, none⟩ = some (.bool f1) := (hbw.cell (show w.heap.size < _ by have := HS.out; omega)).trans (B0.out.cell 2)
         have k3 : w1.cell? ⟨w.heap.size + 1, 0, none⟩ = some (.int .u32 o2) := (hbw.cell (show w.heap.size + 1 < _ by have := HS.out; omega)).trans (B1.out.cell 0)
         have k4 : w1.cell? ⟨w.heap.size + 1, 1, none⟩ = some (.int .u8 d2) := (hbw.cell (show w.heap.size + 1 < _ by have := HS.out; omega)).trans (B1.out.cell 1)
         have k5 : w1.cell? ⟨w.heap.size + 1, 2, none⟩ = some (.bool f2) := (hbw.cell (show w.heap.size + 1 < _ by have := HS.out; omega)).trans (B1.out.cell 2)
         have q0a : ∀ o, (w1.alloc o).cell? ⟨a1, 0, none⟩ = some (.int .u32 o1) := fun o => (World.cell?_alloc_lt _ _ _ h1).trans q0
         have q1a : ∀ o, (w1.alloc o).cell? ⟨a1, 1, none⟩ = some (.int .u8 d1) := fun o => (World.cell?_alloc_lt _ _ _ h1).trans q1
         have q2a : ∀ o, (w1.alloc o).cell? ⟨a1, 2, none⟩ = some (.bool f1) := fun o => (World.cell?_alloc_lt _ _ _ h1).trans q2
         have HB1 : Hid (Below w.heap.size w w1) := Lib.hid (HW.out.trans (hbw.mono (by have := HS.out; omega)))
         have bB := ((blk_new_at w0 29 [.int .u32 o2, .int .u8 d2, .bool f2] w0.heap.size rfl).alloc (.cells [.int .u32 o1, .int .u8 d1, .bool f1].toArray 29)).drew
         have bC := bB.below hb1 bB.lt
         have y0 := bC.cell 0
         have y1 := bC.cell 1
         have y2 := bC.cell 2
         clear bB bC))
  all_goals (go_wp2_with fail)
  all_goals go_returns
  all_goals exact ⟨rfl, HB3.out⟩

end Go.Proofs.Ytgblmafollhojaa
