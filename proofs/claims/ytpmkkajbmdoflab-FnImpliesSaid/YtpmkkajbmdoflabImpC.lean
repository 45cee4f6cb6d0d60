/-
  FnImplies: whether a place implies another one, by the thin package. Conditions: as stated.
-/
import Derived.Test.YtpmkkajbmdoflabImpB
import Derived.Deep.RegionLaw
namespace Go.Proofs.Ytpmkkajbmdoflab.fnImplies
open Go.ChangeShapes Go.WideShapes Go.ChangeAt Go.RowKit
set_option linter.unusedVariables false

theorem blk_new_at (w : World) (t : TypeId) (l : List Value) (n : Nat) (hn : n = w.heap.size) : Blk (w.alloc (.cells l.toArray t)) n t l := by subst hn; exact Blk.new w t l
theorem bel1 (w0 : World) (o : Obj) : Below w0.heap.size w0 (w0.alloc o).drew := ((Below.refl _ _).alloc (Nat.le_refl _) _).drew
theorem bel2 (w0 : World) (o o' : Obj) : Below w0.heap.size w0 ((w0.alloc o).alloc o').drew := (((Below.refl _ _).alloc (Nat.le_refl _) _).alloc (by simp) _).drew

set_option maxHeartbeats 6400000 in
theorem implies_any (o1 o2 d1 d2 : Nat) (w : World) (ho1 : o1 ≤ 1000) (ho2 : o2 ≤ 1000) (hd1 : d1 ≤ 255) (hd2 : d2 ≤ 255) :
    Calls Try.prog 18 #[.agg #[.int .u32 o1, .int .u8 d1, .bool false], .agg #[.int .u32 o2, .int .u8 d2, .bool false]] w fun e w' => e = .returned (.bool (decide (d1 + gapN o1 o2 ≤ d2))) ∧ Below w.heap.size w w' := by
  have Z := Lib.hid (fun W => zz_any o1 o2 d1 d2 W ho1 ho2 hd1 hd2)
  have B0 := Lib.hid ((Blk.new w 38 [.int .u32 o1, .int .u8 d1, .bool false]).alloc (.cells #[.int .u32 o2, .int .u8 d2, .bool false] 38))
  have B1 := Lib.hid (blk_new_at (w.alloc (.cells #[.int .u32 o1, .int .u8 d1, .bool false] 38)) 38 [.int .u32 o2, .int .u8 d2, .bool false] (w.heap.size + 1) (by simp))
  have HW := Lib.hid (((Below.refl w.heap.size w).alloc (Nat.le_refl _) (.cells #[.int .u32 o1, .int .u8 d1, .bool false] 38)).alloc (by simp) (.cells #[.int .u32 o2, .int .u8 d2, .bool false] 38))
  have HS : Hid (((w.alloc (.cells #[.int .u32 o1, .int .u8 d1, .bool false] 38)).alloc (.cells #[.int .u32 o2, .int .u8 d2, .bool false] 38)).heap.size = w.heap.size + 2) := Lib.hid (by simp)
  go_enter Try.func18, Try.ntmps18
  go_wp2_with fail
  generalize ((w.alloc (.cells #[.int .u32 o1, .int .u8 d1, .bool false] 38)).alloc (.cells #[.int .u32 o2, .int .u8 d2, .bool false] 38)) = w0 at *
  have x0 : w0.cell? ⟨w.heap.size, 0, none⟩ = some (.int .u32 o1) := B0.out.cell 0
  have x1 : w0.cell? ⟨w.heap.size, 1, none⟩ = some (.int .u8 d1) := B0.out.cell 1
  have x2 : w0.cell? ⟨w.heap.size, 2, none⟩ = some (.bool false) := B0.out.cell 2
  have x3 : w0.cell? ⟨w.heap.size + 1, 0, none⟩ = some (.int .u32 o2) := B1.out.cell 0
  have x4 : w0.cell? ⟨w.heap.size + 1, 1, none⟩ = some (.int .u8 d2) := B1.out.cell 1
  have x5 : w0.cell? ⟨w.heap.size + 1, 2, none⟩ = some (.bool false) := B1.out.cell 2
  have x0a : ∀ o, (w0.alloc o).cell? ⟨w.heap.size, 0, none⟩ = some (.int .u32 o1) := fun o => (B0.out.alloc o).cell 0
  have x1a : ∀ o, (w0.alloc o).cell? ⟨w.heap.size, 1, none⟩ = some (.int .u8 d1) := fun o => (B0.out.alloc o).cell 1
  have x2a : ∀ o, (w0.alloc o).cell? ⟨w.heap.size, 2, none⟩ = some (.bool false) := fun o => (B0.out.alloc o).cell 2
  have x3a : ∀ o, (w0.alloc o).cell? ⟨w.heap.size + 1, 0, none⟩ = some (.int .u32 o2) := fun o => (B1.out.alloc o).cell 0
  have x4a : ∀ o, (w0.alloc o).cell? ⟨w.heap.size + 1, 1, none⟩ = some (.int .u8 d2) := fun o => (B1.out.alloc o).cell 1
  have x5a : ∀ o, (w0.alloc o).cell? ⟨w.heap.size + 1, 2, none⟩ = some (.bool false) := fun o => (B1.out.alloc o).cell 2
  go_region_law
    (first
      | (go_simp; go_at_call 27; refine (Z.out _).mono ?_
         rintro e w3 ⟨rfl, hb3⟩
         have n0 : w3.cell? ⟨w.heap.size, 0, none⟩ = some (.int .u32 o1) := (hb3.cell (show w.heap.size < _ by omega)).trans m0
         have n1 : w3.cell? ⟨w.heap.size, 1, none⟩ = some (.int .u8 d1) := (hb3.cell (show w.heap.size < _ by omega)).trans m1
         have n2 : w3.cell? ⟨w.heap.size, 2, none⟩ = some (.bool false) := (hb3.cell (show w.heap.size < _ by omega)).trans m2
         have n3 : w3.cell? ⟨w.heap.size + 1, 0, none⟩ = some (.int .u32 o2) := (hb3.cell (show w.heap.size + 1 < _ by omega)).trans m3
         have n4 : w3.cell? ⟨w.heap.size + 1, 1, none⟩ = some (.int .u8 d2) := (hb3.cell (show w.heap.size + 1 < _ by omega)).trans m4
         have n5 : w3.cell? ⟨w.heap.size + 1, 2, none⟩ = some (.bool false) := (hb3.cell (show w.heap.size + 1 < _ by omega)).trans m5
         have HB3 : Hid (Below w.heap.size w w3) := Lib.hid (HB2.out.trans (hb3.mono (by omega))))
      | (go_simp; go_at_call 28; with_reducible show Calls _ _ _ w1 _; refine (in_any _ o2 d2 false _ (y0) (y1) (y2)).mono ?_
         rintro e w2 ⟨a2, c2, rfl, h2, r0, r1, r2, hb2⟩
         have hc : Below w1.heap.size w1 w2 := hb2
         have m0 : w2.cell? ⟨w.heap.size, 0, none⟩ = some (.int .u32 o1) := (hc.cell (show w.heap.size < _ by omega)).trans k0
         have m1 : w2.cell? ⟨w.heap.size, 1, none⟩ = some (.int .u8 d1) := (hc.cell (show w.heap.size < _ by omega)).trans k1
         have m2 : w2.cell? ⟨w.heap.size, 2, none⟩ = some (.bool false) := (hc.cell (show w.heap.size < _ by omega)).trans k2
         have m3 : w2.cell? ⟨w.heap.size + 1, 0, none⟩ = some (.int .u32 o2) := (hc.cell (show w.heap.size + 1 < _ by omega)).trans k3
         have m4 : w2.cell? ⟨w.heap.size + 1, 1, none⟩ = some (.int .u8 d2) := (hc.cell (show w.heap.size + 1 < _ by omega)).trans k4
         have m5 : w2.cell? ⟨w.heap.size + 1, 2, none⟩ = some (.bool false) := (hc.cell (show w.heap.size + 1 < _ by omega)).trans k5
         have t0 : w2.cell? ⟨a1, 0, none⟩ = some (.int .u32 o1) := (hc.cell h1).trans q0
         have t1 : w2.cell? ⟨a1, 1, none⟩ = some (.int .u8 d1) := (hc.cell h1).trans q1
         have t2 : w2.cell? ⟨a1, 2, none⟩ = some (.bool false) := (hc.cell h1).trans q2
         have HB2 : Hid (Below w.heap.size w w2) := Lib.hid (HB1.out.trans (hc.mono (by omega)))
         have hz2 : w.heap.size + 2 ≤ w2.heap.size := Nat.le_trans hz1 hc.size)
      | (go_simp; go_at_call 28; with_reducible show Calls _ _ _ (World.alloc w1 _) _; refine (in_any _ o2 d2 false _ ((blk_new_at w1 38 [.int .u32 o2, .int .u8 d2, .bool false] _ rfl).cell 0) ((blk_new_at w1 38 [.int .u32 o2, .int .u8 d2, .bool false] _ rfl).cell 1) ((blk_new_at w1 38 [.int .u32 o2, .int .u8 d2, .bool false] _ rfl).cell 2)).mono ?_
         rintro e w2 ⟨a2, c2, rfl, h2, r0, r1, r2, hb2⟩
         have hc : Below w1.heap.size w1 w2 := ((Below.refl _ _).alloc (Nat.le_refl _) _).trans (hb2.mono (by simp))
         have m0 : w2.cell? ⟨w.heap.size, 0, none⟩ = some (.int .u32 o1) := (hc.cell (show w.heap.size < _ by omega)).trans k0
         have m1 : w2.cell? ⟨w.heap.size, 1, none⟩ = some (.int .u8 d1) := (hc.cell (show w.heap.size < _ by omega)).trans k1
         have m2 : w2.cell? ⟨w.heap.size, 2, none⟩ = some (.bool false) := (hc.cell (show w.heap.size < _ by omega)).trans k2
         have m3 : w2.cell? ⟨w.heap.size + 1, 0, none⟩ = some (.int .u32 o2) := (hc.cell (show w.heap.size + 1 < _ by omega)).trans k3
         have m4 : w2.cell? ⟨w.heap.size + 1, 1, none⟩ = some (.int .u8 d2) := (hc.cell (show w.heap.size + 1 < _ by omega)).trans k4
         have m5 : w2.cell? ⟨w.heap.size + 1, 2, none⟩ = some (.bool false) := (hc.cell (show w.heap.size + 1 < _ by omega)).trans k5
         have t0 : w2.cell? ⟨a1, 0, none⟩ = some (.int .u32 o1) := (hc.cell h1).trans q0
         have t1 : w2.cell? ⟨a1, 1, none⟩ = some (.int .u8 d1) := (hc.cell h1).trans q1
         have t2 : w2.cell? ⟨a1, 2, none⟩ = some (.bool false) := (hc.cell h1).trans q2
         have HB2 : Hid (Below w.heap.size w w2) := Lib.hid (HB1.out.trans (hc.mono (by omega)))
         have hz2 : w.heap.size + 2 ≤ w2.heap.size := Nat.le_trans hz1 hc.size)
      | (go_simp; go_at_call 28; with_reducible show Calls _ _ #[.slice (some ⟨w0.heap.size, 0, none⟩) 1 1] (World.drew (World.alloc w0 _)) _; have bA := (blk_new_at w0 38 [.int .u32 o1, .int .u8 d1, .bool false] w0.heap.size rfl).drew; have z0 := bA.cell 0; have z1 := bA.cell 1; have z2 := bA.cell 2; clear bA; refine (in_any (w0.heap.size) o1 d1 false _ z0 z1 z2).mono ?_
         rintro e w1 ⟨a1, c1, rfl, h1, q0, q1, q2, hb1⟩
         clear z0 z1 z2
         have hbw : Below w0.heap.size w0 w1 := (bel1 w0 _).trans (hb1.mono (bel1 w0 _).size)
         have hz1 : w.heap.size + 2 ≤ w1.heap.size := Nat.le_trans (Nat.le_of_eq HS.out.symm) hbw.size
         have k0 : w1.cell? ⟨w.heap.size, 0, none⟩ = some (.int .u32 o1) := (hbw.cell (show w.heap.size < _ by have := HS.out; omega)).trans (B0.out.cell 0)
         have k1 : w1.cell? ⟨w.heap.size, 1, none⟩ = some (.int .u8 d1) := (hbw.cell (show w.heap.size < _ by have := HS.out; omega)).trans (B0.out.cell 1)
         have k2 : w1.cell? ⟨w.heap.size, 2, none⟩ = some (.bool false) := (hbw.cell (show w.heap.size < _ by have := HS.out; omega)).trans (B0.out.cell 2)
         have k3 : w1.cell? ⟨w.heap.size + 1, 0, none⟩ = some (.int .u32 o2) := (hbw.cell (show w.heap.size + 1 < _ by have := HS.out; omega)).trans (B1.out.cell 0)
         have k4 : w1.cell? ⟨w.heap.size + 1, 1, none⟩ = some (.int .u8 d2) := (hbw.cell (show w.heap.size + 1 < _ by have := HS.out; omega)).trans (B1.out.cell 1)
         have k5 : w1.cell? ⟨w.heap.size + 1, 2, none⟩ = some (.bool false) := (hbw.cell (show w.heap.size + 1 < _ by have := HS.out; omega)).trans (B1.out.cell 2)
         have q0a : ∀ o, (w1.alloc o).cell? ⟨a1, 0, none⟩ = some (.int .u32 o1) := fun o => (World.cell?_alloc_lt _ _ _ h1).trans q0
         have q1a : ∀ o, (w1.alloc o).cell? ⟨a1, 1, none⟩ = some (.int .u8 d1) := fun o => (World.cell?_alloc_lt _ _ _ h1).trans q1
         have q2a : ∀ o, (w1.alloc o).cell? ⟨a1, 2, none⟩ = some (.bool false) := fun o => (World.cell?_alloc_lt _ _ _ h1).trans q2
         have HB1 : Hid (Below w.heap.size w w1) := Lib.hid (HW.out.trans (hbw.mono (by have := HS.out; omega))))
      | (go_simp; go_at_call 28; with_reducible show Calls _ _ #[.slice (some ⟨w0.heap.size, 0, none⟩) 1 1] (World.drew (World.alloc (World.alloc w0 _) _)) _; have bA := ((blk_new_at w0 38 [.int .u32 o1, .int .u8 d1, .bool false] w0.heap.size rfl).alloc (.cells [.int .u32 o2, .int .u8 d2, .bool false].toArray 38)).drew; have z0 := bA.cell 0; have z1 := bA.cell 1; have z2 := bA.cell 2; clear bA; refine (in_any (w0.heap.size) o1 d1 false _ z0 z1 z2).mono ?_
         rintro e w1 ⟨a1, c1, rfl, h1, q0, q1, q2, hb1⟩
         clear z0 z1 z2
         have hbw : Below w0.heap.size w0 w1 := (bel2 w0 _ _).trans (hb1.mono (bel2 w0 _ _).size)
         have hz1 : w.heap.size + 2 ≤ w1.heap.size := Nat.le_trans (Nat.le_of_eq HS.out.symm) hbw.size
         have k0 : w1.cell? ⟨w.heap.size, 0, none⟩ = some (.int .u32 o1) := (hbw.cell (show w.heap.size < _ by have := HS.out; omega)).trans (B0.out.cell 0)
         have k1 : w1.cell? ⟨w.heap.size, 1, none⟩ = some (.int .u8 d1) := (hbw.cell (show w.heap.size < _ by have := HS.out; omega)).trans (B0.out.cell 1)
         have k2 : w1.cell? ⟨w.heap.size, 2, none⟩ = some (.bool false) := (hbw.cell (show w.heap.size < _ by have := HS.out; omega)).trans (B0.out.cell 2)
         have k3 : w1.cell? ⟨w.heap.size + 1, 0, none⟩ = some (.int .u32 o2) := (hbw.cell (show w.heap.size + 1 < _ by have := HS.out; omega)).trans (B1.out.cell 0)
         have k4 : w1.cell? ⟨w.heap.size + 1, 1, none⟩ = some (.int .u8 d2) := (hbw.cell (show w.heap.size + 1 < _ by have := HS.out; omega)).trans (B1.out.cell 1)
         have k5 : w1.cell? ⟨w.heap.size + 1, 2, none⟩ = some (.bool false) := (hbw.cell (show w.heap.size + 1 < _ by have := HS.out; omega)).trans (B1.out.cell 2)
         have q0a : ∀ o, (w1.alloc o).cell? ⟨a1, 0, none⟩ = some (.int .u32 o1) := fun o => (World.cell?_alloc_lt _ _ _ h1).trans q0
         have q1a : ∀ o, (w1.alloc o).cell? ⟨a1, 1, none⟩ = some (.int .u8 d1) := fun o => (World.cell?_alloc_lt _ _ _ h1).trans q1
         have q2a : ∀ o, (w1.alloc o).cell? ⟨a1, 2, none⟩ = some (.bool false) := fun o => (World.cell?_alloc_lt _ _ _ h1).trans q2
         have HB1 : Hid (Below w.heap.size w w1) := Lib.hid (HW.out.trans (hbw.mono (by have := HS.out; omega)))
         have bB := (blk_new_at (w0.alloc (.cells [.int .u32 o1, .int .u8 d1, .bool false].toArray 38)) 38 [.int .u32 o2, .int .u8 d2, .bool false] (w0.heap.size + 1) (by simp)).drew
         have bC := bB.below hb1 bB.lt
         have y0 := bC.cell 0
         have y1 := bC.cell 1
         have y2 := bC.cell 2
         clear bB bC)
      | (go_simp; go_at_call 28; with_reducible show Calls _ _ #[.slice (some ⟨w0.heap.size + 1, 0, none⟩) 1 1] (World.drew (World.alloc (World.alloc w0 _) _)) _; have bA := (blk_new_at (w0.alloc (.cells [.int .u32 o2, .int .u8 d2, .bool false].toArray 38)) 38 [.int .u32 o1, .int .u8 d1, .bool false] (w0.heap.size + 1) (by simp)).drew; have z0 := bA.cell 0; have z1 := bA.cell 1; have z2 := bA.cell 2; clear bA; refine (in_any (w0.heap.size + 1) o1 d1 false _ z0 z1 z2).mono ?_
         rintro e w1 ⟨a1, c1, rfl, h1, q0, q1, q2, hb1⟩
         clear z0 z1 z2
         have hbw : Below w0.heap.size w0 w1 := (bel2 w0 _ _).trans (hb1.mono (bel2 w0 _ _).size)
         have hz1 : w.heap.size + 2 ≤ w1.heap.size := Nat.le_trans (Nat.le_of_eq HS.out.symm) hbw.size
         have k0 : w1.cell? ⟨w.heap.size, 0, none⟩ = some (.int .u32 o1) := (hbw.cell (show w.heap.size < _ by have := HS.out; omega)).trans (B0.out.cell 0)
         have k1 : w1.cell? ⟨w.heap.size, 1, none⟩ = some (.int .u8 d1) := (hbw.cell (show w.heap.size < _ by have := HS.out; omega)).trans (B0.out.cell 1)
         have k2 : w1.cell? ⟨w.heap.size, 2, none⟩ = some (.bool false) := (hbw.cell (show w.heap.size < _ by have := HS.out; omega)).trans (B0.out.cell 2)
         have k3 : w1.cell? ⟨w.heap.size + 1, 0, none⟩ = some (.int .u32 o2) := (hbw.cell (show w.heap.size + 1 < _ by have := HS.out; omega)).trans (B1.out.cell 0)
         have k4 : w1.cell? ⟨w.heap.size + 1, 1, none⟩ = some (.int .u8 d2) := (hbw.cell (show w.heap.size + 1 < _ by have := HS.out; omega)).trans (B1.out.cell 1)
         have k5 : w1.cell? ⟨w.heap.size + 1, 2, none⟩ = some (.bool false) := (hbw.cell (show w.heap.size + 1 < _ by have := HS.out; omega)).trans (B1.out.cell 2)
         have q0a : ∀ o, (w1.alloc o).cell? ⟨a1, 0, none⟩ = some (.int .u32 o1) := fun o => (World.cell?_alloc_lt _ _ _ h1).trans q0
         have q1a : ∀ o, (w1.alloc o).cell? ⟨a1, 1, none⟩ = some (.int .u8 d1) := fun o => (World.cell?_alloc_lt _ _ _ h1).trans q1
         have q2a : ∀ o, (w1.alloc o).cell? ⟨a1, 2, none⟩ = some (.bool false) := fun o => (World.cell?_alloc_lt _ _ _ h1).trans q2
         have HB1 : Hid (Below w.heap.size w w1) := Lib.hid (HW.out.trans (hbw.mono (by have := HS.out; omega)))
         have bB := ((blk_new_at w0 38 [.int .u32 o2, .int .u8 d2, .bool false] w0.heap.size rfl).alloc (.cells [.int .u32 o1, .int .u8 d1, .bool false].toArray 38)).drew
         have bC := bB.below hb1 bB.lt
         have y0 := bC.cell 0
         have y1 := bC.cell 1
         have y2 := bC.cell 2
         clear bB bC))
  all_goals (go_wp2_with fail)
  all_goals go_returns
  all_goals exact ⟨rfl, HB3.out⟩

end Go.Proofs.Ytpmkkajbmdoflab.fnImplies
