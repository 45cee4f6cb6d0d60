/-
  The sequences of ranges of bytes: SequenceFromEncodedRange: its row lies in a block of its own. Conditions: as stated.
-/
import Derived.Test.YtobcgeonobgjpaaDoorSeqWC
namespace Go.Proofs.YtobcgeonobgjpaaDoor
open Go.ChangeShapes Go.WideShapes Go.ChangeAt Go.RowKit
set_option linter.unusedVariables false

def prv (p : Int × Int) : List Value := [.int .u8 p.1, .int .u8 p.2]
def prvs (ps : List (Int × Int)) : List Value := ps.flatMap prv
theorem prv_len (p : Int × Int) : (prv p).length = 2 := rfl
theorem prvs_len (ps : List (Int × Int)) : (prvs ps).length = ps.length * 2 := flat_len prv 2 prv_len ps

/-- byte j of a slice, as the walk spells its address -/
theorem byte_at {w : World} {B : Nat} {ad : Addr} {zs : List Int} (h : Sl w B (some ad) (zs.map (.int .u8))) (j : Nat) (hj : j < zs.length) : w.cell? ⟨ad.block, ad.off + j, none⟩ = some (.int .u8 (zs.getD j 0)) := by
  obtain ⟨_, h1, hc⟩ := h.ints j hj
  injection h1 with h1
  subst h1
  have := cell_off (i := 0) (j := j) (by rw [Nat.zero_add]; exact hc)
  simpa [Addr.add] using this
theorem byte_0 {w : World} {B : Nat} {ad : Addr} {zs : List Int} (h : Sl w B (some ad) (zs.map (.int .u8))) (hj : 0 < zs.length) : w.cell? ad = some (.int .u8 (zs.getD 0 0)) := by
  obtain ⟨_, h1, hc⟩ := h.ints 0 hj
  injection h1 with h1
  subst h1
  simpa [Addr.add] using hc
theorem some_of {w : World} {B : Nat} {a : Option Addr} {zs : List Int} (h : Sl w B a (zs.map (.int .u8))) (hj : 0 < zs.length) : ∃ ad, a = some ad := by
  obtain ⟨ad, h1, _⟩ := h.ints 0 hj
  exact ⟨ad, h1⟩

/-- a sequence has been made -/
def Made (w : World) (n : Nat) (ps : List (Int × Int)) (e : Ending) (w' : World) : Prop :=
  ∃ c, e = .returned (.tuple #[.slice (some ⟨w.heap.size, 0, none⟩) n c, .nilIface]) ∧ Blk w' w.heap.size 52 (prvs ps) ∧ Below w.heap.size w w'

set_option maxHeartbeats 1600000 in
theorem sfer_2 (a b : Option Addr) (c d : Nat) (x0 x1 y0 y1 : Int) (B : Nat) (w : World) (hx : Sl w B a ([x0, x1].map (.int .u8))) (hy : Sl w B b ([y0, y1].map (.int .u8))) :
    Calls Tryd.prog 24 #[.slice a 2 c, .slice b 2 d] w (Made w 2 [(x0, y0), (x1, y1)]) := by
  obtain ⟨ad, rfl⟩ := some_of hx (by simp)
  obtain ⟨bd, rfl⟩ := some_of hy (by simp)
  have a0 := byte_0 hx (by simp)
  have a1 := byte_at hx 1 (by simp)
  have b0 := byte_0 hy (by simp)
  have b1 := byte_at hy 1 (by simp)
  simp only [List.getD_cons_zero, List.getD_cons_succ] at a0 a1 b0 b1
  clear hx hy
  go_enter Tryd.func24, Tryd.ntmps24
  go_wp2
  refine wp_region_still_tail 14 (by kernel_rfl) (by kernel_rfl) ?_
  simp only [List.take_succ_cons, List.take_zero, List.drop_succ_cons, List.drop_zero]
  change wpStill _ _ (World.drew _) _ _ _
  repeat still_step
  refine wpStill_nil ?_
  change wpList _ _ _ _ _ (World.drew _)
  go_wp2
  go_ret2
  refine ⟨2, rfl, ?_, (Below.refl _ w).drew.alloc (Nat.le_refl _) _⟩
  exact Blk.new w 52 [.int .u8 x0, .int .u8 y0, .int .u8 x1, .int .u8 y1]

set_option maxHeartbeats 1600000 in
theorem sfer_3 (a b : Option Addr) (c d : Nat) (x0 x1 x2 y0 y1 y2 : Int) (B : Nat) (w : World) (hx : Sl w B a ([x0, x1, x2].map (.int .u8))) (hy : Sl w B b ([y0, y1, y2].map (.int .u8))) :
    Calls Tryd.prog 24 #[.slice a 3 c, .slice b 3 d] w (Made w 3 [(x0, y0), (x1, y1), (x2, y2)]) := by
  obtain ⟨ad, rfl⟩ := some_of hx (by simp)
  obtain ⟨bd, rfl⟩ := some_of hy (by simp)
  have a0 := byte_0 hx (by simp)
  have a1 := byte_at hx 1 (by simp)
  have a2 := byte_at hx 2 (by simp)
  have b0 := byte_0 hy (by simp)
  have b1 := byte_at hy 1 (by simp)
  have b2 := byte_at hy 2 (by simp)
  simp only [List.getD_cons_zero, List.getD_cons_succ] at a0 a1 a2 b0 b1 b2
  clear hx hy
  go_enter Tryd.func24, Tryd.ntmps24
  go_wp2
  refine wp_region_still_tail 21 (by kernel_rfl) (by kernel_rfl) ?_
  simp only [List.take_succ_cons, List.take_zero, List.drop_succ_cons, List.drop_zero]
  change wpStill _ _ (World.drew _) _ _ _
  repeat still_step
  refine wpStill_nil ?_
  change wpList _ _ _ _ _ (World.drew _)
  go_wp2
  go_ret2
  refine ⟨3, rfl, ?_, (Below.refl _ w).drew.alloc (Nat.le_refl _) _⟩
  exact Blk.new w 52 [.int .u8 x0, .int .u8 y0, .int .u8 x1, .int .u8 y1, .int .u8 x2, .int .u8 y2]

set_option maxHeartbeats 1600000 in
theorem sfer_4 (a b : Option Addr) (c d : Nat) (x0 x1 x2 x3 y0 y1 y2 y3 : Int) (B : Nat) (w : World) (hx : Sl w B a ([x0, x1, x2, x3].map (.int .u8))) (hy : Sl w B b ([y0, y1, y2, y3].map (.int .u8))) :
    Calls Tryd.prog 24 #[.slice a 4 c, .slice b 4 d] w (Made w 4 [(x0, y0), (x1, y1), (x2, y2), (x3, y3)]) := by
  obtain ⟨ad, rfl⟩ := some_of hx (by simp)
  obtain ⟨bd, rfl⟩ := some_of hy (by simp)
  have a0 := byte_0 hx (by simp)
  have a1 := byte_at hx 1 (by simp)
  have a2 := byte_at hx 2 (by simp)
  have a3 := byte_at hx 3 (by simp)
  have b0 := byte_0 hy (by simp)
  have b1 := byte_at hy 1 (by simp)
  have b2 := byte_at hy 2 (by simp)
  have b3 := byte_at hy 3 (by simp)
  simp only [List.getD_cons_zero, List.getD_cons_succ] at a0 a1 a2 a3 b0 b1 b2 b3
  clear hx hy
  go_enter Tryd.func24, Tryd.ntmps24
  go_wp2
  refine wp_region_still_tail 28 (by kernel_rfl) (by kernel_rfl) ?_
  simp only [List.take_succ_cons, List.take_zero, List.drop_succ_cons, List.drop_zero]
  change wpStill _ _ (World.drew _) _ _ _
  repeat still_step
  refine wpStill_nil ?_
  change wpList _ _ _ _ _ (World.drew _)
  go_wp2
  go_ret2
  refine ⟨4, rfl, ?_, (Below.refl _ w).drew.alloc (Nat.le_refl _) _⟩
  exact Blk.new w 52 [.int .u8 x0, .int .u8 y0, .int .u8 x1, .int .u8 y1, .int .u8 x2, .int .u8 y2, .int .u8 x3, .int .u8 y3]

theorem sfer_eq (a b : Option Addr) (xs ys : List Int) (c d : Nat) (B : Nat) (w : World) (hl : xs.length = ys.length) (h2 : 2 ≤ xs.length) (h4 : xs.length ≤ 4) (hx : Sl w B a (xs.map (.int .u8))) (hy : Sl w B b (ys.map (.int .u8))) :
    Calls Tryd.prog 24 #[.slice a xs.length c, .slice b ys.length d] w (Made w (xs.zip ys).length (xs.zip ys)) := by
  match xs, ys, hl, h2, h4 with
  | [x0, x1], [y0, y1], _, _, _ => exact sfer_2 a b c d x0 x1 y0 y1 B w hx hy
  | [x0, x1, x2], [y0, y1, y2], _, _, _ => exact sfer_3 a b c d x0 x1 x2 y0 y1 y2 B w hx hy
  | [x0, x1, x2, x3], [y0, y1, y2, y3], _, _, _ => exact sfer_4 a b c d x0 x1 x2 x3 y0 y1 y2 y3 B w hx hy

end Go.Proofs.YtobcgeonobgjpaaDoor
