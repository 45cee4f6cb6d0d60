/-
  FnSequenceOf: the sequence of the bytes of two letters of a width has a range from each byte to the other one; of unlike widths there is none. Conditions: none.
-/
import Derived.Test.YtpmkkajbmdoflacUtf8
namespace Go.Proofs.Ytpmkkajbmdoflac.fnSequenceOf
open Go.ChangeShapes Go.WideShapes Go.ChangeAt Go.RowKit
set_option linter.unusedVariables false

def pr (p : Int × Int) : List Value := [.int .u8 p.1, .int .u8 p.2]
def prs (ps : List (Int × Int)) : List Value := ps.flatMap pr
theorem pr_len (p : Int × Int) : (pr p).length = 2 := rfl
theorem prs_len (ps : List (Int × Int)) : (prs ps).length = ps.length * 2 := flat_len pr 2 pr_len ps

/-- byte j of a slice, as the walk spells its address -/
theorem byte_at {w : World} {B : Nat} {ad : Addr} {zs : List Int} (h : Sl w B (some ad) (zs.map (.int .u8))) (j : Nat) (hj : j < zs.length) : w.cell? ⟨ad.block, ad.off + j, none⟩ = some (.int .u8 (zs.getD j 0)) := by
  obtain ⟨_, h1, hc⟩ := h.ints j hj
  injection h1 with h1
  subst h1
  have := cell_off (i := 0) (j := j) (by rw [Nat.zero_add]; exact hc)
  simpa [Addr.add] using this
theorem byte_0 {w : World} {B : Nat} {ad : Addr} {zs : List Int} (h : Sl w B (some ad) (zs.map (.int .u8))) (hj : 0 < zs.length) : w.cell? ad = some (.int .u8 (zs.getD 0 0)) := by
  obtain ⟨_, h1, hc⟩ := h.ints 0 hj
  injection h1 with h1
  subst h1
  simpa [Addr.add] using hc
theorem some_of {w : World} {B : Nat} {a : Option Addr} {zs : List Int} (h : Sl w B a (zs.map (.int .u8))) (hj : 0 < zs.length) : ∃ ad, a = some ad := by
  obtain ⟨ad, h1, _⟩ := h.ints 0 hj
  exact ⟨ad, h1⟩

/-- a slice of pairs of bytes -/
def PairsV (w : World) (v : Value) (ps : List (Int × Int)) : Prop := ∃ a c, v = .slice a ps.length c ∧ Sl w w.heap.size a (prs ps)

set_option maxHeartbeats 1600000 in
theorem sfer_2 (a b : Option Addr) (c d : Nat) (x0 x1 y0 y1 : Int) (B : Nat) (w : World) (hx : Sl w B a ([x0, x1].map (.int .u8))) (hy : Sl w B b ([y0, y1].map (.int .u8))) :
    Calls Try.prog 11 #[.slice a 2 c, .slice b 2 d] w fun e w' => ∃ v, e = .returned (.tuple #[v, .nilIface]) ∧ PairsV w' v [(x0, y0), (x1, y1)] ∧ Below w.heap.size w w' := by
  obtain ⟨ad, rfl⟩ := some_of hx (by simp)
  obtain ⟨bd, rfl⟩ := some_of hy (by simp)
  have a0 := byte_0 hx (by simp)
  have a1 := byte_at hx 1 (by simp)
  have b0 := byte_0 hy (by simp)
  have b1 := byte_at hy 1 (by simp)
  simp only [List.getD_cons_zero, List.getD_cons_succ] at a0 a1 b0 b1
  clear hx hy
  go_enter Try.func11, Try.ntmps11
  go_wp2
  refine wp_region_still_tail 14 (by kernel_rfl) (by kernel_rfl) ?_
  simp only [List.take_succ_cons, List.take_zero, List.drop_succ_cons, List.drop_zero]
  change wpStill _ _ (World.drew _) _ _ _
  repeat still_step
  refine wpStill_nil ?_
  change wpList _ _ _ _ _ (World.drew _)
  go_wp2
  go_ret2
  refine ⟨_, rfl, ⟨some ⟨w.heap.size, 0, none⟩, 2, rfl, ?_⟩, (Below.refl _ w).drew.alloc (Nat.le_refl _) _⟩
  exact Blk.sl (t := 46) (show Blk _ _ _ _ from Blk.new w 46 [.int .u8 x0, .int .u8 y0, .int .u8 x1, .int .u8 y1]) (by simp)

set_option maxHeartbeats 1600000 in
theorem sfer_3 (a b : Option Addr) (c d : Nat) (x0 x1 x2 y0 y1 y2 : Int) (B : Nat) (w : World) (hx : Sl w B a ([x0, x1, x2].map (.int .u8))) (hy : Sl w B b ([y0, y1, y2].map (.int .u8))) :
    Calls Try.prog 11 #[.slice a 3 c, .slice b 3 d] w fun e w' => ∃ v, e = .returned (.tuple #[v, .nilIface]) ∧ PairsV w' v [(x0, y0), (x1, y1), (x2, y2)] ∧ Below w.heap.size w w' := by
  obtain ⟨ad, rfl⟩ := some_of hx (by simp)
  obtain ⟨bd, rfl⟩ := some_of hy (by simp)
  have a0 := byte_0 hx (by simp)
  have a1 := byte_at hx 1 (by simp)
  have a2 := byte_at hx 2 (by simp)
  have b0 := byte_0 hy (by simp)
  have b1 := byte_at hy 1 (by simp)
  have b2 := byte_at hy 2 (by simp)
  simp only [List.getD_cons_zero, List.getD_cons_succ] at a0 a1 a2 b0 b1 b2
  clear hx hy
  go_enter Try.func11, Try.ntmps11
  go_wp2
  refine wp_region_still_tail 21 (by kernel_rfl) (by kernel_rfl) ?_
  simp only [List.take_succ_cons, List.take_zero, List.drop_succ_cons, List.drop_zero]
  change wpStill _ _ (World.drew _) _ _ _
  repeat still_step
  refine wpStill_nil ?_
  change wpList _ _ _ _ _ (World.drew _)
  go_wp2
  go_ret2
  refine ⟨_, rfl, ⟨some ⟨w.heap.size, 0, none⟩, 3, rfl, ?_⟩, (Below.refl _ w).drew.alloc (Nat.le_refl _) _⟩
  exact Blk.sl (t := 46) (show Blk _ _ _ _ from Blk.new w 46 [.int .u8 x0, .int .u8 y0, .int .u8 x1, .int .u8 y1, .int .u8 x2, .int .u8 y2]) (by simp)

set_option maxHeartbeats 1600000 in
theorem sfer_4 (a b : Option Addr) (c d : Nat) (x0 x1 x2 x3 y0 y1 y2 y3 : Int) (B : Nat) (w : World) (hx : Sl w B a ([x0, x1, x2, x3].map (.int .u8))) (hy : Sl w B b ([y0, y1, y2, y3].map (.int .u8))) :
    Calls Try.prog 11 #[.slice a 4 c, .slice b 4 d] w fun e w' => ∃ v, e = .returned (.tuple #[v, .nilIface]) ∧ PairsV w' v [(x0, y0), (x1, y1), (x2, y2), (x3, y3)] ∧ Below w.heap.size w w' := by
  obtain ⟨ad, rfl⟩ := some_of hx (by simp)
  obtain ⟨bd, rfl⟩ := some_of hy (by simp)
  have a0 := byte_0 hx (by simp)
  have a1 := byte_at hx 1 (by simp)
  have a2 := byte_at hx 2 (by simp)
  have a3 := byte_at hx 3 (by simp)
  have b0 := byte_0 hy (by simp)
  have b1 := byte_at hy 1 (by simp)
  have b2 := byte_at hy 2 (by simp)
  have b3 := byte_at hy 3 (by simp)
  simp only [List.getD_cons_zero, List.getD_cons_succ] at a0 a1 a2 a3 b0 b1 b2 b3
  clear hx hy
  go_enter Try.func11, Try.ntmps11
  go_wp2
  refine wp_region_still_tail 28 (by kernel_rfl) (by kernel_rfl) ?_
  simp only [List.take_succ_cons, List.take_zero, List.drop_succ_cons, List.drop_zero]
  change wpStill _ _ (World.drew _) _ _ _
  repeat still_step
  refine wpStill_nil ?_
  change wpList _ _ _ _ _ (World.drew _)
  go_wp2
  go_ret2
  refine ⟨_, rfl, ⟨some ⟨w.heap.size, 0, none⟩, 4, rfl, ?_⟩, (Below.refl _ w).drew.alloc (Nat.le_refl _) _⟩
  exact Blk.sl (t := 46) (show Blk _ _ _ _ from Blk.new w 46 [.int .u8 x0, .int .u8 y0, .int .u8 x1, .int .u8 y1, .int .u8 x2, .int .u8 y2, .int .u8 x3, .int .u8 y3]) (by simp)

/-- no sequence: lengths that differ, or one byte -/
theorem sfer_no (a b : Option Addr) (n m c d : Nat) (w : World) (h : n ≠ m ∨ n = 1) (hn : n ≤ 4) (hm : m ≤ 4) :
    Calls Try.prog 11 #[.slice a n c, .slice b m d] w fun e w' => ∃ T x, e = .returned (.tuple #[.slice none 0 0, .iface T x]) ∧ Below w.heap.size w w' := by
  by_cases h1 : n = m
  · obtain rfl : n = 1 := by omega
    subst h1
    clear h
    go_enter Try.func11, Try.ntmps11
    go_wp2
    go_ret2
    exact ⟨_, _, rfl, by repeat (first | exact Below.refl _ _ | apply Below.drew | refine Below.alloc ?_ (by simp) _)⟩
  · have hne : ((n : Int) != (m : Int)) = true := by rw [bne_iff_ne]; omega
    clear h h1
    go_enter Try.func11, Try.ntmps11
    go_wp2
    go_ret2
    exact ⟨_, _, rfl, by repeat (first | exact Below.refl _ _ | apply Below.drew | refine Below.alloc ?_ (by simp) _)⟩

end Go.Proofs.Ytpmkkajbmdoflac.fnSequenceOf
