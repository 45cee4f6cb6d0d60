/-
  The contract of unicode/utf8.EncodeRune at letters, over four bytes of the caller's own. Conditions: as stated.
-/
import Derived.Test.YtobcgeonobgjpaaDoorUtf8
import Derived.Laws.BitsAllLaws
namespace Go.Proofs.YtobcgeonobgjpaaDoor
open Go.ChangeShapes Go.WideShapes Go.ChangeAt Go.RowKit
set_option linter.unusedVariables false

theorem or_192 (x : Int) (h0 : 0 ≤ x) (h : x < 32) : bits BinOp.or IntKind.u8 192 x = 192 + x := by
  obtain ⟨n, rfl⟩ := Int.eq_ofNat_of_zero_le h0
  have h1 := u8_or_nat 192 n (by omega) (by omega)
  rw [nat_join 6 192 n (by omega) (by omega)] at h1
  rw [show (192 : Int) = ((192 : Nat) : Int) from rfl, h1]
  omega
theorem or_224 (x : Int) (h0 : 0 ≤ x) (h : x < 16) : bits BinOp.or IntKind.u8 224 x = 224 + x := by
  obtain ⟨n, rfl⟩ := Int.eq_ofNat_of_zero_le h0
  have h1 := u8_or_nat 224 n (by omega) (by omega)
  rw [nat_join 5 224 n (by omega) (by omega)] at h1
  rw [show (224 : Int) = ((224 : Nat) : Int) from rfl, h1]
  omega
theorem or_240 (x : Int) (h0 : 0 ≤ x) (h : x < 16) : bits BinOp.or IntKind.u8 240 x = 240 + x := by
  obtain ⟨n, rfl⟩ := Int.eq_ofNat_of_zero_le h0
  have h1 := u8_or_nat 240 n (by omega) (by omega)
  rw [nat_join 4 240 n (by omega) (by omega)] at h1
  rw [show (240 : Int) = ((240 : Nat) : Int) from rfl, h1]
  omega
theorem or_128 (x : Int) (h0 : 0 ≤ x) (h : x < 64) : bits BinOp.or IntKind.u8 128 x = 128 + x := by
  obtain ⟨n, rfl⟩ := Int.eq_ofNat_of_zero_le h0
  have h1 := u8_or_nat 128 n (by omega) (by omega)
  rw [nat_join 6 128 n (by omega) (by omega)] at h1
  rw [show (128 : Int) = ((128 : Nat) : Int) from rfl, h1]
  omega
theorem and_63 (x : Int) (h0 : 0 ≤ x) (h : x < 256) : bits BinOp.and IntKind.u8 x 63 = x % 64 := by
  obtain ⟨n, rfl⟩ := Int.eq_ofNat_of_zero_le h0
  have h1 := u8_and_nat n 63 (by omega) (by omega)
  rw [nat_mask6] at h1
  rw [show (63 : Int) = ((63 : Nat) : Int) from rfl, h1]
  omega

set_option maxHeartbeats 1000000 in
theorem non_any (g c : Nat) (x0 x1 x2 x3 : Value) (r : Int) (w : World) (hr : isL r = true) (h127 : 127 < r) (hb : Blk w g 5 [x0, x1, x2, x3]) :
    Calls Tryd.prog 27 #[.slice (some ⟨g, 0, none⟩) 4 c, .int .i32 r] w fun e w' =>
      e = .returned (.int .i64 ((ub r).length : Nat)) ∧ (∃ rest, rest.length + (ub r).length = 4 ∧ Blk w' g 5 ((ub r).map (.int .u8) ++ rest)) ∧ w.grownBy w' (some g) := by
  have c0 := hb.cell 0
  have c1 := hb.cell 1
  have c2 := hb.cell 2
  have c3 := hb.cell 3
  have f0 := hb.frozen 0
  have f1 := hb.frozen 1
  have f2 := hb.frozen 2
  have f3 := hb.frozen 3
  simp only [List.getElem?_cons_zero, List.getElem?_cons_succ] at c0 c1 c2 c3
  have HB := Lib.hid hb
  clear hb
  have hl := of_decide_eq_true hr
  obtain ⟨h0, h1, h2⟩ := hl
  clear hr
  have k63 : ∀ x : Int, 0 ≤ x → x < 256 → bits BinOp.and IntKind.u8 x 63 = x % 64 := and_63
  by_cases h3 : r ≤ 2047
  · have HE := Lib.hid (show ub r = [192 + r / 64, 128 + r % 64] by unfold ub; rw [if_neg (by omega), if_pos h3])
    have w1 : IntKind.u8.wrap (r / 64) = r / 64 := by rw [IntKind.wrap_u8']; omega
    have o1 := or_192 (r / 64) (by omega) (by omega)
    have a1 := and_63 (r % 256) (by omega) (by omega)
    clear k63
    go_enter Tryd.func27, Tryd.ntmps27
    go_wp2
    go_ret
    refine ⟨by rw [HE.out]; rfl, ⟨[x2, x3], by rw [HE.out]; rfl, ?_⟩, only_set (only_set (World.grownBy.refl w _) _ _) _ _⟩
    rw [HE.out]
    exact (HB.out.set_ 0 _).set_ 1 _
  · by_cases h4 : r ≤ 65535
    · have HE := Lib.hid (show ub r = [224 + r / 4096, 128 + r / 64 % 64, 128 + r % 64] by unfold ub; rw [if_neg (by omega), if_neg (by omega), if_pos h4])
      have o1 := or_224 (r / 4096) (by omega) (by omega)
      clear k63
      rcases h2 with h2 | h2
      all_goals
        go_enter Tryd.func27, Tryd.ntmps27
        go_wp2
        go_ret
        refine ⟨by rw [HE.out]; rfl, ⟨[x3], by rw [HE.out]; rfl, ?_⟩, only_set (only_set (only_set (World.grownBy.refl w _) _ _) _ _) _ _⟩
        rw [HE.out]
        exact ((HB.out.set_ 0 _).set_ 1 _).set_ 2 _
    · have HE := Lib.hid (show ub r = [240 + r / 262144, 128 + r / 4096 % 64, 128 + r / 64 % 64, 128 + r % 64] by unfold ub; rw [if_neg (by omega), if_neg (by omega), if_neg h4])
      have o1 := or_240 (r / 262144) (by omega) (by omega)
      clear k63 h2
      go_enter Tryd.func27, Tryd.ntmps27
      go_wp2
      go_ret
      refine ⟨by rw [HE.out]; rfl, ⟨[], by rw [HE.out]; rfl, ?_⟩, only_set (only_set (only_set (only_set (World.grownBy.refl w _) _ _) _ _) _ _) _ _⟩
      rw [HE.out]
      exact (((HB.out.set_ 0 _).set_ 1 _).set_ 2 _).set_ 3 _

set_option maxHeartbeats 400000 in
theorem enc_any (g c : Nat) (x0 x1 x2 x3 : Value) (r : Int) (w : World) (hr : isL r = true) (hb : Blk w g 5 [x0, x1, x2, x3]) :
    Calls Tryd.prog 25 #[.slice (some ⟨g, 0, none⟩) 4 c, .int .i32 r] w fun e w' =>
      e = .returned (.int .i64 ((ub r).length : Nat)) ∧ (∃ rest, rest.length + (ub r).length = 4 ∧ Blk w' g 5 ((ub r).map (.int .u8) ++ rest)) ∧ w.grownBy w' (some g) := by
  have hl := of_decide_eq_true hr
  obtain ⟨h0, h1, h2⟩ := hl
  clear h2
  by_cases h127 : r ≤ 127
  · have HE := Lib.hid (show ub r = [r] by unfold ub; rw [if_pos h127])
    have c0 := hb.cell 0
    have f0 := hb.frozen 0
    simp only [List.getElem?_cons_zero] at c0
    have HB := Lib.hid hb
    clear hb hr
    go_enter Tryd.func25, Tryd.ntmps25
    go_wp2
    go_ret
    refine ⟨by rw [HE.out]; rfl, ⟨[x1, x2, x3], by rw [HE.out]; rfl, ?_⟩, only_set (World.grownBy.refl w _) _ _⟩
    rw [HE.out]
    exact HB.out.set_ 0 _
  · have C := Lib.hid (non_any g c x0 x1 x2 x3 r w hr (by omega) hb)
    clear hb hr
    go_enter Tryd.func25, Tryd.ntmps25
    go_wp2_with (first | (go_at_call 27; refine C.out.mono ?_; rintro e w' ⟨rfl, hB, hg⟩; have HB := Lib.hid hB; have HG := Lib.hid hg; clear hB hg))
    go_ret
    exact ⟨rfl, HB.out, HG.out⟩

end Go.Proofs.YtobcgeonobgjpaaDoor
