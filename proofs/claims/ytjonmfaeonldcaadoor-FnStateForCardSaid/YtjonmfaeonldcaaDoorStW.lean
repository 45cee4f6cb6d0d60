/-
  FnStateFor: a state with any number of arcs is read: atMulti. Conditions: as stated.
-/
import Derived.Test.YtjonmfaeonldcaaDoorStW0
import Derived.Deep.DeepCutAuto
namespace Go.Proofs.YtjonmfaeonldcaaDoor.fnStateFor
open Go.ChangeShapes Go.WideShapes Go.ChangeAt Go.RowKit
set_option linter.unusedVariables false

set_option maxRecDepth 100000 in
set_option maxHeartbeats 6400000 in
theorem atm_any {W : World} {N g n cap t q m zs os s5 s4 s3 s1 s0 oT oB : Nat} {f : Bool} {D : List Int} (hB : Blk W N 78 (mulL g n cap t t 0 0 0 false 0 0 0 0 0 0 0))
    (hD : Dt W g D) (hn : n = D.length) (hg : g < W.heap.size) (hgN : g ≠ N) (hm : m ≤ 256) (ht : At D t [(numB m : Int) + if f then 64 else 0]) (hcap : n ≤ cap) (hmax : n ≤ 100000000)
    (hq : q = s5 + 1) (hA : (numB m ≠ 0 ∧ t = q) ∨ (numB m = 0 ∧ t = q + 1 ∧ At D q [if m = 256 then 1 else (m : Int)])) (hp : At D s5 [16 * (zs : Int) + os]) (hz : zs ≤ 8) (ho : os ≤ 8)
    (e1 : s5 = s4 + m) (e2 : s4 = s3 + m * zs) (e3 : s3 = s1 + m * os) (e4 : s1 = s0 + if f then os else 0) (hoT : oT = if os = 0 then 0 else s3) (hoB : oB = if os = 0 then 0 else s1) :
    Calls Tryd.prog 38 #[.pointer (some ⟨N, 0, none⟩), .slice (some ⟨g, 0, none⟩) n cap, .int .i64 t] W (MulS W N g n cap t s0 m zs os f s5 s4 s3 oT oB) := by
  have hby := hD.byte ht
  have hby3 := hD.byte hp
  obtain ⟨q1, q2, q3⟩ := hdm_of f (numB m) (numB_le m)
  have htn : (t : Int) < (n : Int) := by have := ht.len; simp at this; omega
  have mixed : Tryd.prog.follows .mixedOrders = true := by kernel_rfl
  have HB0 := Lib.hid hB
  obtain ⟨c0, c1, c2, c3, c8, c9, c10, c11, c12, c13, c14, c15, c16, c17, fz⟩ := muC hB
  have CDP := Lib.hid (dps_any zs os hz ho)
  have hgf : ((if f then (64 : Int) else 0) > 0) = (f = true) := by cases f <;> simp
  have hgd : decide ((0 : Int) < if f then (64 : Int) else 0) = f := by cases f <;> simp
  generalize (if f then (64 : Int) else 0) = z64 at *
  have HA : Hid ((numB m ≠ 0 ∧ numB m = m ∧ t = q) ∨ (m = 256 ∧ numB m = 0 ∧ (t : Int) - 1 = q ∧ (q : Int) < n ∧ W.cell? ⟨g, q, none⟩ = some (.int .u8 1)) ∨ (m ≠ 256 ∧ m ≠ 1 ∧ numB m = 0 ∧ (t : Int) - 1 = q ∧ (q : Int) < n ∧ W.cell? ⟨g, q, none⟩ = some (.int .u8 m))) := Lib.hid (by
    rcases hA with ⟨h1, h2⟩ | ⟨h1, h2, h3⟩
    · exact .inl ⟨h1, by unfold numB at h1 ⊢; split <;> simp_all, h2⟩
    · have h4 := hD.byte h3
      by_cases h5 : m = 256
      · rw [if_pos h5] at h4
        exact .inr (.inl ⟨h5, h1, by omega, by omega, h4⟩)
      · rw [if_neg h5] at h4
        exact .inr (.inr ⟨h5, by rintro rfl; simp [numB] at h1, h1, by omega, by omega, h4⟩))
  have hs5n : (s5 : Int) < n := by have := hp.len; simp at this; omega
  have r1 : (q : Int) - 1 = s5 := by omega
  have r2 : (s5 : Int) - m = s4 := by omega
  have r3 : (s4 : Int) - (m : Int) * zs = s3 := by rw [← Int.natCast_mul]; omega
  have r4 : (s3 : Int) - (m : Int) * os = s1 := by rw [← Int.natCast_mul]; omega
  have hmz : m * zs ≤ 2048 := Nat.mul_le_mul (show m ≤ 256 from hm) hz
  have hmo : m * os ≤ 2048 := Nat.mul_le_mul (show m ≤ 256 from hm) ho
  have w3 : IntKind.i64.wrap ((m : Int) * zs) = (m : Int) * zs := by rw [IntKind.wrap_i64, ← Int.natCast_mul]; omega
  have w4 : IntKind.i64.wrap ((m : Int) * os) = (m : Int) * os := by rw [IntKind.wrap_i64, ← Int.natCast_mul]; omega
  have hsz : s5 ≤ 100000000 ∧ s4 ≤ 100000000 ∧ s3 ≤ 100000000 ∧ s1 ≤ 100000000 ∧ s0 ≤ 100000000 := by split at e4 <;> omega
  obtain ⟨l5, l4, l3, l1, l0⟩ := hsz
  have hnb := numB_le m
  have HE4 := Lib.hid e4
  have HOT := Lib.hid hoT
  have HOB := Lib.hid hoB
  clear hD ht hA hB hp e1 e2 e3 e4 hmz hmo hn hq hoT hoB
  generalize (numB m : Int) + z64 = hh at *
  generalize (16 * (zs : Int) + (os : Int)) = pb at *
  go_enter Tryd.func38, Tryd.ntmps38
  go_upto_if 35 with (fail)
  refine name_world ?_
  intro w0 hw0
  have HX := Lib.hid (show Blk w0 N 78 (mulL g n cap t t (numB m) 0 0 f 0 0 0 0 0 0 0) ∧ Fr (fun k => k = N) W w0 by
    rw [hw0]
    exact cut_end (by
      apply Exists.intro
      refine ⟨?_, ?_⟩
      · (repeat (with_reducible (first | exact HB0.out | apply Blk.set_ | apply Blk.drewN | apply Blk.drew)))
      · first | rfl | simp [mulL, hgd]) (by (repeat (with_reducible (first | exact Fr.refl _ _ | refine Fr.set ?_ _ _ (by rfl) | apply Fr.drewN | apply Fr.drew)))))
  have HB1 := Lib.hid HX.out.1
  have HW1 := Lib.hid HX.out.2
  clear c0 c1 c2 c3 c8 c9 c10 c11 c12 c13 c14 c15 c16 c17 fz HB0 HX hw0 hby
  obtain ⟨c0, c1, c2, c3, c8, c9, c10, c11, c12, c13, c14, c15, c16, c17, fz⟩ := muC HB1.out
  go_cut [] (fun wx => Hid (Blk wx N 78 (mulL g n cap t q m 0 0 f 0 0 0 0 0 0 0) ∧ Fr (fun k => k = N) W wx))
  case first => as_aux_lemma =>
    rcases HA.out with ⟨h1, h2, h3⟩ | ⟨h1, h2, h3, h4, h5⟩ | ⟨h1, h0, h2, h3, h4, h5⟩
    · have hc : ((numB m : Int) == 0) = false := by rw [beq_eq_false_iff_ne]; omega
      obtain rfl : t = q := h3
      go_wp2
      go_meet
      case rel => exact Lib.hid (cut_end (by
        apply Exists.intro
        refine ⟨?_, ?_⟩
        · (repeat (with_reducible (first | exact HB1.out | apply Blk.set_ | apply Blk.drewN | apply Blk.drew)))
        · first | rfl | simp [mulL, h2]) (by (repeat (with_reducible (first | exact Fr.refl _ _ | exact HW1.out | refine Fr.set ?_ _ _ (by rfl) | apply Fr.drewN | apply Fr.drew)))))
    · have hc : ((numB m : Int) == 0) = true := by rw [beq_iff_eq]; omega
      have hbq := (HW1.out.cell_ne hg hgN ⟨g, q, none⟩ rfl).trans h5
      subst h1
      go_wp2
      go_meet
      case rel => exact Lib.hid (cut_end (by
        apply Exists.intro
        refine ⟨?_, ?_⟩
        · (repeat (with_reducible (first | exact HB1.out | apply Blk.set_ | apply Blk.drewN | apply Blk.drew)))
        · first | rfl | simp [mulL]) (by (repeat (with_reducible (first | exact Fr.refl _ _ | exact HW1.out | refine Fr.set ?_ _ _ (by rfl) | apply Fr.drewN | apply Fr.drew)))))
    · have hc : ((numB m : Int) == 0) = true := by rw [beq_iff_eq]; omega
      have hbq := (HW1.out.cell_ne hg hgN ⟨g, q, none⟩ rfl).trans h5
      have hm1 : ((m : Int) == 1) = false := by rw [beq_eq_false_iff_ne]; omega
      go_wp2
      go_meet
      case rel => exact Lib.hid (cut_end (by
        apply Exists.intro
        refine ⟨?_, ?_⟩
        · (repeat (with_reducible (first | exact HB1.out | apply Blk.set_ | apply Blk.drewN | apply Blk.drew)))
        · first | rfl | simp [mulL]) (by (repeat (with_reducible (first | exact Fr.refl _ _ | exact HW1.out | refine Fr.set ?_ _ _ (by rfl) | apply Fr.drewN | apply Fr.drew)))))
  case rest =>
  have HB2 := Lib.hid hcut.out.1
  have HW2 := Lib.hid hcut.out.2
  clear c0 c1 c2 c3 c8 c9 c10 c11 c12 c13 c14 c15 c16 c17 fz HB1 HW1 hcut HA
  obtain ⟨c0, c1, c2, c3, c8, c9, c10, c11, c12, c13, c14, c15, c16, c17, fz⟩ := muC HB2.out
  have hby4 := (HW2.out.cell_ne hg hgN ⟨g, s5, none⟩ rfl).trans hby3
  go_upto_region 11 with (first | (go_at_call 50; refine (CDP.out _).mono ?_; rintro e w9 ⟨rfl, rfl⟩) | fail)
  go_cut [] (fun wx => Hid (Blk wx N 78 (mulL g n cap t s4 m zs os f s5 0 0 0 0 0 0) ∧ Fr (fun k => k = N) W wx))
  case first => as_aux_lemma =>
    refine wp_region_still_tail 11 (by kernel_rfl) (by kernel_rfl) ?_
    simp only [List.take_succ_cons, List.take_zero, List.drop_succ_cons, List.drop_zero]
    change wpStill _ _ (World.drew _) _ _ _
    repeat still_step
    refine wpStill_nil ?_
    change wpList _ _ _ _ _ (World.drew _)
    go_wp2
    all_goals
      go_meet
      case rel => exact Lib.hid (cut_end (by
        apply Exists.intro
        refine ⟨?_, ?_⟩
        · (repeat (with_reducible (first | exact HB2.out | apply Blk.set_ | apply Blk.drewN | apply Blk.drew)))
        · rfl) (by (repeat (with_reducible (first | exact Fr.refl _ _ | exact HW2.out | refine Fr.set ?_ _ _ (by rfl) | apply Fr.drewN | apply Fr.drew)))))
  case rest =>
  have HB3 := Lib.hid hcut.out.1
  have HW3 := Lib.hid hcut.out.2
  clear c0 c1 c2 c3 c8 c9 c10 c11 c12 c13 c14 c15 c16 c17 fz HB2 HW2 hcut hby4 hby3
  obtain ⟨c0, c1, c2, c3, c8, c9, c10, c11, c12, c13, c14, c15, c16, c17, fz⟩ := muC HB3.out
  go_upto_region 14 with (fail)
  go_cut [] (fun wx => Hid (Blk wx N 78 (mulL g n cap t s3 m zs os f s5 s4 s4 0 0 0 0) ∧ Fr (fun k => k = N) W wx))
  case first => as_aux_lemma =>
    refine wp_region_still_tail 16 (by kernel_rfl) (by kernel_rfl) ?_
    simp only [List.take_succ_cons, List.take_zero, List.drop_succ_cons, List.drop_zero]
    change wpStill _ _ (World.drew _) _ _ _
    repeat still_step
    refine wpStill_nil ?_
    change wpList _ _ _ _ _ (World.drew _)
    go_wp2
    all_goals
      go_meet
      case rel => exact Lib.hid (cut_end (by
        apply Exists.intro
        refine ⟨?_, ?_⟩
        · (repeat (with_reducible (first | exact HB3.out | apply Blk.set_ | apply Blk.drewN | apply Blk.drew)))
        · rfl) (by (repeat (with_reducible (first | exact Fr.refl _ _ | exact HW3.out | refine Fr.set ?_ _ _ (by rfl) | apply Fr.drewN | apply Fr.drew)))))
  case rest =>
  have HB4 := Lib.hid hcut.out.1
  have HW4 := Lib.hid hcut.out.2
  clear c0 c1 c2 c3 c8 c9 c10 c11 c12 c13 c14 c15 c16 c17 fz HB3 HW3 hcut
  obtain ⟨c0, c1, c2, c3, c8, c9, c10, c11, c12, c13, c14, c15, c16, c17, fz⟩ := muC HB4.out
  have e4 := HE4.out
  have hoT := HOT.out
  have hoB := HOB.out
  clear HOT HOB HE4 r1 r2 r3
  by_cases h0 : os = 0
  · have hs : s0 = s3 := by
      have : (s3 : Int) = s1 := by rw [← r4, h0]; simp
      rw [h0] at e4
      split at e4 <;> omega
    rw [if_pos h0] at hoT hoB
    clear e4 r4 CDP
    subst h0 hs hoT hoB
    go_wp2
    go_ret
    exact ⟨0, rfl, cut_end (by
      apply Exists.intro
      refine ⟨?_, ?_⟩
      · (repeat (with_reducible (first | exact HB4.out | apply Blk.set_ | apply Blk.drewN | apply Blk.drew)))
      · rfl) (by (repeat (with_reducible (first | exact Fr.refl _ _ | exact HW4.out | refine Fr.set ?_ _ _ (by rfl) | apply Fr.drewN | apply Fr.drew))))⟩
  · rw [if_neg h0] at hoT hoB
    have hos : (0 : Int) < (os : Int) := by omega
    cases f
    · have hs : s1 = s0 := by simpa using e4
      clear e4 h0
      subst hoT hoB
      subst hs
      go_upto_region 18 with (fail)
      go_cut [] (fun wx => Hid (Blk wx N 78 (mulL g n cap t oB m zs os false s5 s4 s4 oT oT 0 0) ∧ Fr (fun k => k = N) W wx))
      case first => as_aux_lemma =>
        refine wp_region_still_tail 16 (by kernel_rfl) (by kernel_rfl) ?_
        simp only [List.take_succ_cons, List.take_zero, List.drop_succ_cons, List.drop_zero]
        change wpStill _ _ (World.drew _) _ _ _
        repeat still_step
        refine wpStill_nil ?_
        change wpList _ _ _ _ _ (World.drew _)
        go_wp2
        all_goals
          go_meet
          case rel => exact Lib.hid (cut_end (by
            apply Exists.intro
            refine ⟨?_, ?_⟩
            · (repeat (with_reducible (first | exact HB4.out | apply Blk.set_ | apply Blk.drewN | apply Blk.drew)))
            · rfl) (by (repeat (with_reducible (first | exact Fr.refl _ _ | exact HW4.out | refine Fr.set ?_ _ _ (by rfl) | apply Fr.drewN | apply Fr.drew)))))
      case rest =>
      have HB5 := Lib.hid hcut.out.1
      have HW5 := Lib.hid hcut.out.2
      clear c0 c1 c2 c3 c8 c9 c10 c11 c12 c13 c14 c15 c16 c17 fz HB4 HW4 hcut
      obtain ⟨c0, c1, c2, c3, c8, c9, c10, c11, c12, c13, c14, c15, c16, c17, fz⟩ := muC HB5.out
      go_wp2
      go_ret
      exact ⟨0, rfl, cut_end (by
        apply Exists.intro
        refine ⟨?_, ?_⟩
        · (repeat (with_reducible (first | exact HB5.out | apply Blk.set_ | apply Blk.drewN | apply Blk.drew)))
        · rfl) (by (repeat (with_reducible (first | exact Fr.refl _ _ | exact HW5.out | refine Fr.set ?_ _ _ (by rfl) | apply Fr.drewN | apply Fr.drew))))⟩
    · have r5 : (s1 : Int) - os = s0 := by simp at e4; omega
      clear e4 h0
      subst hoT hoB
      go_upto_region 18 with (fail)
      go_cut [] (fun wx => Hid (Blk wx N 78 (mulL g n cap t oB m zs os true s5 s4 s4 oT oT 0 0) ∧ Fr (fun k => k = N) W wx))
      case first => as_aux_lemma =>
        refine wp_region_still_tail 16 (by kernel_rfl) (by kernel_rfl) ?_
        simp only [List.take_succ_cons, List.take_zero, List.drop_succ_cons, List.drop_zero]
        change wpStill _ _ (World.drew _) _ _ _
        repeat still_step
        refine wpStill_nil ?_
        change wpList _ _ _ _ _ (World.drew _)
        go_wp2
        all_goals
          go_meet
          case rel => exact Lib.hid (cut_end (by
            apply Exists.intro
            refine ⟨?_, ?_⟩
            · (repeat (with_reducible (first | exact HB4.out | apply Blk.set_ | apply Blk.drewN | apply Blk.drew)))
            · rfl) (by (repeat (with_reducible (first | exact Fr.refl _ _ | exact HW4.out | refine Fr.set ?_ _ _ (by rfl) | apply Fr.drewN | apply Fr.drew)))))
      case rest =>
      have HB5 := Lib.hid hcut.out.1
      have HW5 := Lib.hid hcut.out.2
      clear c0 c1 c2 c3 c8 c9 c10 c11 c12 c13 c14 c15 c16 c17 fz HB4 HW4 hcut
      obtain ⟨c0, c1, c2, c3, c8, c9, c10, c11, c12, c13, c14, c15, c16, c17, fz⟩ := muC HB5.out
      clear r4
      go_upto_region 21 with (fail)
      go_cut [] (fun wx => Hid (Blk wx N 78 (mulL g n cap t s0 m zs os true s5 s4 s4 oT oT oB 0) ∧ Fr (fun k => k = N) W wx))
      case first => as_aux_lemma =>
        refine wp_region_still_tail 11 (by kernel_rfl) (by kernel_rfl) ?_
        simp only [List.take_succ_cons, List.take_zero, List.drop_succ_cons, List.drop_zero]
        change wpStill _ _ (World.drew _) _ _ _
        repeat still_step
        refine wpStill_nil ?_
        change wpList _ _ _ _ _ (World.drew _)
        go_wp2
        all_goals
          go_meet
          case rel => exact Lib.hid (cut_end (by
            apply Exists.intro
            refine ⟨?_, ?_⟩
            · (repeat (with_reducible (first | exact HB5.out | apply Blk.set_ | apply Blk.drewN | apply Blk.drew)))
            · rfl) (by (repeat (with_reducible (first | exact Fr.refl _ _ | exact HW5.out | refine Fr.set ?_ _ _ (by rfl) | apply Fr.drewN | apply Fr.drew)))))
      case rest =>
      have HB6 := Lib.hid hcut.out.1
      have HW6 := Lib.hid hcut.out.2
      clear c0 c1 c2 c3 c8 c9 c10 c11 c12 c13 c14 c15 c16 c17 fz HB5 HW5 hcut
      obtain ⟨c0, c1, c2, c3, c8, c9, c10, c11, c12, c13, c14, c15, c16, c17, fz⟩ := muC HB6.out
      go_wp2
      go_ret
      exact ⟨_, rfl, cut_end (by
        apply Exists.intro
        refine ⟨?_, ?_⟩
        · (repeat (with_reducible (first | exact HB6.out | apply Blk.set_ | apply Blk.drewN | apply Blk.drew)))
        · rfl) (by (repeat (with_reducible (first | exact Fr.refl _ _ | exact HW6.out | refine Fr.set ?_ _ _ (by rfl) | apply Fr.drewN | apply Fr.drew))))⟩

end Go.Proofs.YtjonmfaeonldcaaDoor.fnStateFor
