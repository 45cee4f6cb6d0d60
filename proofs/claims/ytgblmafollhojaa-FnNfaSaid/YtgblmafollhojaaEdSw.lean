/-
  spec.step, with swaps and without. Conditions: as stated.
-/
import Derived.Test.YtgblmafollhojaaEdit
import Derived.Deep.CutRange
import Derived.Deep.DeepCutAuto
import Derived.WalkMore
namespace Go.Proofs.Ytgblmafollhojaa
open Go.ChangeShapes Go.WideShapes Go.ChangeAt Go.RowKit
set_option linter.unusedVariables false

/-- two letters have changed places -/
def swB (sw : Bool) (I K : Nat) (p1 q1 p2 q2 : Int) : Bool := sw && decide (0 < I) && decide (0 < K) && decide (p1 = q2) && decide (p2 = q1)

theorem val_i64 {a b : Int} (h : a = b) : Value.int .i64 a = .int .i64 b := by rw [h]
theorem drew_more (w : World) (q r : Nat) : ∃ p, (w.drewN q).drewN r = w.drewN p := by
  first | exact ⟨_, rfl⟩ | exact ⟨_, World.drewN_drewN _ _ _⟩ | exact ⟨q + r, by simp [World.drewN]⟩

set_option maxRecDepth 100000 in
set_option maxHeartbeats 3200000 in
theorem step_any (a b : Addr) (gd n1 c1 la ca lb cb g0 g1 g2 m1 m2 m3 X Y Z V I K : Nat) (p1 q1 p2 q2 : Int) (sw : Bool) (w : World)
    (hn : I + 1 < n1) (hn2 : n1 ≤ 2000) (hla : I < la) (hla2 : la ≤ 1000) (hlb : K < lb) (hlb2 : lb ≤ 1000) (hm : K + 1 < m1) (hm2 : K + 1 < m2) (hm3 : m1 ≤ 2000) (hm4 : m2 ≤ 2000) (hm5 : K + 1 < m3) (hm6 : m3 ≤ 2000) (hX : X ≤ 4000) (hY : Y ≤ 4000) (hZ : Z ≤ 4000) (hV : V ≤ 4000)
    (d1 : w.cell? ⟨gd, I, none⟩ = some (.slice (some ⟨g1, 0, none⟩) m1 m1)) (d0 : w.cell? ⟨gd, I + 1, none⟩ = some (.slice (some ⟨g0, 0, none⟩) m2 m2))
    (e1 : w.cell? ⟨g1, K + 1, none⟩ = some (.int .i64 X)) (e2 : w.cell? ⟨g0, K, none⟩ = some (.int .i64 Y)) (e3 : w.cell? ⟨g1, K, none⟩ = some (.int .i64 Z))
    (f1 : w.cell? (a.add I) = some (.int .i64 p1)) (f2 : w.cell? (b.add K) = some (.int .i64 q1))
    (f3 : 0 < K → w.cell? (b.add (K - 1)) = some (.int .i64 q2)) (f4 : 0 < I → w.cell? (a.add (I - 1)) = some (.int .i64 p2))
    (d2 : 0 < I → w.cell? ⟨gd, I - 1, none⟩ = some (.slice (some ⟨g2, 0, none⟩) m3 m3)) (e4 : 0 < I → 0 < K → w.cell? ⟨g2, K - 1, none⟩ = some (.int .i64 V)) :
    Calls Try.prog 28 #[.slice (some ⟨gd, 0, none⟩) n1 c1, .slice (some a) la ca, .slice (some b) lb cb, .int .i64 ((I : Int) + 1), .int .i64 ((K : Int) + 1), .bool sw] w fun e w' =>
      e = .returned (.int .i64 ((if swB sw I K p1 q1 p2 q2 then min (min (min X Y + 1) (if p1 = q1 then Z else Z + 1)) (V + 1) else min (min X Y + 1) (if p1 = q1 then Z else Z + 1) : Nat) : Int)) ∧ ∃ q, w' = w.drewN q := by
  obtain ⟨R, hR⟩ : ∃ R : Nat, R = (if swB sw I K p1 q1 p2 q2 then min (min (min X Y + 1) (if p1 = q1 then Z else Z + 1)) (V + 1) else min (min X Y + 1) (if p1 = q1 then Z else Z + 1)) := ⟨_, rfl⟩
  rw [← hR]
  have HR := Lib.hid hR
  clear hR
  have hI : ((I : Int) + 1 == 0) = false := by rw [beq_eq_false_iff_ne]; omega
  have hK : ((K : Int) + 1 == 0) = false := by rw [beq_eq_false_iff_ne]; omega
  have wi : IntKind.i64.wrap (I : Int) = I := by rw [IntKind.wrap_i64]; omega
  have wk : IntKind.i64.wrap (K : Int) = K := by rw [IntKind.wrap_i64]; omega
  have ti : ((I : Int) + 1).toNat = I + 1 := by omega
  have tk : ((K : Int) + 1).toNat = K + 1 := by omega
  have b1 : (0 : Int) ≤ (I : Int) := by omega
  have b2 : (0 : Int) ≤ (K : Int) := by omega
  have b3 : (I : Int) < (n1 : Int) := by omega
  have b4 : (I : Int) + 1 < (n1 : Int) := by omega
  have b5 : (K : Int) + 1 < (m1 : Int) := by omega
  have b6 : (K : Int) < (m2 : Int) := by omega
  have b7 : (I : Int) < (la : Int) := by omega
  have b8 : (K : Int) < (lb : Int) := by omega
  have b9 : (K : Int) < (m1 : Int) := by omega
  have b10 : (0 : Int) ≤ (I : Int) + 1 := by omega
  have b11 : (0 : Int) ≤ (K : Int) + 1 := by omega
  have F3 := Lib.hid f3
  have F4 := Lib.hid f4
  have D2 := Lib.hid d2
  have E4 := Lib.hid e4
  clear f3 f4 d2 e4
  go_enter Try.func28, Try.ntmps28
  go_upto_region 3 with (fail)
  go_cut [13] (fun s13 wx => s13 = .int .i64 ((min X Y + 1 : Nat) : Int) ∧ ∃ q, wx = w.drewN q)
  case first =>
    go_quiet (fail)
    go_wp2
    all_goals go_meet
    all_goals exact ⟨val_i64 (by omega), _, rfl⟩
  case rest =>
    obtain ⟨rfl, q, rfl⟩ := hcut
    obtain ⟨A, hA⟩ : ∃ A, A = min X Y + 1 := ⟨_, rfl⟩
    rw [← hA]
    have hA2 : A ≤ 4001 := by omega
    have HA := Lib.hid hA
    clear hA
    go_upto_region 4 with (fail)
    go_cut [51] (fun s51 wx => s51 = .bool (p1 == q1) ∧ ∃ q, wx = w.drewN q)
    case first =>
      go_quiet (fail)
      go_wp2_with (fail)
      go_meet
      case rel => exact ⟨rfl, drew_more _ _ _⟩
    case rest =>
      obtain ⟨rfl, q, rfl⟩ := hcut
      go_upto_if 51 with (fail)
      go_cut [13] (fun s13 wx => s13 = .int .i64 ((min A (if p1 = q1 then Z else Z + 1) : Nat) : Int) ∧ ∃ q, wx = w.drewN q)
      case first =>
        by_cases hp : p1 = q1
        · have hpq : (p1 == q1) = true := by rw [beq_iff_eq]; exact hp
          have HP := Lib.hid hp
          clear hp
          simp only [hpq]
          go_wp2
          all_goals go_meet
          all_goals exact ⟨val_i64 (by rw [if_pos HP.out]; omega), _, rfl⟩
        · have hpq : (p1 == q1) = false := by rw [beq_eq_false_iff_ne]; exact hp
          have HP := Lib.hid hp
          clear hp
          simp only [hpq]
          go_wp2
          all_goals go_meet
          all_goals exact ⟨val_i64 (by rw [if_neg HP.out]; omega), _, rfl⟩
      case rest =>
        obtain ⟨rfl, q, rfl⟩ := hcut
        obtain ⟨D, hD⟩ : ∃ D, D = min A (if p1 = q1 then Z else Z + 1) := ⟨_, rfl⟩
        rw [← hD]
        have hD2 : D ≤ 4001 := by omega
        have HD := Lib.hid (show D = min (min X Y + 1) (if p1 = q1 then Z else Z + 1) by rw [hD, HA.out])
        clear hD HA hA2
        go_upto_region 7 with (fail)
        go_cut [109] (fun s109 wx => s109 = .bool (swB sw I K p1 q1 p2 q2) ∧ ∃ q, wx = w.drewN q)
        case first =>
          cases sw with
          | false =>
            go_quiet (fail)
            go_wp2_with (fail)
            go_meet
            case rel => exact ⟨by simp [swB], drew_more _ _ _⟩
          | true =>
            by_cases hI0 : I = 0
            · subst hI0
              go_quiet (fail)
              go_wp2_with (fail)
              go_meet
              case rel => exact ⟨by simp [swB], drew_more _ _ _⟩
            · obtain ⟨I', hI'⟩ : ∃ J, J = I - 1 := ⟨_, rfl⟩
              by_cases hK0 : K = 0
              · subst hK0
                generalize hx : ((I : Int) + 1) = x
                have HXG := Lib.hid hx
                have x0 : decide ((1 : Int) < x) = true := decide_eq_true (by omega)
                have x1 : (1 : Int) ≤ x := by omega
                have x2 : (2 : Int) ≤ x := by omega
                have x3 : x - 1 < (la : Int) := by omega
                have x4 : x - 2 < (la : Int) := by omega
                have x5 : (x - 1).toNat = I := by omega
                have x6 : (x - 2).toNat = I' := by omega
                have x7 : IntKind.i64.wrap (x - 1) = x - 1 := by rw [IntKind.wrap_i64]; omega
                have x8 : IntKind.i64.wrap (x - 2) = x - 2 := by rw [IntKind.wrap_i64]; omega
                have x9 : (0 : Int) ≤ x - 1 := by omega
                have x10 : (0 : Int) ≤ x - 2 := by omega
                clear hx
                clear hI0 hI'
                clear b1 b2 b3 b4 b5 b6 b7 b8 b9 b10 b11 ti tk wi wk hI hK
                go_quiet (fail)
                go_wp2_with (fail)
                have hx := HXG.out
                subst hx
                go_meet
                case rel => exact ⟨by simp [swB], drew_more _ _ _⟩
              · obtain ⟨K', hK'⟩ : ∃ J, J = K - 1 := ⟨_, rfl⟩
                have f3 := F3.out (by omega)
                have f4 := F4.out (by omega)
                rw [← hI'] at f4
                rw [← hK'] at f3
                generalize hx : ((I : Int) + 1) = x
                have HXG := Lib.hid hx
                have x0 : decide ((1 : Int) < x) = true := decide_eq_true (by omega)
                have x1 : (1 : Int) ≤ x := by omega
                have x2 : (2 : Int) ≤ x := by omega
                have x3 : x - 1 < (la : Int) := by omega
                have x4 : x - 2 < (la : Int) := by omega
                have x5 : (x - 1).toNat = I := by omega
                have x6 : (x - 2).toNat = I' := by omega
                have x7 : IntKind.i64.wrap (x - 1) = x - 1 := by rw [IntKind.wrap_i64]; omega
                have x8 : IntKind.i64.wrap (x - 2) = x - 2 := by rw [IntKind.wrap_i64]; omega
                have x9 : (0 : Int) ≤ x - 1 := by omega
                have x10 : (0 : Int) ≤ x - 2 := by omega
                clear hx
                generalize hy : ((K : Int) + 1) = y
                have HYG := Lib.hid hy
                have y0 : decide ((1 : Int) < y) = true := decide_eq_true (by omega)
                have y1 : (1 : Int) ≤ y := by omega
                have y2 : (2 : Int) ≤ y := by omega
                have y3 : y - 1 < (lb : Int) := by omega
                have y4 : y - 2 < (lb : Int) := by omega
                have y5 : (y - 1).toNat = K := by omega
                have y6 : (y - 2).toNat = K' := by omega
                have y7 : IntKind.i64.wrap (y - 1) = y - 1 := by rw [IntKind.wrap_i64]; omega
                have y8 : IntKind.i64.wrap (y - 2) = y - 2 := by rw [IntKind.wrap_i64]; omega
                have y9 : (0 : Int) ≤ y - 1 := by omega
                have y10 : (0 : Int) ≤ y - 2 := by omega
                clear hy
                have HI0 := Lib.hid (show 0 < I by omega)
                have HK0 := Lib.hid (show 0 < K by omega)
                clear hI0 hK0 hI' hK'
                clear b1 b2 b3 b4 b5 b6 b7 b8 b9 b10 b11 ti tk wi wk hI hK
                by_cases h12 : p1 = q2
                · have h12b : (p1 == q2) = true := by rw [beq_iff_eq]; exact h12
                  by_cases h21 : p2 = q1
                  · have h21b : (p2 == q1) = true := by rw [beq_iff_eq]; exact h21
                    have HS := Lib.hid (show swB true I K p1 q1 p2 q2 = true by simp [swB, h12, h21, HI0.out, HK0.out])
                    clear h12 h21
                    go_quiet (fail)
                    go_wp2_with (fail)
                    have hx := HXG.out
                    have hy := HYG.out
                    subst hx
                    subst hy
                    go_meet
                    case rel => exact ⟨by rw [HS.out], drew_more _ _ _⟩
                  · have h21b : (p2 == q1) = false := by rw [beq_eq_false_iff_ne]; exact h21
                    have HS := Lib.hid (show swB true I K p1 q1 p2 q2 = false by simp [swB, h21])
                    clear h12 h21
                    go_quiet (fail)
                    go_wp2_with (fail)
                    have hx := HXG.out
                    have hy := HYG.out
                    subst hx
                    subst hy
                    go_meet
                    case rel => exact ⟨by rw [HS.out], drew_more _ _ _⟩
                · have h12b : (p1 == q2) = false := by rw [beq_eq_false_iff_ne]; exact h12
                  have HS := Lib.hid (show swB true I K p1 q1 p2 q2 = false by simp [swB, h12])
                  clear h12
                  go_quiet (fail)
                  go_wp2_with (fail)
                  have hx := HXG.out
                  have hy := HYG.out
                  subst hx
                  subst hy
                  go_meet
                  case rel => exact ⟨by rw [HS.out], drew_more _ _ _⟩
        case rest =>
          obtain ⟨hs, q, rfl⟩ := hcut
          cases hsw : swB sw I K p1 q1 p2 q2 with
          | false =>
            rw [hsw] at hs
            subst hs
            go_wp2
            go_ret
            exact ⟨ret_i64 (by rw [HR.out, hsw, HD.out]; rfl), _, rfl⟩
          | true =>
            rw [hsw] at hs
            subst hs
            have HSW := Lib.hid hsw
            unfold swB at hsw
            simp only [Bool.and_eq_true, decide_eq_true_eq] at hsw
            obtain ⟨⟨⟨⟨-, hI0⟩, hK0⟩, -⟩, -⟩ := hsw
            have d2 := D2.out hI0
            have e4 := E4.out hI0 hK0
            obtain ⟨I, rfl⟩ : ∃ J, I = J + 1 := ⟨I - 1, by omega⟩
            obtain ⟨K, rfl⟩ : ∃ J, K = J + 1 := ⟨K - 1, by omega⟩
            simp only [Nat.add_sub_cancel] at d2 e4
            go_wp2
            all_goals go_ret
            all_goals exact ⟨ret_i64 (by rw [HR.out, HSW.out, if_pos rfl, ← HD.out]; omega), _, rfl⟩

end Go.Proofs.Ytgblmafollhojaa
