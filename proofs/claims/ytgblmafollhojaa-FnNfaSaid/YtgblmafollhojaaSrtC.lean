/-
  Sorting through an interface value: partitionEqual, partition. Conditions: as stated.
-/
import Derived.Test.YtgblmafollhojaaSrtB
namespace Go.Proofs.Ytgblmafollhojaa
open Go.ChangeShapes Go.WideShapes Go.ChangeAt Go.RowKit
open Go.Sort (swp scanUp scanDown partLoop partEqLoop partition partitionEqual)
set_option linter.unusedVariables false

theorem ret_i64 {a b : Int} (h : a = b) : Ending.returned (.int .i64 a) = .returned (.int .i64 b) := by rw [h]

section
variable {α : Type} [Inhabited α] (p : α → Bool) (d : Array α)
theorem scanUp_go (j i : Nat) (h : i ≤ j) (hp : p d[i]! = true) : scanUp p d j i = scanUp p d j (i + 1) := by
  conv => lhs; rw [scanUp]
  rw [if_pos (by rw [hp, Bool.and_true]; simpa using h)]
theorem scanUp_stop (j i : Nat) (h : ¬ i ≤ j ∨ p d[i]! = false) : scanUp p d j i = i := by
  rw [scanUp, if_neg]
  rcases h with h | h
  · simp; omega
  · simp [h]
theorem scanDown_go (i j : Nat) (h : i ≤ j) (h1 : 1 ≤ j) (hp : p d[j]! = true) : scanDown p d i j = scanDown p d i (j - 1) := by
  obtain ⟨k, rfl⟩ : ∃ k, j = k + 1 := ⟨j - 1, by omega⟩
  rw [scanDown, if_pos (by rw [hp, Bool.and_true]; simpa using h)]
  rfl
theorem scanDown_stop (i j : Nat) (h : ¬ i ≤ j ∨ p d[j]! = false) : scanDown p d i j = j := by
  cases j with
  | zero => rfl
  | succ k =>
    rw [scanDown, if_neg]
    rcases h with h | h
    · simp; omega
    · simp [h]
end

set_option maxRecDepth 100000 in
set_option maxHeartbeats 1600000 in
theorem peq_any {α : Type} [Inhabited α] {I : Itf α} (O : I.Ok) (W : World) (d : Array α) (a b pv : Nat) (h : I.S W d) (hab : a < b) (hb : b ≤ I.N) (hp : pv < I.N) :
    Calls Try.prog 59 #[.iface I.T I.rv, .int .i64 a, .int .i64 b, .int .i64 pv] W fun e w' => e = .returned (.int .i64 ((partitionEqual I.lt d a b pv).1 : Nat)) ∧ Hs I W (partitionEqual I.lt d a b pv).2 w' := by
  have mL := O.mL
  have mS := O.mS
  have eL := O.eL
  have eS := O.eS
  have big := O.big
  have HO := Lib.hid O
  have HH := Lib.hid (Hs.refl h)
  obtain ⟨R, hR⟩ : ∃ R, R = partitionEqual I.lt d a b pv := ⟨_, rfl⟩
  have HR := Lib.hid (show partEqLoop I.lt a (a + 1) (b - 1) (swp d a pv) = R from hR.symm)
  rw [← hR]
  clear h O hR
  go_enter Try.func59, Try.ntmps59
  go_wp2_with fail
  refine (HH.out.swapI HO.out _ _ a pv (by omega) (by omega) (by omega) (by omega)).mono ?_
  rintro e w1 ⟨rfl, hs1⟩
  have H1 := Lib.hid hs1
  clear hs1
  go_wp2
  go_loopw [9, 10] (fun vi vj wr => ∃ (i j : Nat) (dk : Array α), vi = .int .i64 i ∧ vj = .int .i64 j ∧ a < i ∧ i ≤ b + 1 ∧ j < b ∧ Hid (partEqLoop I.lt a i j dk = R) ∧ Hid (Hs I W dk wr)) (fun vi vj _ => b + 1 - (intOf vi).toNat)
  case atStart => exact ⟨a + 1, b - 1, swp d a pv, by go_num, by go_num, by omega, by omega, by omega, HR, H1⟩
  case round =>
    obtain ⟨i, j, dk, rfl, rfl, hai, hib, hjb, HE, HK⟩ := hrel
    go_wp2
    go_loopw [9] (fun vi wr1 => ∃ (i1 : Nat), vi = .int .i64 i1 ∧ i ≤ i1 ∧ i1 ≤ b + 1 ∧ Hid (scanUp (fun x => !I.lt dk[a]! x) dk j i1 = scanUp (fun x => !I.lt dk[a]! x) dk j i) ∧ Hid (Hs I W dk wr1)) (fun vi _ => b + 1 - (intOf vi).toNat)
    case atStart => exact ⟨i, rfl, Nat.le_refl _, hib, Lib.hid rfl, HK⟩
    case round =>
      obtain ⟨i1, rfl, hi1, hi1b, HU, HK1⟩ := hrel
      by_cases hgo : i1 ≤ j ∧ I.lt dk[a]! dk[i1]! = false
      · obtain ⟨hle, hlv⟩ := hgo
        have HLV := Lib.hid hlv
        clear hlv
        go_wp2_with fail
        refine (HK1.out.lessI HO.out _ _ a i1 (by omega) (by omega) (by omega) (by omega)).mono ?_
        rw [HLV.out]
        rintro e w2 ⟨rfl, hs2⟩
        have H2 := Lib.hid hs2
        clear hs2
        go_wp2
        go_roundw
        case rel => exact ⟨i1 + 1, by go_num, by omega, by omega, Lib.hid (by rw [← HU.out, scanUp_go _ dk j i1 hle (by simp [HLV.out])]), H2⟩
        case measure => simp [intOf]; omega
      · have HS := Lib.hid (show scanUp (fun x => !I.lt dk[a]! x) dk j i = i1 by
          rw [← HU.out, scanUp_stop]
          by_cases hc : i1 ≤ j
          · right
            cases hl : I.lt dk[a]! dk[i1]! with
            | true => rfl
            | false => exact absurd ⟨hc, hl⟩ hgo
          · exact .inl hc)
        have key : ∀ w2, Hs I W dk w2 → Hid (Hs I W dk w2) := fun w2 h => Lib.hid h
        by_cases hle : i1 ≤ j
        · have hlv : I.lt dk[a]! dk[i1]! = true := by
            cases hl : I.lt dk[a]! dk[i1]! with
            | true => rfl
            | false => exact absurd ⟨hle, hl⟩ hgo
          have HLV := Lib.hid hlv
          clear hlv hgo key
          go_wp2_with fail
          refine (HK1.out.lessI HO.out _ _ a i1 (by omega) (by omega) (by omega) (by omega)).mono ?_
          rw [HLV.out]
          rintro e w2 ⟨rfl, hs2⟩
          have H2 := Lib.hid hs2
          clear hs2
          go_wp2
          go_loopw [10] (fun vj wr2 => ∃ (j1 : Nat), vj = .int .i64 j1 ∧ j1 ≤ j ∧ Hid (scanDown (fun x => I.lt dk[a]! x) dk i1 j1 = scanDown (fun x => I.lt dk[a]! x) dk i1 j) ∧ Hid (Hs I W dk wr2)) (fun vj _ => (intOf vj).toNat)
          case atStart => exact ⟨j, rfl, Nat.le_refl _, Lib.hid rfl, H2⟩
          case round =>
            obtain ⟨j1, rfl, hj1, HD, HK2⟩ := hrel
            by_cases hle2 : i1 ≤ j1
            · cases hlv2 : I.lt dk[a]! dk[j1]! with
              | true =>
                have HLV2 := Lib.hid hlv2
                clear hlv2
                go_wp2_with fail
                refine (HK2.out.lessI HO.out _ _ a j1 (by omega) (by omega) (by omega) (by omega)).mono ?_
                rw [HLV2.out]
                rintro e w3 ⟨rfl, hs3⟩
                have H3 := Lib.hid hs3
                clear hs3
                go_wp2
                go_roundw
                case rel => exact ⟨j1 - 1, by go_num, by omega, Lib.hid (by rw [← HD.out, scanDown_go _ dk i1 j1 hle2 (by omega) HLV2.out]), H3⟩
                case measure => simp [intOf]; omega
              | false =>
                have HLV2 := Lib.hid hlv2
                clear hlv2
                have HJ := Lib.hid (show scanDown (fun x => I.lt dk[a]! x) dk i1 j = j1 by rw [← HD.out, scanDown_stop _ dk i1 j1 (.inr HLV2.out)])
                have HF := Lib.hid (show partEqLoop I.lt a (i1 + 1) (j1 - 1) (swp dk i1 j1) = R by
                  rw [← HE.out, Go.Sort.partEqLoop_eq I.lt a i j dk, HS.out, HJ.out, if_neg (by omega)])
                go_wp2_with fail
                refine (HK2.out.lessI HO.out _ _ a j1 (by omega) (by omega) (by omega) (by omega)).mono ?_
                rw [HLV2.out]
                rintro e w3 ⟨rfl, hs3⟩
                have H3 := Lib.hid hs3
                clear hs3
                go_wp2_with fail
                refine (H3.out.swapI HO.out _ _ i1 j1 (by omega) (by omega) (by omega) (by omega)).mono ?_
                rintro e w4 ⟨rfl, hs4⟩
                have H4 := Lib.hid hs4
                clear hs4
                go_wp2
                go_roundw
                case rel => exact ⟨i1 + 1, j1 - 1, _, by go_num, by go_num, by omega, by omega, by omega, HF, H4⟩
                case measure => simp [intOf]; omega
            · have HJ := Lib.hid (show scanDown (fun x => I.lt dk[a]! x) dk i1 j = j1 by rw [← HD.out, scanDown_stop _ dk i1 j1 (.inl hle2)])
              have HF := Lib.hid (show R = (i1, dk) by
                rw [← HE.out, Go.Sort.partEqLoop_eq I.lt a i j dk, HS.out, HJ.out, if_pos (by omega)])
              go_wp2
              go_ret
              exact ⟨ret_i64 (by rw [HF.out]), by rw [HF.out]; exact HK2.out⟩
        · clear hgo key
          go_wp2
          go_loopw [10] (fun vj wr2 => ∃ (j1 : Nat), vj = .int .i64 j1 ∧ j1 ≤ j ∧ Hid (scanDown (fun x => I.lt dk[a]! x) dk i1 j1 = scanDown (fun x => I.lt dk[a]! x) dk i1 j) ∧ Hid (Hs I W dk wr2)) (fun vj _ => (intOf vj).toNat)
          case atStart => exact ⟨j, rfl, Nat.le_refl _, Lib.hid rfl, HK1⟩
          case round =>
            obtain ⟨j1, rfl, hj1, HD, HK2⟩ := hrel
            have hle2 : ¬ i1 ≤ j1 := by omega
            have HJ := Lib.hid (show scanDown (fun x => I.lt dk[a]! x) dk i1 j = j1 by rw [← HD.out, scanDown_stop _ dk i1 j1 (.inl hle2)])
            have HF := Lib.hid (show R = (i1, dk) by
              rw [← HE.out, Go.Sort.partEqLoop_eq I.lt a i j dk, HS.out, HJ.out, if_pos (by omega)])
            go_wp2
            go_ret
            exact ⟨ret_i64 (by rw [HF.out]), by rw [HF.out]; exact HK2.out⟩

set_option maxRecDepth 100000 in
set_option maxHeartbeats 3200000 in
theorem part_any {α : Type} [Inhabited α] {I : Itf α} (O : I.Ok) (W : World) (d : Array α) (a b pv : Nat) (h : I.S W d) (hab : a < b) (hb : b ≤ I.N) (hp : pv < I.N) :
    Calls Try.prog 60 #[.iface I.T I.rv, .int .i64 a, .int .i64 b, .int .i64 pv] W fun e w' => e = .returned (.tuple #[.int .i64 ((partition I.lt d a b pv).1 : Nat), .bool (partition I.lt d a b pv).2.1]) ∧ Hs I W (partition I.lt d a b pv).2.2 w' := by
  have mL := O.mL
  have mS := O.mS
  have eL := O.eL
  have eS := O.eS
  have big := O.big
  have HO := Lib.hid O
  have HH := Lib.hid (Hs.refl h)
  obtain ⟨R, hR⟩ : ∃ R, R = partition I.lt d a b pv := ⟨_, rfl⟩
  obtain ⟨d1, hd1⟩ : ∃ d1, d1 = swp d a pv := ⟨_, rfl⟩
  have HD1 := Lib.hid hd1
  have HR := Lib.hid (show R = (if scanUp (fun x => I.lt x d1[a]!) d1 (b - 1) (a + 1) > scanDown (fun x => !I.lt x d1[a]!) d1 (scanUp (fun x => I.lt x d1[a]!) d1 (b - 1) (a + 1)) (b - 1) then
      (scanDown (fun x => !I.lt x d1[a]!) d1 (scanUp (fun x => I.lt x d1[a]!) d1 (b - 1) (a + 1)) (b - 1), true, swp d1 (scanDown (fun x => !I.lt x d1[a]!) d1 (scanUp (fun x => I.lt x d1[a]!) d1 (b - 1) (a + 1)) (b - 1)) a) else
      ((partLoop I.lt a (scanUp (fun x => I.lt x d1[a]!) d1 (b - 1) (a + 1) + 1) (scanDown (fun x => !I.lt x d1[a]!) d1 (scanUp (fun x => I.lt x d1[a]!) d1 (b - 1) (a + 1)) (b - 1) - 1) (swp d1 (scanUp (fun x => I.lt x d1[a]!) d1 (b - 1) (a + 1)) (scanDown (fun x => !I.lt x d1[a]!) d1 (scanUp (fun x => I.lt x d1[a]!) d1 (b - 1) (a + 1)) (b - 1)))).1, false,
        swp (partLoop I.lt a (scanUp (fun x => I.lt x d1[a]!) d1 (b - 1) (a + 1) + 1) (scanDown (fun x => !I.lt x d1[a]!) d1 (scanUp (fun x => I.lt x d1[a]!) d1 (b - 1) (a + 1)) (b - 1) - 1) (swp d1 (scanUp (fun x => I.lt x d1[a]!) d1 (b - 1) (a + 1)) (scanDown (fun x => !I.lt x d1[a]!) d1 (scanUp (fun x => I.lt x d1[a]!) d1 (b - 1) (a + 1)) (b - 1)))).2
          (partLoop I.lt a (scanUp (fun x => I.lt x d1[a]!) d1 (b - 1) (a + 1) + 1) (scanDown (fun x => !I.lt x d1[a]!) d1 (scanUp (fun x => I.lt x d1[a]!) d1 (b - 1) (a + 1)) (b - 1) - 1) (swp d1 (scanUp (fun x => I.lt x d1[a]!) d1 (b - 1) (a + 1)) (scanDown (fun x => !I.lt x d1[a]!) d1 (scanUp (fun x => I.lt x d1[a]!) d1 (b - 1) (a + 1)) (b - 1)))).1 a)) by rw [hR, hd1]; rfl)
  rw [← hR]
  clear h O hR hd1
  go_enter Try.func60, Try.ntmps60
  go_wp2_with fail
  refine (HH.out.swapI HO.out _ _ a pv (by omega) (by omega) (by omega) (by omega)).mono ?_
  rintro e w1 ⟨rfl, hs1⟩
  rw [← HD1.out] at hs1
  have H1 := Lib.hid hs1
  clear hs1
  go_wp2
  go_loopw [10] (fun vi wr1 => ∃ (i1 : Nat), vi = .int .i64 i1 ∧ a < i1 ∧ i1 ≤ b ∧ Hid (scanUp (fun x => I.lt x d1[a]!) d1 (b - 1) i1 = scanUp (fun x => I.lt x d1[a]!) d1 (b - 1) (a + 1)) ∧ Hid (Hs I W d1 wr1)) (fun vi _ => b + 1 - (intOf vi).toNat)
  case atStart => exact ⟨a + 1, by go_num, by omega, by omega, Lib.hid rfl, H1⟩
  case round =>
    obtain ⟨i1, rfl, hi1, hi1b, HU, HK1⟩ := hrel
    by_cases hgo : i1 < b ∧ I.lt d1[i1]! d1[a]! = true
    · obtain ⟨hle, hlv⟩ := hgo
      have HLV := Lib.hid hlv
      have hle' : (i1 : Int) ≤ (b : Int) - 1 := by omega
      clear hlv
      go_wp2_with fail
      refine (HK1.out.lessI HO.out _ _ i1 a (by omega) (by omega) (by omega) (by omega)).mono ?_
      rw [HLV.out]
      rintro e w2 ⟨rfl, hs2⟩
      have H2 := Lib.hid hs2
      clear hs2
      go_wp2
      go_roundw
      case rel => exact ⟨i1 + 1, by go_num, by omega, by omega, Lib.hid (by rw [← HU.out, scanUp_go _ d1 (b - 1) i1 (by omega) HLV.out]), H2⟩
      case measure => simp [intOf]; omega
    · have HS := Lib.hid (show scanUp (fun x => I.lt x d1[a]!) d1 (b - 1) (a + 1) = i1 by
        rw [← HU.out, scanUp_stop]
        by_cases hc : i1 < b
        · right
          cases hl : I.lt d1[i1]! d1[a]! with
          | false => rfl
          | true => exact absurd ⟨hc, hl⟩ hgo
        · exact .inl (by omega))
      have hstop : (i1 < b ∧ I.lt d1[i1]! d1[a]! = false) ∨ ¬ i1 < b := by
        by_cases hc : i1 < b
        · cases hl : I.lt d1[i1]! d1[a]! with
          | false => exact .inl ⟨hc, rfl⟩
          | true => exact absurd ⟨hc, hl⟩ hgo
        · exact .inr hc
      clear hgo HU
      rcases hstop with ⟨hlt, hlv⟩ | hnlt
      · have HLV := Lib.hid hlv
        have hle' : (i1 : Int) ≤ (b : Int) - 1 := by omega
        clear hlv
        go_wp2_with fail
        refine (HK1.out.lessI HO.out _ _ i1 a (by omega) (by omega) (by omega) (by omega)).mono ?_
        rw [HLV.out]
        rintro e w2 ⟨rfl, hs2⟩
        have H2 := Lib.hid hs2
        clear hs2
        go_wp2
        go_loopw [11] (fun vj wr2 => ∃ (j1 : Nat), vj = .int .i64 j1 ∧ j1 ≤ b - 1 ∧ Hid (scanDown (fun x => !I.lt x d1[a]!) d1 i1 j1 = scanDown (fun x => !I.lt x d1[a]!) d1 i1 (b - 1)) ∧ Hid (Hs I W d1 wr2)) (fun vj _ => (intOf vj).toNat)
        case atStart => exact ⟨b - 1, by go_num, Nat.le_refl _, Lib.hid rfl, H2⟩
        case round =>
          obtain ⟨j1, rfl, hj1, HD, HK2⟩ := hrel
          by_cases hle2 : i1 ≤ j1
          · cases hlv2 : I.lt d1[j1]! d1[a]! with
            | false =>
              have HLV2 := Lib.hid hlv2
              clear hlv2
              go_wp2_with fail
              refine (HK2.out.lessI HO.out _ _ j1 a (by omega) (by omega) (by omega) (by omega)).mono ?_
              rw [HLV2.out]
              rintro e w3 ⟨rfl, hs3⟩
              have H3 := Lib.hid hs3
              clear hs3
              go_wp2
              go_roundw
              case rel => exact ⟨j1 - 1, by go_num, by omega, Lib.hid (by rw [← HD.out, scanDown_go _ d1 i1 j1 hle2 (by omega) (by simp [HLV2.out])]), H3⟩
              case measure => simp [intOf]; omega
            | true =>
              have HLV2 := Lib.hid hlv2
              clear hlv2
              have HJ := Lib.hid (show scanDown (fun x => !I.lt x d1[a]!) d1 i1 (b - 1) = j1 by rw [← HD.out, scanDown_stop _ d1 i1 j1 (.inr (by simp [HLV2.out]))])
              obtain ⟨Q, hQ⟩ : ∃ Q, Q = partLoop I.lt a (i1 + 1) (j1 - 1) (swp d1 i1 j1) := ⟨_, rfl⟩
              have HQ := Lib.hid hQ
              have HF := Lib.hid (show R = (Q.1, false, swp Q.2 Q.1 a) by
                rw [HR.out, HS.out, HJ.out, if_neg (by omega), hQ])
              clear hQ
              go_wp2_with fail
              refine (HK2.out.lessI HO.out _ _ j1 a (by omega) (by omega) (by omega) (by omega)).mono ?_
              rw [HLV2.out]
              rintro e w3 ⟨rfl, hs3⟩
              have H3 := Lib.hid hs3
              clear hs3
              go_wp2_with fail
              refine (H3.out.swapI HO.out _ _ i1 j1 (by omega) (by omega) (by omega) (by omega)).mono ?_
              rintro e w4 ⟨rfl, hs4⟩
              have H4 := Lib.hid hs4
              clear hs4
              go_wp2
              go_loopw [10, 11] (fun vi vj wr => ∃ (i j : Nat) (dk : Array α), vi = .int .i64 i ∧ vj = .int .i64 j ∧ a < i ∧ i ≤ b + 1 ∧ j < b ∧ Hid (partLoop I.lt a i j dk = Q) ∧ Hid (Hs I W dk wr)) (fun vi vj _ => b + 1 - (intOf vi).toNat)
              case atStart => exact ⟨i1 + 1, j1 - 1, _, by go_num, by go_num, by omega, by omega, by omega, Lib.hid HQ.out.symm, H4⟩
              case round =>
                obtain ⟨i, j, dk, rfl, rfl, hai, hib, hjb, HE, HK⟩ := hrel
                clear HK1 HK2 H1 HR HD HJ HS hle2 hle' hj1 hi1 hi1b
                go_wp2
                go_loopw [10] (fun vi wr1 => ∃ (i1 : Nat), vi = .int .i64 i1 ∧ i ≤ i1 ∧ i1 ≤ b + 1 ∧ Hid (scanUp (fun x => I.lt x dk[a]!) dk j i1 = scanUp (fun x => I.lt x dk[a]!) dk j i) ∧ Hid (Hs I W dk wr1)) (fun vi _ => b + 1 - (intOf vi).toNat)
                case atStart => exact ⟨i, rfl, Nat.le_refl _, hib, Lib.hid rfl, HK⟩
                case round =>
                  obtain ⟨i2, rfl, hi2, hi2b, HU, HK3⟩ := hrel
                  by_cases hc : i2 ≤ j
                  · cases hlv : I.lt dk[i2]! dk[a]! with
                    | true =>
                      have HLV := Lib.hid hlv
                      clear hlv
                      go_wp2_with fail
                      refine (HK3.out.lessI HO.out _ _ i2 a (by omega) (by omega) (by omega) (by omega)).mono ?_
                      rw [HLV.out]
                      rintro e w2 ⟨rfl, hs2⟩
                      have H5 := Lib.hid hs2
                      clear hs2
                      go_wp2
                      go_roundw
                      case rel => exact ⟨i2 + 1, by go_num, by omega, by omega, Lib.hid (by rw [← HU.out, scanUp_go _ dk j i2 hc HLV.out]), H5⟩
                      case measure => simp [intOf]; omega
                    | false =>
                      have HLV := Lib.hid hlv
                      clear hlv
                      have HS := Lib.hid (show scanUp (fun x => I.lt x dk[a]!) dk j i = i2 by rw [← HU.out, scanUp_stop _ dk j i2 (.inr HLV.out)])
                      go_wp2_with fail
                      refine (HK3.out.lessI HO.out _ _ i2 a (by omega) (by omega) (by omega) (by omega)).mono ?_
                      rw [HLV.out]
                      rintro e w2 ⟨rfl, hs2⟩
                      have H5 := Lib.hid hs2
                      clear hs2
                      go_wp2
                      go_loopw [11] (fun vj wr2 => ∃ (j2 : Nat), vj = .int .i64 j2 ∧ j2 ≤ j ∧ Hid (scanDown (fun x => !I.lt x dk[a]!) dk i2 j2 = scanDown (fun x => !I.lt x dk[a]!) dk i2 j) ∧ Hid (Hs I W dk wr2)) (fun vj _ => (intOf vj).toNat)
                      case atStart => exact ⟨j, rfl, Nat.le_refl _, Lib.hid rfl, H5⟩
                      case round =>
                        obtain ⟨j2, rfl, hj2, HD2, HK4⟩ := hrel
                        by_cases hle3 : i2 ≤ j2
                        · cases hlv3 : I.lt dk[j2]! dk[a]! with
                          | false =>
                            have HLV3 := Lib.hid hlv3
                            clear hlv3
                            go_wp2_with fail
                            refine (HK4.out.lessI HO.out _ _ j2 a (by omega) (by omega) (by omega) (by omega)).mono ?_
                            rw [HLV3.out]
                            rintro e w3 ⟨rfl, hs3⟩
                            have H6 := Lib.hid hs3
                            clear hs3
                            go_wp2
                            go_roundw
                            case rel => exact ⟨j2 - 1, by go_num, by omega, Lib.hid (by rw [← HD2.out, scanDown_go _ dk i2 j2 hle3 (by omega) (by simp [HLV3.out])]), H6⟩
                            case measure => simp [intOf]; omega
                          | true =>
                            have HLV3 := Lib.hid hlv3
                            clear hlv3
                            have HJ2 := Lib.hid (show scanDown (fun x => !I.lt x dk[a]!) dk i2 j = j2 by rw [← HD2.out, scanDown_stop _ dk i2 j2 (.inr (by simp [HLV3.out]))])
                            have HF2 := Lib.hid (show partLoop I.lt a (i2 + 1) (j2 - 1) (swp dk i2 j2) = Q by
                              rw [← HE.out, Go.Sort.partLoop_eq I.lt a i j dk, HS.out, HJ2.out, if_neg (by omega)])
                            go_wp2_with fail
                            refine (HK4.out.lessI HO.out _ _ j2 a (by omega) (by omega) (by omega) (by omega)).mono ?_
                            rw [HLV3.out]
                            rintro e w3 ⟨rfl, hs3⟩
                            have H6 := Lib.hid hs3
                            clear hs3
                            go_wp2_with fail
                            refine (H6.out.swapI HO.out _ _ i2 j2 (by omega) (by omega) (by omega) (by omega)).mono ?_
                            rintro e w4 ⟨rfl, hs4⟩
                            have H7 := Lib.hid hs4
                            clear hs4
                            go_wp2
                            go_roundw
                            case rel => exact ⟨i2 + 1, j2 - 1, _, by go_num, by go_num, by omega, by omega, by omega, HF2, H7⟩
                            case measure => simp [intOf]; omega
                        · have HJ2 := Lib.hid (show scanDown (fun x => !I.lt x dk[a]!) dk i2 j = j2 by rw [← HD2.out, scanDown_stop _ dk i2 j2 (.inl hle3)])
                          have HF2 := Lib.hid (show Q = (j2, dk) by
                            rw [← HE.out, Go.Sort.partLoop_eq I.lt a i j dk, HS.out, HJ2.out, if_pos (by omega)])
                          have HF3 := Lib.hid (show R = (j2, false, swp dk j2 a) by rw [HF.out, HF2.out])
                          go_wp2_with fail
                          refine (HK4.out.swapI HO.out _ _ j2 a (by omega) (by omega) (by omega) (by omega)).mono ?_
                          rintro e w4 ⟨rfl, hs4⟩
                          have H7 := Lib.hid hs4
                          clear hs4
                          go_wp2
                          go_ret2
                          rw [HF3.out]
                          exact ⟨rfl, H7.out⟩
                  · have HS := Lib.hid (show scanUp (fun x => I.lt x dk[a]!) dk j i = i2 by rw [← HU.out, scanUp_stop _ dk j i2 (.inl hc)])
                    go_wp2
                    go_loopw [11] (fun vj wr2 => ∃ (j2 : Nat), vj = .int .i64 j2 ∧ j2 ≤ j ∧ Hid (scanDown (fun x => !I.lt x dk[a]!) dk i2 j2 = scanDown (fun x => !I.lt x dk[a]!) dk i2 j) ∧ Hid (Hs I W dk wr2)) (fun vj _ => (intOf vj).toNat)
                    case atStart => exact ⟨j, rfl, Nat.le_refl _, Lib.hid rfl, HK3⟩
                    case round =>
                      obtain ⟨j2, rfl, hj2, HD2, HK4⟩ := hrel
                      have hle3 : ¬ i2 ≤ j2 := by omega
                      have HJ2 := Lib.hid (show scanDown (fun x => !I.lt x dk[a]!) dk i2 j = j2 by rw [← HD2.out, scanDown_stop _ dk i2 j2 (.inl hle3)])
                      have HF2 := Lib.hid (show Q = (j2, dk) by
                        rw [← HE.out, Go.Sort.partLoop_eq I.lt a i j dk, HS.out, HJ2.out, if_pos (by omega)])
                      have HF3 := Lib.hid (show R = (j2, false, swp dk j2 a) by rw [HF.out, HF2.out])
                      go_wp2_with fail
                      refine (HK4.out.swapI HO.out _ _ j2 a (by omega) (by omega) (by omega) (by omega)).mono ?_
                      rintro e w4 ⟨rfl, hs4⟩
                      have H7 := Lib.hid hs4
                      clear hs4
                      go_wp2
                      go_ret2
                      rw [HF3.out]
                      exact ⟨rfl, H7.out⟩
          · have HJ := Lib.hid (show scanDown (fun x => !I.lt x d1[a]!) d1 i1 (b - 1) = j1 by rw [← HD.out, scanDown_stop _ d1 i1 j1 (.inl hle2)])
            have HF3 := Lib.hid (show R = (j1, true, swp d1 j1 a) by rw [HR.out, HS.out, HJ.out, if_pos (by omega)])
            go_wp2_with fail
            refine (HK2.out.swapI HO.out _ _ j1 a (by omega) (by omega) (by omega) (by omega)).mono ?_
            rintro e w4 ⟨rfl, hs4⟩
            have H7 := Lib.hid hs4
            clear hs4
            go_wp2
            go_ret2
            rw [HF3.out]
            exact ⟨rfl, H7.out⟩
      · have hle' : ¬ (i1 : Int) ≤ (b : Int) - 1 := by omega
        go_wp2
        go_loopw [11] (fun vj wr2 => ∃ (j1 : Nat), vj = .int .i64 j1 ∧ j1 ≤ b - 1 ∧ Hid (scanDown (fun x => !I.lt x d1[a]!) d1 i1 j1 = scanDown (fun x => !I.lt x d1[a]!) d1 i1 (b - 1)) ∧ Hid (Hs I W d1 wr2)) (fun vj _ => (intOf vj).toNat)
        case atStart => exact ⟨b - 1, by go_num, Nat.le_refl _, Lib.hid rfl, HK1⟩
        case round =>
          obtain ⟨j1, rfl, hj1, HD, HK2⟩ := hrel
          have hle2 : ¬ i1 ≤ j1 := by omega
          have HJ := Lib.hid (show scanDown (fun x => !I.lt x d1[a]!) d1 i1 (b - 1) = j1 by rw [← HD.out, scanDown_stop _ d1 i1 j1 (.inl hle2)])
          have HF3 := Lib.hid (show R = (j1, true, swp d1 j1 a) by rw [HR.out, HS.out, HJ.out, if_pos (by omega)])
          go_wp2_with fail
          refine (HK2.out.swapI HO.out _ _ j1 a (by omega) (by omega) (by omega) (by omega)).mono ?_
          rintro e w4 ⟨rfl, hs4⟩
          have H7 := Lib.hid hs4
          clear hs4
          go_wp2
          go_ret2
          rw [HF3.out]
          exact ⟨rfl, H7.out⟩

end Go.Proofs.Ytgblmafollhojaa
