/-
  Sorting through an interface value: partialInsertionSort. Conditions: as stated.
-/
import Derived.Test.YtgblmafollhojaaSrtC
import Derived.Deep.CutRange
import Derived.Deep.DeepCutAuto
import Derived.WalkMore
namespace Go.Proofs.Ytgblmafollhojaa
open Go.ChangeShapes Go.WideShapes Go.ChangeAt Go.RowKit
open Go.Sort (swp scanSorted shiftDown shiftUp partialIns partialInsertionSort)
set_option linter.unusedVariables false

section
variable {α : Type} [Inhabited α] (lt : α → α → Bool)
theorem scanSorted_go (d : Array α) (b i : Nat) (h : i < b) (hl : lt d[i]! d[i - 1]! = false) : scanSorted lt d b i = scanSorted lt d b (i + 1) := by
  conv => lhs; rw [scanSorted]
  rw [if_pos (by rw [hl]; simpa using h)]
theorem scanSorted_stop (d : Array α) (b i : Nat) (h : ¬ i < b ∨ lt d[i]! d[i - 1]! = true) : scanSorted lt d b i = i := by
  rw [scanSorted, if_neg]
  rcases h with h | h
  · simp; omega
  · simp [h]
theorem shiftDown_go (j : Nat) (d : Array α) (h1 : 1 ≤ j) (hl : lt d[j]! d[j - 1]! = true) : shiftDown lt j d = shiftDown lt (j - 1) (swp d j (j - 1)) := by
  obtain ⟨k, rfl⟩ : ∃ k, j = k + 1 := ⟨j - 1, by omega⟩
  simp only [Nat.add_sub_cancel] at hl ⊢
  rw [shiftDown, if_neg (by rw [hl]; simp)]
theorem shiftDown_stop (j : Nat) (d : Array α) (h : ¬ 1 ≤ j ∨ lt d[j]! d[j - 1]! = false) : shiftDown lt j d = d := by
  cases j with
  | zero => rfl
  | succ k =>
    simp only [Nat.add_sub_cancel] at h
    rcases h with h | h
    · omega
    · rw [shiftDown, if_pos (by rw [h]; rfl)]
theorem shiftUp_go (b j : Nat) (d : Array α) (h : j < b) (hl : lt d[j]! d[j - 1]! = true) : shiftUp lt b j d = shiftUp lt b (j + 1) (swp d j (j - 1)) := by
  conv => lhs; rw [shiftUp]
  rw [if_pos h, if_neg (by rw [hl]; simp)]
theorem shiftUp_stop (b j : Nat) (d : Array α) (h : ¬ j < b ∨ lt d[j]! d[j - 1]! = false) : shiftUp lt b j d = d := by
  rw [shiftUp]
  rcases h with h | h
  · rw [if_neg h]
  · by_cases hj : j < b
    · rw [if_pos hj, if_pos (by rw [h]; rfl)]
    · rw [if_neg hj]
theorem pins_done (a b s i : Nat) (d : Array α) (h : scanSorted lt d b i = b) : partialIns lt a b (s + 1) i d = (d, true) := by
  rw [partialIns]
  simp only [h, if_true]
theorem pins_short (a b s i j : Nat) (d : Array α) (h : scanSorted lt d b i = j) (hj : j ≠ b) (h50 : b - a < 50) : partialIns lt a b (s + 1) i d = (d, false) := by
  rw [partialIns]
  simp only [h]
  rw [if_neg hj, if_pos h50]
theorem pins_go (a b s i j : Nat) (d d1 d2 d3 : Array α) (h : scanSorted lt d b i = j) (hj : j ≠ b) (h50 : ¬ b - a < 50) (h1 : swp d j (j - 1) = d1) (h2 : (if j - a ≥ 2 then shiftDown lt (j - 1) d1 else d1) = d2) (h3 : (if b - j ≥ 2 then shiftUp lt b (j + 1) d2 else d2) = d3) :
    partialIns lt a b (s + 1) i d = partialIns lt a b s j d3 := by
  subst h1 h2 h3
  conv => lhs; rw [partialIns]
  simp only [h]
  rw [if_neg hj, if_neg h50]
end

set_option maxRecDepth 100000 in
set_option maxHeartbeats 3200000 in
theorem pis_any {α : Type} [Inhabited α] {I : Itf α} (O : I.Ok) (W : World) (d : Array α) (a b : Nat) (h : I.S W d) (hab : a < b) (hb : b ≤ I.N) :
    Calls Try.prog 58 #[.iface I.T I.rv, .int .i64 a, .int .i64 b] W fun e w' => e = .returned (.bool (partialInsertionSort I.lt d a b).2) ∧ Hs I W (partialInsertionSort I.lt d a b).1 w' := by
  have mL := O.mL
  have mS := O.mS
  have eL := O.eL
  have eS := O.eS
  have big := O.big
  have HO := Lib.hid O
  have HH := Lib.hid (Hs.refl h)
  obtain ⟨R, hR⟩ : ∃ R, R = partialInsertionSort I.lt d a b := ⟨_, rfl⟩
  have HR := Lib.hid (show partialIns I.lt a b 5 (a + 1) d = R from hR.symm)
  rw [← hR]
  clear h O hR
  go_enter Try.func58, Try.ntmps58
  go_wp2
  go_loopw [7, 8] (fun vi vs wr => ∃ (i s : Nat) (dk : Array α), vi = .int .i64 i ∧ vs = .int .i64 s ∧ a < i ∧ i ≤ b ∧ s ≤ 5 ∧ Hid (partialIns I.lt a b (5 - s) i dk = R) ∧ Hid (Hs I W dk wr)) (fun _ vs _ => 5 - (intOf vs).toNat)
  case atStart => exact ⟨a + 1, 0, d, by go_num, rfl, by omega, by omega, by omega, HR, HH⟩
  case round =>
    obtain ⟨i, s, dk, rfl, rfl, hai, hib, hs5, HE, HK⟩ := hrel
    by_cases hs : s < 5
    · have hsd : decide ((s : Int) < 5) = true := decide_eq_true (by omega)
      have HE' := Lib.hid (show partialIns I.lt a b (4 - s + 1) i dk = R by rw [show 4 - s + 1 = 5 - s by omega]; exact HE.out)
      go_wp2
      go_loopw [7] (fun vi wr1 => ∃ (i1 : Nat), vi = .int .i64 i1 ∧ a < i1 ∧ i1 ≤ b ∧ Hid (scanSorted I.lt dk b i1 = scanSorted I.lt dk b i) ∧ Hid (Hs I W dk wr1)) (fun vi _ => b - (intOf vi).toNat)
      case atStart => exact ⟨i, rfl, hai, hib, Lib.hid rfl, HK⟩
      case round =>
        obtain ⟨i1, rfl, hi1, hi1b, HU, HK1⟩ := hrel
        by_cases hc : i1 < b
        · cases hlv : I.lt dk[i1]! dk[i1 - 1]! with
          | false =>
            have HLV := Lib.hid hlv
            clear hlv
            go_wp2_with fail
            refine (HK1.out.lessI HO.out _ _ i1 (i1 - 1) (by omega) (by omega) (by omega) (by omega)).mono ?_
            rw [HLV.out]
            rintro e w2 ⟨rfl, hs2⟩
            have H2 := Lib.hid hs2
            clear hs2
            go_wp2
            go_roundw
            case rel => exact ⟨i1 + 1, by go_num, by omega, by omega, Lib.hid (by rw [← HU.out, scanSorted_go I.lt dk b i1 hc HLV.out]), H2⟩
            case measure => simp [intOf]; omega
          | true =>
            have HLV := Lib.hid hlv
            clear hlv
            have HS := Lib.hid (show scanSorted I.lt dk b i = i1 by rw [← HU.out, scanSorted_stop I.lt dk b i1 (.inr HLV.out)])
            have hne : ((i1 : Int) == (b : Int)) = false := by rw [beq_eq_false_iff_ne]; omega
            by_cases h50 : b - a < 50
            · have HF := Lib.hid (show R = (dk, false) by rw [← HE'.out]; exact pins_short I.lt a b _ i i1 dk HS.out (by omega) h50)
              have h50' : (b : Int) - a < 50 := by omega
              go_wp2_with fail
              refine (HK1.out.lessI HO.out _ _ i1 (i1 - 1) (by omega) (by omega) (by omega) (by omega)).mono ?_
              rw [HLV.out]
              rintro e w2 ⟨rfl, hs2⟩
              have H2 := Lib.hid hs2
              clear hs2
              go_wp2
              go_ret
              rw [HF.out]
              exact ⟨rfl, H2.out⟩
            · have h50' : ¬ (b : Int) - a < 50 := by omega
              obtain ⟨d1, hd1⟩ : ∃ d1, swp dk i1 (i1 - 1) = d1 := ⟨_, rfl⟩
              obtain ⟨d2, hd2⟩ : ∃ d2, (if i1 - a ≥ 2 then shiftDown I.lt (i1 - 1) d1 else d1) = d2 := ⟨_, rfl⟩
              obtain ⟨d3, hd3⟩ : ∃ d3, (if b - i1 ≥ 2 then shiftUp I.lt b (i1 + 1) d2 else d2) = d3 := ⟨_, rfl⟩
              have HF := Lib.hid (show partialIns I.lt a b (4 - s) i1 d3 = R by rw [← HE'.out]; exact (pins_go I.lt a b _ i i1 dk d1 d2 d3 HS.out (by omega) h50 hd1 hd2 hd3).symm)
              have HD1 := Lib.hid hd1
              have HD2 := Lib.hid hd2
              have HD3 := Lib.hid hd3
              clear hd1 hd2 hd3
              go_wp2_with fail
              refine (HK1.out.lessI HO.out _ _ i1 (i1 - 1) (by omega) (by omega) (by omega) (by omega)).mono ?_
              rw [HLV.out]
              rintro e w2 ⟨rfl, hs2⟩
              have H2 := Lib.hid hs2
              clear hs2
              go_wp2_with fail
              refine (H2.out.swapI HO.out _ _ i1 (i1 - 1) (by omega) (by omega) (by omega) (by omega)).mono ?_
              rw [HD1.out]
              rintro e w3 ⟨rfl, hs3⟩
              have H3 := Lib.hid hs3
              clear hs3
              go_upto_if 45 with (fail)
              go_cut [9] (fun s9 wx => Hid (Hs I W d2 wx))
              case first =>
                by_cases hA : i1 - a ≥ 2
                · have hA' : 2 ≤ (i1 : Int) - a := by omega
                  have hAd : decide (2 ≤ (i1 : Int) - a) = true := decide_eq_true hA'
                  simp only [hAd]
                  have HD2' := Lib.hid (show shiftDown I.lt (i1 - 1) d1 = d2 by rw [← HD2.out, if_pos hA])
                  go_wp2
                  go_loopw [9] (fun vj wr2 => ∃ (j : Nat) (dj : Array α), vj = .int .i64 j ∧ j < b ∧ Hid (shiftDown I.lt j dj = d2) ∧ Hid (Hs I W dj wr2)) (fun vj _ => (intOf vj).toNat)
                  case atStart => exact ⟨i1 - 1, d1, by go_num, by omega, HD2', H3⟩
                  case round =>
                    obtain ⟨j, dj, rfl, hjb, HJ, HKJ⟩ := hrel
                    by_cases hj1 : 1 ≤ j
                    · cases hlv2 : I.lt dj[j]! dj[j - 1]! with
                      | true =>
                        have HLV2 := Lib.hid hlv2
                        clear hlv2
                        go_wp2_with fail
                        refine (HKJ.out.lessI HO.out _ _ j (j - 1) (by omega) (by omega) (by omega) (by omega)).mono ?_
                        rw [HLV2.out]
                        rintro e w4 ⟨rfl, hs4⟩
                        have H4 := Lib.hid hs4
                        clear hs4
                        go_wp2_with fail
                        refine (H4.out.swapI HO.out _ _ j (j - 1) (by omega) (by omega) (by omega) (by omega)).mono ?_
                        rintro e w5 ⟨rfl, hs5⟩
                        have H5 := Lib.hid hs5
                        clear hs5
                        go_wp2
                        go_roundw
                        case rel => exact ⟨j - 1, _, by go_num, by omega, Lib.hid (by rw [← HJ.out, shiftDown_go I.lt j dj hj1 HLV2.out]), H5⟩
                        case measure => simp [intOf]; omega
                      | false =>
                        have HLV2 := Lib.hid hlv2
                        have HJ2 := Lib.hid (show d2 = dj by rw [← HJ.out, shiftDown_stop I.lt j dj (.inr hlv2)])
                        clear hlv2
                        go_wp2_with fail
                        refine (HKJ.out.lessI HO.out _ _ j (j - 1) (by omega) (by omega) (by omega) (by omega)).mono ?_
                        rw [HLV2.out]
                        rintro e w4 ⟨rfl, hs4⟩
                        have H4 := Lib.hid hs4
                        clear hs4
                        go_wp2
                        go_meet
                        case rel => exact Lib.hid (by rw [HJ2.out]; exact H4.out)
                    · have HJ2 := Lib.hid (show d2 = dj by rw [← HJ.out, shiftDown_stop I.lt j dj (.inl hj1)])
                      go_wp2
                      go_meet
                      case rel => exact Lib.hid (by rw [HJ2.out]; exact HKJ.out)
                · have hA' : ¬ 2 ≤ (i1 : Int) - a := by omega
                  have HD2' := Lib.hid (show d1 = d2 by rw [← HD2.out, if_neg hA])
                  go_wp2
                  go_meet
                  case rel => exact Lib.hid (by rw [← HD2'.out]; exact H3.out)
              case rest =>
                have HC := Lib.hid hcut.out
                clear hcut
                by_cases hA : b - i1 ≥ 2
                · have hA' : 2 ≤ (b : Int) - i1 := by omega
                  have hAd : decide (2 ≤ (b : Int) - i1) = true := decide_eq_true hA'
                  have HD3' := Lib.hid (show shiftUp I.lt b (i1 + 1) d2 = d3 by rw [← HD3.out, if_pos hA])
                  go_wp2
                  go_loopw [10] (fun vj wr2 => ∃ (j : Nat) (dj : Array α), vj = .int .i64 j ∧ i1 < j ∧ j ≤ b ∧ Hid (shiftUp I.lt b j dj = d3) ∧ Hid (Hs I W dj wr2)) (fun vj _ => b - (intOf vj).toNat)
                  case atStart => exact ⟨i1 + 1, d2, by go_num, by omega, by omega, HD3', HC⟩
                  case round =>
                    obtain ⟨j, dj, rfl, hij, hjb, HJ, HKJ⟩ := hrel
                    by_cases hj1 : j < b
                    · cases hlv2 : I.lt dj[j]! dj[j - 1]! with
                      | true =>
                        have HLV2 := Lib.hid hlv2
                        clear hlv2
                        go_wp2_with fail
                        refine (HKJ.out.lessI HO.out _ _ j (j - 1) (by omega) (by omega) (by omega) (by omega)).mono ?_
                        rw [HLV2.out]
                        rintro e w4 ⟨rfl, hs4⟩
                        have H4 := Lib.hid hs4
                        clear hs4
                        go_wp2_with fail
                        refine (H4.out.swapI HO.out _ _ j (j - 1) (by omega) (by omega) (by omega) (by omega)).mono ?_
                        rintro e w5 ⟨rfl, hs5⟩
                        have H5 := Lib.hid hs5
                        clear hs5
                        go_wp2
                        go_roundw
                        case rel => exact ⟨j + 1, _, by go_num, by omega, by omega, Lib.hid (by rw [← HJ.out, shiftUp_go I.lt b j dj hj1 HLV2.out]), H5⟩
                        case measure => simp [intOf]; omega
                      | false =>
                        have HLV2 := Lib.hid hlv2
                        have HJ2 := Lib.hid (show d3 = dj by rw [← HJ.out, shiftUp_stop I.lt b j dj (.inr hlv2)])
                        clear hlv2
                        go_wp2_with fail
                        refine (HKJ.out.lessI HO.out _ _ j (j - 1) (by omega) (by omega) (by omega) (by omega)).mono ?_
                        rw [HLV2.out]
                        rintro e w4 ⟨rfl, hs4⟩
                        have H4 := Lib.hid hs4
                        clear hs4
                        go_wp2
                        go_roundw
                        case rel => exact ⟨i1, s + 1, d3, rfl, by go_num, by omega, by omega, by omega, Lib.hid (by rw [show 5 - (s + 1) = 4 - s by omega]; exact HF.out), Lib.hid (by rw [HJ2.out]; exact H4.out)⟩
                        case measure => simp [intOf]; omega
                    · have HJ2 := Lib.hid (show d3 = dj by rw [← HJ.out, shiftUp_stop I.lt b j dj (.inl hj1)])
                      go_wp2
                      go_roundw
                      case rel => exact ⟨i1, s + 1, d3, rfl, by go_num, by omega, by omega, by omega, Lib.hid (by rw [show 5 - (s + 1) = 4 - s by omega]; exact HF.out), Lib.hid (by rw [HJ2.out]; exact HKJ.out)⟩
                      case measure => simp [intOf]; omega
                · have hA' : ¬ 2 ≤ (b : Int) - i1 := by omega
                  have HD3' := Lib.hid (show d2 = d3 by rw [← HD3.out, if_neg hA])
                  go_wp2
                  go_roundw
                  case rel => exact ⟨i1, s + 1, d3, rfl, by go_num, by omega, by omega, by omega, Lib.hid (by rw [show 5 - (s + 1) = 4 - s by omega]; exact HF.out), Lib.hid (by rw [← HD3'.out]; exact HC.out)⟩
                  case measure => simp [intOf]; omega
        · obtain rfl : i1 = b := by omega
          have HF := Lib.hid (show R = (dk, true) by
            rw [← HE'.out]
            exact pins_done I.lt a i1 _ i dk (by rw [← HU.out, scanSorted_stop I.lt dk i1 i1 (.inl (by omega))]))
          go_wp2
          go_ret
          rw [HF.out]
          exact ⟨rfl, HK1.out⟩
    · obtain rfl : s = 5 := by omega
      have HF := Lib.hid (show R = (dk, false) from HE.out.symm)
      go_wp2
      go_ret
      rw [HF.out]
      exact ⟨rfl, HK.out⟩

end Go.Proofs.Ytgblmafollhojaa
