/-
  FnMergeVals: of values the least, the greatest, or the sum. Conditions: none.
-/
import Derived.Test.YtpmkkajbmdoflacBase
namespace Go.Proofs.Ytpmkkajbmdoflac.fnMergeVals
open Go.ChangeShapes Go.WideShapes Go.ChangeAt Go.RowKit
set_option linter.unusedVariables false

def minI (x y : Int) : Int := if y < x then y else x
def maxI (x y : Int) : Int := if x < y then y else x
def sumI (x y : Int) : Int := (x + y) % 18446744073709551616
def foldI (f : Int → Int → Int) (zs : List Int) : Int := (zs.drop 1).foldl f (zs.getD 0 0)
/-- after the first n+1 values -/
def foldN (f : Int → Int → Int) (zs : List Int) (n : Nat) : Int := ((zs.drop 1).take n).foldl f (zs.getD 0 0)
theorem foldN_zero (f : Int → Int → Int) (zs : List Int) : foldN f zs 0 = zs.getD 0 0 := by simp [foldN]
theorem foldN_succ (f : Int → Int → Int) (zs : List Int) (n : Nat) (h : n + 1 < zs.length) : foldN f zs (n + 1) = f (foldN f zs n) (zs.getD (n + 1) 0) := by
  unfold foldN
  rw [List.take_succ_eq_append_getElem (by rw [List.length_drop]; omega), List.foldl_append]
  simp only [List.foldl_cons, List.foldl_nil, List.getElem_drop]
  congr 1
  rw [List.getD_eq_getElem?_getD, List.getElem?_eq_getElem h]
  simp [Nat.add_comm]
theorem foldN_all (f : Int → Int → Int) (zs : List Int) (n : Nat) (h : zs.length ≤ n + 1) : foldN f zs n = foldI f zs := by
  unfold foldN foldI
  rw [List.take_of_length_le (by rw [List.length_drop]; omega)]
theorem foldN_bd (f : Int → Int → Int) (hf : ∀ x y, (0 ≤ x ∧ x ≤ 18446744073709551615) → (0 ≤ y ∧ y ≤ 18446744073709551615) → (0 ≤ f x y ∧ f x y ≤ 18446744073709551615)) (zs : List Int) (h0 : 0 < zs.length)
    (hz : ∀ z ∈ zs, 0 ≤ z ∧ z ≤ 18446744073709551615) : ∀ n, n + 1 ≤ zs.length → 0 ≤ foldN f zs n ∧ foldN f zs n ≤ 18446744073709551615
  | 0, _ => by
    rw [foldN_zero]
    exact hz _ (by rw [List.getD_eq_getElem?_getD, List.getElem?_eq_getElem h0]; exact List.getElem_mem _)
  | n + 1, h => by
    rw [foldN_succ f zs n (by omega)]
    exact hf _ _ (foldN_bd f hf zs h0 hz n (by omega)) (hz _ (by rw [List.getD_eq_getElem?_getD, List.getElem?_eq_getElem (show n + 1 < zs.length by omega)]; exact List.getElem_mem _))
theorem ret_u64 {a b : Int} (h : a = b) : Ending.returned (.int .u64 a) = .returned (.int .u64 b) := by rw [h]

set_option maxHeartbeats 400000 in
theorem min_any (a : Option Addr) (zs : List Int) (c : Nat) (B : Nat) (w : World) (h0 : 0 < zs.length) (hl : zs.length ≤ 2147483647) (hc : zs.length ≤ c) (hz : ∀ z ∈ zs, 0 ≤ z ∧ z ≤ 18446744073709551615) (hs : Sl w B a (zs.map (.int .u64))) :
    Calls Try.prog 13 #[.slice a zs.length c] w fun e w' => e = .returned (.int .u64 (foldI minI zs)) ∧ w = w' := by
  obtain ⟨ad, rfl, hc0⟩ := hs.ints 0 h0
  replace hc0 : w.cell? ad = some (.int .u64 (zs.getD 0 0)) := by simpa [Addr.add] using hc0
  have HS := Lib.hid hs
  have HZ := Lib.hid hz
  have HB := Lib.hid (foldN_bd minI (fun x y hx hy => by unfold minI; split <;> omega) zs h0 hz)
  have HF0 := Lib.hid (foldN_zero minI zs)
  clear hs hz
  generalize zs.getD 0 0 = z0 at *
  have h1 : (1 : Int) ≤ (zs.length : Int) := by omega
  have hcI : (zs.length : Int) ≤ (c : Int) := by omega
  by_cases hc1 : c = 1
  · have hl1 : zs.length = 1 := by omega
    have HE := Lib.hid ((foldN_all minI zs 0 (by omega)).symm.trans HF0.out)
    rw [hl1, hc1]
    clear hc1 hl1 h0 hl hc HB h1 hcI
    go_enter Try.func13, Try.ntmps13
    go_wp2
    go_loop [3, 5, 12] (fun rv _ k => k = .int .i64 0 ∧ rv = .int .u64 z0) (fun _ _ k => 0)
    case atStart => exact ⟨rfl, rfl⟩
    case round =>
      obtain ⟨rfl, rfl⟩ := hrel
      go_wp2
      go_ret
      exact ⟨ret_u64 HE.out.symm, rfl⟩
  · have hc2 : ¬ (1 = c) := fun e => hc1 e.symm
    go_enter Try.func13, Try.ntmps13
    go_wp2
    go_loop [3, 5, 12] (fun rv _ k => ∃ n : Nat, n + 1 ≤ zs.length ∧ k = .int .i64 n ∧ rv = .int .u64 (foldN minI zs n)) (fun _ _ k => zs.length - (intOf k).toNat)
    case atStart => exact ⟨0, by omega, rfl, by rw [HF0.out]⟩
    case round =>
      obtain ⟨n, hn, rfl, rfl⟩ := hrel
      have hbn := HB.out n (by omega)
      by_cases hlt : n + 1 < zs.length
      · obtain ⟨_, h2, hc1⟩ := HS.out.ints (n + 1) hlt
        injection h2 with h2
        subst h2
        have hc3 : w.cell? ⟨ad.block, ad.off + (n + 1), none⟩ = some (.int .u64 (zs.getD (n + 1) 0)) := by simpa [Addr.add] using hc1
        have hc4 : w.cell? ⟨ad.block, ad.off + 1 + n, none⟩ = some (.int .u64 (zs.getD (n + 1) 0)) := by
          rw [show ad.off + 1 + n = ad.off + (n + 1) by omega]
          exact hc3
        have hzb := HZ.out (zs.getD (n + 1) 0) (by rw [List.getD_eq_getElem?_getD, List.getElem?_eq_getElem hlt]; exact List.getElem_mem _)
        have HS1 := Lib.hid (foldN_succ minI zs n hlt)
        clear hc1 hc3
        generalize zs.getD (n + 1) 0 = z at *
        generalize foldN minI zs n = rv at *
        go_wp2
        all_goals
          go_round
          case rel => exact ⟨n + 1, by omega, by go_num, by rw [HS1.out]; unfold minI; first | (congr 1; omega) | (rw [if_pos (by omega)]) | (rw [if_neg (by omega)]) | rfl⟩
          case measure => simp [intOf]; omega
      · have HE := Lib.hid (foldN_all minI zs n (by omega))
        generalize foldN minI zs n = rv at *
        go_wp2
        go_ret
        exact ⟨ret_u64 HE.out, rfl⟩

set_option maxHeartbeats 400000 in
theorem max_any (a : Option Addr) (zs : List Int) (c : Nat) (B : Nat) (w : World) (h0 : 0 < zs.length) (hl : zs.length ≤ 2147483647) (hc : zs.length ≤ c) (hz : ∀ z ∈ zs, 0 ≤ z ∧ z ≤ 18446744073709551615) (hs : Sl w B a (zs.map (.int .u64))) :
    Calls Try.prog 14 #[.slice a zs.length c] w fun e w' => e = .returned (.int .u64 (foldI maxI zs)) ∧ w = w' := by
  obtain ⟨ad, rfl, hc0⟩ := hs.ints 0 h0
  replace hc0 : w.cell? ad = some (.int .u64 (zs.getD 0 0)) := by simpa [Addr.add] using hc0
  have HS := Lib.hid hs
  have HZ := Lib.hid hz
  have HB := Lib.hid (foldN_bd maxI (fun x y hx hy => by unfold maxI; split <;> omega) zs h0 hz)
  have HF0 := Lib.hid (foldN_zero maxI zs)
  clear hs hz
  generalize zs.getD 0 0 = z0 at *
  have h1 : (1 : Int) ≤ (zs.length : Int) := by omega
  have hcI : (zs.length : Int) ≤ (c : Int) := by omega
  by_cases hc1 : c = 1
  · have hl1 : zs.length = 1 := by omega
    have HE := Lib.hid ((foldN_all maxI zs 0 (by omega)).symm.trans HF0.out)
    rw [hl1, hc1]
    clear hc1 hl1 h0 hl hc HB h1 hcI
    go_enter Try.func14, Try.ntmps14
    go_wp2
    go_loop [3, 5, 12] (fun rv _ k => k = .int .i64 0 ∧ rv = .int .u64 z0) (fun _ _ k => 0)
    case atStart => exact ⟨rfl, rfl⟩
    case round =>
      obtain ⟨rfl, rfl⟩ := hrel
      go_wp2
      go_ret
      exact ⟨ret_u64 HE.out.symm, rfl⟩
  · have hc2 : ¬ (1 = c) := fun e => hc1 e.symm
    go_enter Try.func14, Try.ntmps14
    go_wp2
    go_loop [3, 5, 12] (fun rv _ k => ∃ n : Nat, n + 1 ≤ zs.length ∧ k = .int .i64 n ∧ rv = .int .u64 (foldN maxI zs n)) (fun _ _ k => zs.length - (intOf k).toNat)
    case atStart => exact ⟨0, by omega, rfl, by rw [HF0.out]⟩
    case round =>
      obtain ⟨n, hn, rfl, rfl⟩ := hrel
      have hbn := HB.out n (by omega)
      by_cases hlt : n + 1 < zs.length
      · obtain ⟨_, h2, hc1⟩ := HS.out.ints (n + 1) hlt
        injection h2 with h2
        subst h2
        have hc3 : w.cell? ⟨ad.block, ad.off + (n + 1), none⟩ = some (.int .u64 (zs.getD (n + 1) 0)) := by simpa [Addr.add] using hc1
        have hc4 : w.cell? ⟨ad.block, ad.off + 1 + n, none⟩ = some (.int .u64 (zs.getD (n + 1) 0)) := by
          rw [show ad.off + 1 + n = ad.off + (n + 1) by omega]
          exact hc3
        have hzb := HZ.out (zs.getD (n + 1) 0) (by rw [List.getD_eq_getElem?_getD, List.getElem?_eq_getElem hlt]; exact List.getElem_mem _)
        have HS1 := Lib.hid (foldN_succ maxI zs n hlt)
        clear hc1 hc3
        generalize zs.getD (n + 1) 0 = z at *
        generalize foldN maxI zs n = rv at *
        go_wp2
        all_goals
          go_round
          case rel => exact ⟨n + 1, by omega, by go_num, by rw [HS1.out]; unfold maxI; first | (congr 1; omega) | (rw [if_pos (by omega)]) | (rw [if_neg (by omega)]) | rfl⟩
          case measure => simp [intOf]; omega
      · have HE := Lib.hid (foldN_all maxI zs n (by omega))
        generalize foldN maxI zs n = rv at *
        go_wp2
        go_ret
        exact ⟨ret_u64 HE.out, rfl⟩

set_option maxHeartbeats 400000 in
theorem sum_any (a : Option Addr) (zs : List Int) (c : Nat) (B : Nat) (w : World) (h0 : 0 < zs.length) (hl : zs.length ≤ 2147483647) (hc : zs.length ≤ c) (hz : ∀ z ∈ zs, 0 ≤ z ∧ z ≤ 18446744073709551615) (hs : Sl w B a (zs.map (.int .u64))) :
    Calls Try.prog 15 #[.slice a zs.length c] w fun e w' => e = .returned (.int .u64 (foldI sumI zs)) ∧ w = w' := by
  obtain ⟨ad, rfl, hc0⟩ := hs.ints 0 h0
  replace hc0 : w.cell? ad = some (.int .u64 (zs.getD 0 0)) := by simpa [Addr.add] using hc0
  have HS := Lib.hid hs
  have HZ := Lib.hid hz
  have HB := Lib.hid (foldN_bd sumI (fun x y hx hy => by unfold sumI; omega) zs h0 hz)
  have HF0 := Lib.hid (foldN_zero sumI zs)
  clear hs hz
  generalize zs.getD 0 0 = z0 at *
  have h1 : (1 : Int) ≤ (zs.length : Int) := by omega
  have hcI : (zs.length : Int) ≤ (c : Int) := by omega
  by_cases hc1 : c = 1
  · have hl1 : zs.length = 1 := by omega
    have HE := Lib.hid ((foldN_all sumI zs 0 (by omega)).symm.trans HF0.out)
    rw [hl1, hc1]
    clear hc1 hl1 h0 hl hc HB h1 hcI
    go_enter Try.func15, Try.ntmps15
    go_wp2
    go_loop [3, 5, 12] (fun rv _ k => k = .int .i64 0 ∧ rv = .int .u64 z0) (fun _ _ k => 0)
    case atStart => exact ⟨rfl, rfl⟩
    case round =>
      obtain ⟨rfl, rfl⟩ := hrel
      go_wp2
      go_ret
      exact ⟨ret_u64 HE.out.symm, rfl⟩
  · have hc2 : ¬ (1 = c) := fun e => hc1 e.symm
    go_enter Try.func15, Try.ntmps15
    go_wp2
    go_loop [3, 5, 12] (fun rv _ k => ∃ n : Nat, n + 1 ≤ zs.length ∧ k = .int .i64 n ∧ rv = .int .u64 (foldN sumI zs n)) (fun _ _ k => zs.length - (intOf k).toNat)
    case atStart => exact ⟨0, by omega, rfl, by rw [HF0.out]⟩
    case round =>
      obtain ⟨n, hn, rfl, rfl⟩ := hrel
      have hbn := HB.out n (by omega)
      by_cases hlt : n + 1 < zs.length
      · obtain ⟨_, h2, hc1⟩ := HS.out.ints (n + 1) hlt
        injection h2 with h2
        subst h2
        have hc3 : w.cell? ⟨ad.block, ad.off + (n + 1), none⟩ = some (.int .u64 (zs.getD (n + 1) 0)) := by simpa [Addr.add] using hc1
        have hc4 : w.cell? ⟨ad.block, ad.off + 1 + n, none⟩ = some (.int .u64 (zs.getD (n + 1) 0)) := by
          rw [show ad.off + 1 + n = ad.off + (n + 1) by omega]
          exact hc3
        have hzb := HZ.out (zs.getD (n + 1) 0) (by rw [List.getD_eq_getElem?_getD, List.getElem?_eq_getElem hlt]; exact List.getElem_mem _)
        have HS1 := Lib.hid (foldN_succ sumI zs n hlt)
        clear hc1 hc3
        generalize zs.getD (n + 1) 0 = z at *
        generalize foldN sumI zs n = rv at *
        go_wp2
        all_goals
          go_round
          case rel => exact ⟨n + 1, by omega, by go_num, by rw [HS1.out]; unfold sumI; first | (congr 1; omega) | (rw [if_pos (by omega)]) | (rw [if_neg (by omega)]) | rfl⟩
          case measure => simp [intOf]; omega
      · have HE := Lib.hid (foldN_all sumI zs n (by omega))
        generalize foldN sumI zs n = rv at *
        go_wp2
        go_ret
        exact ⟨ret_u64 HE.out, rfl⟩

set_option maxHeartbeats 400000 in
theorem joined_min (a : Option Addr) (zs : List Int) (c : Nat) (B : Nat) (w : World) (h0 : 0 < zs.length) (hl : zs.length ≤ 2147483647) (hz : ∀ z ∈ zs, 0 ≤ z ∧ z ≤ 18446744073709551615) (hs : Sl w B a (zs.map (.int .u64))) :
    Calls Try.prog 6 #[.slice a zs.length c, .int .i64 0] w fun e w' => e = .returned (.int .u64 (foldI minI zs)) ∧ w = w' := by
  obtain ⟨ad, rfl, hc0⟩ := hs.ints 0 h0
  replace hc0 : w.cell? ad = some (.int .u64 (zs.getD 0 0)) := by simpa [Addr.add] using hc0
  have HS := Lib.hid hs
  have HZ := Lib.hid hz
  have HB := Lib.hid (foldN_bd minI (fun x y hx hy => by unfold minI; split <;> omega) zs h0 hz)
  have HF0 := Lib.hid (foldN_zero minI zs)
  clear hs hz
  generalize zs.getD 0 0 = z0 at *
  have h1 : (1 : Int) ≤ (zs.length : Int) := by omega
  go_enter Try.func6, Try.ntmps6
  go_wp2
  go_loop [5, 6, 16, 25] (fun rv k _ _ => ∃ n : Nat, n + 1 ≤ zs.length ∧ k = .int .i64 ((n : Int) + 1) ∧ rv = .int .u64 (foldN minI zs n)) (fun _ k _ _ => zs.length - (intOf k).toNat)
  case atStart => exact ⟨0, by omega, rfl, by rw [HF0.out]⟩
  case round =>
    obtain ⟨n, hn, rfl, rfl⟩ := hrel
    have hbn := HB.out n (by omega)
    by_cases hlt : n + 1 < zs.length
    · obtain ⟨_, h2, hc1⟩ := HS.out.ints (n + 1) hlt
      injection h2 with h2
      subst h2
      have hc3 : w.cell? ⟨ad.block, ad.off + (n + 1), none⟩ = some (.int .u64 (zs.getD (n + 1) 0)) := by simpa [Addr.add] using hc1
      have hzb := HZ.out (zs.getD (n + 1) 0) (by rw [List.getD_eq_getElem?_getD, List.getElem?_eq_getElem hlt]; exact List.getElem_mem _)
      have HS1 := Lib.hid (foldN_succ minI zs n hlt)
      clear hc1
      generalize zs.getD (n + 1) 0 = z at *
      generalize foldN minI zs n = rv at *
      go_wp2
      all_goals
        go_round
        case rel => exact ⟨n + 1, by omega, by go_num, by rw [HS1.out]; unfold minI; first | (congr 1; omega) | (rw [if_pos (by omega)]) | (rw [if_neg (by omega)]) | rfl⟩
        case measure => simp [intOf]; omega
    · have HE := Lib.hid (foldN_all minI zs n (by omega))
      generalize foldN minI zs n = rv at *
      go_wp2
      go_ret
      exact ⟨ret_u64 HE.out, rfl⟩

theorem mv_min (a : Option Addr) (zs : List Int) (c : Nat) (B : Nat) (w : World) (h0 : 0 < zs.length) (hl : zs.length ≤ 2147483647) (hc : zs.length ≤ c) (hz : ∀ z ∈ zs, 0 ≤ z ∧ z ≤ 18446744073709551615) (hs : Sl w B a (zs.map (.int .u64))) :
    Calls Try.prog 5 #[.slice a zs.length c, .int .i64 0] w fun e w' => e = .returned (.int .u64 (foldI minI zs)) ∧ w = w' := by
  have C := Lib.hid (min_any a zs c B w h0 hl hc hz hs)
  clear hz hs
  generalize foldI minI zs = r at *
  go_enter Try.func5, Try.ntmps5
  go_wp2_with (first | (go_at_call 13; refine C.out.mono ?_; rintro e w' ⟨rfl, rfl⟩) | go_in)
  go_ret
  exact ⟨rfl, rfl⟩

theorem law_min (a : Option Addr) (zs : List Int) (c : Nat) (B : Nat) (w : World) (h0 : 0 < zs.length) (hl : zs.length ≤ 2147483647) (hc : zs.length ≤ c) (hz : ∀ z ∈ zs, 0 ≤ z ∧ z ≤ 18446744073709551615) (hs : Sl w B a (zs.map (.int .u64))) :
    Calls Try.prog 3 #[.slice a zs.length c, .int .i64 0] w fun e w' => e = .returned (.bool true) ∧ Below w.heap.size w w' := by
  have C1 := Lib.hid (mv_min a zs c B w h0 hl hc hz hs)
  have C2 := Lib.hid (joined_min a zs c B w h0 hl hz hs)
  have hne : ((zs.length : Int) == 0) = false := by rw [beq_eq_false_iff_ne]; omega
  clear hz hs
  generalize foldI minI zs = r at *
  go_enter Try.func3, Try.ntmps3
  go_wp2_with (first | (go_at_call 5; refine C1.out.mono ?_; rintro e w' ⟨rfl, rfl⟩) | (go_at_call 6; refine C2.out.mono ?_; rintro e w' ⟨rfl, rfl⟩))
  go_ret
  exact ⟨rfl, Below.refl _ _⟩

set_option maxHeartbeats 400000 in
theorem joined_max (a : Option Addr) (zs : List Int) (c : Nat) (B : Nat) (w : World) (h0 : 0 < zs.length) (hl : zs.length ≤ 2147483647) (hz : ∀ z ∈ zs, 0 ≤ z ∧ z ≤ 18446744073709551615) (hs : Sl w B a (zs.map (.int .u64))) :
    Calls Try.prog 6 #[.slice a zs.length c, .int .i64 1] w fun e w' => e = .returned (.int .u64 (foldI maxI zs)) ∧ w = w' := by
  obtain ⟨ad, rfl, hc0⟩ := hs.ints 0 h0
  replace hc0 : w.cell? ad = some (.int .u64 (zs.getD 0 0)) := by simpa [Addr.add] using hc0
  have HS := Lib.hid hs
  have HZ := Lib.hid hz
  have HB := Lib.hid (foldN_bd maxI (fun x y hx hy => by unfold maxI; split <;> omega) zs h0 hz)
  have HF0 := Lib.hid (foldN_zero maxI zs)
  clear hs hz
  generalize zs.getD 0 0 = z0 at *
  have h1 : (1 : Int) ≤ (zs.length : Int) := by omega
  go_enter Try.func6, Try.ntmps6
  go_wp2
  go_loop [5, 6, 16, 25] (fun rv k _ _ => ∃ n : Nat, n + 1 ≤ zs.length ∧ k = .int .i64 ((n : Int) + 1) ∧ rv = .int .u64 (foldN maxI zs n)) (fun _ k _ _ => zs.length - (intOf k).toNat)
  case atStart => exact ⟨0, by omega, rfl, by rw [HF0.out]⟩
  case round =>
    obtain ⟨n, hn, rfl, rfl⟩ := hrel
    have hbn := HB.out n (by omega)
    by_cases hlt : n + 1 < zs.length
    · obtain ⟨_, h2, hc1⟩ := HS.out.ints (n + 1) hlt
      injection h2 with h2
      subst h2
      have hc3 : w.cell? ⟨ad.block, ad.off + (n + 1), none⟩ = some (.int .u64 (zs.getD (n + 1) 0)) := by simpa [Addr.add] using hc1
      have hzb := HZ.out (zs.getD (n + 1) 0) (by rw [List.getD_eq_getElem?_getD, List.getElem?_eq_getElem hlt]; exact List.getElem_mem _)
      have HS1 := Lib.hid (foldN_succ maxI zs n hlt)
      clear hc1
      generalize zs.getD (n + 1) 0 = z at *
      generalize foldN maxI zs n = rv at *
      go_wp2
      all_goals
        go_round
        case rel => exact ⟨n + 1, by omega, by go_num, by rw [HS1.out]; unfold maxI; first | (congr 1; omega) | (rw [if_pos (by omega)]) | (rw [if_neg (by omega)]) | rfl⟩
        case measure => simp [intOf]; omega
    · have HE := Lib.hid (foldN_all maxI zs n (by omega))
      generalize foldN maxI zs n = rv at *
      go_wp2
      go_ret
      exact ⟨ret_u64 HE.out, rfl⟩

theorem mv_max (a : Option Addr) (zs : List Int) (c : Nat) (B : Nat) (w : World) (h0 : 0 < zs.length) (hl : zs.length ≤ 2147483647) (hc : zs.length ≤ c) (hz : ∀ z ∈ zs, 0 ≤ z ∧ z ≤ 18446744073709551615) (hs : Sl w B a (zs.map (.int .u64))) :
    Calls Try.prog 5 #[.slice a zs.length c, .int .i64 1] w fun e w' => e = .returned (.int .u64 (foldI maxI zs)) ∧ w = w' := by
  have C := Lib.hid (max_any a zs c B w h0 hl hc hz hs)
  clear hz hs
  generalize foldI maxI zs = r at *
  go_enter Try.func5, Try.ntmps5
  go_wp2_with (first | (go_at_call 14; refine C.out.mono ?_; rintro e w' ⟨rfl, rfl⟩) | go_in)
  go_ret
  exact ⟨rfl, rfl⟩

theorem law_max (a : Option Addr) (zs : List Int) (c : Nat) (B : Nat) (w : World) (h0 : 0 < zs.length) (hl : zs.length ≤ 2147483647) (hc : zs.length ≤ c) (hz : ∀ z ∈ zs, 0 ≤ z ∧ z ≤ 18446744073709551615) (hs : Sl w B a (zs.map (.int .u64))) :
    Calls Try.prog 3 #[.slice a zs.length c, .int .i64 1] w fun e w' => e = .returned (.bool true) ∧ Below w.heap.size w w' := by
  have C1 := Lib.hid (mv_max a zs c B w h0 hl hc hz hs)
  have C2 := Lib.hid (joined_max a zs c B w h0 hl hz hs)
  have hne : ((zs.length : Int) == 0) = false := by rw [beq_eq_false_iff_ne]; omega
  clear hz hs
  generalize foldI maxI zs = r at *
  go_enter Try.func3, Try.ntmps3
  go_wp2_with (first | (go_at_call 5; refine C1.out.mono ?_; rintro e w' ⟨rfl, rfl⟩) | (go_at_call 6; refine C2.out.mono ?_; rintro e w' ⟨rfl, rfl⟩))
  go_ret
  exact ⟨rfl, Below.refl _ _⟩

set_option maxHeartbeats 400000 in
theorem joined_sum (a : Option Addr) (zs : List Int) (c : Nat) (B : Nat) (w : World) (h0 : 0 < zs.length) (hl : zs.length ≤ 2147483647) (hz : ∀ z ∈ zs, 0 ≤ z ∧ z ≤ 18446744073709551615) (hs : Sl w B a (zs.map (.int .u64))) :
    Calls Try.prog 6 #[.slice a zs.length c, .int .i64 2] w fun e w' => e = .returned (.int .u64 (foldI sumI zs)) ∧ w = w' := by
  obtain ⟨ad, rfl, hc0⟩ := hs.ints 0 h0
  replace hc0 : w.cell? ad = some (.int .u64 (zs.getD 0 0)) := by simpa [Addr.add] using hc0
  have HS := Lib.hid hs
  have HZ := Lib.hid hz
  have HB := Lib.hid (foldN_bd sumI (fun x y hx hy => by unfold sumI; omega) zs h0 hz)
  have HF0 := Lib.hid (foldN_zero sumI zs)
  clear hs hz
  generalize zs.getD 0 0 = z0 at *
  have h1 : (1 : Int) ≤ (zs.length : Int) := by omega
  go_enter Try.func6, Try.ntmps6
  go_wp2
  go_loop [5, 6, 16, 25] (fun rv k _ _ => ∃ n : Nat, n + 1 ≤ zs.length ∧ k = .int .i64 ((n : Int) + 1) ∧ rv = .int .u64 (foldN sumI zs n)) (fun _ k _ _ => zs.length - (intOf k).toNat)
  case atStart => exact ⟨0, by omega, rfl, by rw [HF0.out]⟩
  case round =>
    obtain ⟨n, hn, rfl, rfl⟩ := hrel
    have hbn := HB.out n (by omega)
    by_cases hlt : n + 1 < zs.length
    · obtain ⟨_, h2, hc1⟩ := HS.out.ints (n + 1) hlt
      injection h2 with h2
      subst h2
      have hc3 : w.cell? ⟨ad.block, ad.off + (n + 1), none⟩ = some (.int .u64 (zs.getD (n + 1) 0)) := by simpa [Addr.add] using hc1
      have hzb := HZ.out (zs.getD (n + 1) 0) (by rw [List.getD_eq_getElem?_getD, List.getElem?_eq_getElem hlt]; exact List.getElem_mem _)
      have HS1 := Lib.hid (foldN_succ sumI zs n hlt)
      clear hc1
      generalize zs.getD (n + 1) 0 = z at *
      generalize foldN sumI zs n = rv at *
      go_wp2
      all_goals
        go_round
        case rel => exact ⟨n + 1, by omega, by go_num, by rw [HS1.out]; unfold sumI; first | (congr 1; omega) | (rw [if_pos (by omega)]) | (rw [if_neg (by omega)]) | rfl⟩
        case measure => simp [intOf]; omega
    · have HE := Lib.hid (foldN_all sumI zs n (by omega))
      generalize foldN sumI zs n = rv at *
      go_wp2
      go_ret
      exact ⟨ret_u64 HE.out, rfl⟩

theorem mv_sum (a : Option Addr) (zs : List Int) (c : Nat) (B : Nat) (w : World) (h0 : 0 < zs.length) (hl : zs.length ≤ 2147483647) (hc : zs.length ≤ c) (hz : ∀ z ∈ zs, 0 ≤ z ∧ z ≤ 18446744073709551615) (hs : Sl w B a (zs.map (.int .u64))) :
    Calls Try.prog 5 #[.slice a zs.length c, .int .i64 2] w fun e w' => e = .returned (.int .u64 (foldI sumI zs)) ∧ w = w' := by
  have C := Lib.hid (sum_any a zs c B w h0 hl hc hz hs)
  clear hz hs
  generalize foldI sumI zs = r at *
  go_enter Try.func5, Try.ntmps5
  go_wp2_with (first | (go_at_call 15; refine C.out.mono ?_; rintro e w' ⟨rfl, rfl⟩) | go_in)
  go_ret
  exact ⟨rfl, rfl⟩

theorem law_sum (a : Option Addr) (zs : List Int) (c : Nat) (B : Nat) (w : World) (h0 : 0 < zs.length) (hl : zs.length ≤ 2147483647) (hc : zs.length ≤ c) (hz : ∀ z ∈ zs, 0 ≤ z ∧ z ≤ 18446744073709551615) (hs : Sl w B a (zs.map (.int .u64))) :
    Calls Try.prog 3 #[.slice a zs.length c, .int .i64 2] w fun e w' => e = .returned (.bool true) ∧ Below w.heap.size w w' := by
  have C1 := Lib.hid (mv_sum a zs c B w h0 hl hc hz hs)
  have C2 := Lib.hid (joined_sum a zs c B w h0 hl hz hs)
  have hne : ((zs.length : Int) == 0) = false := by rw [beq_eq_false_iff_ne]; omega
  clear hz hs
  generalize foldI sumI zs = r at *
  go_enter Try.func3, Try.ntmps3
  go_wp2_with (first | (go_at_call 5; refine C1.out.mono ?_; rintro e w' ⟨rfl, rfl⟩) | (go_at_call 6; refine C2.out.mono ?_; rintro e w' ⟨rfl, rfl⟩))
  go_ret
  exact ⟨rfl, Below.refl _ _⟩

theorem walk (a : Option Addr) (zs : List Int) (c : Nat) (how : Int) (B : Nat) (w : World) (hm : zs.length ≤ maxLen) (hc : zs.length ≤ c) (hz : ∀ z ∈ zs, 0 ≤ z ∧ z ≤ 18446744073709551615) (hs : Sl w B a (zs.map (.int .u64))) :
    Calls Try.prog 3 #[.slice a zs.length c, .int .i64 how] w fun e w' => e = .returned (.bool true) ∧ Below w.heap.size w w' := by
  unfold maxLen at hm
  by_cases h : 0 < zs.length ∧ zs.length ≤ 2147483647 ∧ 0 ≤ how ∧ how ≤ 2
  · obtain ⟨h1, h2, h3, h4⟩ := h
    have h5 : how = 0 ∨ how = 1 ∨ how = 2 := by omega
    rcases h5 with rfl | rfl | rfl
    · exact law_min a zs c B w h1 h2 hc hz hs
    · exact law_max a zs c B w h1 h2 hc hz hs
    · exact law_sum a zs c B w h1 h2 hc hz hs
  · clear hz hs
    by_cases h1 : 2147483647 < zs.length
    · clear h
      go_enter Try.func3, Try.ntmps3
      go_wp2
      all_goals (go_ret; exact ⟨rfl, Below.refl _ _⟩)
    · by_cases h2 : zs.length = 0
      · have hne : ((zs.length : Int) == 0) = true := by rw [beq_iff_eq]; omega
        clear h h2
        go_enter Try.func3, Try.ntmps3
        go_wp2
        all_goals (go_ret; exact ⟨rfl, Below.refl _ _⟩)
      · have hne : ((zs.length : Int) == 0) = false := by rw [beq_eq_false_iff_ne]; omega
        by_cases h3 : how < 0
        · clear h h2
          go_enter Try.func3, Try.ntmps3
          go_wp2
          all_goals (go_ret; exact ⟨rfl, Below.refl _ _⟩)
        · have h4 : 2 < how := by omega
          clear h h2
          go_enter Try.func3, Try.ntmps3
          go_wp2
          all_goals (go_ret; exact ⟨rfl, Below.refl _ _⟩)

end Go.Proofs.Ytpmkkajbmdoflac.fnMergeVals
