/-
  FnShiftAndMask: bits from an offset on, those of a mask alone. Conditions: none.
-/
import Derived.Test.YtpmkkajbmdoflaaBase
import Derived.Laws.BitsAllLaws
namespace Go.Proofs.Ytpmkkajbmdoflaa.fnShiftAndMask
open Go.ChangeShapes Go.WideShapes Go.ChangeAt Go.RowKit
set_option linter.unusedVariables false

/-- bits from o on, of two words -/
def samN (x y o mask : Nat) : Nat := if o % 32 = 0 then x &&& mask else (x / 2 ^ (o % 32) ||| y * 2 ^ (32 - o % 32) % 4294967296) &&& mask

theorem div_testBit (x i : Nat) : (x / 2 ^ i) % 2 = (x.testBit i).toNat := by
  rw [Nat.testBit_eq_decide_div_mod_eq]
  have : x / 2 ^ i % 2 = 0 ∨ x / 2 ^ i % 2 = 1 := by omega
  rcases this with h | h <;> simp [h]

theorem bit_of (x i : Nat) (hx : x < 4294967296) : (bits BinOp.and IntKind.u32 ((x : Int) / 2 ^ i) 1 == 1) = x.testBit i := by
  have e : ((x : Int) / 2 ^ i) = ((x / 2 ^ i : Nat) : Int) := by simp
  have hle : x / 2 ^ i ≤ x := Nat.div_le_self _ _
  have h1 := u32_and_nat (x / 2 ^ i) 1 (by omega) (by omega)
  rw [e]
  rw [show (1 : Int) = ((1 : Nat) : Int) from rfl, h1, nat_mask1, div_testBit]
  cases x.testBit i <;> rfl

theorem bit_of' (x : Nat) (k : Nat) (hx : x < 4294967296) : (bits BinOp.and IntKind.u32 ((x : Int) / 2 ^ (k % 32)) 1 == 1) = x.testBit (k % 32) := bit_of x (k % 32) hx

theorem samN_lt (x y o mask : Nat) (hm : mask < 4294967296) : samN x y o mask < 4294967296 := by
  unfold samN
  have : ∀ z, z &&& mask ≤ mask := fun z => Nat.and_le_right
  split
  · have := this x; omega
  · have := this (x / 2 ^ (o % 32) ||| y * 2 ^ (32 - o % 32) % 4294967296); omega

theorem samN_bit (x y o mask i : Nat) (hx : x < 4294967296) (hi : i < 32) :
    (samN x y o mask).testBit i = (mask.testBit i && (if (o % 32 + i) < 32 then x.testBit ((o + i) % 32) else y.testBit ((o + i) % 32))) := by
  unfold samN
  by_cases h : o % 32 = 0
  · rw [if_pos h, Nat.testBit_and, if_pos (by omega), show (o + i) % 32 = i by omega, Bool.and_comm]
  · rw [if_neg h, Nat.testBit_and, Nat.testBit_or, Bool.and_comm]
    congr 1
    rw [← Nat.shiftRight_eq_div_pow, Nat.testBit_shiftRight]
    rw [show (4294967296 : Nat) = 2 ^ 32 from rfl, Nat.testBit_mod_two_pow, ← Nat.shiftLeft_eq, Nat.testBit_shiftLeft]
    by_cases h2 : o % 32 + i < 32
    · rw [if_pos h2, show (o + i) % 32 = o % 32 + i by omega]
      have : ¬ (i ≥ 32 - o % 32) := by omega
      simp [this]
    · rw [if_neg h2, show (o + i) % 32 = i - (32 - o % 32) by omega]
      have hz : x.testBit (o % 32 + i) = false := Nat.testBit_lt_two_pow (Nat.lt_of_lt_of_le hx (Nat.pow_le_pow_right (n := 2) (i := 32) (by omega) (by omega)))
      have h3 : i ≥ 32 - o % 32 := by omega
      rw [hz]
      simp [h3, hi]

theorem ret_u32 {a b : Int} (h : a = b) : Ending.returned (.int .u32 a) = .returned (.int .u32 b) := by rw [h]

theorem sam_eq (x y o mask : Nat) (hx : x ≤ 4294967295) (hy : y ≤ 4294967295) (hm : mask ≤ 4294967295) (ho : ¬ o % 32 = 0) :
    bits BinOp.and IntKind.u32 (bits BinOp.or IntKind.u32 ((x : Int) / 2 ^ (o - o / 32 * 32)) ((y : Int) * 2 ^ (32 - (o - o / 32 * 32)) % 4294967296)) mask = ((samN x y o mask : Nat) : Int) := by
  have e : o - o / 32 * 32 = o % 32 := by omega
  rw [e]
  have e1 : ((x : Int) / 2 ^ (o % 32)) = ((x / 2 ^ (o % 32) : Nat) : Int) := by simp
  have e2 : ((y : Int) * 2 ^ (32 - o % 32) % 4294967296) = ((y * 2 ^ (32 - o % 32) % 4294967296 : Nat) : Int) := by simp
  have h1 : x / 2 ^ (o % 32) ≤ x := Nat.div_le_self _ _
  have h2 : y * 2 ^ (32 - o % 32) % 4294967296 < 4294967296 := Nat.mod_lt _ (by omega)
  unfold samN
  rw [if_neg ho, e1, e2, u32_or_nat _ _ (by omega) h2]
  have h3 : (x / 2 ^ (o % 32) ||| y * 2 ^ (32 - o % 32) % 4294967296) < 2 ^ 32 := Nat.or_lt_two_pow (by omega) h2
  rw [u32_and_nat _ _ h3 (by omega)]

set_option maxHeartbeats 400000 in
theorem sam_any (a : Option Addr) (zs : List Int) (c : Nat) (o mask : Nat) (w : World) (h1 : o / 32 + 1 < zs.length) (hl : zs.length ≤ 1000) (hm : mask ≤ 4294967295) (hz : ∀ z ∈ zs, 0 ≤ z ∧ z ≤ 4294967295)
    (hc : ∀ j, j < zs.length → ∃ ad, a = some ad ∧ w.cell? (ad.add j) = some (.int .u32 (zs.getD j 0))) :
    Calls Try.prog 28 #[.slice a zs.length c, .int .u32 o, .int .u32 mask] w fun e w' =>
      e = .returned (.int .u32 (samN (zs.getD (o / 32) 0).toNat (zs.getD (o / 32 + 1) 0).toNat o mask : Nat)) ∧ w = w' := by
  obtain ⟨ad, rfl, hcell⟩ := hc (o / 32) (by omega)
  obtain ⟨ad', had, hcell'⟩ := hc (o / 32 + 1) (by omega)
  injection had with had
  subst had
  clear hc
  have e1 : zs.getD (o / 32) 0 = ((zs.getD (o / 32) 0).toNat : Int) ∧ (zs.getD (o / 32) 0).toNat ≤ 4294967295 := by
    have := hz (zs.getD (o / 32) 0) (by rw [List.getD_eq_getElem?_getD, List.getElem?_eq_getElem (show o / 32 < zs.length by omega)]; exact List.getElem_mem _)
    omega
  have e2 : zs.getD (o / 32 + 1) 0 = ((zs.getD (o / 32 + 1) 0).toNat : Int) ∧ (zs.getD (o / 32 + 1) 0).toNat ≤ 4294967295 := by
    have := hz (zs.getD (o / 32 + 1) 0) (by rw [List.getD_eq_getElem?_getD, List.getElem?_eq_getElem (show o / 32 + 1 < zs.length by omega)]; exact List.getElem_mem _)
    omega
  rw [e1.1] at hcell
  rw [e2.1] at hcell'
  replace e1 := e1.2
  replace e2 := e2.2
  generalize (zs.getD (o / 32) 0).toNat = x at *
  generalize (zs.getD (o / 32 + 1) 0).toNat = y at *
  have hcell2 : w.cell? ⟨ad.block, ad.off + (o / 32 + 1), none⟩ = some (.int .u32 y) := by simpa [Addr.add] using hcell'
  clear hcell'
  generalize zs.length = n at *
  clear hz
  by_cases ho : o % 32 = 0
  · have hb : ((o : Int) - (o : Int) / 32 * 32 == 0) = true := by rw [beq_iff_eq]; omega
    have Ho := Lib.hid ho
    clear ho
    go_enter Try.func28, Try.ntmps28
    go_wp2
    go_ret
    refine ⟨ret_u32 ?_, rfl⟩
    rw [u32_and_nat x mask (by omega) (by omega)]
    unfold samN
    rw [if_pos Ho.out]
  · have hb : ((o : Int) - (o : Int) / 32 * 32 == 0) = false := by rw [beq_eq_false_iff_ne]; omega
    have Ho := Lib.hid ho
    clear ho
    go_enter Try.func28, Try.ntmps28
    go_wp2
    go_ret
    exact ⟨ret_u32 (sam_eq x y o mask e1 e2 hm Ho.out), rfl⟩

theorem imp_any (a : Option Addr) (zs : List Int) (c : Nat) (o mask : Nat) (w : World) (h1 : o / 32 + 1 < zs.length) (hl : zs.length ≤ 1000) (hm : mask ≤ 4294967295) (hz : ∀ z ∈ zs, 0 ≤ z ∧ z ≤ 4294967295)
    (hc : ∀ j, j < zs.length → ∃ ad, a = some ad ∧ w.cell? (ad.add j) = some (.int .u32 (zs.getD j 0))) :
    Calls Try.prog 16 #[.slice a zs.length c, .int .u32 o, .int .u32 mask] w fun e w' =>
      e = .returned (.int .u32 (samN (zs.getD (o / 32) 0).toNat (zs.getD (o / 32 + 1) 0).toNat o mask : Nat)) ∧ w = w' := by
  have C := Lib.hid (sam_any a zs c o mask w h1 hl hm hz hc)
  clear hc hz
  generalize samN (zs.getD (o / 32) 0).toNat (zs.getD (o / 32 + 1) 0).toNat o mask = R at *
  go_enter Try.func16, Try.ntmps16
  go_wp2_with (first | (go_at_call 28; refine C.out.mono ?_; rintro e w' ⟨rfl, rfl⟩) | go_in)
  go_ret
  exact ⟨rfl, rfl⟩

/-- what the law's round asks -/
theorem round_bit (zs : List Int) (o mask i : Nat) (hz : ∀ z ∈ zs, 0 ≤ z ∧ z ≤ 4294967295) (h1 : o / 32 + 1 < zs.length) (hi : i < 32) :
    (samN (zs.getD (o / 32) 0).toNat (zs.getD (o / 32 + 1) 0).toNat o mask).testBit i = (mask.testBit i && (zs.getD ((o + i) / 32) 0).toNat.testBit ((o + i) % 32)) := by
  have hx := hz (zs.getD (o / 32) 0) (by rw [List.getD_eq_getElem?_getD, List.getElem?_eq_getElem (show o / 32 < zs.length by omega)]; exact List.getElem_mem _)
  rw [samN_bit _ _ _ _ _ (by omega) hi]
  by_cases h : o % 32 + i < 32
  · rw [if_pos h, show (o + i) / 32 = o / 32 by omega]
  · rw [if_neg h, show (o + i) / 32 = o / 32 + 1 by omega]

set_option maxHeartbeats 800000 in
theorem loop_law (a : Option Addr) (zs : List Int) (c : Nat) (o mask : Nat) (w : World) (h1 : o / 32 + 1 < zs.length) (hl : zs.length ≤ 1000) (hm : mask ≤ 4294967295) (hz : ∀ z ∈ zs, 0 ≤ z ∧ z ≤ 4294967295)
    (hc : ∀ j, j < zs.length → ∃ ad, a = some ad ∧ w.cell? (ad.add j) = some (.int .u32 (zs.getD j 0))) :
    Calls Try.prog 8 #[.slice a zs.length c, .int .u32 o, .int .u32 mask] w fun e w' => e = .returned (.bool true) ∧ Below w.heap.size w w' := by
  have C := Lib.hid (imp_any a zs c o mask w h1 hl hm hz hc)
  have HB := Lib.hid (fun i hi => round_bit zs o mask i hz h1 hi)
  have HC := Lib.hid hc
  have HZ := Lib.hid hz
  have hR := samN_lt (zs.getD (o / 32) 0).toNat (zs.getD (o / 32 + 1) 0).toNat o mask (by omega)
  have h1' : ¬ (zs.length : Int) ≤ (o : Int) / 32 + 1 := by omega
  clear hc hz
  generalize samN (zs.getD (o / 32) 0).toNat (zs.getD (o / 32 + 1) 0).toNat o mask = R at *
  go_enter Try.func8, Try.ntmps8
  go_wp2_with (first | (go_at_call 16; refine C.out.mono ?_; rintro e w' ⟨rfl, rfl⟩) | go_in)
  go_loop [8, 9] (fun i _ => ∃ n : Nat, n ≤ 32 ∧ i = .int .u32 n) (fun i _ => 32 - (intOf i).toNat)
  case atStart => exact ⟨0, by omega, rfl⟩
  case round =>
    obtain ⟨n, hn, rfl⟩ := hrel
    by_cases hlt : n < 32
    · have hb := HB.out n hlt
      obtain ⟨ad, rfl, hcell⟩ := HC.out ((o + n) / 32) (by omega)
      have hzz := HZ.out (zs.getD ((o + n) / 32) 0) (by rw [List.getD_eq_getElem?_getD, List.getElem?_eq_getElem (show (o + n) / 32 < zs.length by omega)]; exact List.getElem_mem _)
      have e1 : zs.getD ((o + n) / 32) 0 = ((zs.getD ((o + n) / 32) 0).toNat : Int) := by omega
      rw [e1] at hcell
      have hX : (zs.getD ((o + n) / 32) 0).toNat < 4294967296 := by omega
      clear e1 hzz
      generalize (zs.getD ((o + n) / 32) 0).toNat = X at *
      have b1 := bit_of R n hR
      have b2 := bit_of mask n (by omega)
      have b3 := bit_of X ((o + n) % 32) hX
      rw [hb] at b1
      clear hb
      go_wp2
      all_goals
        go_round
        case rel => exact ⟨n + 1, by omega, by go_num⟩
        case measure => simp [intOf]; omega
    · go_wp2
      go_ret
      exact ⟨rfl, Below.refl _ _⟩

theorem walk (a : Option Addr) (zs : List Int) (c : Nat) (off mask : Int) (w : World) (hn : zs.length ≤ maxLen) (hz : ∀ z ∈ zs, 0 ≤ z ∧ z ≤ 4294967295) (ho : 0 ≤ off ∧ off ≤ 4294967295) (hm : 0 ≤ mask ∧ mask ≤ 4294967295)
    (hc : ∀ j, j < zs.length → ∃ ad, a = some ad ∧ w.cell? (ad.add j) = some (.int .u32 (zs.getD j 0))) :
    Calls Try.prog 8 #[.slice a zs.length c, .int .u32 off, .int .u32 mask] w fun e w' => e = .returned (.bool true) ∧ Below w.heap.size w w' := by
  unfold maxLen at hn
  obtain ⟨o, rfl⟩ := Int.eq_ofNat_of_zero_le ho.1
  obtain ⟨m, rfl⟩ := Int.eq_ofNat_of_zero_le hm.1
  by_cases h : zs.length ≤ 1000 ∧ o / 32 + 1 < zs.length
  · exact loop_law a zs c o m w h.2 h.1 (by omega) hz hc
  · clear hc hz
    by_cases h1 : 1000 < zs.length
    · clear h
      by_cases h2 : 2147483647 < zs.length
      all_goals
        go_enter Try.func8, Try.ntmps8
        go_wp2
        go_ret
        exact ⟨rfl, Below.refl _ _⟩
    · have h2 : (zs.length : Int) ≤ (o : Int) / 32 + 1 := by omega
      clear h
      go_enter Try.func8, Try.ntmps8
      go_wp2
      go_ret
      exact ⟨rfl, Below.refl _ _⟩

end Go.Proofs.Ytpmkkajbmdoflaa.fnShiftAndMask
