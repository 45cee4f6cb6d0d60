/-
  The sequences of ranges of bytes: what masks make of a letter's number. Conditions: as stated.
-/
import Derived.Test.YtobcgeonobgjpaaDoorSeqPlain
import Derived.Laws.DeepBits32
namespace Go.Proofs.YtobcgeonobgjpaaDoor
set_option linter.unusedVariables false

theorem or_ones (k y : Nat) (h : y < 2 ^ k) : y ||| (2 ^ k - 1) = 2 ^ k - 1 := by
  apply Nat.eq_of_testBit_eq
  intro i
  rw [Nat.testBit_or, Nat.testBit_two_pow_sub_one]
  by_cases hi : i < k
  · simp [hi]
  · rw [Nat.testBit_lt_two_pow (Nat.lt_of_lt_of_le h (Nat.pow_le_pow_right (by omega) (by omega)))]
    simp

theorem or_low (k x : Nat) : x ||| (2 ^ k - 1) = x / 2 ^ k * 2 ^ k + (2 ^ k - 1) := by
  apply Nat.eq_of_testBit_eq
  intro i
  have hp : 2 ^ k - 1 < 2 ^ k := by have := Nat.pow_pos (n := k) (show 0 < 2 by omega); omega
  rw [Nat.testBit_or, Nat.testBit_two_pow_sub_one, Nat.mul_comm, Nat.testBit_two_pow_mul_add _ hp]
  by_cases hi : i < k
  · simp [hi, Nat.testBit_two_pow_sub_one]
  · simp only [hi, decide_false, Bool.or_false, if_false]
    rw [Nat.testBit_div_two_pow]
    congr 1
    omega

theorem mask_and (k x m : Nat) (hx : x < 2147483648) (hm : 2 ^ k - 1 = m) (hk : m < 2147483648) : bits .and .i32 (x : Int) (m : Int) = ((x % (m + 1) : Nat) : Int) := by
  show IntKind.i32.wrap ((BitVec.ofInt 32 (x : Int) &&& BitVec.ofInt 32 (m : Int)).toNat : Int) = _
  have hp := Nat.pow_pos (n := k) (show 0 < 2 by omega)
  rw [BitVec.toNat_and, ofInt_u32 x (by omega), ofInt_u32 m (by omega), ← hm, Nat.and_two_pow_sub_one_eq_mod, show 2 ^ k - 1 + 1 = 2 ^ k by omega]
  exact wrap_i32_small _ (by omega) (by have := Nat.mod_le x (2 ^ k); omega)
theorem mask_or (k x m : Nat) (hx : x < 1073741824) (hm : 2 ^ k - 1 = m) (hk : m < 1073741824) : bits .or .i32 (x : Int) (m : Int) = ((x / (m + 1) * (m + 1) + m : Nat) : Int) := by
  show IntKind.i32.wrap ((BitVec.ofInt 32 (x : Int) ||| BitVec.ofInt 32 (m : Int)).toNat : Int) = _
  have hp := Nat.pow_pos (n := k) (show 0 < 2 by omega)
  rw [BitVec.toNat_or, ofInt_u32 x (by omega), ofInt_u32 m (by omega), ← hm, or_low, show 2 ^ k - 1 + 1 = 2 ^ k by omega]
  have := Nat.div_mul_le_self x (2 ^ k)
  exact wrap_i32_small _ (by omega) (by omega)

theorem i32_lo6 (x : Int) (h0 : 0 ≤ x) (h : x ≤ 1114111) : bits .and .i32 x 63 = x % 64 := by
  obtain ⟨n, rfl⟩ := Int.eq_ofNat_of_zero_le h0
  rw [show (63 : Int) = ((63 : Nat) : Int) from rfl, mask_and 6 n 63 (by omega) (by decide) (by omega)]
  omega
theorem i32_lo12 (x : Int) (h0 : 0 ≤ x) (h : x ≤ 1114111) : bits .and .i32 x 4095 = x % 4096 := by
  obtain ⟨n, rfl⟩ := Int.eq_ofNat_of_zero_le h0
  rw [show (4095 : Int) = ((4095 : Nat) : Int) from rfl, mask_and 12 n 4095 (by omega) (by decide) (by omega)]
  omega
theorem i32_lo18 (x : Int) (h0 : 0 ≤ x) (h : x ≤ 1114111) : bits .and .i32 x 262143 = x % 262144 := by
  obtain ⟨n, rfl⟩ := Int.eq_ofNat_of_zero_le h0
  rw [show (262143 : Int) = ((262143 : Nat) : Int) from rfl, mask_and 18 n 262143 (by omega) (by decide) (by omega)]
  omega
theorem i32_or6 (x : Int) (h0 : 0 ≤ x) (h : x ≤ 1114111) : bits .or .i32 x 63 = x / 64 * 64 + 63 := by
  obtain ⟨n, rfl⟩ := Int.eq_ofNat_of_zero_le h0
  rw [show (63 : Int) = ((63 : Nat) : Int) from rfl, mask_or 6 n 63 (by omega) (by decide) (by omega)]
  omega
theorem i32_or12 (x : Int) (h0 : 0 ≤ x) (h : x ≤ 1114111) : bits .or .i32 x 4095 = x / 4096 * 4096 + 4095 := by
  obtain ⟨n, rfl⟩ := Int.eq_ofNat_of_zero_le h0
  rw [show (4095 : Int) = ((4095 : Nat) : Int) from rfl, mask_or 12 n 4095 (by omega) (by decide) (by omega)]
  omega
theorem i32_or18 (x : Int) (h0 : 0 ≤ x) (h : x ≤ 1114111) : bits .or .i32 x 262143 = x / 262144 * 262144 + 262143 := by
  obtain ⟨n, rfl⟩ := Int.eq_ofNat_of_zero_le h0
  rw [show (262143 : Int) = ((262143 : Nat) : Int) from rfl, mask_or 18 n 262143 (by omega) (by decide) (by omega)]
  omega

theorem i32_hi6 (x : Int) (h0 : 0 ≤ x) (h : x ≤ 1114111) : bits .and .i32 x (-64) = x / 64 * 64 := by
  obtain ⟨n, rfl⟩ := Int.eq_ofNat_of_zero_le h0
  show IntKind.i32.wrap ((BitVec.ofInt 32 (n : Int) &&& BitVec.ofInt 32 (-64)).toNat : Int) = _
  rw [BitVec.toNat_and, ofInt_u32 n (by omega), show (BitVec.ofInt 32 (-64)).toNat = 4294967232 by decide, Nat.and_comm, nat_hi32_6']
  rw [wrap_i32_small _ (by omega) (by omega)]
  omega
theorem i32_hi12 (x : Int) (h0 : 0 ≤ x) (h : x ≤ 1114111) : bits .and .i32 x (-4096) = x / 4096 * 4096 := by
  obtain ⟨n, rfl⟩ := Int.eq_ofNat_of_zero_le h0
  show IntKind.i32.wrap ((BitVec.ofInt 32 (n : Int) &&& BitVec.ofInt 32 (-4096)).toNat : Int) = _
  rw [BitVec.toNat_and, ofInt_u32 n (by omega), show (BitVec.ofInt 32 (-4096)).toNat = 4294963200 by decide, Nat.and_comm, nat_hi32_12']
  rw [wrap_i32_small _ (by omega) (by omega)]
  omega
theorem i32_hi18 (x : Int) (h0 : 0 ≤ x) (h : x ≤ 1114111) : bits .and .i32 x (-262144) = x / 262144 * 262144 := by
  obtain ⟨n, rfl⟩ := Int.eq_ofNat_of_zero_le h0
  show IntKind.i32.wrap ((BitVec.ofInt 32 (n : Int) &&& BitVec.ofInt 32 (-262144)).toNat : Int) = _
  rw [BitVec.toNat_and, ofInt_u32 n (by omega), show (BitVec.ofInt 32 (-262144)).toNat = 4294705152 by decide, Nat.and_comm, nat_hi32_18']
  rw [wrap_i32_small _ (by omega) (by omega)]
  omega

end Go.Proofs.YtobcgeonobgjpaaDoor
