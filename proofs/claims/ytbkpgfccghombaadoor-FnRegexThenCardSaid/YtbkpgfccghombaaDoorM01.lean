/-
  Parts of the proof in one text: SeqPlain, SeqCov, SeqOne, SeqBit, RxC, Frame, QSt, QRA. Conditions: as each states.
-/
import Derived.Test.YtbkpgfccghombaaDoorM00
import Derived.Laws.DeepBits32
import Derived.Handy
/-! The sequences of ranges of bytes: a range of letters of one width that is not cut any more is one sequence. Plain integers. Conditions: none. -/
namespace Go.Proofs.YtbkpgfccghombaaDoor
set_option linter.unusedVariables false

/-- not to be cut at 64^i -/
def whole (m a z : Int) : Prop := a / m = z / m ∨ (a % m = 0 ∧ z % m = m - 1)

theorem two_bytes (a z x y : Int) (h0 : 0 ≤ a) (h : a ≤ z) (c1 : whole 64 a z) :
    (192 + a / 64 ≤ x ∧ x ≤ 192 + z / 64 ∧ 128 + a % 64 ≤ y ∧ y ≤ 128 + z % 64) ↔ ∃ r, a ≤ r ∧ r ≤ z ∧ x = 192 + r / 64 ∧ y = 128 + r % 64 := by
  unfold whole at c1
  constructor
  · rintro ⟨h1, h2, h3, h4⟩
    exact ⟨(x - 192) * 64 + (y - 128), by omega, by omega, by omega, by omega⟩
  · rintro ⟨r, h1, h2, rfl, rfl⟩
    omega

theorem three_bytes (a z x y u : Int) (h0 : 0 ≤ a) (h : a ≤ z) (c1 : whole 64 a z) (c2 : whole 4096 a z) :
    (224 + a / 4096 ≤ x ∧ x ≤ 224 + z / 4096 ∧ 128 + a / 64 % 64 ≤ y ∧ y ≤ 128 + z / 64 % 64 ∧ 128 + a % 64 ≤ u ∧ u ≤ 128 + z % 64) ↔ ∃ r, a ≤ r ∧ r ≤ z ∧ x = 224 + r / 4096 ∧ y = 128 + r / 64 % 64 ∧ u = 128 + r % 64 := by
  unfold whole at c1 c2
  constructor
  · rintro ⟨h1, h2, h3, h4, h5, h6⟩
    exact ⟨(x - 224) * 4096 + (y - 128) * 64 + (u - 128), by omega, by omega, by omega, by omega, by omega⟩
  · rintro ⟨r, h1, h2, rfl, rfl, rfl⟩
    omega

set_option maxHeartbeats 1000000 in
theorem four_bytes (a z x y u v : Int) (h0 : 0 ≤ a) (h : a ≤ z) (c1 : whole 64 a z) (c2 : whole 4096 a z) (c3 : whole 262144 a z) :
    (240 + a / 262144 ≤ x ∧ x ≤ 240 + z / 262144 ∧ 128 + a / 4096 % 64 ≤ y ∧ y ≤ 128 + z / 4096 % 64 ∧ 128 + a / 64 % 64 ≤ u ∧ u ≤ 128 + z / 64 % 64 ∧ 128 + a % 64 ≤ v ∧ v ≤ 128 + z % 64) ↔
      ∃ r, a ≤ r ∧ r ≤ z ∧ x = 240 + r / 262144 ∧ y = 128 + r / 4096 % 64 ∧ u = 128 + r / 64 % 64 ∧ v = 128 + r % 64 := by
  unfold whole at c1 c2 c3
  constructor
  · rintro ⟨h1, h2, h3, h4, h5, h6, h7, h8⟩
    exact ⟨(x - 240) * 262144 + (y - 128) * 4096 + (u - 128) * 64 + (v - 128), by omega, by omega, by omega, by omega, by omega, by omega⟩
  · rintro ⟨r, h1, h2, rfl, rfl, rfl, rfl⟩
    omega

/-! ### how much is left to be done with ranges -/
/-- of one range -/
def wgt (r : Int × Int) : Nat := if r = (65535, 0) then 0 else if r.2 < r.1 then 2 else 8 * (r.2 - r.1).toNat + 7
def wgtAll (l : List (Int × Int)) : Nat := (l.map wgt).sum

/-- a cut between two numbers of a range makes it less -/
theorem wgt_cut (a m z : Int) (h1 : a ≤ m) (h2 : m < z) : wgt (a, m) + wgt (m + 1, z) < wgt (a, z) := by
  unfold wgt
  simp only [Prod.mk.injEq]
  split <;> split <;> split <;> (try split) <;> (try split) <;> (try split) <;> omega
/-- the cut at the surrogates makes it less -/
theorem wgt_split (a z : Int) (h0 : a ≤ z) (h1 : a < 57344) (h2 : 55295 < z) : wgt (a, 55295) + wgt (57344, z) < wgt (a, z) := by
  unfold wgt
  simp only [Prod.mk.injEq]
  split <;> split <;> split <;> (try split) <;> (try split) <;> (try split) <;> omega

end Go.Proofs.YtbkpgfccghombaaDoor

/-! The sequences of ranges of bytes: whether bytes are a letter of a range; ranges cut in two. Conditions: none. -/
namespace Go.Proofs.YtbkpgfccghombaaDoor
set_option linter.unusedVariables false

theorem ub_inj (r s : Int) (h0 : 0 ≤ r) (h1 : 0 ≤ s) (h : ub r = ub s) : r = s := by
  unfold ub at h
  split at h
  · split at h
    · simpa using h
    · split at h
      · simp at h
      · split at h <;> simp at h
  · split at h
    · split at h
      · simp at h
      · split at h
        · simp at h; omega
        · split at h <;> simp at h
    · split at h
      · split at h
        · simp at h
        · split at h
          · simp at h
          · split at h
            · simp at h; omega
            · simp at h
      · split at h
        · simp at h
        · split at h
          · simp at h
          · split at h
            · simp at h
            · simp at h; omega

/-- the bytes are a letter from a to z -/
def InR (a z : Int) (b : List Int) : Prop := ∃ r, isL r = true ∧ a ≤ r ∧ r ≤ z ∧ b = ub r
open Classical in
/-- 1 if so, else 0 -/
noncomputable def cov (a z : Int) (b : List Int) : Nat := if InR a z b then 1 else 0

theorem letter_nonneg {r : Int} (h : isL r = true) : 0 ≤ r := by
  unfold isL at h
  exact (of_decide_eq_true h).1

theorem cov_empty (a z : Int) (b : List Int) (h : z < a) : cov a z b = 0 := by
  unfold cov
  rw [if_neg]
  rintro ⟨r, -, h1, h2, -⟩
  omega

theorem cov_cut (a m z : Int) (b : List Int) (h1 : a ≤ m + 1) (h2 : m ≤ z) : cov a z b = cov a m b + cov (m + 1) z b := by
  unfold cov
  by_cases p : InR a m b
  · by_cases q : InR (m + 1) z b
    · obtain ⟨r, hr, r1, r2, r3⟩ := p
      obtain ⟨s, hs, s1, s2, s3⟩ := q
      have := ub_inj r s (letter_nonneg hr) (letter_nonneg hs) (r3.symm.trans s3)
      omega
    · rw [if_pos p, if_neg q, if_pos]
      obtain ⟨r, hr, r1, r2, r3⟩ := p
      exact ⟨r, hr, r1, by omega, r3⟩
  · by_cases q : InR (m + 1) z b
    · rw [if_neg p, if_pos q, if_pos]
      obtain ⟨r, hr, r1, r2, r3⟩ := q
      exact ⟨r, hr, by omega, r2, r3⟩
    · rw [if_neg p, if_neg q, if_neg]
      rintro ⟨r, hr, r1, r2, r3⟩
      rcases Int.lt_or_le m r with hm | hm
      · exact q ⟨r, hr, by omega, r2, r3⟩
      · exact p ⟨r, hr, r1, hm, r3⟩

/-- what lies between the surrogates' ends is no letter -/
theorem cov_split (a z : Int) (b : List Int) (h1 : a < 57344) (h2 : 55295 < z) : cov a z b = cov a 55295 b + cov 57344 z b := by
  unfold cov
  by_cases p : InR a 55295 b
  · by_cases q : InR 57344 z b
    · obtain ⟨r, hr, r1, r2, r3⟩ := p
      obtain ⟨s, hs, s1, s2, s3⟩ := q
      have := ub_inj r s (letter_nonneg hr) (letter_nonneg hs) (r3.symm.trans s3)
      omega
    · rw [if_pos p, if_neg q, if_pos]
      obtain ⟨r, hr, r1, r2, r3⟩ := p
      exact ⟨r, hr, r1, by omega, r3⟩
  · by_cases q : InR 57344 z b
    · rw [if_neg p, if_pos q, if_pos]
      obtain ⟨r, hr, r1, r2, r3⟩ := q
      exact ⟨r, hr, by omega, r2, r3⟩
    · rw [if_neg p, if_neg q, if_neg]
      rintro ⟨r, hr, r1, r2, r3⟩
      have hl := of_decide_eq_true (show decide (0 ≤ r ∧ r ≤ 1114111 ∧ (r < 55296 ∨ 57343 < r)) = true from hr)
      rcases hl.2.2 with h | h
      · exact p ⟨r, hr, r1, by omega, r3⟩
      · exact q ⟨r, hr, by omega, r2, r3⟩

end Go.Proofs.YtbkpgfccghombaaDoor

/-! The sequences of ranges of bytes: a range that is not cut any more is one sequence. Conditions: none. -/
namespace Go.Proofs.YtbkpgfccghombaaDoor
set_option linter.unusedVariables false

/-- bytes within ranges, none more and none less -/
def covB : List (Int × Int) → List Int → Bool
  | [], [] => true
  | p :: l, x :: b => decide (p.1 ≤ x ∧ x ≤ p.2) && covB l b
  | _, _ => false

theorem covB_len : ∀ (l : List (Int × Int)) (b : List Int), covB l b = true → b.length = l.length
  | [], [], _ => rfl
  | _ :: l, _ :: b, h => by
    simp only [covB, Bool.and_eq_true] at h
    simp [covB_len l b h.2]
  | [], _ :: _, h => by simp [covB] at h
  | _ :: _, [], h => by simp [covB] at h

theorem isL_of {r : Int} (h0 : 0 ≤ r) (h1 : r ≤ 1114111) (h : r < 55296 ∨ 57343 < r) : isL r = true := decide_eq_true ⟨h0, h1, h⟩

theorem ub1 (r : Int) (h : r ≤ 127) : ub r = [r] := by unfold ub; rw [if_pos h]
theorem ub2 (r : Int) (h : ¬ r ≤ 127) (h2 : r ≤ 2047) : ub r = [192 + r / 64, 128 + r % 64] := by unfold ub; rw [if_neg h, if_pos h2]
theorem ub3 (r : Int) (h : ¬ r ≤ 2047) (h2 : r ≤ 65535) : ub r = [224 + r / 4096, 128 + r / 64 % 64, 128 + r % 64] := by unfold ub; rw [if_neg (by omega), if_neg h, if_pos h2]
theorem ub4 (r : Int) (h : ¬ r ≤ 65535) : ub r = [240 + r / 262144, 128 + r / 4096 % 64, 128 + r / 64 % 64, 128 + r % 64] := by unfold ub; rw [if_neg (by omega), if_neg (by omega), if_neg h]

theorem one_ascii (a z : Int) (b : List Int) (h0 : 0 ≤ a) (h : a ≤ z) (hz : z ≤ 127) : covB [(a, z)] b = true ↔ InR a z b := by
  constructor
  · intro hc
    match b, hc, covB_len _ _ hc with
    | [x], hc, _ =>
      simp [covB] at hc
      exact ⟨x, isL_of (by omega) (by omega) (by omega), hc.1, hc.2, by rw [ub1 x (by omega)]⟩
  · rintro ⟨r, -, h1, h2, rfl⟩
    rw [ub1 r (by omega)]
    simp [covB]
    omega

theorem one_two (a z : Int) (b : List Int) (h0 : ¬ a ≤ 127) (h : a ≤ z) (hz : z ≤ 2047) (c1 : whole 64 a z) : covB ((ub a).zip (ub z)) b = true ↔ InR a z b := by
  rw [ub2 a h0 (by omega), ub2 z (by omega) hz]
  constructor
  · intro hc
    match b, hc, covB_len _ _ hc with
    | [x, y], hc, _ =>
      simp [covB] at hc
      obtain ⟨r, h1, h2, rfl, rfl⟩ := (two_bytes a z x y (by omega) h c1).1 (by omega)
      exact ⟨r, isL_of (by omega) (by omega) (by omega), h1, h2, by rw [ub2 r (by omega) (by omega)]⟩
  · rintro ⟨r, -, h1, h2, rfl⟩
    rw [ub2 r (by omega) (by omega)]
    have := (two_bytes a z _ _ (by omega) h c1).2 ⟨r, h1, h2, rfl, rfl⟩
    simp [covB]
    omega

theorem one_three (a z : Int) (b : List Int) (h0 : ¬ a ≤ 2047) (h : a ≤ z) (hz : z ≤ 65535) (hs : z < 55296 ∨ 57343 < a) (c1 : whole 64 a z) (c2 : whole 4096 a z) : covB ((ub a).zip (ub z)) b = true ↔ InR a z b := by
  rw [ub3 a h0 (by omega), ub3 z (by omega) hz]
  constructor
  · intro hc
    match b, hc, covB_len _ _ hc with
    | [x, y, u], hc, _ =>
      simp [covB] at hc
      obtain ⟨r, h1, h2, rfl, rfl, rfl⟩ := (three_bytes a z x y u (by omega) h c1 c2).1 ⟨hc.1.1, hc.1.2, hc.2.1.1, hc.2.1.2, hc.2.2.1, hc.2.2.2⟩
      exact ⟨r, isL_of (by omega) (by omega) (by omega), h1, h2, by rw [ub3 r (by omega) (by omega)]⟩
  · rintro ⟨r, -, h1, h2, rfl⟩
    rw [ub3 r (by omega) (by omega)]
    obtain ⟨q1, q2, q3, q4, q5, q6⟩ := (three_bytes a z _ _ _ (by omega) h c1 c2).2 ⟨r, h1, h2, rfl, rfl, rfl⟩
    simp only [List.zip_cons_cons, List.zip_nil_right, covB, Bool.and_eq_true, decide_eq_true_eq]
    exact ⟨⟨q1, q2⟩, ⟨q3, q4⟩, ⟨q5, q6⟩, trivial⟩

theorem one_four (a z : Int) (b : List Int) (h0 : ¬ a ≤ 65535) (h : a ≤ z) (hz : z ≤ 1114111) (c1 : whole 64 a z) (c2 : whole 4096 a z) (c3 : whole 262144 a z) : covB ((ub a).zip (ub z)) b = true ↔ InR a z b := by
  rw [ub4 a h0, ub4 z (by omega)]
  constructor
  · intro hc
    match b, hc, covB_len _ _ hc with
    | [x, y, u, v], hc, _ =>
      simp [covB] at hc
      obtain ⟨r, h1, h2, rfl, rfl, rfl, rfl⟩ := (four_bytes a z x y u v (by omega) h c1 c2 c3).1 ⟨hc.1.1, hc.1.2, hc.2.1.1, hc.2.1.2, hc.2.2.1.1, hc.2.2.1.2, hc.2.2.2.1, hc.2.2.2.2⟩
      exact ⟨r, isL_of (by omega) (by omega) (by omega), h1, h2, by rw [ub4 r (by omega)]⟩
  · rintro ⟨r, -, h1, h2, rfl⟩
    rw [ub4 r (by omega)]
    obtain ⟨q1, q2, q3, q4, q5, q6, q7, q8⟩ := (four_bytes a z _ _ _ _ (by omega) h c1 c2 c3).2 ⟨r, h1, h2, rfl, rfl, rfl, rfl⟩
    simp only [List.zip_cons_cons, List.zip_nil_right, covB, Bool.and_eq_true, decide_eq_true_eq]
    exact ⟨⟨q1, q2⟩, ⟨q3, q4⟩, ⟨q5, q6⟩, ⟨q7, q8⟩, trivial⟩

end Go.Proofs.YtbkpgfccghombaaDoor

/-! The sequences of ranges of bytes: what masks make of a letter's number. Conditions: as stated. -/
namespace Go.Proofs.YtbkpgfccghombaaDoor
set_option linter.unusedVariables false

theorem or_ones (k y : Nat) (h : y < 2 ^ k) : y ||| (2 ^ k - 1) = 2 ^ k - 1 := by
  apply Nat.eq_of_testBit_eq
  intro i
  rw [Nat.testBit_or, Nat.testBit_two_pow_sub_one]
  by_cases hi : i < k
  · simp [hi]
  · rw [Nat.testBit_lt_two_pow (Nat.lt_of_lt_of_le h (Nat.pow_le_pow_right (by omega) (by omega)))]
    simp

theorem or_low (k x : Nat) : x ||| (2 ^ k - 1) = x / 2 ^ k * 2 ^ k + (2 ^ k - 1) := by
  apply Nat.eq_of_testBit_eq
  intro i
  have hp : 2 ^ k - 1 < 2 ^ k := by have := Nat.pow_pos (n := k) (show 0 < 2 by omega); omega
  rw [Nat.testBit_or, Nat.testBit_two_pow_sub_one, Nat.mul_comm, Nat.testBit_two_pow_mul_add _ hp]
  by_cases hi : i < k
  · simp [hi, Nat.testBit_two_pow_sub_one]
  · simp only [hi, decide_false, Bool.or_false, if_false]
    rw [Nat.testBit_div_two_pow]
    congr 1
    omega

theorem mask_and (k x m : Nat) (hx : x < 2147483648) (hm : 2 ^ k - 1 = m) (hk : m < 2147483648) : bits .and .i32 (x : Int) (m : Int) = ((x % (m + 1) : Nat) : Int) := by
  show IntKind.i32.wrap ((BitVec.ofInt 32 (x : Int) &&& BitVec.ofInt 32 (m : Int)).toNat : Int) = _
  have hp := Nat.pow_pos (n := k) (show 0 < 2 by omega)
  rw [BitVec.toNat_and, ofInt_u32 x (by omega), ofInt_u32 m (by omega), ← hm, Nat.and_two_pow_sub_one_eq_mod, show 2 ^ k - 1 + 1 = 2 ^ k by omega]
  exact wrap_i32_small _ (by omega) (by have := Nat.mod_le x (2 ^ k); omega)
theorem mask_or (k x m : Nat) (hx : x < 1073741824) (hm : 2 ^ k - 1 = m) (hk : m < 1073741824) : bits .or .i32 (x : Int) (m : Int) = ((x / (m + 1) * (m + 1) + m : Nat) : Int) := by
  show IntKind.i32.wrap ((BitVec.ofInt 32 (x : Int) ||| BitVec.ofInt 32 (m : Int)).toNat : Int) = _
  have hp := Nat.pow_pos (n := k) (show 0 < 2 by omega)
  rw [BitVec.toNat_or, ofInt_u32 x (by omega), ofInt_u32 m (by omega), ← hm, or_low, show 2 ^ k - 1 + 1 = 2 ^ k by omega]
  have := Nat.div_mul_le_self x (2 ^ k)
  exact wrap_i32_small _ (by omega) (by omega)

theorem i32_lo6 (x : Int) (h0 : 0 ≤ x) (h : x ≤ 1114111) : bits .and .i32 x 63 = x % 64 := by
  obtain ⟨n, rfl⟩ := Int.eq_ofNat_of_zero_le h0
  rw [show (63 : Int) = ((63 : Nat) : Int) from rfl, mask_and 6 n 63 (by omega) (by decide) (by omega)]
  omega
theorem i32_lo12 (x : Int) (h0 : 0 ≤ x) (h : x ≤ 1114111) : bits .and .i32 x 4095 = x % 4096 := by
  obtain ⟨n, rfl⟩ := Int.eq_ofNat_of_zero_le h0
  rw [show (4095 : Int) = ((4095 : Nat) : Int) from rfl, mask_and 12 n 4095 (by omega) (by decide) (by omega)]
  omega
theorem i32_lo18 (x : Int) (h0 : 0 ≤ x) (h : x ≤ 1114111) : bits .and .i32 x 262143 = x % 262144 := by
  obtain ⟨n, rfl⟩ := Int.eq_ofNat_of_zero_le h0
  rw [show (262143 : Int) = ((262143 : Nat) : Int) from rfl, mask_and 18 n 262143 (by omega) (by decide) (by omega)]
  omega
theorem i32_or6 (x : Int) (h0 : 0 ≤ x) (h : x ≤ 1114111) : bits .or .i32 x 63 = x / 64 * 64 + 63 := by
  obtain ⟨n, rfl⟩ := Int.eq_ofNat_of_zero_le h0
  rw [show (63 : Int) = ((63 : Nat) : Int) from rfl, mask_or 6 n 63 (by omega) (by decide) (by omega)]
  omega
theorem i32_or12 (x : Int) (h0 : 0 ≤ x) (h : x ≤ 1114111) : bits .or .i32 x 4095 = x / 4096 * 4096 + 4095 := by
  obtain ⟨n, rfl⟩ := Int.eq_ofNat_of_zero_le h0
  rw [show (4095 : Int) = ((4095 : Nat) : Int) from rfl, mask_or 12 n 4095 (by omega) (by decide) (by omega)]
  omega
theorem i32_or18 (x : Int) (h0 : 0 ≤ x) (h : x ≤ 1114111) : bits .or .i32 x 262143 = x / 262144 * 262144 + 262143 := by
  obtain ⟨n, rfl⟩ := Int.eq_ofNat_of_zero_le h0
  rw [show (262143 : Int) = ((262143 : Nat) : Int) from rfl, mask_or 18 n 262143 (by omega) (by decide) (by omega)]
  omega

theorem i32_hi6 (x : Int) (h0 : 0 ≤ x) (h : x ≤ 1114111) : bits .and .i32 x (-64) = x / 64 * 64 := by
  obtain ⟨n, rfl⟩ := Int.eq_ofNat_of_zero_le h0
  show IntKind.i32.wrap ((BitVec.ofInt 32 (n : Int) &&& BitVec.ofInt 32 (-64)).toNat : Int) = _
  rw [BitVec.toNat_and, ofInt_u32 n (by omega), show (BitVec.ofInt 32 (-64)).toNat = 4294967232 by decide, Nat.and_comm, nat_hi32_6']
  rw [wrap_i32_small _ (by omega) (by omega)]
  omega
theorem i32_hi12 (x : Int) (h0 : 0 ≤ x) (h : x ≤ 1114111) : bits .and .i32 x (-4096) = x / 4096 * 4096 := by
  obtain ⟨n, rfl⟩ := Int.eq_ofNat_of_zero_le h0
  show IntKind.i32.wrap ((BitVec.ofInt 32 (n : Int) &&& BitVec.ofInt 32 (-4096)).toNat : Int) = _
  rw [BitVec.toNat_and, ofInt_u32 n (by omega), show (BitVec.ofInt 32 (-4096)).toNat = 4294963200 by decide, Nat.and_comm, nat_hi32_12']
  rw [wrap_i32_small _ (by omega) (by omega)]
  omega
theorem i32_hi18 (x : Int) (h0 : 0 ≤ x) (h : x ≤ 1114111) : bits .and .i32 x (-262144) = x / 262144 * 262144 := by
  obtain ⟨n, rfl⟩ := Int.eq_ofNat_of_zero_le h0
  show IntKind.i32.wrap ((BitVec.ofInt 32 (n : Int) &&& BitVec.ofInt 32 (-262144)).toNat : Int) = _
  rw [BitVec.toNat_and, ofInt_u32 n (by omega), show (BitVec.ofInt 32 (-262144)).toNat = 4294705152 by decide, Nat.and_comm, nat_hi32_18']
  rw [wrap_i32_small _ (by omega) (by omega)]
  omega

end Go.Proofs.YtbkpgfccghombaaDoor

/-! Regular expressions: how a range of runes is cut into pieces that are sequences of ranges of bytes. Plain. Conditions: none. -/
namespace Go.Proofs.YtbkpgfccghombaaDoor.rx
set_option linter.unusedVariables false

/-- the next place where a range is cut, if any -/
def cutAt (a z : Int) : Option Int :=
  if a ≤ 127 ∧ 127 < z then some 127 else if a ≤ 2047 ∧ 2047 < z then some 2047 else if a ≤ 65535 ∧ 65535 < z then some 65535
  else if z ≤ 127 then none
  else if a / 64 ≠ z / 64 ∧ a % 64 ≠ 0 then some (a / 64 * 64 + 63) else if a / 64 ≠ z / 64 ∧ z % 64 ≠ 63 then some (z / 64 * 64 - 1)
  else if a / 4096 ≠ z / 4096 ∧ a % 4096 ≠ 0 then some (a / 4096 * 4096 + 4095) else if a / 4096 ≠ z / 4096 ∧ z % 4096 ≠ 4095 then some (z / 4096 * 4096 - 1)
  else if a / 262144 ≠ z / 262144 ∧ a % 262144 ≠ 0 then some (a / 262144 * 262144 + 262143) else if a / 262144 ≠ z / 262144 ∧ z % 262144 ≠ 262143 then some (z / 262144 * 262144 - 1)
  else none
theorem cutAt_some {a z m : Int} (h0 : 0 ≤ a) (h : a ≤ z) (hc : cutAt a z = some m) : a ≤ m ∧ m < z := by
  unfold cutAt at hc
  repeat' split at hc
  all_goals first | (cases hc; omega) | cases hc
/-- what is not cut -/
structure Whole (a z : Int) : Prop where
  h1 : ¬ (a ≤ 127 ∧ 127 < z)
  h2 : ¬ (a ≤ 2047 ∧ 2047 < z)
  h3 : ¬ (a ≤ 65535 ∧ 65535 < z)
  w1 : ¬ z ≤ 127 → whole 64 a z
  w2 : ¬ z ≤ 127 → whole 4096 a z
  w3 : ¬ z ≤ 127 → whole 262144 a z
theorem cutAt_none {a z : Int} (hc : cutAt a z = none) : Whole a z := by
  unfold cutAt at hc
  by_cases c1 : a ≤ 127 ∧ 127 < z
  · rw [if_pos c1] at hc; cases hc
  rw [if_neg c1] at hc
  by_cases c2 : a ≤ 2047 ∧ 2047 < z
  · rw [if_pos c2] at hc; cases hc
  rw [if_neg c2] at hc
  by_cases c3 : a ≤ 65535 ∧ 65535 < z
  · rw [if_pos c3] at hc; cases hc
  rw [if_neg c3] at hc
  by_cases c4 : z ≤ 127
  · exact ⟨c1, c2, c3, fun h => absurd c4 h, fun h => absurd c4 h, fun h => absurd c4 h⟩
  rw [if_neg c4] at hc
  repeat' split at hc
  all_goals first | (cases hc; done) | skip
  refine ⟨c1, c2, c3, fun _ => ?_, fun _ => ?_, fun _ => ?_⟩
  all_goals
    unfold whole
    omega

def pieces (a z : Int) : List (Int × Int) :=
  if h : z < a ∨ a < 0 then []
  else if h2 : a < 57344 ∧ 55295 < z then pieces a 55295 ++ pieces 57344 z
  else match hc : cutAt a z with
    | some m => pieces a m ++ pieces (m + 1) z
    | none => [(a, z)]
termination_by (z - a + 1).toNat
decreasing_by
  · omega
  · omega
  · have := cutAt_some (by omega) (by omega) hc; omega
  · have := cutAt_some (by omega) (by omega) hc; omega

theorem pieces_nil {a z : Int} (h : z < a ∨ a < 0) : pieces a z = [] := by
  rw [pieces, dif_pos h]
theorem pieces_split {a z : Int} (h0 : 0 ≤ a) (h : a ≤ z) (h2 : a < 57344 ∧ 55295 < z) : pieces a z = pieces a 55295 ++ pieces 57344 z := by
  rw [pieces, dif_neg (by omega), dif_pos h2]
theorem pieces_cut {a z m : Int} (h0 : 0 ≤ a) (h : a ≤ z) (h2 : ¬ (a < 57344 ∧ 55295 < z)) (hc : cutAt a z = some m) : pieces a z = pieces a m ++ pieces (m + 1) z := by
  rw [pieces, dif_neg (by omega), dif_neg h2]
  split
  · rename_i m' hm
    rw [hc] at hm
    cases hm
    rfl
  · rename_i hm
    rw [hc] at hm
    cases hm
theorem pieces_one {a z : Int} (h0 : 0 ≤ a) (h : a ≤ z) (h2 : ¬ (a < 57344 ∧ 55295 < z)) (hc : cutAt a z = none) : pieces a z = [(a, z)] := by
  rw [pieces, dif_neg (by omega), dif_neg h2]
  split
  · rename_i m' hm
    rw [hc] at hm
    cases hm
  · rfl

/-- a way through the cuts of a range -/
theorem pieces_ind {M : Int → Int → List (Int × Int) → Prop} (h1 : ∀ a z, (z < a ∨ a < 0) → M a z [])
    (h2 : ∀ a z, 0 ≤ a → a ≤ z → a < 57344 → 55295 < z → M a 55295 (pieces a 55295) → M 57344 z (pieces 57344 z) → M a z (pieces a 55295 ++ pieces 57344 z))
    (h3 : ∀ a z m, 0 ≤ a → a ≤ z → ¬ (a < 57344 ∧ 55295 < z) → cutAt a z = some m → a ≤ m → m < z → M a m (pieces a m) → M (m + 1) z (pieces (m + 1) z) → M a z (pieces a m ++ pieces (m + 1) z))
    (h4 : ∀ a z, 0 ≤ a → a ≤ z → ¬ (a < 57344 ∧ 55295 < z) → Whole a z → M a z [(a, z)]) : ∀ a z, M a z (pieces a z) := by
  have : ∀ (n : Nat) (a z : Int), (z - a + 1).toNat ≤ n → M a z (pieces a z) := by
    intro n
    induction n with
    | zero =>
      intro a z hn
      rw [pieces_nil (by omega)]
      exact h1 a z (by omega)
    | succ n ih =>
      intro a z hn
      by_cases c1 : z < a ∨ a < 0
      · rw [pieces_nil c1]
        exact h1 a z c1
      by_cases c2 : a < 57344 ∧ 55295 < z
      · rw [pieces_split (by omega) (by omega) c2]
        exact h2 a z (by omega) (by omega) c2.1 c2.2 (ih _ _ (by omega)) (ih _ _ (by omega))
      match hc : cutAt a z with
      | some m =>
        have hm := cutAt_some (by omega) (by omega) hc
        rw [pieces_cut (by omega) (by omega) c2 hc]
        exact h3 a z m (by omega) (by omega) c2 hc hm.1 hm.2 (ih _ _ (by omega)) (ih _ _ (by omega))
      | none =>
        rw [pieces_one (by omega) (by omega) c2 hc]
        exact h4 a z (by omega) (by omega) c2 (cutAt_none hc)
  exact fun a z => this _ a z (Nat.le_refl _)

/-- a piece -/
structure Pc (p : Int × Int) : Prop where
  h0 : 0 ≤ p.1
  le : p.1 ≤ p.2
  sur : ¬ (p.1 < 57344 ∧ 55295 < p.2)
  w : Whole p.1 p.2
theorem pieces_in (a z : Int) : ∀ p ∈ pieces a z, a ≤ p.1 ∧ p.2 ≤ z ∧ Pc p := by
  refine pieces_ind (M := fun a z l => ∀ p ∈ l, a ≤ p.1 ∧ p.2 ≤ z ∧ Pc p) ?_ ?_ ?_ ?_ a z
  · intro a z _ p hp; simp at hp
  · intro a z h0 h1 h2 h3 i1 i2 p hp
    rcases List.mem_append.1 hp with hp | hp
    · have := i1 p hp; exact ⟨this.1, by omega, this.2.2⟩
    · have := i2 p hp; exact ⟨by omega, this.2.1, this.2.2⟩
  · intro a z m h0 h1 h2 _ h3 h4 i1 i2 p hp
    rcases List.mem_append.1 hp with hp | hp
    · have := i1 p hp; exact ⟨this.1, by omega, this.2.2⟩
    · have := i2 p hp; exact ⟨by omega, this.2.1, this.2.2⟩
  · intro a z h0 h1 h2 h3 p hp
    simp at hp
    subst hp
    exact ⟨Int.le_refl _, Int.le_refl _, h0, h1, h2, h3⟩
/-- all letters of the range are in some piece -/
theorem pieces_all (a z : Int) : ∀ c, isL c = true → a ≤ c → c ≤ z → 0 ≤ a → ∃ p ∈ pieces a z, p.1 ≤ c ∧ c ≤ p.2 := by
  refine pieces_ind (M := fun a z l => ∀ c, isL c = true → a ≤ c → c ≤ z → 0 ≤ a → ∃ p ∈ l, p.1 ≤ c ∧ c ≤ p.2) ?_ ?_ ?_ ?_ a z
  · intro a z h c _ h1 h2 h3; omega
  · intro a z h0 h1 h2 h3 i1 i2 c hc g1 g2 _
    have hL := of_decide_eq_true hc
    rcases hL.2.2 with g3 | g3
    · obtain ⟨p, hp, q⟩ := i1 c hc g1 (by omega) h0
      exact ⟨p, List.mem_append_left _ hp, q⟩
    · obtain ⟨p, hp, q⟩ := i2 c hc (by omega) g2 (by omega)
      exact ⟨p, List.mem_append_right _ hp, q⟩
  · intro a z m h0 h1 h2 _ h3 h4 i1 i2 c hc g1 g2 _
    rcases Int.lt_or_le m c with g3 | g3
    · obtain ⟨p, hp, q⟩ := i2 c hc (by omega) g2 (by omega)
      exact ⟨p, List.mem_append_right _ hp, q⟩
    · obtain ⟨p, hp, q⟩ := i1 c hc g1 g3 h0
      exact ⟨p, List.mem_append_left _ hp, q⟩
  · intro a z h0 h1 h2 h3 c hc g1 g2 _
    exact ⟨(a, z), by simp, g1, g2⟩
/-- the pieces rise -/
theorem pieces_rise (a z : Int) : (pieces a z).Pairwise (fun p q => p.2 < q.1) := by
  have hap : ∀ {l1 l2 : List (Int × Int)} {m : Int}, l1.Pairwise (fun p q => p.2 < q.1) → l2.Pairwise (fun p q => p.2 < q.1) → (∀ p ∈ l1, p.2 ≤ m) → (∀ p ∈ l2, m < p.1) → (l1 ++ l2).Pairwise (fun p q => p.2 < q.1) := by
    intro l1 l2 m h1 h2 h3 h4
    rw [List.pairwise_append]
    exact ⟨h1, h2, fun p hp q hq => by have := h3 p hp; have := h4 q hq; omega⟩
  refine pieces_ind (M := fun a z l => l.Pairwise (fun p q => p.2 < q.1)) ?_ ?_ ?_ ?_ a z
  · intro a z _; exact List.Pairwise.nil
  · intro a z h0 h1 h2 h3 i1 i2
    exact hap (m := 55295) i1 i2 (fun p hp => (pieces_in _ _ p hp).2.1) (fun p hp => by have := (pieces_in _ _ p hp).1; omega)
  · intro a z m h0 h1 h2 _ h3 h4 i1 i2
    exact hap (m := m) i1 i2 (fun p hp => (pieces_in _ _ p hp).2.1) (fun p hp => by have := (pieces_in _ _ p hp).1; omega)
  · intro a z _ _ _ _; simp

/-- the ranges of bytes of a piece -/
def sq (p : Int × Int) : List (Int × Int) := if p.2 ≤ 127 then [p] else (ub p.1).zip (ub p.2)
theorem sq_cov (p : Int × Int) (h : Pc p) (hz : p.2 ≤ 1114111) (b : List Int) : covB (sq p) b = true ↔ InR p.1 p.2 b := by
  obtain ⟨a, z⟩ := p
  obtain ⟨h0, hl, hs, w1, w2, w3, w4, w5, w6⟩ := h
  simp only at *
  unfold sq
  simp only
  split
  · rename_i h; exact one_ascii a z b h0 hl h
  · rename_i h
    by_cases c1 : z ≤ 2047
    · exact one_two a z b (by omega) hl c1 (w4 h)
    · by_cases c2 : z ≤ 65535
      · exact one_three a z b (by omega) hl c2 (by omega) (w4 h) (w5 h)
      · exact one_four a z b (by omega) hl hz (w4 h) (w5 h) (w6 h)
theorem pieces_self {c : Int} (hc : isL c = true) : pieces c c = [(c, c)] := by
  have hL := of_decide_eq_true hc
  have hn : cutAt c c = none := by
    unfold cutAt
    rw [if_neg (by omega), if_neg (by omega), if_neg (by omega)]
    split
    · rfl
    · rw [if_neg (by omega), if_neg (by omega), if_neg (by omega), if_neg (by omega), if_neg (by omega), if_neg (by omega)]
  exact pieces_one hL.1 (Int.le_refl _) (by omega) hn
theorem zip_self : ∀ (l : List Int), l.zip l = l.map fun x => (x, x)
  | [] => rfl
  | x :: l => by simp [zip_self l]
theorem sq_self (c : Int) : sq (c, c) = (ub c).map fun x => (x, x) := by
  unfold sq
  simp only
  split
  · rename_i h
    rw [ub1 c h]
    rfl
  · exact zip_self _

end Go.Proofs.YtbkpgfccghombaaDoor.rx

/-! A frame: which blocks stand. Conditions: none. -/
namespace Go.Proofs.YtbkpgfccghombaaDoor
open Go.ChangeShapes Go.WideShapes Go.ChangeAt Go.RowKit
set_option linter.unusedVariables false

/-! a frame: the blocks that are not of O stand -/
structure Fr (O : Nat → Prop) (w w' : World) : Prop where
  os : w'.os = w.os
  tape : w'.tape = w.tape
  output : w'.output = w.output
  size : w.heap.size ≤ w'.heap.size
  block : ∀ k, k < w.heap.size → ¬ O k → w'.heap[k]? = w.heap[k]?
section
variable {O O' : Nat → Prop} {a w w' w2 : World}
theorem Fr.refl (O : Nat → Prop) (w : World) : Fr O w w := ⟨rfl, rfl, rfl, Nat.le_refl _, fun _ _ _ => rfl⟩
theorem Fr.trans (h : Fr O w w') (h2 : Fr O' w' w2) (hs : ∀ k, k < w.heap.size → O' k → O k) : Fr O w w2 :=
  ⟨h2.os.trans h.os, h2.tape.trans h.tape, h2.output.trans h.output, Nat.le_trans h.size h2.size, fun k hk hn => (h2.block k (Nat.lt_of_lt_of_le hk h.size) (fun e => hn (hs k hk e))).trans (h.block k hk hn)⟩
/-- further, where what is written next is of O, or new -/
theorem Fr.go (h : Fr O a w) (h2 : Fr O' w w') (hs : ∀ k, k < w.heap.size → O' k → O k ∨ a.heap.size ≤ k) : Fr O a w' :=
  h.trans h2 (fun k hk e => (hs k (Nat.lt_of_lt_of_le hk h.size) e).resolve_right (by omega))
theorem Fr.mono (h : Fr O w w') (hs : ∀ k, k < w.heap.size → O k → O' k) : Fr O' w w' := ⟨h.os, h.tape, h.output, h.size, fun k hk hn => h.block k hk (fun e => hn (hs k hk e))⟩
theorem Fr.none_of_below (h : Below w.heap.size w w') : Fr O w w' := ⟨h.os, h.tape, h.output, h.size, fun k hk _ => h.block k hk⟩
theorem Fr.of_below (h : Below w.heap.size w w') : Fr (fun _ => False) w w' := Fr.none_of_below h
theorem Fr.of_grown {row : Option Nat} (h : w.grownBy w' row) (hr : ∀ k, row = some k → O k) : Fr O w w' := ⟨h.os, h.tape, h.output, h.size, fun k hk hn => h.block k hk (fun e => hn (hr k e.symm))⟩
theorem Fr.set (h : Fr O a w) (p : Addr) (u : Value) (hp : O p.block) : Fr O a (w.setCell p u) :=
  ⟨h.os, h.tape, h.output, by simpa [World.setCell] using h.size, fun k hk hn => (Below.heap_setCell w p u k (by rintro rfl; exact hn hp)).trans (h.block k hk hn)⟩
theorem Fr.drew (h : Fr O a w) : Fr O a w.drew := ⟨h.os, h.tape, h.output, h.size, h.block⟩
theorem Fr.drewN (h : Fr O a w) (n : Nat) : Fr O a (w.drewN n) := ⟨h.os, h.tape, h.output, h.size, h.block⟩
theorem Fr.alloc (h : Fr O a w) (o : Obj) : Fr O a (w.alloc o) := ⟨h.os, h.tape, h.output, Nat.le_trans h.size (by simp), fun k hk hn => (Below.heap_alloc w o k (Nat.lt_of_lt_of_le hk h.size)).trans (h.block k hk hn)⟩
theorem Fr.below {B : Nat} (h : Fr O w w') (hB : ∀ k, k < B → ¬ O k) (hs : B ≤ w.heap.size) : Below B w w' := ⟨h.os, h.tape, h.output, h.size, fun k hk => h.block k (by omega) (hB k hk)⟩
theorem Fr.blk {g : Nat} {t : TypeId} {l : List Value} (h : Fr O w w') (hb : Blk w g t l) (hg : ¬ O g) : Blk w' g t l := (h.block g hb.lt hg).trans hb
theorem Fr.own {B : Nat} {e : TypeId} {size n : Nat} {v : Value} {xs : List Value} (h : Fr O w w') (o : w.ownsRow B e size v n xs) (hv : ∀ k, v.ownBlock = some k → ¬ O k) : w'.ownsRow B e size v n xs := by
  rcases o with ⟨h1, h2 | ⟨g, c, cur, rfl, h3, h4, h5⟩⟩
  · exact ⟨h1, .inl h2⟩
  · exact ⟨h1, .inr ⟨g, c, cur, rfl, h3, (h.block g (Array.getElem?_eq_some_iff.1 h4).1 (hv g rfl)).trans h4, h5⟩⟩
end

end Go.Proofs.YtbkpgfccghombaaDoor

/-! The sequences of ranges of bytes: the state of the loop, and what each of its steps keeps. Conditions: as stated. -/
namespace Go.Proofs.YtbkpgfccghombaaDoor
open Go.ChangeShapes Go.WideShapes Go.ChangeAt Go.RowKit
set_option linter.unusedVariables false

/-- a sequence: its block, its capacity, its ranges -/
abbrev Sq := Nat × Nat × List (Int × Int)
def seqv (x : Sq) : Value := .slice (some ⟨x.1, 0, none⟩) x.2.2.length x.2.1

section
variable {w w' : World} {B B2 : Nat} {e e2 t : TypeId} {k k2 n n2 g : Nat} {v v2 : Value} {xs ys l : List Value} {row : Option Nat}
theorem row_blk (h : w.ownsRow B e k v n xs) (hb : Blk w g t l) (hne : e ≠ t) : v.ownBlock ≠ some g := by
  intro hv
  rcases h.2 with ⟨rfl, -⟩ | ⟨g1, c1, r1, rfl, -, hh1, -⟩
  · simp [Value.ownBlock] at hv
  · simp [Value.ownBlock] at hv
    subst hv
    unfold Blk at hb
    rw [hh1] at hb
    injection hb with hb
    injection hb with _ ht
    exact hne ht
theorem rows_apart (h : w.ownsRow B e k v n xs) (h2 : w.ownsRow B2 e2 k2 v2 n2 ys) (hne : e ≠ e2) : Apart v v2 := by
  intro j hu hv
  rcases h2.2 with ⟨rfl, -⟩ | ⟨g2, c2, r2, rfl, -, hh2, -⟩
  · simp [Value.ownBlock] at hv
  rcases h.2 with ⟨rfl, -⟩ | ⟨g1, c1, r1, rfl, -, hh1, -⟩
  · simp [Value.ownBlock] at hu
  simp [Value.ownBlock] at hu hv
  subst hu
  subst hv
  rw [hh1] at hh2
  injection hh2 with hh2
  injection hh2 with _ ht
  exact hne ht
theorem below_grown (hg : w.grownBy w' row) (hB : B ≤ w.heap.size) (hr : ∀ k, row = some k → B ≤ k) : Below B w w' :=
  ⟨hg.os, hg.tape, hg.output, hg.size, fun k hk => hg.block k (by omega) (fun e => by have := hr k e.symm; omega)⟩
theorem Nils.below (h : Nils w) (hb : Below B w w') (hB : 10 ≤ B) : Nils w' :=
  ⟨(hb.cell (p := ⟨8, 0, none⟩) (by simp; omega)).trans h.s0, (hb.cell (p := ⟨8, 1, none⟩) (by simp; omega)).trans h.s1,
    (hb.cell (p := ⟨9, 0, none⟩) (by simp; omega)).trans h.r0, (hb.cell (p := ⟨9, 1, none⟩) (by simp; omega)).trans h.r1⟩
end

/-- four bytes of the call's own -/
def Four (w : World) (p : Nat) : Prop := ∃ x0 x1 x2 x3, Blk w p 5 [x0, x1, x2, x3]

/-- the loop's state: the range r, the two buffers, the sequences that are made, the stack -/
structure St (B : Nat) (O : Nat → Prop) (w0 w : World) (R p q : Nat) (a z : Int) (rv : Value) (L : List Sq) (sk : Value) (T : List (Int × Int)) : Prop where
  nils : Nils w
  hB : 10 ≤ B
  r : Blk w R 184 [.int .i32 a, .int .i32 z]
  fp : Four w p
  fq : Four w q
  orv : w.ownsRow B 159 1 rv L.length (L.map seqv)
  osk : w.ownsRow B 184 2 sk T.length (rngs T)
  sq : ∀ x ∈ L, Blk w x.1 192 (prvs x.2.2)
  pq : p ≠ q
  rs : sk.ownBlock ≠ some R
  hR : B ≤ R
  nR : w0.heap.size ≤ R
  fr : Fr O w0 w
  Op : O p
  Oq : O q
  Orv : ∀ k, rv.ownBlock = some k → O k ∨ w0.heap.size ≤ k
  Osk : ∀ k, sk.ownBlock = some k → O k ∨ w0.heap.size ≤ k
  hp : B ≤ p
  hq : B ≤ q
  bel : Below B w0 w
  hw : B ≤ w0.heap.size

section
variable {B : Nat} {O : Nat → Prop} {w0 w w' : World} {R p q : Nat} {a z a' z' : Int} {rv rv' sk sk' : Value} {L L' : List Sq} {T T' : List (Int × Int)}
theorem Four.grown {row : Option Nat} (h : Four w p) (hg : w.grownBy w' row) (hne : some p ≠ row) : Four w' p := by
  obtain ⟨x0, x1, x2, x3, h⟩ := h
  exact ⟨_, _, _, _, h.grown hg hne⟩
theorem Four.below (h : Four w p) (hb : Below w.heap.size w w') : Four w' p := by
  obtain ⟨x0, x1, x2, x3, h⟩ := h
  exact ⟨_, _, _, _, h.below hb h.lt⟩
theorem Four.of {xs : List Value} (h : Blk w p 5 xs) (hl : xs.length = 4) : Four w p := by
  match xs, hl with
  | [_, _, _, _], _ => exact ⟨_, _, _, _, h⟩
theorem Four.ne_row {e : TypeId} {k n : Nat} {v : Value} {xs : List Value} (h : Four w p) (ho : w.ownsRow B e k v n xs) (hne : e ≠ 5) : some p ≠ v.ownBlock := by
  obtain ⟨x0, x1, x2, x3, h⟩ := h
  exact fun e => row_blk ho h hne e.symm
theorem Four.ne_blk {g : Nat} {t : TypeId} {l : List Value} (h : Four w p) (hb : Blk w g t l) (hne : t ≠ 5) : g ≠ p := by
  obtain ⟨x0, x1, x2, x3, h⟩ := h
  exact hb.ne_ h hne

theorem St.size (h : St B O w0 w R p q a z rv L sk T) : B ≤ w.heap.size := by have := h.r.lt; have := h.hR; omega

theorem St.below (h : St B O w0 w R p q a z rv L sk T) (hb : Below w.heap.size w w') : St B O w0 w' R p q a z rv L sk T :=
  { nils := h.nils.below hb h.nils.lt, hB := h.hB, r := h.r.below hb h.r.lt, fp := h.fp.below hb, fq := h.fq.below hb, orv := own_below h.orv hb, osk := own_below h.osk hb,
    sq := fun x hx => (h.sq x hx).below hb (h.sq x hx).lt, pq := h.pq, rs := h.rs, hR := h.hR, hp := h.hp, hq := h.hq, bel := h.bel.trans (hb.mono h.size), hw := h.hw, nR := h.nR, fr := h.fr.go (Fr.of_below hb) (fun k hk e => e.elim), Op := h.Op, Oq := h.Oq, Orv := h.Orv, Osk := h.Osk }

theorem St.push (h : St B O w0 w R p q a z rv L sk T) (ho : w'.ownsRow B 184 2 sk' T'.length (rngs T')) (hg : w.grownBy w' sk.ownBlock) (hat : ∀ k, sk'.ownBlock = some k → sk.ownBlock = some k ∨ w.heap.size ≤ k) :
    St B O w0 w' R p q a z rv L sk' T' :=
  have hb : Below B w w' := below_grown hg h.size (own_block_ge h.osk)
  { nils := h.nils.below hb h.hB, hB := h.hB, r := h.r.grown hg (fun e => h.rs e.symm), fp := h.fp.grown hg (h.fp.ne_row h.osk (by decide)), fq := h.fq.grown hg (h.fq.ne_row h.osk (by decide)),
    orv := h.orv.kept hg (rows_apart h.orv h.osk (by decide)).kept, osk := ho, sq := fun x hx => (h.sq x hx).grown hg (fun e => row_blk h.osk (h.sq x hx) (by decide) e.symm), pq := h.pq,
    rs := fun e => by
      rcases hat R e with h1 | h1
      · exact h.rs h1
      · have := h.r.lt
        omega
    hR := h.hR, hp := h.hp, hq := h.hq, bel := h.bel.trans hb, hw := h.hw, nR := h.nR, fr := h.fr.go (Fr.of_grown hg (fun k e => e)) (fun k hk e => h.Osk k e), Op := h.Op, Oq := h.Oq, Orv := h.Orv,
    Osk := fun k e => by
      rcases hat k e with h1 | h1
      · exact h.Osk k h1
      · exact .inr (Nat.le_trans h.fr.size h1) }

theorem St.pop (h : St B O w0 w R p q a z rv L sk T) (ho : w.ownsRow B 184 2 sk' T'.length (rngs T')) (he : sk'.ownBlock = sk.ownBlock) : St B O w0 w R p q a z rv L sk' T' :=
  { h with osk := ho, rs := he ▸ h.rs, Osk := he ▸ h.Osk }

theorem St.setR (h : St B O w0 w R p q a z rv L sk T) (hg : w.grownBy w' (some R)) (hr : Blk w' R 184 [.int .i32 a', .int .i32 z']) : St B O w0 w' R p q a' z' rv L sk T :=
  have hb : Below B w w' := below_grown hg h.size (fun k e => by injection e with e; have := h.hR; omega)
  { nils := h.nils.below hb h.hB, hB := h.hB, r := hr, fp := h.fp.grown hg (fun e => h.fp.ne_blk h.r (by decide) (by injection e with e; exact e.symm)), fq := h.fq.grown hg (fun e => h.fq.ne_blk h.r (by decide) (by injection e with e; exact e.symm)),
    orv := h.orv.kept hg (.inr (row_blk h.orv h.r (by decide))), osk := h.osk.kept hg (.inr h.rs), sq := fun x hx => (h.sq x hx).grown hg (fun e => (h.sq x hx).ne_ h.r (by decide) (by injection e)), pq := h.pq, rs := h.rs,
    hR := h.hR, hp := h.hp, hq := h.hq, bel := h.bel.trans hb, hw := h.hw, nR := h.nR, fr := h.fr.go (Fr.of_grown hg (fun k e => e)) (fun k hk e => .inr (by injection e with e; rw [← e]; exact h.nR)), Op := h.Op, Oq := h.Oq, Orv := h.Orv, Osk := h.Osk }
theorem St.set0 (h : St B O w0 w R p q a z rv L sk T) (a' : Int) : St B O w0 (w.setCell ⟨R, 0, none⟩ (.int .i32 a')) R p q a' z rv L sk T := h.setR (only_set (World.grownBy.refl w _) _ _) (h.r.set_ 0 _)
theorem St.set1 (h : St B O w0 w R p q a z rv L sk T) (z' : Int) : St B O w0 (w.setCell ⟨R, 1, none⟩ (.int .i32 z')) R p q a z' rv L sk T := h.setR (only_set (World.grownBy.refl w _) _ _) (h.r.set_ 1 _)

theorem St.app (h : St B O w0 w R p q a z rv L sk T) {x : Sq} (hx : Blk w x.1 192 (prvs x.2.2)) (ho : w'.ownsRow B 159 1 rv' (L.length + 1) (L.map seqv ++ [seqv x])) (hg : w.grownBy w' rv.ownBlock) (hat : ∀ k, rv'.ownBlock = some k → rv.ownBlock = some k ∨ w.heap.size ≤ k) :
    St B O w0 w' R p q a z rv' (L ++ [x]) sk T :=
  have hb : Below B w w' := below_grown hg h.size (own_block_ge h.orv)
  { nils := h.nils.below hb h.hB, hB := h.hB, r := h.r.grown hg (fun e => row_blk h.orv h.r (by decide) e.symm), fp := h.fp.grown hg (h.fp.ne_row h.orv (by decide)), fq := h.fq.grown hg (h.fq.ne_row h.orv (by decide)),
    orv := by simpa using ho, osk := h.osk.kept hg (rows_apart h.osk h.orv (by decide)).kept,
    sq := fun y hy => by
      rcases List.mem_append.1 hy with hy | hy
      · exact (h.sq y hy).grown hg (fun e => row_blk h.orv (h.sq y hy) (by decide) e.symm)
      · simp at hy
        subst hy
        exact hx.grown hg (fun e => row_blk h.orv hx (by decide) e.symm)
    pq := h.pq, rs := h.rs, hR := h.hR, hp := h.hp, hq := h.hq, bel := h.bel.trans hb, hw := h.hw, nR := h.nR, fr := h.fr.go (Fr.of_grown hg (fun k e => e)) (fun k hk e => h.Orv k e), Op := h.Op, Oq := h.Oq, Osk := h.Osk,
    Orv := fun k e => by
      rcases hat k e with h1 | h1
      · exact h.Orv k h1
      · exact .inr (Nat.le_trans h.fr.size h1) }

theorem St.fill {g : Nat} (h : St B O w0 w R p q a z rv L sk T) (hg : w.grownBy w' (some g)) (hh : g = p ∨ g = q) (hf : Four w' g) : St B O w0 w' R p q a z rv L sk T := by
  have hG : Four w g := by rcases hh with rfl | rfl; exact h.fp; exact h.fq
  have hBg : B ≤ g := by rcases hh with rfl | rfl; exact h.hp; exact h.hq
  have hb : Below B w w' := below_grown hg h.size (fun k e => by injection e with e; omega)
  have hpp : Four w' p := by
    by_cases e : p = g
    · exact e ▸ hf
    · exact h.fp.grown hg (fun e2 => e (by injection e2))
  have hqq : Four w' q := by
    by_cases e : q = g
    · exact e ▸ hf
    · exact h.fq.grown hg (fun e2 => e (by injection e2))
  have hr := h.r.grown hg (fun e => hG.ne_blk h.r (by decide) (Option.some.inj e))
  have hsq : ∀ x ∈ L, Blk w' x.1 192 (prvs x.2.2) := fun x hx => (h.sq x hx).grown hg (fun e => hG.ne_blk (h.sq x hx) (by decide) (Option.some.inj e))
  have hrv := h.orv.kept hg (.inr (fun e => hG.ne_row h.orv (by decide) e.symm))
  have hsk := h.osk.kept hg (.inr (fun e => hG.ne_row h.osk (by decide) e.symm))
  exact { nils := h.nils.below hb h.hB, hB := h.hB, r := hr, fp := hpp, fq := hqq, orv := hrv, osk := hsk, sq := hsq, pq := h.pq, rs := h.rs, hR := h.hR, hp := h.hp, hq := h.hq, bel := h.bel.trans hb, hw := h.hw, nR := h.nR, fr := h.fr.go (Fr.of_grown hg (fun k e => e)) (fun k hk e => .inl (by injection e with e; rw [← e]; rcases hh with rfl | rfl; exact h.Op; exact h.Oq)), Op := h.Op, Oq := h.Oq, Orv := h.Orv, Osk := h.Osk }
end

/-! ### what is covered -/

def nilR : Int × Int := (65535, 0)
def okR (r : Int × Int) : Prop := 0 ≤ r.1 ∧ r.1 ≤ 1114111 ∧ 0 ≤ r.2 ∧ r.2 ≤ 1114111 ∧ r ≠ nilR ∧ (r.1 ≤ r.2 ∨ 57344 ≤ r.1 ∨ r.2 ≤ 55295)
def sqs (l : List (Int × Int)) : List (List (Int × Int)) := l.map rx.sq
def pcT (T : List (Int × Int)) : List (List (Int × Int)) := T.reverse.flatMap fun r => sqs (rx.pieces r.1 r.2)
theorem pcT_snoc (T : List (Int × Int)) (r : Int × Int) : pcT (T ++ [r]) = sqs (rx.pieces r.1 r.2) ++ pcT T := by simp [pcT]
theorem wgtAll_snoc (T : List (Int × Int)) (r : Int × Int) : wgtAll (T ++ [r]) = wgtAll T + wgt r := by simp [wgtAll]
theorem okR.two {r : Int × Int} (h : okR r) : 2 ≤ wgt r := by
  have hn : ¬ r = (65535, 0) := h.2.2.2.2.1
  unfold wgt
  rw [if_neg hn]
  split <;> omega
theorem len_wgt : ∀ (T : List (Int × Int)), (∀ r ∈ T, okR r) → T.length ≤ wgtAll T
  | [], _ => by simp [wgtAll]
  | r :: T, h => by
    have h1 := len_wgt T (fun x hx => h x (by simp [hx]))
    have h2 := (h r (by simp)).two
    simp only [wgtAll, List.map_cons, List.sum_cons, List.length_cons] at h1 ⊢
    omega

/-- what the sequences and the ranges are cut to together; X: what the range at hand is cut to, m: its weight -/
structure Cv (fr to : Int) (L : List (List (Int × Int))) (T : List (Int × Int)) (X : List (List (Int × Int))) (m : Nat) : Prop where
  all : L ++ (X ++ pcT T) = sqs (rx.pieces fr to)
  ok : ∀ r ∈ T, okR r
  len : ∀ l ∈ L, 1 ≤ l.length ∧ l.length ≤ 4
  wt : L.length + m + wgtAll T ≤ 8912895
/-- .. with a range at hand -/
structure Inv (fr to : Int) (L : List (List (Int × Int))) (T : List (Int × Int)) (r : Int × Int) : Prop where
  cv : Cv fr to L T (sqs (rx.pieces r.1 r.2)) (wgt r)
  cur : (r = nilR ∧ T = []) ∨ okR r
/-- .. without one: the next one is taken from the stack -/
abbrev InvP (fr to : Int) (L : List (List (Int × Int))) (T : List (Int × Int)) : Prop := Cv fr to L T [] 0
def mu (r : Int × Int) (T : List (Int × Int)) : Nat := wgt r + wgtAll T

section
variable {fr to a z : Int} {L : List (List (Int × Int))} {T : List (Int × Int)} {r : Int × Int} {X : List (List (Int × Int))} {m : Nat}
theorem Cv.tlen (h : Cv fr to L T X m) : T.length ≤ 8912895 := by
  have := len_wgt T h.ok
  have := h.wt
  omega
theorem Cv.llen (h : Cv fr to L T X m) : L.length ≤ 8912895 := by
  have := h.wt
  omega
theorem inv_start (h0 : 0 ≤ fr) (h1 : fr ≤ to) (h2 : to ≤ 1114111) : Inv fr to [] [] (fr, to) := by
  refine ⟨⟨by simp [pcT], fun r hr => by simp at hr, fun l hl => by simp at hl, ?_⟩, .inr ⟨h0, by omega, by omega, h2, ?_, .inl h1⟩⟩
  · simp only [wgtAll, wgt, List.map_nil, List.sum_nil, List.length_nil]
    split
    · omega
    · split <;> omega
  · intro e
    unfold nilR at e
    injection e
    omega
theorem Inv.ok (h : Inv fr to L T r) (hne : r ≠ nilR) : okR r := h.cur.resolve_left (fun e => hne e.1)
theorem inv_cut (h : Inv fr to L T (a, z)) (hne : (a, z) ≠ nilR) (k : Int) (h1 : a ≤ k) (h2 : k < z) (hc : rx.pieces a z = rx.pieces a k ++ rx.pieces (k + 1) z) : Inv fr to L (T ++ [(k + 1, z)]) (a, k) ∧ mu (a, k) (T ++ [(k + 1, z)]) < mu (a, z) T := by
  obtain ⟨o0, o1, o2, o3, o4, o5⟩ := h.ok hne
  simp only at o0 o1 o2 o3 o5
  have hw := wgt_cut a k z h1 h2
  refine ⟨⟨⟨?_, fun r hr => ?_, h.cv.len, ?_⟩, .inr ⟨o0, o1, by simp; omega, by simp; omega, fun e => ?_, .inl h1⟩⟩, ?_⟩
  · have := h.cv.all
    simp only [hc] at this
    rw [pcT_snoc]
    simpa [sqs] using this
  · rcases List.mem_append.1 hr with hr | hr
    · exact h.cv.ok r hr
    · simp at hr
      subst hr
      refine ⟨by simp; omega, by simp; omega, o2, o3, fun e => ?_, .inl (by simp; omega)⟩
      unfold nilR at e
      injection e
      omega
  · have := h.cv.wt
    rw [wgtAll_snoc]
    omega
  · unfold nilR at e
    injection e
    omega
  · unfold mu
    rw [wgtAll_snoc]
    omega
theorem inv_split (h : Inv fr to L T (a, z)) (hne : (a, z) ≠ nilR) (h1 : a < 57344) (h2 : 55295 < z) : Inv fr to L (T ++ [(57344, z)]) (a, 55295) ∧ mu (a, 55295) (T ++ [(57344, z)]) < mu (a, z) T := by
  obtain ⟨o0, o1, o2, o3, o4, o5⟩ := h.ok hne
  simp only at o0 o1 o2 o3 o5
  have hw := wgt_split a z (by omega) h1 h2
  refine ⟨⟨⟨?_, fun r hr => ?_, h.cv.len, ?_⟩, .inr ⟨o0, o1, by simp, by simp, fun e => ?_, .inr (.inr (by simp))⟩⟩, ?_⟩
  · have := h.cv.all
    simp only [rx.pieces_split o0 (show a ≤ z by omega) ⟨h1, h2⟩] at this
    rw [pcT_snoc]
    simpa [sqs] using this
  · rcases List.mem_append.1 hr with hr | hr
    · exact h.cv.ok r hr
    · simp at hr
      subst hr
      refine ⟨by simp, by simp, o2, o3, fun e => ?_, .inr (.inl (by simp))⟩
      unfold nilR at e
      injection e
      omega
  · have := h.cv.wt
    rw [wgtAll_snoc]
    omega
  · unfold nilR at e
    injection e
    omega
  · unfold mu
    rw [wgtAll_snoc]
    omega
theorem inv_drop (h : Inv fr to L T (a, z)) (hza : z < a) : InvP fr to L T := by
  refine ⟨?_, h.cv.ok, h.cv.len, ?_⟩
  · have := h.cv.all
    simp only [rx.pieces_nil (.inl hza)] at this
    simpa [sqs] using this
  · have := h.cv.wt
    omega
theorem inv_add (h : Inv fr to L T (a, z)) (hne : (a, z) ≠ nilR) (l : List (Int × Int)) (hl : 1 ≤ l.length ∧ l.length ≤ 4) (hc : rx.pieces a z = [(a, z)]) (hs : rx.sq (a, z) = l) : InvP fr to (L ++ [l]) T := by
  have hw := (h.ok hne).two
  refine ⟨?_, h.cv.ok, fun x hx => ?_, ?_⟩
  · have h1 := h.cv.all
    simp only [hc] at h1
    subst hs
    simpa [sqs] using h1
  · rcases List.mem_append.1 hx with hx | hx
    · exact h.cv.len x hx
    · simp at hx
      subst hx
      exact hl
  · have := h.cv.wt
    simp only [List.length_append, List.length_cons, List.length_nil]
    omega
theorem inv_pop (h : InvP fr to L (T ++ [r])) : Inv fr to L T r ∧ mu r T = wgtAll (T ++ [r]) := by
  refine ⟨⟨⟨?_, fun x hx => h.ok x (by simp [hx]), h.len, ?_⟩, .inr (h.ok r (by simp))⟩, ?_⟩
  · have := h.all
    rw [pcT_snoc] at this
    simpa using this
  · have := h.wt
    rw [wgtAll_snoc] at this
    omega
  · rw [wgtAll_snoc]
    unfold mu
    omega
theorem inv_pop0 (h : InvP fr to L []) : Inv fr to L [] nilR ∧ mu nilR [] = 0 := by
  have hw : wgt nilR = 0 := by unfold wgt nilR; simp
  refine ⟨⟨⟨?_, h.ok, h.len, ?_⟩, .inl ⟨rfl, rfl⟩⟩, ?_⟩
  · have := h.all
    rw [rx.pieces_nil (.inl (by unfold nilR; simp))]
    exact this
  · have := h.wt
    omega
  · unfold mu
    rw [hw]
    rfl
theorem inv_end (h : Inv fr to L T nilR) : L = sqs (rx.pieces fr to) := by
  rcases h.cur with ⟨_, rfl⟩ | h1
  · have := h.cv.all
    rw [rx.pieces_nil (.inl (by unfold nilR; simp))] at this
    simpa [pcT, sqs] using this
  · exact absurd rfl h1.2.2.2.2.1
theorem mu_pop (h : Inv fr to L T (a, z)) (hne : (a, z) ≠ nilR) : wgtAll T < mu (a, z) T := by
  have := (h.ok hne).two
  unfold mu
  omega
end

end Go.Proofs.YtbkpgfccghombaaDoor

/-! The sequences of ranges of bytes: one round of the inner loop of NewSequencesPrealloc: the range that is split, the range that is empty. Conditions: as stated. -/
namespace Go.Proofs.YtbkpgfccghombaaDoor
open Go.ChangeShapes Go.WideShapes Go.ChangeAt Go.RowKit
set_option linter.unusedVariables false

def firstLoop : Code → Option Code
  | .loop c => some c
  | .seq a b => match firstLoop a with
    | some c => some c
    | none => firstLoop b
  | .block _ c => firstLoop c
  | .scope c => firstLoop c
  | .cond _ a b => match firstLoop a with
    | some c => some c
    | none => firstLoop b
  | _ => none
noncomputable def innerBody : Code := (((Tryd.f67.body.bind firstLoop).bind firstLoop).getD .skip)

/-- what the stack's top is, and what the loop goes on with -/
theorem pop_steps {B : Nat} {O : Nat → Prop} {w0 wo : World} {R p q : Nat} {a z fr up : Int} {rv sk : Value} {L : List Sq} {T : List (Int × Int)} (h : St B O w0 wo R p q a z rv L sk T) (hc : InvP fr up (L.map (·.2.2)) T) :
    ∃ (a2 z2 : Int) (T2 : List (Int × Int)), Hid (Inv fr up (L.map (·.2.2)) T2 (a2, z2)) ∧ Hid (mu (a2, z2) T2 = wgtAll T) ∧
      Hid (∀ W, St B O w0 W R p q a z rv L sk T → Calls Tryd.prog 86 #[sk] W fun e w' => ∃ sk2, e = .returned (.tuple #[sk2, .agg #[.int .i32 a2, .int .i32 z2]]) ∧ St B O w0 w' R p q a z rv L sk2 T2) := by
  rcases List.eq_nil_or_concat T with rfl | ⟨T', ⟨a2, z2⟩, rfl⟩
  · obtain ⟨h1, h2⟩ := inv_pop0 hc
    refine ⟨65535, 0, [], Lib.hid h1, Lib.hid h2, Lib.hid fun W hW => (pop_none sk B W hW.nils hW.osk).mono ?_⟩
    rintro e w' ⟨rfl, hb⟩
    exact ⟨sk, rfl, hW.below hb⟩
  · rw [List.concat_eq_append] at *
    obtain ⟨h1, h2⟩ := inv_pop hc
    have hl := hc.tlen
    refine ⟨a2, z2, T', Lib.hid h1, Lib.hid h2, Lib.hid fun W hW => (pop_some sk T' a2 z2 B W (by simp at hl; omega) hW.osk).mono ?_⟩
    rintro e w' ⟨v', rfl, he, ho, hb⟩
    exact ⟨v', rfl, (hW.pop ho he).below hb⟩

set_option maxRecDepth 1000000 in
set_option maxHeartbeats 6400000 in
theorem round_split (c0 c1 c2 c3 c4 c5 c6 c7 c8 c9 c10 c11 c31 c32 c33 c34 c35 c36 c37 c38 c39 c40 c41 c42 c43 c44 c45 c46 c47 c48 c49 c50 c51 c52 c53 c54 c55 c56 c57 c58 c59 c60 c61 c218 c219 u12 u13 u14 u20 u21 u22 u23 u24 u25 u26 u27 u28 u29 u30 u62 u63 u64 u65 u66 u67 u68 u69 u70 u71 u72 u73 u74 u75 u76 u77 u78 u79 u80 u81 u82 u83 u84 u85 u86 u87 u88 u89 u90 u91 u92 u93 u94 u95 u96 u97 u98 u99 u100 u101 u102 u103 u104 u105 u106 u107 u108 u109 u110 u111 u112 u113 u114 u115 u116 u117 u118 u119 u120 u121 u122 u123 u124 u125 u126 u127 u128 u129 u130 u131 u132 u133 u134 u135 u136 u137 u138 u139 u140 u141 u142 u143 u144 u145 u146 u147 u148 u149 u150 u151 u152 u153 u154 u155 u156 u157 u158 u159 u160 u161 u162 u163 u164 u165 u166 u167 u168 u169 u170 u171 u172 u173 u174 u175 u176 u177 u178 u179 u180 u181 u182 u183 u184 u185 u186 u187 u188 u189 u190 u191 u192 u193 u194 u195 u196 u197 u198 u199 u200 u201 u202 u203 u204 u205 u206 u207 u208 u209 u210 u211 u212 u213 u214 u215 u216 u217 s15 s18 : Value) (B : Nat) (O : Nat → Prop) (w wo : World) (R p q : Nat) (fr up a z : Int) (L : List Sq) (T : List (Int × Int)) (Q : Exit → Act → World → Prop)
    (H : Hid (St B O w wo R p q a z s15 L s18 T ∧ Inv fr up (L.map (·.2.2)) T (a, z) ∧ (a, z) ≠ nilR))(sp1 : a < 57344) (sp2 : 55295 < z)
    (hI : Hid (∀ (d12 d13 d14 d20 d21 d22 d23 d24 d25 d26 d27 d28 d29 d30 d62 d63 d64 d65 d66 d67 d68 d69 d70 d71 d72 d73 d74 d75 d76 d77 d78 d79 d80 d81 d82 d83 d84 d85 d86 d87 d88 d89 d90 d91 d92 d93 d94 d95 d96 d97 d98 d99 d100 d101 d102 d103 d104 d105 d106 d107 d108 d109 d110 d111 d112 d113 d114 d115 d116 d117 d118 d119 d120 d121 d122 d123 d124 d125 d126 d127 d128 d129 d130 d131 d132 d133 d134 d135 d136 d137 d138 d139 d140 d141 d142 d143 d144 d145 d146 d147 d148 d149 d150 d151 d152 d153 d154 d155 d156 d157 d158 d159 d160 d161 d162 d163 d164 d165 d166 d167 d168 d169 d170 d171 d172 d173 d174 d175 d176 d177 d178 d179 d180 d181 d182 d183 d184 d185 d186 d187 d188 d189 d190 d191 d192 d193 d194 d195 d196 d197 d198 d199 d200 d201 d202 d203 d204 d205 d206 d207 d208 d209 d210 d211 d212 d213 d214 d215 d216 d217 t15 t18 : Value) (w2 : World) (a2 z2 : Int) (L2 : List Sq) (T2 : List (Int × Int)), St B O w w2 R p q a2 z2 t15 L2 t18 T2 → Inv fr up (L2.map (·.2.2)) T2 (a2, z2) → (a2, z2) ≠ nilR → mu (a2, z2) T2 < mu (a, z) T → Q .normal ⟨#[c0, c1, c2, c3, c4, c5, c6, c7, c8, c9, c10, c11, d12, d13, d14, t15, .slice (some ⟨p, 0, none⟩) 4 4, .slice (some ⟨q, 0, none⟩) 4 4, t18, .pointer (some ⟨R, 0, none⟩), d20, d21, d22, d23, d24, d25, d26, d27, d28, d29, d30, c31, c32, c33, c34, c35, c36, c37, c38, c39, c40, c41, c42, c43, c44, c45, c46, c47, c48, c49, c50, c51, c52, c53, c54, c55, c56, c57, c58, c59, c60, c61, d62, d63, d64, d65, d66, d67, d68, d69, d70, d71, d72, d73, d74, d75, d76, d77, d78, d79, d80, d81, d82, d83, d84, d85, d86, d87, d88, d89, d90, d91, d92, d93, d94, d95, d96, d97, d98, d99, d100, d101, d102, d103, d104, d105, d106, d107, d108, d109, d110, d111, d112, d113, d114, d115, d116, d117, d118, d119, d120, d121, d122, d123, d124, d125, d126, d127, d128, d129, d130, d131, d132, d133, d134, d135, d136, d137, d138, d139, d140, d141, d142, d143, d144, d145, d146, d147, d148, d149, d150, d151, d152, d153, d154, d155, d156, d157, d158, d159, d160, d161, d162, d163, d164, d165, d166, d167, d168, d169, d170, d171, d172, d173, d174, d175, d176, d177, d178, d179, d180, d181, d182, d183, d184, d185, d186, d187, d188, d189, d190, d191, d192, d193, d194, d195, d196, d197, d198, d199, d200, d201, d202, d203, d204, d205, d206, d207, d208, d209, d210, d211, d212, d213, d214, d215, d216, d217, c218, c219], []⟩ w2))
    (hT : Hid (∀ (d12 d13 d14 d20 d21 d22 d23 d24 d25 d26 d27 d28 d29 d30 d62 d63 d64 d65 d66 d67 d68 d69 d70 d71 d72 d73 d74 d75 d76 d77 d78 d79 d80 d81 d82 d83 d84 d85 d86 d87 d88 d89 d90 d91 d92 d93 d94 d95 d96 d97 d98 d99 d100 d101 d102 d103 d104 d105 d106 d107 d108 d109 d110 d111 d112 d113 d114 d115 d116 d117 d118 d119 d120 d121 d122 d123 d124 d125 d126 d127 d128 d129 d130 d131 d132 d133 d134 d135 d136 d137 d138 d139 d140 d141 d142 d143 d144 d145 d146 d147 d148 d149 d150 d151 d152 d153 d154 d155 d156 d157 d158 d159 d160 d161 d162 d163 d164 d165 d166 d167 d168 d169 d170 d171 d172 d173 d174 d175 d176 d177 d178 d179 d180 d181 d182 d183 d184 d185 d186 d187 d188 d189 d190 d191 d192 d193 d194 d195 d196 d197 d198 d199 d200 d201 d202 d203 d204 d205 d206 d207 d208 d209 d210 d211 d212 d213 d214 d215 d216 d217 t15 t18 : Value) (w2 : World) (a2 z2 : Int) (L2 : List Sq) (T2 : List (Int × Int)), St B O w w2 R p q a2 z2 t15 L2 t18 T2 → Inv fr up (L2.map (·.2.2)) T2 (a2, z2) → mu (a2, z2) T2 < mu (a, z) T → Q (.exit 1) ⟨#[c0, c1, c2, c3, c4, c5, c6, c7, c8, c9, c10, c11, d12, d13, d14, t15, .slice (some ⟨p, 0, none⟩) 4 4, .slice (some ⟨q, 0, none⟩) 4 4, t18, .pointer (some ⟨R, 0, none⟩), d20, d21, d22, d23, d24, d25, d26, d27, d28, d29, d30, c31, c32, c33, c34, c35, c36, c37, c38, c39, c40, c41, c42, c43, c44, c45, c46, c47, c48, c49, c50, c51, c52, c53, c54, c55, c56, c57, c58, c59, c60, c61, d62, d63, d64, d65, d66, d67, d68, d69, d70, d71, d72, d73, d74, d75, d76, d77, d78, d79, d80, d81, d82, d83, d84, d85, d86, d87, d88, d89, d90, d91, d92, d93, d94, d95, d96, d97, d98, d99, d100, d101, d102, d103, d104, d105, d106, d107, d108, d109, d110, d111, d112, d113, d114, d115, d116, d117, d118, d119, d120, d121, d122, d123, d124, d125, d126, d127, d128, d129, d130, d131, d132, d133, d134, d135, d136, d137, d138, d139, d140, d141, d142, d143, d144, d145, d146, d147, d148, d149, d150, d151, d152, d153, d154, d155, d156, d157, d158, d159, d160, d161, d162, d163, d164, d165, d166, d167, d168, d169, d170, d171, d172, d173, d174, d175, d176, d177, d178, d179, d180, d181, d182, d183, d184, d185, d186, d187, d188, d189, d190, d191, d192, d193, d194, d195, d196, d197, d198, d199, d200, d201, d202, d203, d204, d205, d206, d207, d208, d209, d210, d211, d212, d213, d214, d215, d216, d217, c218, c219], []⟩ w2)) :
    Code.wp Tryd.prog innerBody Q ⟨#[c0, c1, c2, c3, c4, c5, c6, c7, c8, c9, c10, c11, u12, u13, u14, s15, .slice (some ⟨p, 0, none⟩) 4 4, .slice (some ⟨q, 0, none⟩) 4 4, s18, .pointer (some ⟨R, 0, none⟩), u20, u21, u22, u23, u24, u25, u26, u27, u28, u29, u30, c31, c32, c33, c34, c35, c36, c37, c38, c39, c40, c41, c42, c43, c44, c45, c46, c47, c48, c49, c50, c51, c52, c53, c54, c55, c56, c57, c58, c59, c60, c61, u62, u63, u64, u65, u66, u67, u68, u69, u70, u71, u72, u73, u74, u75, u76, u77, u78, u79, u80, u81, u82, u83, u84, u85, u86, u87, u88, u89, u90, u91, u92, u93, u94, u95, u96, u97, u98, u99, u100, u101, u102, u103, u104, u105, u106, u107, u108, u109, u110, u111, u112, u113, u114, u115, u116, u117, u118, u119, u120, u121, u122, u123, u124, u125, u126, u127, u128, u129, u130, u131, u132, u133, u134, u135, u136, u137, u138, u139, u140, u141, u142, u143, u144, u145, u146, u147, u148, u149, u150, u151, u152, u153, u154, u155, u156, u157, u158, u159, u160, u161, u162, u163, u164, u165, u166, u167, u168, u169, u170, u171, u172, u173, u174, u175, u176, u177, u178, u179, u180, u181, u182, u183, u184, u185, u186, u187, u188, u189, u190, u191, u192, u193, u194, u195, u196, u197, u198, u199, u200, u201, u202, u203, u204, u205, u206, u207, u208, u209, u210, u211, u212, u213, u214, u215, u216, u217, c218, c219], []⟩ wo := by
  have HK := Lib.hid (H.out.2.1.ok H.out.2.2)
  have r0 := H.out.1.r.cell 0
  have r1 := H.out.1.r.cell 1
  simp only [List.getElem?_cons_zero, List.getElem?_cons_succ] at r0 r1

  have CS := Lib.hid (split_yes R a z wo r0 r1 sp1 sp2)
  clear r0 r1
  conv => arg 2; whnf
  go_wp2_with fail
  refine CS.out.mono ?_
  rintro e w3 ⟨rfl, hb3⟩
  have H3 := Lib.hid (H.out.1.below hb3)
  have n0 := al2 H3.out.nils.s0
  have n1 := al2 H3.out.nils.s1
  have C := Lib.hid (fun (W : World) (hb : Below w3.heap.size w3 W) => push_any s18 T 57344 z B W ((H3.out.below hb).size) (by have := H.out.2.1.cv.tlen; omega) (H3.out.below hb).osk)
  clear CS hb3
  go_wp2_with fail
  have hb5 : Below w3.heap.size w3 ((w3.alloc (.cells #[.int .i32 a, .int .i32 55295] 184)).alloc (.cells #[.int .i32 57344, .int .i32 z] 184)) := ((Below.refl w3.heap.size w3).alloc (Nat.le_refl _) _).alloc (by simp) _
  refine (C.out _ hb5).mono ?_
  rintro e w4 ⟨v4, rfl, ho4, hg4, hat4⟩
  have H4 := Lib.hid ((H3.out.below hb5).push ho4 hg4 hat4)
  have hb5s : w3.heap.size ≠ R := by have := H3.out.r.lt; omega
  have hB4 : Blk w4 w3.heap.size 184 [.int .i32 a, .int .i32 55295] := (show Blk _ _ _ _ from ((Blk.new w3 184 [.int .i32 a, .int .i32 55295]).alloc _)).grown hg4 (fun e => by have := (World.ownsRow.lt H3.out.osk _ e.symm).2; omega)
  have c0 := hB4.cell 0
  have c1 := hB4.cell 1
  have r0 := H4.out.r.cell 0
  have r1 := H4.out.r.cell 1
  have f0 := H4.out.r.frozen 0
  have f1 := H4.out.r.frozen 1
  simp only [List.getElem?_cons_zero, List.getElem?_cons_succ] at c0 c1 r0 r1
  clear ho4 hg4 hat4 hB4 n0 n1 C hb5
  go_wp2
  have HF := inv_split H.out.2.1 H.out.2.2 sp1 sp2
  exact hI.out _ _ _ _ _ _ _ _ _ _ _ _ _ _ _ _ _ _ _ _ _ _ _ _ _ _ _ _ _ _ _ _ _ _ _ _ _ _ _ _ _ _ _ _ _ _ _ _ _ _ _ _ _ _ _ _ _ _ _ _ _ _ _ _ _ _ _ _ _ _ _ _ _ _ _ _ _ _ _ _ _ _ _ _ _ _ _ _ _ _ _ _ _ _ _ _ _ _ _ _ _ _ _ _ _ _ _ _ _ _ _ _ _ _ _ _ _ _ _ _ _ _ _ _ _ _ _ _ _ _ _ _ _ _ _ _ _ _ _ _ _ _ _ _ _ _ _ _ _ _ _ _ _ _ _ _ _ _ _ _ _ _ _ _ _ _ _ _ _ _ _ _ _ _ _ _ _ ((H4.out.set0 a).set1 55295) HF.1 (fun e => by unfold nilR at e; injection e; omega) HF.2

set_option maxRecDepth 1000000 in
set_option maxHeartbeats 6400000 in
theorem round_empty (c0 c1 c2 c3 c4 c5 c6 c7 c8 c9 c10 c11 c31 c32 c33 c34 c35 c36 c37 c38 c39 c40 c41 c42 c43 c44 c45 c46 c47 c48 c49 c50 c51 c52 c53 c54 c55 c56 c57 c58 c59 c60 c61 c218 c219 u12 u13 u14 u20 u21 u22 u23 u24 u25 u26 u27 u28 u29 u30 u62 u63 u64 u65 u66 u67 u68 u69 u70 u71 u72 u73 u74 u75 u76 u77 u78 u79 u80 u81 u82 u83 u84 u85 u86 u87 u88 u89 u90 u91 u92 u93 u94 u95 u96 u97 u98 u99 u100 u101 u102 u103 u104 u105 u106 u107 u108 u109 u110 u111 u112 u113 u114 u115 u116 u117 u118 u119 u120 u121 u122 u123 u124 u125 u126 u127 u128 u129 u130 u131 u132 u133 u134 u135 u136 u137 u138 u139 u140 u141 u142 u143 u144 u145 u146 u147 u148 u149 u150 u151 u152 u153 u154 u155 u156 u157 u158 u159 u160 u161 u162 u163 u164 u165 u166 u167 u168 u169 u170 u171 u172 u173 u174 u175 u176 u177 u178 u179 u180 u181 u182 u183 u184 u185 u186 u187 u188 u189 u190 u191 u192 u193 u194 u195 u196 u197 u198 u199 u200 u201 u202 u203 u204 u205 u206 u207 u208 u209 u210 u211 u212 u213 u214 u215 u216 u217 s15 s18 : Value) (B : Nat) (O : Nat → Prop) (w wo : World) (R p q : Nat) (fr up a z : Int) (L : List Sq) (T : List (Int × Int)) (Q : Exit → Act → World → Prop)
    (H : Hid (St B O w wo R p q a z s15 L s18 T ∧ Inv fr up (L.map (·.2.2)) T (a, z) ∧ (a, z) ≠ nilR))(sp : 57344 ≤ a ∨ z ≤ 55295) (hza : z < a)
    (hI : Hid (∀ (d12 d13 d14 d20 d21 d22 d23 d24 d25 d26 d27 d28 d29 d30 d62 d63 d64 d65 d66 d67 d68 d69 d70 d71 d72 d73 d74 d75 d76 d77 d78 d79 d80 d81 d82 d83 d84 d85 d86 d87 d88 d89 d90 d91 d92 d93 d94 d95 d96 d97 d98 d99 d100 d101 d102 d103 d104 d105 d106 d107 d108 d109 d110 d111 d112 d113 d114 d115 d116 d117 d118 d119 d120 d121 d122 d123 d124 d125 d126 d127 d128 d129 d130 d131 d132 d133 d134 d135 d136 d137 d138 d139 d140 d141 d142 d143 d144 d145 d146 d147 d148 d149 d150 d151 d152 d153 d154 d155 d156 d157 d158 d159 d160 d161 d162 d163 d164 d165 d166 d167 d168 d169 d170 d171 d172 d173 d174 d175 d176 d177 d178 d179 d180 d181 d182 d183 d184 d185 d186 d187 d188 d189 d190 d191 d192 d193 d194 d195 d196 d197 d198 d199 d200 d201 d202 d203 d204 d205 d206 d207 d208 d209 d210 d211 d212 d213 d214 d215 d216 d217 t15 t18 : Value) (w2 : World) (a2 z2 : Int) (L2 : List Sq) (T2 : List (Int × Int)), St B O w w2 R p q a2 z2 t15 L2 t18 T2 → Inv fr up (L2.map (·.2.2)) T2 (a2, z2) → (a2, z2) ≠ nilR → mu (a2, z2) T2 < mu (a, z) T → Q .normal ⟨#[c0, c1, c2, c3, c4, c5, c6, c7, c8, c9, c10, c11, d12, d13, d14, t15, .slice (some ⟨p, 0, none⟩) 4 4, .slice (some ⟨q, 0, none⟩) 4 4, t18, .pointer (some ⟨R, 0, none⟩), d20, d21, d22, d23, d24, d25, d26, d27, d28, d29, d30, c31, c32, c33, c34, c35, c36, c37, c38, c39, c40, c41, c42, c43, c44, c45, c46, c47, c48, c49, c50, c51, c52, c53, c54, c55, c56, c57, c58, c59, c60, c61, d62, d63, d64, d65, d66, d67, d68, d69, d70, d71, d72, d73, d74, d75, d76, d77, d78, d79, d80, d81, d82, d83, d84, d85, d86, d87, d88, d89, d90, d91, d92, d93, d94, d95, d96, d97, d98, d99, d100, d101, d102, d103, d104, d105, d106, d107, d108, d109, d110, d111, d112, d113, d114, d115, d116, d117, d118, d119, d120, d121, d122, d123, d124, d125, d126, d127, d128, d129, d130, d131, d132, d133, d134, d135, d136, d137, d138, d139, d140, d141, d142, d143, d144, d145, d146, d147, d148, d149, d150, d151, d152, d153, d154, d155, d156, d157, d158, d159, d160, d161, d162, d163, d164, d165, d166, d167, d168, d169, d170, d171, d172, d173, d174, d175, d176, d177, d178, d179, d180, d181, d182, d183, d184, d185, d186, d187, d188, d189, d190, d191, d192, d193, d194, d195, d196, d197, d198, d199, d200, d201, d202, d203, d204, d205, d206, d207, d208, d209, d210, d211, d212, d213, d214, d215, d216, d217, c218, c219], []⟩ w2))
    (hT : Hid (∀ (d12 d13 d14 d20 d21 d22 d23 d24 d25 d26 d27 d28 d29 d30 d62 d63 d64 d65 d66 d67 d68 d69 d70 d71 d72 d73 d74 d75 d76 d77 d78 d79 d80 d81 d82 d83 d84 d85 d86 d87 d88 d89 d90 d91 d92 d93 d94 d95 d96 d97 d98 d99 d100 d101 d102 d103 d104 d105 d106 d107 d108 d109 d110 d111 d112 d113 d114 d115 d116 d117 d118 d119 d120 d121 d122 d123 d124 d125 d126 d127 d128 d129 d130 d131 d132 d133 d134 d135 d136 d137 d138 d139 d140 d141 d142 d143 d144 d145 d146 d147 d148 d149 d150 d151 d152 d153 d154 d155 d156 d157 d158 d159 d160 d161 d162 d163 d164 d165 d166 d167 d168 d169 d170 d171 d172 d173 d174 d175 d176 d177 d178 d179 d180 d181 d182 d183 d184 d185 d186 d187 d188 d189 d190 d191 d192 d193 d194 d195 d196 d197 d198 d199 d200 d201 d202 d203 d204 d205 d206 d207 d208 d209 d210 d211 d212 d213 d214 d215 d216 d217 t15 t18 : Value) (w2 : World) (a2 z2 : Int) (L2 : List Sq) (T2 : List (Int × Int)), St B O w w2 R p q a2 z2 t15 L2 t18 T2 → Inv fr up (L2.map (·.2.2)) T2 (a2, z2) → mu (a2, z2) T2 < mu (a, z) T → Q (.exit 1) ⟨#[c0, c1, c2, c3, c4, c5, c6, c7, c8, c9, c10, c11, d12, d13, d14, t15, .slice (some ⟨p, 0, none⟩) 4 4, .slice (some ⟨q, 0, none⟩) 4 4, t18, .pointer (some ⟨R, 0, none⟩), d20, d21, d22, d23, d24, d25, d26, d27, d28, d29, d30, c31, c32, c33, c34, c35, c36, c37, c38, c39, c40, c41, c42, c43, c44, c45, c46, c47, c48, c49, c50, c51, c52, c53, c54, c55, c56, c57, c58, c59, c60, c61, d62, d63, d64, d65, d66, d67, d68, d69, d70, d71, d72, d73, d74, d75, d76, d77, d78, d79, d80, d81, d82, d83, d84, d85, d86, d87, d88, d89, d90, d91, d92, d93, d94, d95, d96, d97, d98, d99, d100, d101, d102, d103, d104, d105, d106, d107, d108, d109, d110, d111, d112, d113, d114, d115, d116, d117, d118, d119, d120, d121, d122, d123, d124, d125, d126, d127, d128, d129, d130, d131, d132, d133, d134, d135, d136, d137, d138, d139, d140, d141, d142, d143, d144, d145, d146, d147, d148, d149, d150, d151, d152, d153, d154, d155, d156, d157, d158, d159, d160, d161, d162, d163, d164, d165, d166, d167, d168, d169, d170, d171, d172, d173, d174, d175, d176, d177, d178, d179, d180, d181, d182, d183, d184, d185, d186, d187, d188, d189, d190, d191, d192, d193, d194, d195, d196, d197, d198, d199, d200, d201, d202, d203, d204, d205, d206, d207, d208, d209, d210, d211, d212, d213, d214, d215, d216, d217, c218, c219], []⟩ w2)) :
    Code.wp Tryd.prog innerBody Q ⟨#[c0, c1, c2, c3, c4, c5, c6, c7, c8, c9, c10, c11, u12, u13, u14, s15, .slice (some ⟨p, 0, none⟩) 4 4, .slice (some ⟨q, 0, none⟩) 4 4, s18, .pointer (some ⟨R, 0, none⟩), u20, u21, u22, u23, u24, u25, u26, u27, u28, u29, u30, c31, c32, c33, c34, c35, c36, c37, c38, c39, c40, c41, c42, c43, c44, c45, c46, c47, c48, c49, c50, c51, c52, c53, c54, c55, c56, c57, c58, c59, c60, c61, u62, u63, u64, u65, u66, u67, u68, u69, u70, u71, u72, u73, u74, u75, u76, u77, u78, u79, u80, u81, u82, u83, u84, u85, u86, u87, u88, u89, u90, u91, u92, u93, u94, u95, u96, u97, u98, u99, u100, u101, u102, u103, u104, u105, u106, u107, u108, u109, u110, u111, u112, u113, u114, u115, u116, u117, u118, u119, u120, u121, u122, u123, u124, u125, u126, u127, u128, u129, u130, u131, u132, u133, u134, u135, u136, u137, u138, u139, u140, u141, u142, u143, u144, u145, u146, u147, u148, u149, u150, u151, u152, u153, u154, u155, u156, u157, u158, u159, u160, u161, u162, u163, u164, u165, u166, u167, u168, u169, u170, u171, u172, u173, u174, u175, u176, u177, u178, u179, u180, u181, u182, u183, u184, u185, u186, u187, u188, u189, u190, u191, u192, u193, u194, u195, u196, u197, u198, u199, u200, u201, u202, u203, u204, u205, u206, u207, u208, u209, u210, u211, u212, u213, u214, u215, u216, u217, c218, c219], []⟩ wo := by
  have HK := Lib.hid (H.out.2.1.ok H.out.2.2)
  have r0 := H.out.1.r.cell 0
  have r1 := H.out.1.r.cell 1
  simp only [List.getElem?_cons_zero, List.getElem?_cons_succ] at r0 r1

  obtain ⟨a2, z2, T2, hi2, hmu2, hpop2⟩ := pop_steps H.out.1 (inv_drop H.out.2.1 hza)
  have CS := Lib.hid (split_no R a z wo H.out.1.nils r0 r1 sp)
  have CV := Lib.hid (fun (W : World) (h : St B O w W R p q a z s15 L s18 T) => valid_any R a z W (by simpa using h.r.cell 0) (by simpa using h.r.cell 1))
  have hd : decide (a ≤ z) = false := decide_eq_false (by omega)
  clear r0 r1 sp hza
  conv => arg 2; whnf
  go_wp2_with fail
  refine CS.out.mono ?_
  rintro e w3 ⟨rfl, hb3⟩
  have H3 := Lib.hid (H.out.1.below hb3)
  have n0 := al2 H3.out.nils.s0
  have n1 := al2 H3.out.nils.s1
  clear CS hb3
  go_wp2_with fail
  have hb5 : Below w3.heap.size w3 ((w3.alloc (.cells #[.int .i32 65535, .int .i32 0] 184)).alloc (.cells #[.int .i32 65535, .int .i32 0] 184)) := ((Below.refl w3.heap.size w3).alloc (Nat.le_refl _) _).alloc (by simp) _
  have H4 := Lib.hid (H3.out.below hb5)
  clear hb5 n0 n1
  refine (CV.out _ H4.out).mono ?_
  rintro e w5 ⟨rfl, m, rfl⟩
  have H5 := Lib.hid (H4.out.below (below_drewN (Below.refl _ _) m))
  clear CV H4
  go_wp2_with fail
  refine (hpop2.out _ H5.out).mono ?_
  rintro e w6 ⟨v6, rfl, h6⟩
  have H6 := Lib.hid h6
  have r0 := H6.out.r.cell 0
  have r1 := H6.out.r.cell 1
  have f0 := H6.out.r.frozen 0
  have f1 := H6.out.r.frozen 1
  simp only [List.getElem?_cons_zero, List.getElem?_cons_succ] at r0 r1
  clear h6 H5 hpop2 hd
  go_wp2
  exact hT.out _ _ _ _ _ _ _ _ _ _ _ _ _ _ _ _ _ _ _ _ _ _ _ _ _ _ _ _ _ _ _ _ _ _ _ _ _ _ _ _ _ _ _ _ _ _ _ _ _ _ _ _ _ _ _ _ _ _ _ _ _ _ _ _ _ _ _ _ _ _ _ _ _ _ _ _ _ _ _ _ _ _ _ _ _ _ _ _ _ _ _ _ _ _ _ _ _ _ _ _ _ _ _ _ _ _ _ _ _ _ _ _ _ _ _ _ _ _ _ _ _ _ _ _ _ _ _ _ _ _ _ _ _ _ _ _ _ _ _ _ _ _ _ _ _ _ _ _ _ _ _ _ _ _ _ _ _ _ _ _ _ _ _ _ _ _ _ _ _ _ _ _ _ _ _ _ _ ((H6.out.set0 a2).set1 z2) hi2.out (by rw [hmu2.out]; exact mu_pop H.out.2.1 H.out.2.2)

end Go.Proofs.YtbkpgfccghombaaDoor
