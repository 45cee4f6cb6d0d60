/-
  The sequences of ranges of bytes: whether bytes are a letter of a range; ranges cut in two. Conditions: none.
-/
import Derived.Test.YtobcgeonobgjpaaDoorSeqPlain
import Derived.Test.YtobcgeonobgjpaaDoorUtf8
namespace Go.Proofs.YtobcgeonobgjpaaDoor
set_option linter.unusedVariables false

theorem ub_inj (r s : Int) (h0 : 0 ≤ r) (h1 : 0 ≤ s) (h : ub r = ub s) : r = s := by
  unfold ub at h
  split at h
  · split at h
    · simpa using h
    · split at h
      · simp at h
      · split at h <;> simp at h
  · split at h
    · split at h
      · simp at h
      · split at h
        · simp at h; omega
        · split at h <;> simp at h
    · split at h
      · split at h
        · simp at h
        · split at h
          · simp at h
          · split at h
            · simp at h; omega
            · simp at h
      · split at h
        · simp at h
        · split at h
          · simp at h
          · split at h
            · simp at h
            · simp at h; omega

/-- the bytes are a letter from a to z -/
def InR (a z : Int) (b : List Int) : Prop := ∃ r, isL r = true ∧ a ≤ r ∧ r ≤ z ∧ b = ub r
open Classical in
/-- 1 if so, else 0 -/
noncomputable def cov (a z : Int) (b : List Int) : Nat := if InR a z b then 1 else 0

theorem letter_nonneg {r : Int} (h : isL r = true) : 0 ≤ r := by
  unfold isL at h
  exact (of_decide_eq_true h).1

theorem cov_empty (a z : Int) (b : List Int) (h : z < a) : cov a z b = 0 := by
  unfold cov
  rw [if_neg]
  rintro ⟨r, -, h1, h2, -⟩
  omega

theorem cov_cut (a m z : Int) (b : List Int) (h1 : a ≤ m + 1) (h2 : m ≤ z) : cov a z b = cov a m b + cov (m + 1) z b := by
  unfold cov
  by_cases p : InR a m b
  · by_cases q : InR (m + 1) z b
    · obtain ⟨r, hr, r1, r2, r3⟩ := p
      obtain ⟨s, hs, s1, s2, s3⟩ := q
      have := ub_inj r s (letter_nonneg hr) (letter_nonneg hs) (r3.symm.trans s3)
      omega
    · rw [if_pos p, if_neg q, if_pos]
      obtain ⟨r, hr, r1, r2, r3⟩ := p
      exact ⟨r, hr, r1, by omega, r3⟩
  · by_cases q : InR (m + 1) z b
    · rw [if_neg p, if_pos q, if_pos]
      obtain ⟨r, hr, r1, r2, r3⟩ := q
      exact ⟨r, hr, by omega, r2, r3⟩
    · rw [if_neg p, if_neg q, if_neg]
      rintro ⟨r, hr, r1, r2, r3⟩
      rcases Int.lt_or_le m r with hm | hm
      · exact q ⟨r, hr, by omega, r2, r3⟩
      · exact p ⟨r, hr, r1, hm, r3⟩

/-- what lies between the surrogates' ends is no letter -/
theorem cov_split (a z : Int) (b : List Int) (h1 : a < 57344) (h2 : 55295 < z) : cov a z b = cov a 55295 b + cov 57344 z b := by
  unfold cov
  by_cases p : InR a 55295 b
  · by_cases q : InR 57344 z b
    · obtain ⟨r, hr, r1, r2, r3⟩ := p
      obtain ⟨s, hs, s1, s2, s3⟩ := q
      have := ub_inj r s (letter_nonneg hr) (letter_nonneg hs) (r3.symm.trans s3)
      omega
    · rw [if_pos p, if_neg q, if_pos]
      obtain ⟨r, hr, r1, r2, r3⟩ := p
      exact ⟨r, hr, r1, by omega, r3⟩
  · by_cases q : InR 57344 z b
    · rw [if_neg p, if_pos q, if_pos]
      obtain ⟨r, hr, r1, r2, r3⟩ := q
      exact ⟨r, hr, by omega, r2, r3⟩
    · rw [if_neg p, if_neg q, if_neg]
      rintro ⟨r, hr, r1, r2, r3⟩
      have hl := of_decide_eq_true (show decide (0 ≤ r ∧ r ≤ 1114111 ∧ (r < 55296 ∨ 57343 < r)) = true from hr)
      rcases hl.2.2 with h | h
      · exact p ⟨r, hr, r1, by omega, r3⟩
      · exact q ⟨r, hr, by omega, r2, r3⟩

end Go.Proofs.YtobcgeonobgjpaaDoor
