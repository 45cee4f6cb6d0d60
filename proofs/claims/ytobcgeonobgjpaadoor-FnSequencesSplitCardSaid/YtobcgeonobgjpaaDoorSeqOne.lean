/-
  The sequences of ranges of bytes: a range that is not cut any more is one sequence. Conditions: none.
-/
import Derived.Test.YtobcgeonobgjpaaDoorSeqCov
namespace Go.Proofs.YtobcgeonobgjpaaDoor
set_option linter.unusedVariables false

/-- bytes within ranges, none more and none less -/
def covB : List (Int × Int) → List Int → Bool
  | [], [] => true
  | p :: l, x :: b => decide (p.1 ≤ x ∧ x ≤ p.2) && covB l b
  | _, _ => false

theorem covB_len : ∀ (l : List (Int × Int)) (b : List Int), covB l b = true → b.length = l.length
  | [], [], _ => rfl
  | _ :: l, _ :: b, h => by
    simp only [covB, Bool.and_eq_true] at h
    simp [covB_len l b h.2]
  | [], _ :: _, h => by simp [covB] at h
  | _ :: _, [], h => by simp [covB] at h

theorem isL_of {r : Int} (h0 : 0 ≤ r) (h1 : r ≤ 1114111) (h : r < 55296 ∨ 57343 < r) : isL r = true := decide_eq_true ⟨h0, h1, h⟩

theorem ub1 (r : Int) (h : r ≤ 127) : ub r = [r] := by unfold ub; rw [if_pos h]
theorem ub2 (r : Int) (h : ¬ r ≤ 127) (h2 : r ≤ 2047) : ub r = [192 + r / 64, 128 + r % 64] := by unfold ub; rw [if_neg h, if_pos h2]
theorem ub3 (r : Int) (h : ¬ r ≤ 2047) (h2 : r ≤ 65535) : ub r = [224 + r / 4096, 128 + r / 64 % 64, 128 + r % 64] := by unfold ub; rw [if_neg (by omega), if_neg h, if_pos h2]
theorem ub4 (r : Int) (h : ¬ r ≤ 65535) : ub r = [240 + r / 262144, 128 + r / 4096 % 64, 128 + r / 64 % 64, 128 + r % 64] := by unfold ub; rw [if_neg (by omega), if_neg (by omega), if_neg h]

theorem one_ascii (a z : Int) (b : List Int) (h0 : 0 ≤ a) (h : a ≤ z) (hz : z ≤ 127) : covB [(a, z)] b = true ↔ InR a z b := by
  constructor
  · intro hc
    match b, hc, covB_len _ _ hc with
    | [x], hc, _ =>
      simp [covB] at hc
      exact ⟨x, isL_of (by omega) (by omega) (by omega), hc.1, hc.2, by rw [ub1 x (by omega)]⟩
  · rintro ⟨r, -, h1, h2, rfl⟩
    rw [ub1 r (by omega)]
    simp [covB]
    omega

theorem one_two (a z : Int) (b : List Int) (h0 : ¬ a ≤ 127) (h : a ≤ z) (hz : z ≤ 2047) (c1 : whole 64 a z) : covB ((ub a).zip (ub z)) b = true ↔ InR a z b := by
  rw [ub2 a h0 (by omega), ub2 z (by omega) hz]
  constructor
  · intro hc
    match b, hc, covB_len _ _ hc with
    | [x, y], hc, _ =>
      simp [covB] at hc
      obtain ⟨r, h1, h2, rfl, rfl⟩ := (two_bytes a z x y (by omega) h c1).1 (by omega)
      exact ⟨r, isL_of (by omega) (by omega) (by omega), h1, h2, by rw [ub2 r (by omega) (by omega)]⟩
  · rintro ⟨r, -, h1, h2, rfl⟩
    rw [ub2 r (by omega) (by omega)]
    have := (two_bytes a z _ _ (by omega) h c1).2 ⟨r, h1, h2, rfl, rfl⟩
    simp [covB]
    omega

theorem one_three (a z : Int) (b : List Int) (h0 : ¬ a ≤ 2047) (h : a ≤ z) (hz : z ≤ 65535) (hs : z < 55296 ∨ 57343 < a) (c1 : whole 64 a z) (c2 : whole 4096 a z) : covB ((ub a).zip (ub z)) b = true ↔ InR a z b := by
  rw [ub3 a h0 (by omega), ub3 z (by omega) hz]
  constructor
  · intro hc
    match b, hc, covB_len _ _ hc with
    | [x, y, u], hc, _ =>
      simp [covB] at hc
      obtain ⟨r, h1, h2, rfl, rfl, rfl⟩ := (three_bytes a z x y u (by omega) h c1 c2).1 ⟨hc.1.1, hc.1.2, hc.2.1.1, hc.2.1.2, hc.2.2.1, hc.2.2.2⟩
      exact ⟨r, isL_of (by omega) (by omega) (by omega), h1, h2, by rw [ub3 r (by omega) (by omega)]⟩
  · rintro ⟨r, -, h1, h2, rfl⟩
    rw [ub3 r (by omega) (by omega)]
    obtain ⟨q1, q2, q3, q4, q5, q6⟩ := (three_bytes a z _ _ _ (by omega) h c1 c2).2 ⟨r, h1, h2, rfl, rfl, rfl⟩
    simp only [List.zip_cons_cons, List.zip_nil_right, covB, Bool.and_eq_true, decide_eq_true_eq]
    exact ⟨⟨q1, q2⟩, ⟨q3, q4⟩, ⟨q5, q6⟩, trivial⟩

theorem one_four (a z : Int) (b : List Int) (h0 : ¬ a ≤ 65535) (h : a ≤ z) (hz : z ≤ 1114111) (c1 : whole 64 a z) (c2 : whole 4096 a z) (c3 : whole 262144 a z) : covB ((ub a).zip (ub z)) b = true ↔ InR a z b := by
  rw [ub4 a h0, ub4 z (by omega)]
  constructor
  · intro hc
    match b, hc, covB_len _ _ hc with
    | [x, y, u, v], hc, _ =>
      simp [covB] at hc
      obtain ⟨r, h1, h2, rfl, rfl, rfl, rfl⟩ := (four_bytes a z x y u v (by omega) h c1 c2 c3).1 ⟨hc.1.1, hc.1.2, hc.2.1.1, hc.2.1.2, hc.2.2.1.1, hc.2.2.1.2, hc.2.2.2.1, hc.2.2.2.2⟩
      exact ⟨r, isL_of (by omega) (by omega) (by omega), h1, h2, by rw [ub4 r (by omega)]⟩
  · rintro ⟨r, -, h1, h2, rfl⟩
    rw [ub4 r (by omega)]
    obtain ⟨q1, q2, q3, q4, q5, q6, q7, q8⟩ := (four_bytes a z _ _ _ _ (by omega) h c1 c2 c3).2 ⟨r, h1, h2, rfl, rfl, rfl, rfl⟩
    simp only [List.zip_cons_cons, List.zip_nil_right, covB, Bool.and_eq_true, decide_eq_true_eq]
    exact ⟨⟨q1, q2⟩, ⟨q3, q4⟩, ⟨q5, q6⟩, ⟨q7, q8⟩, trivial⟩

end Go.Proofs.YtobcgeonobgjpaaDoor
