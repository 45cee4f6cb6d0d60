/-
  The sequences of ranges of bytes: what spec.Letter says of bytes, in plain Lean. Conditions: none.
-/
import Derived.Test.YtobcgeonobgjpaaDoorSeqLet
import Derived.Test.YtobcgeonobgjpaaDoorSeqWB
namespace Go.Proofs.YtobcgeonobgjpaaDoor
set_option linter.unusedVariables false

/-- the number that the first i bytes make -/
def numI (b : List Int) : Nat → Int
  | 0 => 0
  | 1 => (wideF (b.getD 0 0)).2
  | i + 2 => 64 * numI b (i + 1) + b.getD (i + 1) 0 - 128
def tails (b : List Int) (n : Nat) : Prop := ∀ j, 1 ≤ j → j < n → 128 ≤ b.getD j 0 ∧ b.getD j 0 ≤ 191
/-- what is said: the letter r of k bytes -/
def LetP (b : List Int) (r k : Int) : Prop := ∀ lo hi : Int, (0 < k ∧ k = b.length ∧ lo ≤ r ∧ r ≤ hi) ↔ InR lo hi b

theorem wide_bd (c : Int) (h : 0 ≤ c ∧ c ≤ 255) : 0 ≤ (wideF c).1 ∧ (wideF c).1 ≤ 4 ∧ 0 ≤ (wideF c).2 ∧ (wideF c).2 ≤ 127 := by
  unfold wideF
  split
  · simp only; omega
  · split
    · simp only; omega
    · split
      · simp only; omega
      · split
        · simp only; omega
        · simp
theorem numI_succ (b : List Int) (i : Nat) (h : 1 ≤ i) : numI b (i + 1) = 64 * numI b i + b.getD i 0 - 128 := by
  obtain ⟨j, rfl⟩ : ∃ j, i = j + 1 := ⟨i - 1, by omega⟩
  rfl
theorem numI_bd (b : List Int) (hc : 0 ≤ b.getD 0 0 ∧ b.getD 0 0 ≤ 255) (i : Nat) (h1 : 1 ≤ i) (h4 : i ≤ 4) (ht : tails b i) : 0 ≤ numI b i ∧ numI b i ≤ 33554431 := by
  have hw := wide_bd _ hc
  have hi : i = 1 ∨ i = 2 ∨ i = 3 ∨ i = 4 := by omega
  have e1 : numI b 1 = (wideF (b.getD 0 0)).2 := rfl
  have e2 : numI b 2 = 64 * numI b 1 + b.getD 1 0 - 128 := rfl
  have e3 : numI b 3 = 64 * numI b 2 + b.getD 2 0 - 128 := rfl
  have e4 : numI b 4 = 64 * numI b 3 + b.getD 3 0 - 128 := rfl
  rcases hi with rfl | rfl | rfl | rfl
  · omega
  · have t1 := ht 1 (by omega) (by omega)
    omega
  · have t1 := ht 1 (by omega) (by omega)
    have t2 := ht 2 (by omega) (by omega)
    omega
  · have t1 := ht 1 (by omega) (by omega)
    have t2 := ht 2 (by omega) (by omega)
    have t3 := ht 3 (by omega) (by omega)
    omega

theorem wide_one (c : Int) (h : c ≤ 127) : wideF c = (1, c) := by unfold wideF; rw [if_pos h]
theorem wide_two (c : Int) (h : 194 ≤ c ∧ c ≤ 223) : wideF c = (2, c - 192) := by unfold wideF; rw [if_neg (by omega), if_pos h]
theorem wide_three (c : Int) (h : 224 ≤ c ∧ c ≤ 239) : wideF c = (3, c - 224) := by unfold wideF; rw [if_neg (by omega), if_neg (by omega), if_pos h]
theorem wide_four (c : Int) (h : 240 ≤ c ∧ c ≤ 244) : wideF c = (4, c - 240) := by unfold wideF; rw [if_neg (by omega), if_neg (by omega), if_neg (by omega), if_pos h]

/-- a letter's bytes -/
theorem let_ub (s : Int) (hs : isL s = true) : (wideF ((ub s).getD 0 0)).1 = (ub s).length ∧ tails (ub s) (ub s).length ∧ numI (ub s) (ub s).length = s ∧ 1 ≤ (ub s).length := by
  obtain ⟨h0, h1, h2⟩ := of_decide_eq_true hs
  by_cases a1 : s ≤ 127
  · rw [ub1 s a1]
    refine ⟨?_, fun j h1 h2 => by simp at h2; omega, ?_, by simp⟩
    · simp [wide_one s a1]
    · simp [numI, wide_one s a1]
  · by_cases a2 : s ≤ 2047
    · rw [ub2 s a1 a2]
      have hw := wide_two (192 + s / 64) (by omega)
      refine ⟨?_, fun j h1 h2 => ?_, ?_, by simp⟩
      · simp [hw]
      · simp at h2
        obtain rfl : j = 1 := by omega
        simp
        omega
      · simp [numI, hw]
        omega
    · by_cases a3 : s ≤ 65535
      · rw [ub3 s a2 a3]
        have hw := wide_three (224 + s / 4096) (by omega)
        refine ⟨?_, fun j h1 h2 => ?_, ?_, by simp⟩
        · simp [hw]
        · simp at h2
          have hj : j = 1 ∨ j = 2 := by omega
          rcases hj with rfl | rfl
          · simp
            omega
          · simp
            omega
        · simp [numI, hw]
          omega
      · rw [ub4 s a3]
        have hw := wide_four (240 + s / 262144) (by omega)
        refine ⟨?_, fun j h1 h2 => ?_, ?_, by simp⟩
        · simp [hw]
        · simp at h2
          have hj : j = 1 ∨ j = 2 ∨ j = 3 := by omega
          rcases hj with rfl | rfl | rfl
          · simp
            omega
          · simp
            omega
          · simp
            omega
        · simp [numI, hw]
          omega

theorem wide_is (c : Int) (h : 0 ≤ c ∧ c ≤ 255) : (wideF c = (1, c) ∧ c ≤ 127) ∨ (wideF c = (2, c - 192) ∧ 194 ≤ c ∧ c ≤ 223) ∨ (wideF c = (3, c - 224) ∧ 224 ≤ c ∧ c ≤ 239) ∨ (wideF c = (4, c - 240) ∧ 240 ≤ c ∧ c ≤ 244) ∨ (wideF c).1 = 0 := by
  by_cases h1 : c ≤ 127
  · exact .inl ⟨wide_one c h1, h1⟩
  · by_cases h2 : 194 ≤ c ∧ c ≤ 223
    · exact .inr (.inl ⟨wide_two c h2, h2⟩)
    · by_cases h3 : 224 ≤ c ∧ c ≤ 239
      · exact .inr (.inr (.inl ⟨wide_three c h3, h3⟩))
      · by_cases h4 : 240 ≤ c ∧ c ≤ 244
        · exact .inr (.inr (.inr (.inl ⟨wide_four c h4, h4⟩)))
        · refine .inr (.inr (.inr (.inr ?_)))
          unfold wideF
          rw [if_neg h1, if_neg h2, if_neg h3, if_neg h4]

/-- bytes of the form of one letter are that letter's -/
theorem let_back (b : List Int) (hb : ∀ x ∈ b, 0 ≤ x ∧ x ≤ 255) (h1 : 1 ≤ b.length) (hw : (wideF (b.getD 0 0)).1 = b.length) (ht : tails b b.length) (hu : (ub (numI b b.length)).length = b.length) : ub (numI b b.length) = b := by
  match b, h1, hb, hw, ht, hu with
  | [x], _, hb, hw, ht, hu =>
    have hx := hb x (by simp)
    simp only [List.getD_cons_zero, List.length_cons, List.length_nil] at hw
    rcases wide_is x hx with ⟨h, h2⟩ | ⟨h, h2⟩ | ⟨h, h2⟩ | ⟨h, h2⟩ | h
    · show ub (wideF x).2 = [x]
      rw [h]
      exact ub1 x h2
    all_goals (rw [h] at hw; simp at hw)
  | [x, y], _, hb, hw, ht, hu =>
    have hx := hb x (by simp)
    have t1 := ht 1 (by simp) (by simp)
    simp only [List.getD_cons_zero, List.getD_cons_succ, List.length_cons, List.length_nil] at hw t1
    rcases wide_is x hx with ⟨h, h2⟩ | ⟨h, h2⟩ | ⟨h, h2⟩ | ⟨h, h2⟩ | h
    · rw [h] at hw; simp at hw
    · show ub (64 * (wideF x).2 + y - 128) = [x, y]
      rw [h]
      exact ub_numOf_two x y h2 t1
    all_goals (rw [h] at hw; simp at hw)
  | [x, y, u], _, hb, hw, ht, hu =>
    have hx := hb x (by simp)
    have t1 := ht 1 (by simp) (by simp)
    have t2 := ht 2 (by simp) (by simp)
    simp only [List.getD_cons_zero, List.getD_cons_succ, List.length_cons, List.length_nil] at hw t1 t2
    rcases wide_is x hx with ⟨h, h2⟩ | ⟨h, h2⟩ | ⟨h, h2⟩ | ⟨h, h2⟩ | h
    · rw [h] at hw; simp at hw
    · rw [h] at hw; simp at hw
    · have hn : numI [x, y, u] 3 = numOf [x, y, u] := by simp [numI, numOf, h]
      show ub (numI [x, y, u] 3) = [x, y, u]
      change (ub (numI [x, y, u] 3)).length = 3 at hu
      rw [hn] at hu ⊢
      refine ub_numOf_three x y u h2 t1 t2 ?_
      rcases Int.lt_or_le 2047 (numOf [x, y, u]) with h3 | h3
      · exact h3
      · exfalso
        by_cases h4 : numOf [x, y, u] ≤ 127
        · rw [ub1 _ h4] at hu; simp at hu
        · rw [ub2 _ h4 h3] at hu; simp at hu
    all_goals (rw [h] at hw; simp at hw)
  | [x, y, u, v], _, hb, hw, ht, hu =>
    have hx := hb x (by simp)
    have t1 := ht 1 (by simp) (by simp)
    have t2 := ht 2 (by simp) (by simp)
    have t3 := ht 3 (by simp) (by simp)
    simp only [List.getD_cons_zero, List.getD_cons_succ, List.length_cons, List.length_nil] at hw t1 t2 t3
    rcases wide_is x hx with ⟨h, h2⟩ | ⟨h, h2⟩ | ⟨h, h2⟩ | ⟨h, h2⟩ | h
    · rw [h] at hw; simp at hw
    · rw [h] at hw; simp at hw
    · rw [h] at hw; simp at hw
    · have hn : numI [x, y, u, v] 4 = numOf [x, y, u, v] := by simp [numI, numOf, h]
      show ub (numI [x, y, u, v] 4) = [x, y, u, v]
      change (ub (numI [x, y, u, v] 4)).length = 4 at hu
      rw [hn] at hu ⊢
      refine ub_numOf_four x y u v h2 t1 t2 t3 ?_
      rcases Int.lt_or_le 65535 (numOf [x, y, u, v]) with h3 | h3
      · exact h3
      · exfalso
        by_cases h4 : numOf [x, y, u, v] ≤ 127
        · rw [ub1 _ h4] at hu; simp at hu
        · by_cases h5 : numOf [x, y, u, v] ≤ 2047
          · rw [ub2 _ h4 h5] at hu; simp at hu
          · rw [ub3 _ h5 h3] at hu; simp at hu
    · rw [h] at hw; simp at hw
  | x :: y :: u :: v :: t :: l, _, hb, hw, ht, hu =>
    exfalso
    have hx := wide_bd x (hb x (by simp))
    simp only [List.getD_cons_zero, List.length_cons] at hw
    omega

/-- no letter begins so -/
theorem let_none (b : List Int) (h : ∀ s, isL s = true → b ≠ ub s) (r : Int) (k : Int) (hk : k ≤ 0) : LetP b r k := fun lo hi => by
  constructor
  · rintro ⟨h1, -⟩
    omega
  · rintro ⟨s, hs, -, -, e⟩
    exact absurd e (h s hs)
theorem let_nil : LetP [] 0 0 := let_none [] (fun s hs e => by have := (let_ub s hs).2.2.2; rw [← e] at this; simp at this) 0 0 (by omega)
theorem let_short (b : List Int) (h : (wideF (b.getD 0 0)).1 = 0 ∨ (b.length : Int) < (wideF (b.getD 0 0)).1) : LetP b 0 0 := by
  refine let_none b (fun s hs e => ?_) 0 0 (by omega)
  obtain ⟨h1, h2, h3, h4⟩ := let_ub s hs
  rw [← e] at h1 h4
  omega
theorem let_tail (b : List Int) (n j : Nat) (hn : (wideF (b.getD 0 0)).1 = n) (h1 : 1 ≤ j) (h2 : j < n) (h : ¬ (128 ≤ b.getD j 0 ∧ b.getD j 0 ≤ 191)) : LetP b 0 0 := by
  refine let_none b (fun s hs e => ?_) 0 0 (by omega)
  obtain ⟨g1, g2, g3, g4⟩ := let_ub s hs
  rw [← e] at g1 g2
  exact h (g2 j h1 (by omega))
theorem let_bad (b : List Int) (n : Nat) (hn : (wideF (b.getD 0 0)).1 = n) (h : ¬ (isL (numI b n) = true ∧ (ub (numI b n)).length = n)) : LetP b 0 0 := by
  refine let_none b (fun s hs e => ?_) 0 0 (by omega)
  obtain ⟨g1, g2, g3, g4⟩ := let_ub s hs
  rw [← e] at g1 g2 g3
  obtain rfl : n = b.length := by omega
  rw [g3] at h
  exact h ⟨hs, by rw [← e]⟩
theorem let_good (b : List Int) (hb : ∀ x ∈ b, 0 ≤ x ∧ x ≤ 255) (n : Nat) (h1 : 1 ≤ n) (hn : (wideF (b.getD 0 0)).1 = n) (ht : tails b n) (hl : isL (numI b n) = true) (hu : (ub (numI b n)).length = n) : LetP b (numI b n) n := fun lo hi => by
  constructor
  · rintro ⟨g1, g2, g3, g4⟩
    obtain rfl : n = b.length := by omega
    exact ⟨_, hl, g3, g4, (let_back b hb h1 hn ht hu).symm⟩
  · rintro ⟨s, hs, g1, g2, e⟩
    obtain ⟨k1, k2, k3, k4⟩ := let_ub s hs
    rw [← e] at k1 k3 k4
    obtain rfl : n = b.length := by omega
    rw [k3]
    exact ⟨by omega, rfl, g1, g2⟩

end Go.Proofs.YtobcgeonobgjpaaDoor
