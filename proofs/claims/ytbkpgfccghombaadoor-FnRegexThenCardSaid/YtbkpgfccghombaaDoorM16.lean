/-
  Parts of the proof in one text: RPl, RPr, Da, Vl. Conditions: as each states.
-/
import Derived.Test.YtbkpgfccghombaaDoorM03
import Derived.Test.YtbkpgfccghombaaDoorM10
import Derived.Test.YtbkpgfccghombaaDoorM11
import Derived.Test.YtbkpgfccghombaaDoorM08
/-! Regular expressions: sets of places in a text: where words can end that begin at places of a set; whether a word begins with the rest. Plain. Conditions: none. -/
namespace Go.Proofs.YtbkpgfccghombaaDoor.rx
open Classical
set_option linter.unusedVariables false

/-- a piece of a text -/
def seg (s : List Int) (i j : Nat) : List Int := (s.take j).drop i
theorem seg_self (s : List Int) (i : Nat) : seg s i i = [] := by unfold seg; exact List.drop_eq_nil_of_le (by simp; omega)
theorem seg_len {s : List Int} {i j : Nat} (hj : j ≤ s.length) : (seg s i j).length = j - i := by simp [seg]; omega
theorem seg_nil {s : List Int} {i j : Nat} (hj : j ≤ s.length) (hi : i ≤ j) (h : seg s i j = []) : i = j := by
  have := seg_len (i := i) hj
  rw [h] at this
  simp at this
  omega
theorem seg_end {s : List Int} {i : Nat} : seg s i s.length = s.drop i := by simp [seg]
theorem seg_app {s : List Int} {i k j : Nat} (h1 : i ≤ k) (h2 : k ≤ j) (hj : j ≤ s.length) : seg s i j = seg s i k ++ seg s k j := by
  have e1 : s.take k = (s.take j).take k := by rw [List.take_take]; congr 1; omega
  have e2 : seg s k j = (seg s i j).drop (k - i) := by unfold seg; rw [List.drop_drop]; congr 1; omega
  have e3 : seg s i k = (seg s i j).take (k - i) := by unfold seg; rw [e1, List.take_drop]; congr 2; omega
  rw [e2, e3, List.take_append_drop]
theorem seg_cut {s : List Int} {i j : Nat} (hi : i ≤ j) (hj : j ≤ s.length) {u1 u2 : List Int} (h : seg s i j = u1 ++ u2) : ∃ k, i ≤ k ∧ k ≤ j ∧ seg s i k = u1 ∧ seg s k j = u2 := by
  have hl := congrArg List.length h
  rw [seg_len hj, List.length_append] at hl
  have e := seg_app (s := s) (i := i) (k := i + u1.length) (j := j) (by omega) (by omega) hj
  rw [h] at e
  have hl2 : (seg s i (i + u1.length)).length = u1.length := by rw [seg_len (by omega)]; omega
  obtain ⟨e1, e2⟩ := List.append_inj e hl2.symm
  exact ⟨i + u1.length, by omega, by omega, e1.symm, e2.symm⟩

/-- where words can end that begin at places of a set -/
noncomputable def rch (X : Lg) (s : List Int) (f : List Bool) : List Bool := (List.range (s.length + 1)).map fun j => decide (∃ i, i ≤ j ∧ f[i]? = some true ∧ X (seg s i j))
theorem rch_len (X : Lg) (s : List Int) (f : List Bool) : (rch X s f).length = s.length + 1 := by simp [rch]
theorem rch_at {X : Lg} {s : List Int} {f : List Bool} {j : Nat} : (rch X s f)[j]? = some true ↔ j ≤ s.length ∧ ∃ i, i ≤ j ∧ f[i]? = some true ∧ X (seg s i j) := by
  unfold rch
  rw [List.getElem?_map]
  by_cases h : j < s.length + 1
  · rw [List.getElem?_range h]
    simp only [Option.map_some, Option.some.injEq, decide_eq_true_eq]
    exact ⟨fun g => ⟨by omega, g⟩, fun g => g.2⟩
  · rw [List.getElem?_eq_none (by simp; omega)]
    constructor
    · intro h; cases h
    · intro g; omega
/-- sets of places of one length are one if they have the same places -/
theorem set_ext {f g : List Bool} (hl : f.length = g.length) (h : ∀ j : Nat, j < f.length → (f[j]? = some true ↔ g[j]? = some true)) : f = g := by
  refine List.ext_getElem? fun j => ?_
  by_cases hj : j < f.length
  · have h1 := h j hj
    rw [List.getElem?_eq_getElem hj, List.getElem?_eq_getElem (by omega)] at h1 ⊢
    simp only [Option.some.injEq] at h1 ⊢
    cases hf : f[j] <;> cases hg : g[j]'(by omega) <;> simp_all
  · rw [List.getElem?_eq_none (by omega), List.getElem?_eq_none (by omega)]
theorem rch_congr {X Y : Lg} {s : List Int} {f : List Bool} (h : ∀ u, X u ↔ Y u) : rch X s f = rch Y s f := by
  have : X = Y := funext fun u => propext (h u)
  rw [this]
theorem rch_eps {s : List Int} {f : List Bool} (hl : f.length = s.length + 1) : rch epsL s f = f := by
  refine set_ext (by rw [rch_len, hl]) fun j hj => ?_
  rw [rch_len] at hj
  rw [rch_at]
  constructor
  · rintro ⟨h1, i, h2, h3, h4⟩
    rw [← seg_nil h1 h2 h4]
    exact h3
  · intro h
    exact ⟨by omega, j, Nat.le_refl _, h, seg_self s j⟩
theorem rch_cat {X Y : Lg} {s : List Int} {f : List Bool} : rch (cat2 X Y) s f = rch Y s (rch X s f) := by
  refine set_ext (by rw [rch_len, rch_len]) fun j hj => ?_
  rw [rch_len] at hj
  rw [rch_at, rch_at]
  constructor
  · rintro ⟨h1, i, h2, h3, u1, u2, h4, h5, h6⟩
    obtain ⟨k, g1, g2, g3, g4⟩ := seg_cut h2 h1 h4
    exact ⟨h1, k, g2, rch_at.2 ⟨by omega, i, g1, h3, by rw [g3]; exact h5⟩, by rw [g4]; exact h6⟩
  · rintro ⟨h1, k, h2, h3, h4⟩
    obtain ⟨g1, i, g2, g3, g4⟩ := rch_at.1 h3
    exact ⟨h1, i, by omega, g3, _, _, seg_app g2 h2 h1, g4, h4⟩
/-- the places of one set or another one -/
def orS (a b : List Bool) : List Bool := List.zipWith (· || ·) a b
theorem orS_len {a b : List Bool} (h : a.length = b.length) : (orS a b).length = a.length := by simp [orS, h]
theorem orS_at {a b : List Bool} (h : a.length = b.length) (j : Nat) : (orS a b)[j]? = some true ↔ a[j]? = some true ∨ b[j]? = some true := by
  by_cases hj : j < a.length
  · rw [List.getElem?_eq_getElem (by rw [orS_len h]; exact hj), List.getElem?_eq_getElem hj, List.getElem?_eq_getElem (by omega)]
    simp [orS]
  · rw [List.getElem?_eq_none (by rw [orS_len h]; omega), List.getElem?_eq_none (by omega), List.getElem?_eq_none (by omega)]
    simp
theorem rch_or {X Y : Lg} {s : List Int} {f : List Bool} : rch (or2 X Y) s f = orS (rch X s f) (rch Y s f) := by
  have hl : (rch X s f).length = (rch Y s f).length := by rw [rch_len, rch_len]
  refine set_ext (by rw [rch_len, orS_len hl, rch_len]) fun j hj => ?_
  rw [orS_at hl, rch_at, rch_at, rch_at]
  constructor
  · rintro ⟨h1, i, h2, h3, h4 | h4⟩
    · exact .inl ⟨h1, i, h2, h3, h4⟩
    · exact .inr ⟨h1, i, h2, h3, h4⟩
  · rintro (⟨h1, i, h2, h3, h4⟩ | ⟨h1, i, h2, h3, h4⟩)
    · exact ⟨h1, i, h2, h3, .inl h4⟩
    · exact ⟨h1, i, h2, h3, .inr h4⟩

/-! again and again -/
theorem pow_add (X : Lg) : ∀ (a b : Nat) (u : List Int), powL X (a + b) u ↔ cat2 (powL X a) (powL X b) u
  | 0, b, u => by rw [Nat.zero_add]; exact (eps_cat2 _ u).symm
  | a + 1, b, u => by
    rw [Nat.succ_add]
    constructor
    · rintro ⟨u1, u2, rfl, h1, h2⟩
      obtain ⟨v1, v2, rfl, g1, g2⟩ := (pow_add X a b u2).1 h2
      exact ⟨u1 ++ v1, v2, by simp, ⟨u1, v1, rfl, h1, g1⟩, g2⟩
    · rintro ⟨u1, u2, rfl, ⟨v1, v2, rfl, g1, g2⟩, h2⟩
      exact ⟨v1, v2 ++ u2, by simp, g1, (pow_add X a b _).2 ⟨v2, u2, rfl, g2, h2⟩⟩
theorem pow_snoc (X : Lg) (n : Nat) (u : List Int) : powL X (n + 1) u ↔ cat2 (powL X n) X u := by
  rw [pow_add]
  unfold cat2
  simp only [powL, cat2_eps]
/-- at least a times, at most n times more -/
def uptoL (X : Lg) (a n : Nat) : Lg := fun u => ∃ k, k ≤ n ∧ powL X (a + k) u
theorem upto_zero (X : Lg) (a : Nat) (u : List Int) : uptoL X a 0 u ↔ powL X a u :=
  ⟨fun ⟨k, h1, h2⟩ => by obtain rfl : k = 0 := by omega
                         exact h2, fun h => ⟨0, Nat.le_refl _, h⟩⟩
theorem upto_succ (X : Lg) (a n : Nat) (u : List Int) : uptoL X a (n + 1) u ↔ or2 (uptoL X a n) (powL X (a + (n + 1))) u := by
  constructor
  · rintro ⟨k, h1, h2⟩
    rcases Nat.lt_or_ge n k with h | h
    · obtain rfl : k = n + 1 := by omega
      exact .inr h2
    · exact .inl ⟨k, h, h2⟩
  · rintro (⟨k, h1, h2⟩ | h)
    · exact ⟨k, by omega, h2⟩
    · exact ⟨n + 1, Nat.le_refl _, h⟩
theorem optL_iff (X : Lg) : ∀ (n : Nat) (u : List Int), optL X n u ↔ ∃ k, k ≤ n ∧ powL X k u
  | 0, u => ⟨fun h => ⟨0, Nat.le_refl _, h⟩, fun ⟨k, h1, h2⟩ => by obtain rfl : k = 0 := by omega
                                                                   exact h2⟩
  | n + 1, u => by
    constructor
    · rintro (⟨u1, u2, rfl, h1, h2⟩ | h)
      · obtain ⟨k, h3, h4⟩ := (optL_iff X n u2).1 h2
        exact ⟨k + 1, by omega, u1, u2, rfl, h1, h4⟩
      · exact ⟨0, by omega, h⟩
    · rintro ⟨k, h1, h2⟩
      cases k with
      | zero => exact .inr h2
      | succ k =>
        obtain ⟨u1, u2, rfl, h3, h4⟩ := h2
        exact .inl ⟨u1, u2, rfl, h3, (optL_iff X n u2).2 ⟨k, by omega, h4⟩⟩
theorem upto_opt (X : Lg) (a n : Nat) (u : List Int) : uptoL X a n u ↔ cat2 (powL X a) (optL X n) u := by
  constructor
  · rintro ⟨k, h1, h2⟩
    obtain ⟨u1, u2, rfl, h3, h4⟩ := (pow_add X a k u).1 h2
    exact ⟨u1, u2, rfl, h3, (optL_iff X n u2).2 ⟨k, h1, h4⟩⟩
  · rintro ⟨u1, u2, rfl, h3, h4⟩
    obtain ⟨k, h5, h6⟩ := (optL_iff X n u2).1 h4
    exact ⟨k, h5, (pow_add X a k _).2 ⟨u1, u2, rfl, h3, h6⟩⟩
/-- empty parts can be left out -/
theorem pow_short (X : Lg) : ∀ (n : Nat) (u : List Int), powL X n u → ∃ k, k ≤ u.length ∧ k ≤ n ∧ powL X k u
  | 0, u, h => ⟨0, Nat.zero_le _, Nat.le_refl _, h⟩
  | n + 1, u, h => by
    obtain ⟨u1, u2, rfl, h1, h2⟩ := h
    obtain ⟨k, h3, h4, h5⟩ := pow_short X n u2 h2
    cases u1 with
    | nil => exact ⟨k, by simpa using h3, by omega, h5⟩
    | cons x u1 => exact ⟨k + 1, by simp; omega, by omega, x :: u1, u2, rfl, h1, h5⟩
theorem star_short (X : Lg) (a n : Nat) (u : List Int) (h : u.length ≤ n) : uptoL X a n u ↔ cat2 (powL X a) (starL X) u := by
  constructor
  · rintro ⟨k, h1, h2⟩
    obtain ⟨u1, u2, rfl, h3, h4⟩ := (pow_add X a k u).1 h2
    exact ⟨u1, u2, rfl, h3, k, h4⟩
  · rintro ⟨u1, u2, rfl, h3, k, h4⟩
    obtain ⟨k2, g1, g2, g3⟩ := pow_short X k u2 h4
    simp at h
    exact ⟨k2, by omega, (pow_add X a k2 _).2 ⟨u1, u2, rfl, h3, g3⟩⟩
theorem rch_congr_short {X Y : Lg} {s : List Int} {f : List Bool} (h : ∀ u, u.length ≤ s.length → (X u ↔ Y u)) : rch X s f = rch Y s f := by
  refine set_ext (by rw [rch_len, rch_len]) fun j hj => ?_
  rw [rch_at, rch_at]
  constructor
  · rintro ⟨h1, i, h2, h3, h4⟩
    exact ⟨h1, i, h2, h3, (h _ (by rw [seg_len h1]; omega)).1 h4⟩
  · rintro ⟨h1, i, h2, h3, h4⟩
    exact ⟨h1, i, h2, h3, (h _ (by rw [seg_len h1]; omega)).2 h4⟩
theorem rch_star {X : Lg} {s : List Int} {f : List Bool} (a n : Nat) (h : s.length ≤ n) : rch (uptoL X a n) s f = rch (cat2 (powL X a) (starL X)) s f :=
  rch_congr_short fun u hu => star_short X a n u (by omega)
theorem rch_upto_zero {X : Lg} {s : List Int} {f : List Bool} (a : Nat) : rch (uptoL X a 0) s f = rch (powL X a) s f := rch_congr (upto_zero X a)
theorem rch_upto {X : Lg} {s : List Int} {f : List Bool} (a n : Nat) : rch (uptoL X a (n + 1)) s f = orS (rch (uptoL X a n) s f) (rch X s (rch (powL X (a + n)) s f)) := by
  rw [rch_congr (upto_succ X a n), rch_or, ← rch_cat]
  congr 1
  exact rch_congr fun u => by rw [← Nat.add_assoc]; exact pow_snoc X (a + n) u
theorem rch_pow_succ {X : Lg} {s : List Int} {f : List Bool} (n : Nat) : rch (powL X (n + 1)) s f = rch X s (rch (powL X n) s f) := by
  rw [← rch_cat]
  exact rch_congr (pow_snoc X n)

/-! beginnings -/
/-- a word begins with what is left from some place of a set on -/
def bgn (X : Lg) (s : List Int) (f : List Bool) : Prop := ∃ i, i ≤ s.length ∧ f[i]? = some true ∧ ∃ v, X (s.drop i ++ v)
theorem bgn_congr {X Y : Lg} {s : List Int} {f : List Bool} (h : ∀ u, X u ↔ Y u) : bgn X s f ↔ bgn Y s f := by
  have : X = Y := funext fun u => propext (h u)
  rw [this]
theorem bgn_end {X : Lg} (hX : ∃ w, X w) {s : List Int} {f : List Bool} (h : f[s.length]? = some true) : bgn X s f := by
  obtain ⟨w, hw⟩ := hX
  exact ⟨s.length, Nat.le_refl _, h, w, by simpa using hw⟩
theorem bgn_eps {s : List Int} {f : List Bool} : bgn epsL s f ↔ f[s.length]? = some true := by
  constructor
  · rintro ⟨i, h1, h2, v, h3⟩
    have h4 := congrArg List.length h3
    simp at h4
    obtain rfl : i = s.length := by omega
    exact h2
  · exact fun h => bgn_end (X := epsL) ⟨[], rfl⟩ h
theorem bgn_or {X Y : Lg} {s : List Int} {f : List Bool} : bgn (or2 X Y) s f ↔ bgn X s f ∨ bgn Y s f := by
  constructor
  · rintro ⟨i, h1, h2, v, h3 | h3⟩
    · exact .inl ⟨i, h1, h2, v, h3⟩
    · exact .inr ⟨i, h1, h2, v, h3⟩
  · rintro (⟨i, h1, h2, v, h3⟩ | ⟨i, h1, h2, v, h3⟩)
    · exact ⟨i, h1, h2, v, .inl h3⟩
    · exact ⟨i, h1, h2, v, .inr h3⟩
theorem app_cut {a b c d : List Int} (h : a ++ b = c ++ d) : (∃ v, c = a ++ v ∧ b = v ++ d) ∨ ∃ v, a = c ++ v ∧ d = v ++ b := by
  rcases List.append_eq_append_iff.1 h with ⟨x, h1, h2⟩ | ⟨x, h1, h2⟩
  · exact .inl ⟨x, h1, h2⟩
  · exact .inr ⟨x, h1, h2⟩
theorem bgn_cat {X Y : Lg} (hY : ∃ w, Y w) {s : List Int} {f : List Bool} : bgn (cat2 X Y) s f ↔ bgn X s f ∨ bgn Y s (rch X s f) := by
  constructor
  · rintro ⟨i, h1, h2, v, u1, u2, h3, h4, h5⟩
    rcases app_cut h3 with ⟨x, e1, e2⟩ | ⟨x, e1, e2⟩
    · exact .inl ⟨i, h1, h2, x, by rw [← e1]; exact h4⟩
    · right
      rw [← seg_end] at e1
      obtain ⟨k, g1, g2, g3, g4⟩ := seg_cut h1 (Nat.le_refl _) e1
      rw [seg_end] at g4
      exact ⟨k, g2, rch_at.2 ⟨g2, i, g1, h2, by rw [g3]; exact h4⟩, v, by rw [g4, ← e2]; exact h5⟩
  · rintro (⟨i, h1, h2, v, h3⟩ | ⟨k, h1, h2, v, h3⟩)
    · obtain ⟨w, hw⟩ := hY
      exact ⟨i, h1, h2, v ++ w, s.drop i ++ v, w, by simp, h3, hw⟩
    · obtain ⟨g1, i, g2, g3, g4⟩ := rch_at.1 h2
      have e := seg_app (s := s) g2 g1 (Nat.le_refl _)
      rw [seg_end, seg_end] at e
      exact ⟨i, by omega, g3, v, seg s i k, s.drop k ++ v, by rw [e]; simp, g4, h3⟩
/-- again and again: some part begins with the rest -/
theorem pow_begin {X : Lg} : ∀ (n : Nat) (u v : List Int), u ≠ [] → powL X n (u ++ v) → ∃ k u1 u2 x, k < n ∧ k < u.length ∧ u = u1 ++ u2 ∧ powL X k u1 ∧ X (u2 ++ x)
  | 0, u, v, hu, h => by
    have h4 : u ++ v = [] := h
    simp at h4
    exact absurd h4.1 hu
  | n + 1, u, v, hu, h => by
    obtain ⟨w1, w2, h1, h2, h3⟩ := h
    have hl : 0 < u.length := List.length_pos_iff.2 hu
    rcases app_cut h1 with ⟨x, e1, e2⟩ | ⟨x, e1, e2⟩
    · exact ⟨0, [], u, x, by omega, hl, rfl, rfl, by rw [← e1]; exact h2⟩
    · by_cases hx : x = []
      · subst hx
        exact ⟨0, [], u, [], by omega, hl, rfl, rfl, by rw [e1]; simpa using h2⟩
      · rw [e2] at h3
        obtain ⟨k, u1, u2, y, g1, g2, g3, g4, g5⟩ := pow_begin n x v hx h3
        cases w1 with
        | nil => exact ⟨k, u1, u2, y, by omega, by rw [e1]; simpa using g2, by rw [e1, g3]; simp, g4, g5⟩
        | cons z w1 => exact ⟨k + 1, (z :: w1) ++ u1, u2, y, by omega, by rw [e1]; simp; omega, by rw [e1, g3]; simp, ⟨z :: w1, u1, rfl, h2, g4⟩, g5⟩
theorem pow_word {X : Lg} (hX : ∃ w, X w) : ∀ n, ∃ w, powL X n w
  | 0 => ⟨[], rfl⟩
  | n + 1 => by
    obtain ⟨w, hw⟩ := hX
    obtain ⟨v, hv⟩ := pow_word ⟨w, hw⟩ n
    exact ⟨w ++ v, w, v, rfl, hw, hv⟩
/-- a set of words: X so many times, for the numbers of N -/
def someL (X : Lg) (N : Nat → Prop) : Lg := fun u => ∃ n, N n ∧ powL X n u
theorem bgn_some {X : Lg} (hX : ∃ w, X w) {N : Nat → Prop} {s : List Int} {f : List Bool} {m : Nat} (h0 : f[s.length]? ≠ some true)
    (h1 : ∀ n k, N n → k < n → k < s.length + 1 → k < m) (h2 : ∀ k, k < m → ∃ n, N n ∧ k < n) : bgn (someL X N) s f ↔ ∃ k, k < m ∧ bgn X s (rch (powL X k) s f) := by
  constructor
  · rintro ⟨i, g1, g2, v, n, g3, g4⟩
    have hi : i < s.length := by
      rcases Nat.lt_or_ge i s.length with h | h
      · exact h
      · obtain rfl : i = s.length := by omega
        exact absurd g2 h0
    have hl : (s.drop i).length = s.length - i := by simp
    obtain ⟨k, u1, u2, x, e1, e2, e3, e4, e5⟩ := pow_begin n (s.drop i) v (by intro e; rw [e] at hl; simp at hl; omega) g4
    rw [← seg_end] at e3
    obtain ⟨j, j1, j2, j3, j4⟩ := seg_cut g1 (Nat.le_refl _) e3
    rw [seg_end] at j4
    exact ⟨k, h1 n k g3 e1 (by omega), j, j2, rch_at.2 ⟨j2, i, j1, g2, by rw [j3]; exact e4⟩, x, by rw [j4]; exact e5⟩
  · rintro ⟨k, g1, j, g2, g3, x, g4⟩
    obtain ⟨j1, i, j2, j3, j4⟩ := rch_at.1 g3
    obtain ⟨n, n1, n2⟩ := h2 k g1
    obtain ⟨w, hw⟩ := pow_word hX (n - (k + 1))
    have e := seg_app (s := s) j2 j1 (Nat.le_refl _)
    rw [seg_end, seg_end] at e
    refine ⟨i, by omega, j3, x ++ w, n, n1, ?_⟩
    have e3 : n = k + (1 + (n - (k + 1))) := by omega
    rw [e3, e]
    refine (pow_add X k _ _).2 ⟨_, (s.drop j ++ x) ++ w, by simp, j4, ?_⟩
    rw [Nat.add_comm 1]
    exact ⟨_, _, rfl, g4, hw⟩
theorem some_upto {X : Lg} (a n : Nat) (u : List Int) : someL X (fun k => a ≤ k ∧ k ≤ a + n) u ↔ uptoL X a n u :=
  ⟨fun ⟨k, h, h3⟩ => ⟨k - a, by omega, by rw [show a + (k - a) = k by omega]; exact h3⟩, fun ⟨k, h1, h2⟩ => ⟨a + k, ⟨by omega, by omega⟩, h2⟩⟩
theorem some_star {X : Lg} (a : Nat) (u : List Int) : someL X (fun k => a ≤ k) u ↔ cat2 (powL X a) (starL X) u := by
  constructor
  · rintro ⟨k, h, h3⟩
    rw [show k = a + (k - a) by omega] at h3
    obtain ⟨u1, u2, rfl, h3, h4⟩ := (pow_add X a _ u).1 h3
    exact ⟨u1, u2, rfl, h3, _, h4⟩
  · rintro ⟨u1, u2, rfl, h3, k, h4⟩
    exact ⟨a + k, by omega, (pow_add X a k _).2 ⟨u1, u2, rfl, h3, h4⟩⟩
end Go.Proofs.YtbkpgfccghombaaDoor.rx

/-! Regular expressions: where a program is behind a text, as sets of places. Plain. Conditions: none. -/
namespace Go.Proofs.YtbkpgfccghombaaDoor.rx
open Classical
set_option linter.unusedVariables false

section
variable {P : List Ins}
theorem goes_one {n m q : Nat} {w : List Int} {x : Int} (h : Goes P n m w q) : w = [x] → ∃ m' lo hi, Road P m [] m' ∧ P[m']? = some (.rg lo hi) ∧ lo ≤ x ∧ x ≤ hi ∧ Road P (m' + 1) [] q := by
  induction h with
  | here p => intro e; cases e
  | jp e _ ih => intro e2; obtain ⟨m', lo, hi, h1, h2⟩ := ih e2; exact ⟨m', lo, hi, h1.jp e, h2⟩
  | spa e _ ih => intro e2; obtain ⟨m', lo, hi, h1, h2⟩ := ih e2; exact ⟨m', lo, hi, h1.spa e, h2⟩
  | spb e _ ih => intro e2; obtain ⟨m', lo, hi, h1, h2⟩ := ih e2; exact ⟨m', lo, hi, h1.spb e, h2⟩
  | rg e h1 h2 h3 _ =>
    intro e2
    injection e2 with e3 e4
    subst e3 e4
    exact ⟨_, _, _, .here _, e, h1, h2, _, h3⟩
theorem road_snoc {p q : Nat} {u : List Int} {x : Int} : Road P p (u ++ [x]) q ↔ ∃ m lo hi, Road P p u m ∧ P[m]? = some (.rg lo hi) ∧ lo ≤ x ∧ x ≤ hi ∧ Road P (m + 1) [] q := by
  constructor
  · rintro ⟨n, hg⟩
    obtain ⟨m, h1, -, n2, h3⟩ := hg.cut u [x] rfl
    obtain ⟨m', lo, hi, g1, g2⟩ := goes_one h3 rfl
    exact ⟨m', lo, hi, by simpa using h1.trans g1, g2⟩
  · rintro ⟨m, lo, hi, h1, h2, h3, h4, h5⟩
    exact h1.trans (h5.rg h2 h3 h4)

/-- what is gone on to without a byte -/
def tos : Option Ins → List Nat
  | some (.jp t) => [t]
  | some (.sp a b) => [a, b]
  | _ => []
/-- all that is gone on to is there -/
def Snd (P : List Ins) : Prop := ∀ i, i < P.length → (∀ k ∈ tos P[i]?, k < P.length) ∧ (∀ lo hi, P[i]? = some (.rg lo hi) → i + 1 < P.length)
/-- a set of places, as a list -/
noncomputable def plS (P : List Ins) (S : Nat → Prop) : List Bool := (List.range P.length).map fun k => decide (S k)
theorem plS_len (S : Nat → Prop) : (plS P S).length = P.length := by simp [plS]
theorem plS_at {S : Nat → Prop} {k : Nat} : (plS P S)[k]? = some true ↔ k < P.length ∧ S k := by
  unfold plS
  rw [List.getElem?_map]
  by_cases h : k < P.length
  · rw [List.getElem?_range h]
    simp [h]
  · rw [List.getElem?_eq_none (by simp; omega)]
    simp [h]
/-- the places that are reached from some without a byte -/
def Clo (P : List Ins) (f : List Bool) (k : Nat) : Prop := ∃ i, f[i]? = some true ∧ Road P i [] k
theorem road_step {i k : Nat} (h : k ∈ tos P[i]?) : Road P i [] k := by
  unfold tos at h
  split at h
  · simp at h; subst h; rename_i e; exact (Road.here _).jp e
  · rename_i e
    simp at h
    rcases h with rfl | rfl
    · exact (Road.here _).spa e
    · exact (Road.here _).spb e
  · simp at h
/-- what is closed has all that is reached -/
theorem closed_all {g : List Bool} (h : ∀ i, i < P.length → g[i]? = some true → ∀ k ∈ tos P[i]?, g[k]? = some true) {n i k : Nat} {u : List Int} (hg : Goes P n i u k) : u = [] → g[i]? = some true → g[k]? = some true := by
  have lt : ∀ {i : Nat} {x : Ins}, P[i]? = some x → i < P.length := fun e => (List.getElem?_eq_some_iff.1 e).1
  induction hg with
  | here p => exact fun _ e => e
  | jp e _ ih => exact fun e2 e3 => ih e2 (h _ (lt e) e3 _ (by rw [e]; simp [tos]))
  | spa e _ ih => exact fun e2 e3 => ih e2 (h _ (lt e) e3 _ (by rw [e]; simp [tos]))
  | spb e _ ih => exact fun e2 e3 => ih e2 (h _ (lt e) e3 _ (by rw [e]; simp [tos]))
  | rg e _ _ _ _ => intro e2; cases e2

/-! how the places are reached: again and again through all instructions, until nothing is new -/
/-- one instruction that is gone on to -/
def mark (o : List Bool × Bool) (k : Nat) : List Bool × Bool := if o.1[k]? = some true then o else (o.1.set k true, true)
/-- what stands between the start and what is reached -/
structure Btw (P : List Ins) (f g : List Bool) : Prop where
  len : g.length = P.length
  low : ∀ k : Nat, f[k]? = some true → g[k]? = some true
  high : ∀ k : Nat, g[k]? = some true → Clo P f k
theorem set_at {g : List Bool} {k j : Nat} (hk : k < g.length) : (g.set k true)[j]? = some true ↔ j = k ∨ g[j]? = some true := by
  rw [List.getElem?_set]
  by_cases h : k = j
  · subst h
    simp [hk]
  · rw [if_neg h]
    constructor
    · exact .inr
    · rintro (e | e)
      · exact absurd e.symm h
      · exact e
theorem Btw.mark {f g : List Bool} {a : Bool} {i k : Nat} (h : Btw P f g) (hS : Snd P) (hi : i < P.length) (hg : g[i]? = some true) (hk : k ∈ tos P[i]?) : Btw P f (mark (g, a) k).1 := by
  unfold rx.mark
  split
  · exact h
  · have hl : k < g.length := by rw [h.len]; exact (hS i hi).1 k hk
    refine ⟨by simp [h.len], fun j hj => (set_at hl).2 (.inr (h.low j hj)), fun j hj => ?_⟩
    rcases (set_at hl).1 hj with rfl | hj
    · obtain ⟨m, h1, h2⟩ := h.high i hg
      exact ⟨m, h1, by simpa using h2.trans (road_step hk)⟩
    · exact h.high j hj
/-- how many are left out -/
def outs (g : List Bool) : Nat := g.count false
theorem outs_set : ∀ {g : List Bool} {k : Nat}, k < g.length → g[k]? ≠ some true → outs (g.set k true) + 1 = outs g
  | [], k, h, _ => by simp at h
  | b :: g, 0, _, h => by
    cases b
    · simp [outs]
    · simp at h
  | b :: g, k + 1, h, h2 => by
    have := outs_set (g := g) (k := k) (by simpa using h) (by simpa using h2)
    unfold outs at this ⊢
    simp only [List.set_cons_succ, List.count_cons]
    omega
theorem plS_clo {f g : List Bool} (h : Btw P f g) (hc : ∀ i, i < P.length → g[i]? = some true → ∀ k ∈ tos P[i]?, g[k]? = some true) : g = plS P (Clo P f) := by
  refine set_ext (by rw [plS_len, h.len]) fun j hj => ?_
  rw [plS_at]
  constructor
  · intro e
    exact ⟨by rw [← h.len]; exact hj, h.high j e⟩
  · rintro ⟨h1, i, h2, n, h3⟩
    exact closed_all hc h3 rfl (h.low i h2)

/-! behind a text -/
/-- the places behind a text -/
noncomputable def stp (P : List Ins) (u : List Int) : List Bool := plS P (fun k => Road P 0 u k)
/-- where a byte leads from a set -/
def Nxt (P : List Ins) (f : List Bool) (x : Int) (k : Nat) : Prop := ∃ m lo hi, k = m + 1 ∧ f[m]? = some true ∧ P[m]? = some (.rg lo hi) ∧ lo ≤ x ∧ x ≤ hi
theorem stp_nil (hP : 0 < P.length) : plS P (Clo P (plS P (fun k => k = 0))) = stp P [] := by
  refine set_ext (by rw [plS_len]; unfold stp; rw [plS_len]) fun j hj => ?_
  unfold stp
  rw [plS_at, plS_at]
  refine and_congr_right fun _ => ?_
  constructor
  · rintro ⟨i, h1, h2⟩
    obtain ⟨-, rfl⟩ := plS_at.1 h1
    exact h2
  · intro h
    exact ⟨0, plS_at.2 ⟨hP, rfl⟩, h⟩
theorem stp_snoc (hS : Snd P) (u : List Int) (x : Int) : plS P (Clo P (plS P (Nxt P (stp P u) x))) = stp P (u ++ [x]) := by
  have lt : ∀ {i : Nat} {x : Ins}, P[i]? = some x → i < P.length := fun e => (List.getElem?_eq_some_iff.1 e).1
  refine set_ext (by rw [plS_len]; unfold stp; rw [plS_len]) fun j hj => ?_
  unfold stp
  rw [plS_at, plS_at]
  refine and_congr_right fun _ => ?_
  rw [road_snoc]
  constructor
  · rintro ⟨i, h1, h2⟩
    obtain ⟨-, m, lo, hi, rfl, h3, h4, h5, h6⟩ := plS_at.1 h1
    exact ⟨m, lo, hi, (plS_at.1 h3).2, h4, h5, h6, h2⟩
  · rintro ⟨m, lo, hi, h1, h2, h3, h4, h5⟩
    exact ⟨m + 1, plS_at.2 ⟨(hS m (lt h2)).2 lo hi h2, m, lo, hi, rfl, plS_at.2 ⟨lt h2, h1⟩, h2, h3, h4⟩, h5⟩
end
end Go.Proofs.YtbkpgfccghombaaDoor.rx

/-! The automaton of a program, as lists of places: plain. Conditions: none. -/
namespace Go.Proofs.YtbkpgfccghombaaDoor.rx
open Classical
set_option linter.unusedVariables false

/-- numbers that differ, below n: at most n -/
theorem nodup_below : ∀ (n : Nat) (l : List Nat), l.Nodup → (∀ x ∈ l, x < n) → l.length ≤ n
  | 0, l, _, h => by
    cases l with
    | nil => simp
    | cons a l => exact absurd (h a (by simp)) (by omega)
  | n + 1, l, hn, h => by
    have h1 := nodup_below n (l.filter (fun x => x != n)) (hn.filter _) (fun x hx => by
      obtain ⟨h2, h3⟩ := List.mem_filter.1 hx
      have := h x h2
      simp at h3
      omega)
    have h2 : l.length = (l.filter (fun x => x != n)).length + List.countP (fun x => decide ¬((x != n) = true)) l := by
      rw [← List.countP_eq_length_filter]
      exact List.length_eq_countP_add_countP (fun x => x != n) (l := l)
    have h3 : List.countP (fun x => decide ¬((x != n) = true)) l ≤ 1 := by
      have e : (fun x => decide ¬((x != n) = true)) = (fun x : Nat => x == n) := by
        funext x
        by_cases hx : x = n <;> simp [hx]
      rw [e]
      exact List.nodup_iff_count.1 hn n
    omega
/-- what differs and lies within a list is no more than it -/
theorem nodup_sub {α : Type} [DecidableEq α] : ∀ (l m : List α), l.Nodup → (∀ x ∈ l, x ∈ m) → l.length ≤ m.length
  | [], _, _, _ => by simp
  | a :: l, m, h, hs => by
    have ha : a ∈ m := hs a (by simp)
    have h2 := List.nodup_cons.1 h
    have := nodup_sub l (m.erase a) h2.2 (fun x hx => (List.mem_erase_of_ne (fun e => h2.1 (by rw [← e]; exact hx))).2 (hs x (by simp [hx])))
    rw [List.length_erase_of_mem ha] at this
    have : 0 < m.length := List.length_pos_of_mem ha
    simp only [List.length_cons]
    omega

section
variable (P : List Ins)
/-- from an instruction on, what is reached without a byte, put behind what there is -/
def addF : Nat → List Nat → Nat → List Nat
  | 0, l, _ => l
  | k + 1, l, i => if i ∈ l then l else match P[i]? with
    | some (.jp t) => addF k (l ++ [i]) t
    | some (.sp a b) => addF k (addF k (l ++ [i]) a) b
    | _ => l ++ [i]
/-- numbers of instructions, none twice -/
structure Nums (l : List Nat) : Prop where
  nd : l.Nodup
  lt : ∀ x ∈ l, x < P.length
/-- what adding does -/
structure Adds (l : List Nat) (i : Nat) (l' : List Nat) : Prop where
  nums : Nums P l'
  app : ∃ m, l' = l ++ m
  me : i ∈ l'
  cl : ∀ x ∈ l', x ∉ l → ∀ k ∈ tos P[x]?, k ∈ l'
  road : ∀ x ∈ l', x ∈ l ∨ Road P i [] x
end
section
variable {P : List Ins}
theorem Nums.len {l : List Nat} (h : Nums P l) : l.length ≤ P.length := nodup_below _ l h.nd h.lt
theorem Nums.snoc {l : List Nat} (h : Nums P l) {i : Nat} (hi : i < P.length) (hn : i ∉ l) : Nums P (l ++ [i]) := by
  refine ⟨List.nodup_append.2 ⟨h.nd, by simp, fun a ha b hb e => ?_⟩, fun x hx => ?_⟩
  · simp at hb
    subst hb e
    exact hn ha
  · rcases List.mem_append.1 hx with hx | hx
    · exact h.lt x hx
    · simp at hx
      omega
theorem Adds.sub {l l' : List Nat} {i : Nat} (h : Adds P l i l') {x : Nat} (hx : x ∈ l) : x ∈ l' := by
  obtain ⟨m, rfl⟩ := h.app
  simp [hx]
theorem adds (hS : Snd P) : ∀ (k : Nat) (l : List Nat) (i : Nat), Nums P l → i < P.length → P.length + 1 ≤ l.length + k → Adds P l i (addF P k l i)
  | 0, l, i, h, _, hk => by have := h.len; omega
  | k + 1, l, i, h, hi, hk => by
    unfold addF
    by_cases hm : i ∈ l
    · rw [if_pos hm]
      exact ⟨h, ⟨[], by simp⟩, hm, fun x hx hn => absurd hx hn, fun x hx => .inl hx⟩
    · rw [if_neg hm]
      have hs := h.snoc hi hm
      have hl : P.length + 1 ≤ (l ++ [i]).length + k := by simp; omega
      have leaf : tos P[i]? = [] → Adds P l i (l ++ [i]) := fun e => by
        refine ⟨hs, ⟨[i], rfl⟩, by simp, fun x hx hn => ?_, fun x hx => ?_⟩
        · rcases List.mem_append.1 hx with hx | hx
          · exact absurd hx hn
          · simp at hx
            subst hx
            rw [e]
            simp
        · rcases List.mem_append.1 hx with hx | hx
          · exact .inl hx
          · simp at hx
            subst hx
            exact .inr (.here _)
      split
      · rename_i t e
        have ht : t < P.length := (hS i hi).1 t (by rw [e]; simp [tos])
        have A := adds hS k (l ++ [i]) t hs ht hl
        obtain ⟨m, hm2⟩ := A.app
        refine ⟨A.nums, ⟨[i] ++ m, by rw [hm2]; simp⟩, A.sub (by simp), fun x hx hn => ?_, fun x hx => ?_⟩
        · by_cases hxi : x = i
          · subst hxi
            rw [e]
            intro k hk
            simp [tos] at hk
            subst hk
            exact A.me
          · exact A.cl x hx (by simp [hn, hxi])
        · rcases A.road x hx with h1 | h1
          · rcases List.mem_append.1 h1 with h1 | h1
            · exact .inl h1
            · simp at h1
              subst h1
              exact .inr (.here _)
          · exact .inr (h1.jp e)
      · rename_i a b e
        have ha : a < P.length := (hS i hi).1 a (by rw [e]; simp [tos])
        have hb : b < P.length := (hS i hi).1 b (by rw [e]; simp [tos])
        have A := adds hS k (l ++ [i]) a hs ha hl
        obtain ⟨m, hm2⟩ := A.app
        have hl2 : P.length + 1 ≤ (addF P k (l ++ [i]) a).length + k := by rw [hm2]; simp at hl ⊢; omega
        have B := adds hS k (addF P k (l ++ [i]) a) b A.nums hb hl2
        obtain ⟨m2, hm3⟩ := B.app
        refine ⟨B.nums, ⟨[i] ++ m ++ m2, by rw [hm3, hm2]; simp⟩, B.sub (A.sub (by simp)), fun x hx hn => ?_, fun x hx => ?_⟩
        · by_cases hxa : x ∈ addF P k (l ++ [i]) a
          · by_cases hxi : x = i
            · subst hxi
              rw [e]
              intro k hk
              simp [tos] at hk
              rcases hk with rfl | rfl
              · exact B.sub A.me
              · exact B.me
            · exact fun j hj => B.sub (A.cl x hxa (by simp [hn, hxi]) j hj)
          · exact B.cl x hx hxa
        · rcases B.road x hx with h1 | h1
          · rcases A.road x h1 with h1 | h1
            · rcases List.mem_append.1 h1 with h1 | h1
              · exact .inl h1
              · simp at h1
                subst h1
                exact .inr (.here _)
            · exact .inr (h1.spa e)
          · exact .inr (h1.spb e)
      · rename_i h1 h2
        refine leaf ?_
        unfold tos
        split
        · rename_i e
          exact absurd e (h1 _)
        · rename_i e
          exact absurd e (h2 _ _)
        · rfl
end
/-- whether an instruction matches or takes a byte -/
def rmB : Option Ins → Bool
  | some .mt => true
  | some (.rg _ _) => true
  | _ => false
/-- whether it takes this byte -/
def tkB (x : Int) : Option Ins → Bool
  | some (.rg lo hi) => decide (lo ≤ x) && decide (x ≤ hi)
  | _ => false
section
variable (P : List Ins)
def rmF (l : List Nat) : List Nat := l.filter fun i => rmB P[i]?
def run1 (x : Int) (tz : List Nat) (i : Nat) : List Nat := if tkB x P[i]? then addF P (P.length + 1) tz (i + 1) else tz
def runF (l : List Nat) (x : Int) : List Nat := l.foldl (run1 P x) []
/-- the state at first, and behind a byte -/
def st0 : List Nat := rmF P (addF P (P.length + 1) [] 0)
def st1 (L : List Nat) (x : Int) : List Nat := rmF P (runF P L x)
def pth (u : List Int) : List Nat := u.foldl (st1 P) (st0 P)
end
section
variable {P : List Ins}
theorem nums_nil : Nums P [] := ⟨by simp, fun x h => by simp at h⟩
theorem rmF_nums {l : List Nat} (h : Nums P l) : Nums P (rmF P l) := ⟨h.nd.filter _, fun x hx => h.lt x (List.mem_filter.1 hx).1⟩
/-- what a set is that has been made byte by byte -/
structure Runs (from_ : List Nat) (x : Int) (tz : List Nat) : Prop where
  nums : Nums P tz
  all : ∀ i ∈ from_, tkB x P[i]? = true → i + 1 ∈ tz
  cl : ∀ y ∈ tz, ∀ k ∈ tos P[y]?, k ∈ tz
  road : ∀ y ∈ tz, ∃ i ∈ from_, tkB x P[i]? = true ∧ Road P (i + 1) [] y
theorem tk_rg {x : Int} {i : Nat} (h : tkB x P[i]? = true) : ∃ lo hi, P[i]? = some (.rg lo hi) ∧ lo ≤ x ∧ x ≤ hi := by
  unfold tkB at h
  split at h
  · rename_i lo hi e
    simp at h
    exact ⟨lo, hi, e, h.1, h.2⟩
  · cases h
theorem tk_lt (hS : Snd P) {x : Int} {i : Nat} (h : tkB x P[i]? = true) : i + 1 < P.length := by
  obtain ⟨lo, hi, e, -⟩ := tk_rg h
  exact (hS i (List.getElem?_eq_some_iff.1 e).1).2 lo hi e
theorem Runs.step (hS : Snd P) {l : List Nat} {x : Int} {tz : List Nat} (h : Runs (P := P) l x tz) (i : Nat) : Runs (P := P) (l ++ [i]) x (run1 P x tz i) := by
  unfold run1
  split
  · rename_i ht
    have A := adds hS (P.length + 1) tz (i + 1) h.nums (tk_lt hS ht) (by omega)
    refine ⟨A.nums, fun j hj hj2 => ?_, fun y hy k hk => ?_, fun y hy => ?_⟩
    · rcases List.mem_append.1 hj with hj | hj
      · exact A.sub (h.all j hj hj2)
      · simp at hj
        subst hj
        exact A.me
    · by_cases hyt : y ∈ tz
      · exact A.sub (h.cl y hyt k hk)
      · exact A.cl y hy hyt k hk
    · rcases A.road y hy with h1 | h1
      · obtain ⟨j, g1, g2⟩ := h.road y h1
        exact ⟨j, by simp [g1], g2⟩
      · exact ⟨i, by simp, ht, h1⟩
  · rename_i ht
    refine ⟨h.nums, fun j hj hj2 => ?_, h.cl, fun y hy => ?_⟩
    · rcases List.mem_append.1 hj with hj | hj
      · exact h.all j hj hj2
      · simp at hj
        subst hj
        exact absurd hj2 ht
    · obtain ⟨j, g1, g2⟩ := h.road y hy
      exact ⟨j, by simp [g1], g2⟩
theorem runs_foldl (hS : Snd P) (x : Int) : ∀ (m l : List Nat) (tz : List Nat), Runs (P := P) l x tz → Runs (P := P) (l ++ m) x (m.foldl (run1 P x) tz)
  | [], l, tz, h => by simpa using h
  | i :: m, l, tz, h => by
    have := runs_foldl hS x m (l ++ [i]) _ (h.step hS i)
    simpa using this
theorem runs_any (hS : Snd P) (l : List Nat) (x : Int) : Runs (P := P) l x (runF P l x) := by
  have := runs_foldl hS x l [] [] ⟨nums_nil, fun i h => by simp at h, fun y h => by simp at h, fun y h => by simp at h⟩
  rwa [List.nil_append] at this
/-- what is closed has all that is reached -/
theorem closed_list {l : List Nat} (h : ∀ y ∈ l, ∀ k ∈ tos P[y]?, k ∈ l) {n i k : Nat} {u : List Int} (hg : Goes P n i u k) : u = [] → i ∈ l → k ∈ l := by
  induction hg with
  | here p => exact fun _ e => e
  | jp e _ ih => exact fun e2 e3 => ih e2 (h _ e3 _ (by rw [e]; simp [tos]))
  | spa e _ ih => exact fun e2 e3 => ih e2 (h _ e3 _ (by rw [e]; simp [tos]))
  | spb e _ ih => exact fun e2 e3 => ih e2 (h _ e3 _ (by rw [e]; simp [tos]))
  | rg e _ _ _ _ => intro e2; cases e2
theorem mem_rmF {l : List Nat} {i : Nat} : i ∈ rmF P l ↔ i ∈ l ∧ rmB P[i]? = true := List.mem_filter
/-- behind a text: the places that match or take a byte -/
theorem pth_mem (hS : Snd P) (hP : 0 < P.length) (u : List Int) : Nums P (pth P u) ∧ ∀ k, k ∈ pth P u ↔ Road P 0 u k ∧ rmB P[k]? = true := by
  obtain ⟨v, hv⟩ : ∃ v, v = u.reverse := ⟨_, rfl⟩
  obtain rfl : u = v.reverse := by rw [hv, List.reverse_reverse]
  clear hv
  induction v with
  | nil =>
    have A := adds hS (P.length + 1) [] 0 nums_nil hP (by simp)
    refine ⟨rmF_nums A.nums, fun k => ?_⟩
    show k ∈ rmF P _ ↔ _
    rw [mem_rmF]
    refine and_congr_left fun _ => ⟨fun h => ?_, fun h => ?_⟩
    · rcases A.road k h with h | h
      · simp at h
      · exact h
    · obtain ⟨n, h⟩ := h
      exact closed_list (fun y hy => A.cl y hy (by simp)) h rfl A.me
  | cons x v ih =>
    rw [List.reverse_cons]
    have e : pth P (v.reverse ++ [x]) = st1 P (pth P v.reverse) x := by unfold pth; rw [List.foldl_append]; rfl
    rw [e]
    have R := runs_any hS (pth P v.reverse) x
    refine ⟨rmF_nums R.nums, fun k => ?_⟩
    unfold st1
    rw [mem_rmF, road_snoc]
    refine and_congr_left fun _ => ⟨fun h => ?_, fun h => ?_⟩
    · obtain ⟨i, h1, h2, h3⟩ := R.road k h
      obtain ⟨lo, hi, e, h4, h5⟩ := tk_rg h2
      exact ⟨i, lo, hi, ((ih.2 i).1 h1).1, e, h4, h5, h3⟩
    · obtain ⟨m, lo, hi, h1, h2, h3, h4, n, h5⟩ := h
      have hm : m ∈ pth P v.reverse := (ih.2 m).2 ⟨h1, by rw [h2]; rfl⟩
      exact closed_list R.cl h5 rfl (R.all m hm (by rw [h2]; simp [tkB, h3, h4]))
theorem pth_snoc (u : List Int) (x : Int) : pth P (u ++ [x]) = st1 P (pth P u) x := by unfold pth; rw [List.foldl_append]; rfl
theorem st1_nil (x : Int) : st1 P [] x = [] := rfl
end
end Go.Proofs.YtbkpgfccghombaaDoor.rx

/-! The law's small functions on expressions; what an expression's instructions are. Conditions: as stated. -/
namespace Go.Proofs.YtbkpgfccghombaaDoor.rx
open Go.ChangeShapes Go.WideShapes Go.ChangeAt Go.RowKit
set_option linter.unusedVariables false
set_option linter.unusedSimpArgs false

/-- the instructions of an expression, with the match behind them -/
def prg (d : Nat) (r : Rx) : List Ins := comp d 0 r ++ [.mt]
section
variable {d : Nat} {r : Rx}
theorem prg_frag (hw : wf 3 d r) : Frag (prg d r) 0 (comp d 0 r).length (lang d r) ∧ (prg d r)[(comp d 0 r).length]? = some .mt ∧ (prg d r).length = (comp d 0 r).length + 1 := by
  have F := frag_comp (P := prg d r) d r 0 hw (fun i hi => by
    unfold prg
    rw [Nat.zero_add, List.getElem?_append_left hi])
  rw [Nat.zero_add] at F
  exact ⟨F, by simp [prg], by simp [prg]⟩
theorem prg_snd (hw : wf 3 d r) : Snd (prg d r) := by
  obtain ⟨F, h1, h2⟩ := prg_frag hw
  intro i hi
  rw [h2] at hi ⊢
  by_cases he : i = (comp d 0 r).length
  · subst he
    rw [h1]
    exact ⟨fun k hk => by simp [tos] at hk, fun lo hi e => by cases e⟩
  · refine ⟨fun k hk => ?_, fun lo hi e => by omega⟩
    unfold tos at hk
    split at hk
    · rename_i t e
      have := F.jpc i t (Nat.zero_le _) (by omega) e
      simp at hk
      omega
    · rename_i a b e
      have := F.spc i a b (Nat.zero_le _) (by omega) e
      simp at hk
      omega
    · simp at hk
theorem prg_pos : 0 < (prg d r).length := by simp [prg]
theorem rmB_iff (o : Option Ins) : rmB o = true ↔ o = some .mt ∨ ∃ lo hi, o = some (.rg lo hi) := by
  unfold rmB
  split
  · simp
  · rename_i lo hi
    simp
  · rename_i h1 h2
    constructor
    · intro h
      cases h
    · rintro (h | ⟨lo, hi, h⟩)
      · exact absurd h h1
      · exact absurd h (h2 lo hi)
end
/-! the law's functions -/
set_option maxRecDepth 100000 in
theorem modest_any (w : World) (r : Rx) (cs : List Value) (hR : RgC w w.heap.size 5 r cs) (hw : wf 3 5 r) :
    Calls Tryd.prog 12 #[.agg cs.toArray, .int .i64 1] w fun e w' => e = .returned (.bool (decide (plc 5 r ≤ 160))) ∧ Below w.heap.size w w' := by
  obtain ⟨v0, v1, v2, v3, v4, v5, v6, rfl⟩ := seven hR.len
  have HB := Lib.hid (Bx.new w [v0, v1, v2, v3, v4, v5, v6])
  have CP := Lib.hid (plc_ok 5 (by omega) (w.alloc (.cells #[v0, v1, v2, v3, v4, v5, v6] 25)) r _ ((hR.below HB.out.l).more HB.out.l.size) hw)
  have hp := plc_le 5 r hw
  have h2 : (124 : Nat) * 6 ^ 5 = 964224 := by decide
  rw [h2] at hp
  clear hR h2
  generalize plc 5 r = x at *
  have hx : ((x : Int) * 1) = x := by omega
  have HD := Lib.hid (show decide ((x : Int) ≤ 160) = decide (x ≤ 160) by rw [Bool.eq_iff_iff, decide_eq_true_eq, decide_eq_true_eq]; omega)
  go_enter Tryd.func12, Tryd.ntmps12
  go_wp2_with (first | (go_at_call 30; refine CP.out.mono ?_; rintro e w2 ⟨rfl, h2⟩; have H2 := Lib.hid (HB.out.go h2); clear h2) | fail)
  go_ret
  rw [← HD.out]
  exact ⟨rfl, H2.out.l⟩
set_option maxRecDepth 100000 in
theorem small_any (w : World) (r : Rx) (cs : List Value) (hR : RgC w w.heap.size 5 r cs) (hw : wf 3 5 r) :
    Calls Tryd.prog 25 #[.agg cs.toArray] w fun e w' => e = .returned (.bool (decide (plc 5 r ≤ 5))) ∧ Below w.heap.size w w' := by
  obtain ⟨v0, v1, v2, v3, v4, v5, v6, rfl⟩ := seven hR.len
  have HB := Lib.hid (Bx.new w [v0, v1, v2, v3, v4, v5, v6])
  have CP := Lib.hid (plc_ok 5 (by omega) (w.alloc (.cells #[v0, v1, v2, v3, v4, v5, v6] 25)) r _ ((hR.below HB.out.l).more HB.out.l.size) hw)
  have hp := plc_le 5 r hw
  have h2 : (124 : Nat) * 6 ^ 5 = 964224 := by decide
  rw [h2] at hp
  clear hR h2
  generalize plc 5 r = x at *
  have HD := Lib.hid (show decide ((x : Int) ≤ 5) = decide (x ≤ 5) by rw [Bool.eq_iff_iff, decide_eq_true_eq, decide_eq_true_eq]; omega)
  go_enter Tryd.func25, Tryd.ntmps25
  go_wp2_with (first | (go_at_call 30; refine CP.out.mono ?_; rintro e w2 ⟨rfl, h2⟩; have H2 := Lib.hid (HB.out.go h2); clear h2) | fail)
  go_ret
  rw [← HD.out]
  exact ⟨rfl, H2.out.l⟩
set_option maxRecDepth 100000 in
theorem refused_any (w : World) (r : Rx) (cs : List Value) (k : Int) (hR : RgC w w.heap.size 5 r cs) (hw : wf 3 5 r) (hk : k = 4 ∨ k = 5) :
    Calls Tryd.prog 14 #[.agg cs.toArray, .int .i64 k] w fun e w' => e = .returned (.bool (!decide (plc 5 r ≤ 5))) ∧ Below w.heap.size w w' := by
  obtain ⟨v0, v1, v2, v3, v4, v5, v6, rfl⟩ := seven hR.len
  have HB := Lib.hid (Bx.new w [v0, v1, v2, v3, v4, v5, v6])
  have CP := Lib.hid (small_any (w.alloc (.cells #[v0, v1, v2, v3, v4, v5, v6] 25)) r _ ((hR.below HB.out.l).more HB.out.l.size) hw)
  clear hR
  generalize decide (plc 5 r ≤ 5) = b at *
  rcases hk with rfl | rfl
  · go_enter Tryd.func14, Tryd.ntmps14
    go_wp2_with (first | (go_at_call 25; refine CP.out.mono ?_; rintro e w2 ⟨rfl, h2⟩; have H2 := Lib.hid (HB.out.go h2); clear h2) | fail)
    go_ret
    exact ⟨rfl, H2.out.l⟩
  · go_enter Tryd.func14, Tryd.ntmps14
    go_wp2_with (first | (go_at_call 25; refine CP.out.mono ?_; rintro e w2 ⟨rfl, h2⟩; have H2 := Lib.hid (HB.out.go h2); clear h2) | fail)
    go_ret
    exact ⟨rfl, H2.out.l⟩
set_option maxRecDepth 100000 in
theorem fits_any (op mn mx : Int) (lz fo : Bool) (ra : Option Addr) (rn rc : Nat) (sa : Option Addr) (sn sc : Nat) (w : World) :
    Calls Tryd.prog 8 #[.agg (rwc op mn mx lz fo ra rn rc sa sn sc).toArray] w fun e w' => e = .returned (.bool (decide (rn ≤ 2147483647 ∧ sn ≤ 2147483647))) ∧ Below w.heap.size w w' := by
  unfold rwc
  by_cases h1 : rn ≤ 2147483647
  · by_cases h2 : sn ≤ 2147483647
    · rw [decide_eq_true ⟨h1, h2⟩]
      have h1' : ¬ ((2147483647 : Int) < (rn : Int)) := by omega
      have h2' : ¬ ((2147483647 : Int) < (sn : Int)) := by omega
      go_enter Tryd.func8, Tryd.ntmps8
      go_wp2
      go_ret
      exact ⟨rfl, (Below.refl _ _).alloc (Nat.le_refl _) _⟩
    · rw [decide_eq_false (fun h => h2 h.2)]
      have h1' : ¬ ((2147483647 : Int) < (rn : Int)) := by omega
      have h2' : ((2147483647 : Int) < (sn : Int)) := by omega
      go_enter Tryd.func8, Tryd.ntmps8
      go_wp2
      go_ret
      exact ⟨rfl, (Below.refl _ _).alloc (Nat.le_refl _) _⟩
  · rw [decide_eq_false (fun h => h1 h.1)]
    have h1' : ((2147483647 : Int) < (rn : Int)) := by omega
    go_enter Tryd.func8, Tryd.ntmps8
    go_wp2
    go_ret
    exact ⟨rfl, (Below.refl _ _).alloc (Nat.le_refl _) _⟩
set_option maxRecDepth 100000 in
theorem wide_any (op mn mx : Int) (lz fo : Bool) (ra : Option Addr) (rn rc : Nat) (sa : Option Addr) (sn sc : Nat) (w : World) :
    Calls Tryd.prog 9 #[.agg (rwc op mn mx lz fo ra rn rc sa sn sc).toArray] w fun e w' => ∃ b : Bool, e = .returned (.bool b) ∧ Below w.heap.size w w' := by
  unfold rwc
  by_cases h1 : (rn : Int) ≤ 65536
  · go_enter Tryd.func9, Tryd.ntmps9
    go_wp2
    go_ret
    first | exact ⟨_, rfl, (Below.refl _ _).alloc (Nat.le_refl _) _⟩ | exact ⟨.inl rfl, (Below.refl _ _).alloc (Nat.le_refl _) _⟩
  · go_enter Tryd.func9, Tryd.ntmps9
    go_wp2
    go_ret
    first | exact ⟨_, rfl, (Below.refl _ _).alloc (Nat.le_refl _) _⟩ | exact ⟨.inl rfl, (Below.refl _ _).alloc (Nat.le_refl _) _⟩
end Go.Proofs.YtbkpgfccghombaaDoor.rx
