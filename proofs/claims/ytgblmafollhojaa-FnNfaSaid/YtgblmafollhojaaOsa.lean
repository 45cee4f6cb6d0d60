/-
  FnNfa, the plain law: places, moved on letter by letter, tell the distance (with swaps of letters side by side). Conditions: none.
-/
import Derived.Test.YtgblmafollhojaaTrD
import Derived.Test.YtgblmafollhojaaDistS
namespace Go.Proofs.Ytgblmafollhojaa
set_option linter.unusedVariables false

section
variable (sw : Bool) (xs ys : List Int)

theorem D_cases (i k : Nat) :
    eds sw xs ys (i + 1) (k + 1) = eds sw xs ys i (k + 1) + 1 ∨ eds sw xs ys (i + 1) (k + 1) = eds sw xs ys (i + 1) k + 1 ∨ eds sw xs ys (i + 1) (k + 1) = eds sw xs ys i k + 1 ∨
    (xs.getD i 0 = ys.getD k 0 ∧ eds sw xs ys (i + 1) (k + 1) = eds sw xs ys i k) ∨
    (sw = true ∧ 0 < i ∧ 0 < k ∧ xs.getD i 0 = ys.getD (k - 1) 0 ∧ xs.getD (i - 1) 0 = ys.getD k 0 ∧ eds sw xs ys (i + 1) (k + 1) = eds sw xs ys (i - 1) (k - 1) + 1) := by
  have h := eds_succ sw xs ys i k
  by_cases hb : swB sw i k (xs.getD i 0) (ys.getD k 0) (xs.getD (i - 1) 0) (ys.getD (k - 1) 0) = true
  · rw [if_pos hb] at h
    unfold swB at hb
    simp only [Bool.and_eq_true, decide_eq_true_eq] at hb
    obtain ⟨⟨⟨⟨h1, h2⟩, h3⟩, h4⟩, h5⟩ := hb
    by_cases hm : xs.getD i 0 = ys.getD k 0
    · rw [if_pos hm] at h
      have h6 : eds sw xs ys (i + 1) (k + 1) = eds sw xs ys i (k + 1) + 1 ∨ eds sw xs ys (i + 1) (k + 1) = eds sw xs ys (i + 1) k + 1 ∨ eds sw xs ys (i + 1) (k + 1) = eds sw xs ys i k ∨ eds sw xs ys (i + 1) (k + 1) = eds sw xs ys (i - 1) (k - 1) + 1 := by omega
      rcases h6 with h6 | h6 | h6 | h6
      · exact .inl h6
      · exact .inr (.inl h6)
      · exact .inr (.inr (.inr (.inl ⟨hm, h6⟩)))
      · exact .inr (.inr (.inr (.inr ⟨h1, h2, h3, h4, h5, h6⟩)))
    · rw [if_neg hm] at h
      have h6 : eds sw xs ys (i + 1) (k + 1) = eds sw xs ys i (k + 1) + 1 ∨ eds sw xs ys (i + 1) (k + 1) = eds sw xs ys (i + 1) k + 1 ∨ eds sw xs ys (i + 1) (k + 1) = eds sw xs ys i k + 1 ∨ eds sw xs ys (i + 1) (k + 1) = eds sw xs ys (i - 1) (k - 1) + 1 := by omega
      rcases h6 with h6 | h6 | h6 | h6
      · exact .inl h6
      · exact .inr (.inl h6)
      · exact .inr (.inr (.inl h6))
      · exact .inr (.inr (.inr (.inr ⟨h1, h2, h3, h4, h5, h6⟩)))
  · rw [if_neg hb] at h
    by_cases hm : xs.getD i 0 = ys.getD k 0
    · rw [if_pos hm] at h
      simp only [hm, true_and]
      omega
    · rw [if_neg hm] at h
      omega

theorem D_up (i k : Nat) : eds sw xs ys (i + 1) (k + 1) ≤ eds sw xs ys i (k + 1) + 1 ∧ eds sw xs ys (i + 1) (k + 1) ≤ eds sw xs ys (i + 1) k + 1 ∧ eds sw xs ys (i + 1) (k + 1) ≤ eds sw xs ys i k + 1 ∧
    (xs.getD i 0 = ys.getD k 0 → eds sw xs ys (i + 1) (k + 1) ≤ eds sw xs ys i k) ∧
    (sw = true → 0 < i → 0 < k → xs.getD i 0 = ys.getD (k - 1) 0 → xs.getD (i - 1) 0 = ys.getD k 0 → eds sw xs ys (i + 1) (k + 1) ≤ eds sw xs ys (i - 1) (k - 1) + 1) := by
  have h := eds_succ sw xs ys i k
  by_cases hb : swB sw i k (xs.getD i 0) (ys.getD k 0) (xs.getD (i - 1) 0) (ys.getD (k - 1) 0) = true
  · rw [if_pos hb] at h
    by_cases hm : xs.getD i 0 = ys.getD k 0
    · rw [if_pos hm] at h
      refine ⟨by omega, by omega, by omega, fun _ => by omega, fun _ _ _ _ _ => by omega⟩
    · rw [if_neg hm] at h
      refine ⟨by omega, by omega, by omega, fun h2 => absurd h2 hm, fun _ _ _ _ _ => by omega⟩
  · have hn : ∀ (_ : sw = true) (_ : 0 < i) (_ : 0 < k) (_ : xs.getD i 0 = ys.getD (k - 1) 0) (_ : xs.getD (i - 1) 0 = ys.getD k 0), False := fun h1 h2 h3 h4 h5 => hb (by
      unfold swB
      simp only [Bool.and_eq_true, decide_eq_true_eq]
      exact ⟨⟨⟨⟨h1, h2⟩, h3⟩, h4⟩, h5⟩)
    rw [if_neg hb] at h
    by_cases hm : xs.getD i 0 = ys.getD k 0
    · rw [if_pos hm] at h
      exact ⟨by omega, by omega, by omega, fun _ => by omega, fun h1 h2 h3 h4 h5 => (hn h1 h2 h3 h4 h5).elim⟩
    · rw [if_neg hm] at h
      exact ⟨by omega, by omega, by omega, fun h2 => absurd h2 hm, fun h1 h2 h3 h4 h5 => (hn h1 h2 h3 h4 h5).elim⟩

theorem D_ins (i k : Nat) : eds sw xs ys i (k + 1) ≤ eds sw xs ys i k + 1 := by
  cases i with
  | zero => rw [eds_zero, eds_zero]; omega
  | succ i => exact (D_up sw xs ys i k).2.1
theorem D_del (i k : Nat) : eds sw xs ys (i + 1) k ≤ eds sw xs ys i k + 1 := by
  cases k with
  | zero => rw [eds_left, eds_left]; omega
  | succ k => exact (D_up sw xs ys i k).1
theorem D_sub (i k : Nat) : eds sw xs ys (i + 1) (k + 1) ≤ eds sw xs ys i k + 1 := (D_up sw xs ys i k).2.2.1
theorem D_mat (i k : Nat) (h : xs.getD i 0 = ys.getD k 0) : eds sw xs ys (i + 1) (k + 1) ≤ eds sw xs ys i k := (D_up sw xs ys i k).2.2.2.1 h
theorem D_dels (i k : Nat) : ∀ d, eds sw xs ys (i + d) k ≤ eds sw xs ys i k + d
  | 0 => by simp
  | d + 1 => by
    have h1 := D_dels i k d
    have h2 := D_del sw xs ys (i + d) k
    have e : i + (d + 1) = i + d + 1 := by omega
    rw [e]
    omega
theorem D_back (i : Nat) : ∀ k, eds sw xs ys i k ≤ eds sw xs ys (i + 1) k + 1
  | 0 => by rw [eds_left, eds_left]; omega
  | k + 1 => by
    have h1 := D_ins sw xs ys i k
    rcases D_cases sw xs ys i k with h | h | h | ⟨_, h⟩ | ⟨_, hi, hk, _, _, h⟩
    · omega
    · have := D_back i k
      omega
    · omega
    · omega
    · obtain ⟨i, rfl⟩ : ∃ j, i = j + 1 := ⟨i - 1, by omega⟩
      obtain ⟨k, rfl⟩ : ∃ j, k = j + 1 := ⟨k - 1, by omega⟩
      have h2 := D_sub sw xs ys i (k + 1)
      have h3 := D_ins sw xs ys i k
      simp only [Nat.add_sub_cancel] at h
      omega
theorem D_backs (i k : Nat) : ∀ d, eds sw xs ys i k ≤ eds sw xs ys (i + d) k + d
  | 0 => by simp
  | d + 1 => by
    have h1 := D_backs i k d
    have h2 := D_back sw xs ys (i + d) k
    have e : i + (d + 1) = i + d + 1 := by omega
    rw [e]
    omega
theorem D_gap (i j k : Nat) : eds sw xs ys j k ≤ eds sw xs ys i k + gap i j := by
  unfold gap
  rcases Nat.le_total i j with h | h
  · have := D_dels sw xs ys i k (j - i)
    rw [show i + (j - i) = j by omega] at this
    omega
  · have := D_backs sw xs ys j k (i - j)
    rw [show j + (i - j) = i by omega] at this
    omega
end

/-- the bit d of a place's letters -/
theorem bit_iff (q : List Int) (c : Int) (o m d : Nat) : (cvN (chiN q c q.length) o m).testBit d = true ↔ o + d < q.length ∧ q.getD (o + d) 0 = c ∧ d < 2 * m + 1 := by
  rw [cvN_bit, chiN_bit]
  simp only [Bool.and_eq_true, decide_eq_true_eq, and_assoc]

theorem impB_le {r p : Pl} (h : impB r p = true) : r.2.1 + gap r.1 p.1 ≤ p.2.1 := by
  unfold impB at h
  split at h
  · exact of_decide_eq_true h
  · have := of_decide_eq_true h
    omega

/-- what places tell is never too little -/
structure Snd (sw : Bool) (xs ys : List Int) (k : Nat) (S : List Pl) : Prop where
  d : ∀ p ∈ S, eds sw xs ys p.1 k ≤ p.2.1
  t : ∀ p ∈ S, p.2.2 = true → sw = true ∧ 0 < k ∧ xs.getD (p.1 + 1) 0 = ys.getD (k - 1) 0 ∧ eds sw xs ys p.1 (k - 1) + 1 ≤ p.2.1

theorem snd_zero (sw : Bool) (xs ys : List Int) : Snd sw xs ys 0 [(0, 0, false)] :=
  ⟨fun p hp => by simp at hp; subst hp; simp [eds_zero], fun p hp h => by simp at hp; subst hp; simp at h⟩

theorem Snd.step {sw : Bool} {xs ys : List Int} {k m : Nat} {S S' : List Pl} (h : Snd sw xs ys k S) (hs : Stepped m sw (chiN xs (ys.getD k 0) xs.length) S S') : Snd sw xs ys (k + 1) S' := by
  have hmem : ∀ p ∈ S', ∃ s ∈ S, p ∈ mvs m sw (cvN (chiN xs (ys.getD k 0) xs.length) s.1 m) s := fun p hp => by
    have := (kept_all _).sub p (hs.1.mem_iff.1 hp)
    unfold stepL at this
    exact List.mem_flatMap.1 this
  have key : ∀ p ∈ S', eds sw xs ys p.1 (k + 1) ≤ p.2.1 ∧ (p.2.2 = true → sw = true ∧ xs.getD (p.1 + 1) 0 = ys.getD k 0 ∧ eds sw xs ys p.1 k + 1 ≤ p.2.1) := fun p hp => by
    obtain ⟨s, hs1, hp1⟩ := hmem p hp
    have hd := h.d s hs1
    rcases mem_mvs.1 hp1 with ⟨h1, rfl | rfl | ⟨d, h2, h3, hb, rfl⟩ | ⟨hsw, hb, rfl⟩⟩ | ⟨hb, rfl⟩ | ⟨ht, hb, rfl⟩
    · exact ⟨by have := D_ins sw xs ys s.1 k; simp only; omega, fun h => by simp at h⟩
    · exact ⟨by have := D_sub sw xs ys s.1 k; simp only; omega, fun h => by simp at h⟩
    · rw [bit_iff] at hb
      have h4 := D_mat sw xs ys (s.1 + d) k hb.2.1
      have h5 := D_dels sw xs ys s.1 k d
      exact ⟨by simp only; rw [show s.1 + 1 + d = s.1 + d + 1 by omega]; omega, fun h => by simp at h⟩
    · rw [bit_iff] at hb
      exact ⟨by have := D_ins sw xs ys s.1 k; simp only; omega, fun _ => ⟨hsw, hb.2.1, by simp only; omega⟩⟩
    · rw [bit_iff] at hb
      exact ⟨by have := D_mat sw xs ys s.1 k (by simpa using hb.2.1); simp only; omega, fun h => by simp at h⟩
    · rw [bit_iff] at hb
      obtain ⟨t1, t2, t3, t4⟩ := h.t s hs1 ht
      have h6 := (D_up sw xs ys (s.1 + 1) k).2.2.2.2 t1 (by omega) t2 t3 (by simpa using hb.2.1)
      rw [show s.1 + 1 - 1 = s.1 by omega] at h6
      exact ⟨by simp only; rw [show s.1 + 2 = s.1 + 1 + 1 by omega]; omega, fun h => by simp at h⟩
  exact ⟨fun p hp => (key p hp).1, fun p hp ht => by
    obtain ⟨h1, h2, h3⟩ := (key p hp).2 ht
    exact ⟨h1, by omega, by simpa using h2, by simpa using h3⟩⟩

/-- a place tells so much of i -/
def cvr (S : List Pl) (i E : Nat) : Prop := ∃ p ∈ S, p.2.1 + gap p.1 i ≤ E

section
variable {sw : Bool} {q : List Int} {c : Int} {m : Nat} {S S' : List Pl}

theorem cvr_of (hs : Stepped m sw (chiN q c q.length) S S') {s p : Pl} (h1 : s ∈ S) (h2 : p ∈ mvs m sw (cvN (chiN q c q.length) s.1 m) s) : ∃ r ∈ S', impB r p = true := by
  obtain ⟨r, hr, hi⟩ := (kept_all (stepL m sw (chiN q c q.length) S)).cov p (List.mem_flatMap.2 ⟨s, h1, h2⟩)
  exact ⟨r, hs.1.mem_iff.2 hr, hi⟩
theorem cvr_mv (hs : Stepped m sw (chiN q c q.length) S S') {s p : Pl} (h1 : s ∈ S) (h2 : p ∈ mvs m sw (cvN (chiN q c q.length) s.1 m) s) {i E : Nat} (h : p.2.1 + gap p.1 i ≤ E) : cvr S' i E := by
  obtain ⟨r, hr, hi⟩ := cvr_of hs h1 h2
  refine ⟨r, hr, ?_⟩
  have := impB_le hi
  unfold gap at *
  omega
theorem cvr_del {i E : Nat} (h : cvr S i E) : cvr S (i + 1) (E + 1) := by
  obtain ⟨p, hp, h⟩ := h
  refine ⟨p, hp, ?_⟩
  unfold gap at *
  omega
theorem cvr_mono {i E E' : Nat} (h : cvr S i E) (hE : E ≤ E') : cvr S i E' := by
  obtain ⟨p, hp, h⟩ := h
  exact ⟨p, hp, by omega⟩
theorem cvr_ins (hs : Stepped m sw (chiN q c q.length) S S') {i E : Nat} (h : cvr S i E) (hE : E < m) : cvr S' i (E + 1) := by
  obtain ⟨p, hp, h⟩ := h
  refine cvr_mv hs hp (p := (p.1, p.2.1 + 1, false)) (mem_mvs.2 (.inl ⟨by omega, .inl rfl⟩)) ?_
  simp only
  omega
theorem cvr_sub (hs : Stepped m sw (chiN q c q.length) S S') {i E : Nat} (h : cvr S i E) (hE : E < m) : cvr S' (i + 1) (E + 1) := by
  obtain ⟨p, hp, h⟩ := h
  refine cvr_mv hs hp (p := (p.1 + 1, p.2.1 + 1, false)) (mem_mvs.2 (.inl ⟨by omega, .inr (.inl rfl)⟩)) ?_
  simp only
  unfold gap at *
  omega
theorem cvr_mat (hs : Stepped m sw (chiN q c q.length) S S') {i E : Nat} (h : cvr S i E) (hE : E ≤ m) (hi : i < q.length) (hc : q.getD i 0 = c) : cvr S' (i + 1) E := by
  obtain ⟨p, hp, h⟩ := h
  rcases Nat.lt_trichotomy p.1 i with hlt | heq | hgt
  · have hg : gap p.1 i = i - p.1 := by unfold gap; omega
    refine cvr_mv hs hp (p := (p.1 + 1 + (i - p.1), p.2.1 + (i - p.1), false)) (mem_mvs.2 (.inl ⟨by omega, .inr (.inr (.inl ⟨i - p.1, by omega, by omega, ?_, rfl⟩))⟩)) ?_
    · rw [bit_iff, show p.1 + (i - p.1) = i by omega]
      exact ⟨hi, hc, by omega⟩
    · simp only
      unfold gap at *
      omega
  · refine cvr_mv hs hp (p := (p.1 + 1, p.2.1, false)) (mem_mvs.2 (.inr (.inl ⟨?_, rfl⟩))) ?_
    · rw [bit_iff, Nat.add_zero, heq]
      exact ⟨hi, hc, by omega⟩
    · simp only
      unfold gap at *
      omega
  · have hg : gap p.1 i = p.1 - i := by unfold gap; omega
    refine cvr_mv hs hp (p := (p.1, p.2.1 + 1, false)) (mem_mvs.2 (.inl ⟨by omega, .inl rfl⟩)) ?_
    simp only
    unfold gap at *
    omega

/-- two letters that have changed places -/
theorem cvr_swp {a b : Int} {S1 S2 : List Pl} (hs1 : Stepped m true (chiN q b q.length) S S1) (hs2 : Stepped m true (chiN q a q.length) S1 S2) {i E : Nat} (h : cvr S i E) (hE : E < m) (hi : i + 1 < q.length)
    (ha : q.getD i 0 = a) (hb : q.getD (i + 1) 0 = b) (hab : a ≠ b) : cvr S2 (i + 2) (E + 1) := by
  have partA : cvr S1 i E → cvr S2 (i + 2) (E + 1) := fun h => cvr_del (cvr_mat hs2 h (by omega) (by omega) ha)
  have partB : ∀ r ∈ S1, i < r.1 → r.2.1 + (r.1 - i) ≤ E + 1 → cvr S2 (i + 2) (E + 1) := fun r hr h1 h2 => by
    refine cvr_mv hs2 hr (p := (r.1 + 1, r.2.1 + 1, false)) (mem_mvs.2 (.inl ⟨by omega, .inr (.inl rfl)⟩)) ?_
    simp only
    unfold gap
    omega
  obtain ⟨p, hp, h⟩ := h
  rcases Nat.lt_trichotomy p.1 i with hlt | heq | hgt
  · refine partA (cvr_mv hs1 hp (p := (p.1 + 1, p.2.1 + 1, false)) (mem_mvs.2 (.inl ⟨by omega, .inr (.inl rfl)⟩)) ?_)
    simp only
    unfold gap at *
    omega
  · have hpe : p.2.1 ≤ E := by omega
    obtain ⟨r, hr, hri⟩ := cvr_of hs1 hp (p := (p.1, p.2.1 + 1, true)) (mem_mvs.2 (.inl ⟨by omega, .inr (.inr (.inr ⟨rfl, by
      rw [bit_iff, heq]
      exact ⟨hi, hb, by omega⟩, rfl⟩))⟩))
    have hle := impB_le hri
    simp only at hle
    cases ht : r.2.2 with
    | false =>
      unfold impB at hri
      rw [if_neg (by simp [ht])] at hri
      have hlt := of_decide_eq_true hri
      simp only at hlt
      exact partA ⟨r, hr, by rw [← heq]; omega⟩
    | true =>
      rcases Nat.lt_trichotomy r.1 i with h1 | h1 | h1
      · have hm := (kept_all _).sub r (hs1.1.mem_iff.1 hr)
        unfold stepL at hm
        obtain ⟨s, hsS, hrs⟩ := List.mem_flatMap.1 hm
        rcases mem_mvs.1 hrs with ⟨h2, e | e | ⟨d, _, _, _, e⟩ | ⟨_, hbit, e⟩⟩ | ⟨_, e⟩ | ⟨_, _, e⟩
        · rw [e] at ht; simp at ht
        · rw [e] at ht; simp at ht
        · rw [e] at ht; simp at ht
        · have e1 : r.1 = s.1 := by rw [e]
          have e2 : r.2.1 = s.2.1 + 1 := by rw [e]
          have hbit2 := hbit
          rw [bit_iff] at hbit2
          have hne : s.1 + 1 ≠ i := fun e3 => hab (by rw [← ha, ← hbit2.2.1, e3])
          refine partA (cvr_mv hs1 hsS (p := (s.1 + 1 + 1, s.2.1 + 1, false)) (mem_mvs.2 (.inl ⟨h2, .inr (.inr (.inl ⟨1, by omega, by omega, hbit, rfl⟩))⟩)) ?_)
          simp only
          unfold gap at *
          omega
        · rw [e] at ht; simp at ht
        · rw [e] at ht; simp at ht
      · refine cvr_mv hs2 hr (p := (r.1 + 2, r.2.1, false)) (mem_mvs.2 (.inr (.inr ⟨ht, ?_, rfl⟩))) ?_
        · rw [bit_iff, Nat.add_zero, h1]
          exact ⟨by omega, ha, by omega⟩
        · simp only
          unfold gap at *
          omega
      · refine partB r hr h1 ?_
        unfold gap at *
        omega
  · obtain ⟨r, hr, hri⟩ := cvr_of hs1 hp (p := (p.1, p.2.1 + 1, false)) (mem_mvs.2 (.inl ⟨by unfold gap at h; omega, .inl rfl⟩))
    have hle := impB_le hri
    simp only at hle
    by_cases h1 : i < r.1
    · refine partB r hr h1 ?_
      unfold gap at *
      omega
    · refine partA ⟨r, hr, ?_⟩
      unfold gap at *
      omega
end

/-- the places, letter by letter -/
structure Chain (m : Nat) (sw : Bool) (xs ys : List Int) (K : Nat) (S : Nat → List Pl) : Prop where
  z : S 0 = [(0, 0, false)]
  s : ∀ k, k < K → Stepped m sw (chiN xs (ys.getD k 0) xs.length) (S k) (S (k + 1))

theorem chain_snd {m : Nat} {sw : Bool} {xs ys : List Int} {K : Nat} {S : Nat → List Pl} (h : Chain m sw xs ys K S) : ∀ k, k ≤ K → Snd sw xs ys k (S k)
  | 0, _ => by rw [h.z]; exact snd_zero _ _ _
  | k + 1, hk => (chain_snd h k (by omega)).step (h.s k (by omega))

theorem chain_cvr {m : Nat} {sw : Bool} {xs ys : List Int} {K : Nat} {S : Nat → List Pl} (h : Chain m sw xs ys K S) : ∀ (k i : Nat), k ≤ K → i ≤ xs.length → eds sw xs ys i k ≤ m → cvr (S k) i (eds sw xs ys i k)
  | 0, i, _, _, _ => by
    rw [h.z, eds_left]
    exact ⟨_, List.mem_singleton.2 rfl, by simp [gap]⟩
  | k + 1, 0, hk, _, hm => by
    have := chain_cvr h k 0 (by omega) (by omega) (by rw [eds_zero] at *; omega)
    rw [eds_zero] at *
    exact cvr_ins (h.s k (by omega)) this (by omega)
  | k + 1, i + 1, hk, hi, hm => by
    rcases D_cases sw xs ys i k with e | e | e | ⟨hc, e⟩ | ⟨hsw, hi0, hk0, h1, h2, e⟩
    · rw [e]
      exact cvr_del (chain_cvr h (k + 1) i hk (by omega) (by omega))
    · rw [e]
      exact cvr_ins (h.s k (by omega)) (chain_cvr h k (i + 1) (by omega) hi (by omega)) (by omega)
    · rw [e]
      exact cvr_sub (h.s k (by omega)) (chain_cvr h k i (by omega) (by omega) (by omega)) (by omega)
    · rw [e]
      exact cvr_mat (h.s k (by omega)) (chain_cvr h k i (by omega) (by omega) (by omega)) (by omega) (by omega) hc
    · obtain ⟨i, rfl⟩ : ∃ j, i = j + 1 := ⟨i - 1, by omega⟩
      obtain ⟨k, rfl⟩ : ∃ j, k = j + 1 := ⟨k - 1, by omega⟩
      simp only [Nat.add_sub_cancel] at h1 h2 e
      rw [e]
      subst hsw
      have hab : ys.getD (k + 1) 0 ≠ ys.getD k 0 := fun he => by
        have d1 := D_mat true xs ys (i + 1) (k + 1) (by rw [h1, he])
        have d2 := D_mat true xs ys i k (by rw [h2, he])
        omega
      exact cvr_swp (h.s k (by omega)) (h.s (k + 1) (by omega)) (chain_cvr h k i (by omega) (by omega) (by omega)) (by omega) (by omega) h2 h1 hab
termination_by k i => k + i

/-- what the places tell -/
def tells (m n : Nat) (S : List Pl) : Nat := S.foldl (fun a p => if p.2.1 + gap p.1 n ≤ m ∧ p.2.1 + gap p.1 n < a then p.2.1 + gap p.1 n else a) (m + 1)
theorem tells_fold (m n : Nat) : ∀ (S : List Pl) (a : Nat), (∀ p ∈ S, p.2.1 + gap p.1 n ≤ m → S.foldl (fun a p => if p.2.1 + gap p.1 n ≤ m ∧ p.2.1 + gap p.1 n < a then p.2.1 + gap p.1 n else a) a ≤ p.2.1 + gap p.1 n) ∧
    (S.foldl (fun a p => if p.2.1 + gap p.1 n ≤ m ∧ p.2.1 + gap p.1 n < a then p.2.1 + gap p.1 n else a) a = a ∨ ∃ p ∈ S, p.2.1 + gap p.1 n ≤ m ∧ S.foldl (fun a p => if p.2.1 + gap p.1 n ≤ m ∧ p.2.1 + gap p.1 n < a then p.2.1 + gap p.1 n else a) a = p.2.1 + gap p.1 n) ∧
    S.foldl (fun a p => if p.2.1 + gap p.1 n ≤ m ∧ p.2.1 + gap p.1 n < a then p.2.1 + gap p.1 n else a) a ≤ a
  | [], a => ⟨fun p hp => by simp at hp, .inl rfl, Nat.le_refl _⟩
  | s :: S, a => by
    simp only [List.foldl_cons]
    by_cases hc : s.2.1 + gap s.1 n ≤ m ∧ s.2.1 + gap s.1 n < a
    · rw [if_pos hc]
      obtain ⟨h1, h2, h3⟩ := tells_fold m n S (s.2.1 + gap s.1 n)
      refine ⟨fun p hp hm => ?_, ?_, by omega⟩
      · rcases List.mem_cons.1 hp with rfl | hp
        · exact h3
        · exact h1 p hp hm
      · rcases h2 with h2 | ⟨p, hp, h4, h5⟩
        · exact .inr ⟨s, by simp, hc.1, h2⟩
        · exact .inr ⟨p, by simp [hp], h4, h5⟩
    · rw [if_neg hc]
      obtain ⟨h1, h2, h3⟩ := tells_fold m n S a
      refine ⟨fun p hp hm => ?_, ?_, h3⟩
      · rcases List.mem_cons.1 hp with rfl | hp
        · omega
        · exact h1 p hp hm
      · rcases h2 with h2 | ⟨p, hp, h4, h5⟩
        · exact .inl h2
        · exact .inr ⟨p, by simp [hp], h4, h5⟩

theorem tells_eq {m : Nat} {sw : Bool} {xs ys : List Int} {K : Nat} {S : Nat → List Pl} (h : Chain m sw xs ys K S) : tells m xs.length (S K) = min (eds sw xs ys xs.length K) (m + 1) := by
  obtain ⟨h1, h2, h3⟩ := tells_fold m xs.length (S K) (m + 1)
  unfold tells
  have hs := chain_snd h K (Nat.le_refl _)
  have lo : ∀ p ∈ S K, eds sw xs ys xs.length K ≤ p.2.1 + gap p.1 xs.length := fun p hp => by
    have := hs.d p hp
    have := D_gap sw xs ys p.1 xs.length K
    omega
  generalize (S K).foldl (fun a p => if p.2.1 + gap p.1 xs.length ≤ m ∧ p.2.1 + gap p.1 xs.length < a then p.2.1 + gap p.1 xs.length else a) (m + 1) = R at *
  by_cases hm : eds sw xs ys xs.length K ≤ m
  · obtain ⟨p, hp, hle⟩ := chain_cvr h K xs.length (Nat.le_refl _) (Nat.le_refl _) hm
    have a1 := h1 p hp (by omega)
    rcases h2 with h2 | ⟨p', hp', h4, h5⟩
    · omega
    · have := lo p' hp'
      omega
  · rcases h2 with h2 | ⟨p', hp', h4, h5⟩
    · omega
    · have := lo p' hp'
      omega

end Go.Proofs.Ytgblmafollhojaa
