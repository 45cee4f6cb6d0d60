/-
  Places: the order in which they are added does not matter, in plain Lean. Conditions: none.
-/
import Derived.Test.YtgblmafollhojaaNormC
namespace Go.Proofs.Ytgblmafollhojaa
open Go.Sort (PermIn SortedIn)
set_option linter.unusedVariables false

/-- what is kept: of the list; none makes another one needless; each of the list is made needless by one -/
structure Kept (l m : List Pl) : Prop where
  sub : ∀ p ∈ m, p ∈ l
  anti : m.Pairwise (fun a b => impB a b = false ∧ impB b a = false)
  cov : ∀ p ∈ l, ∃ q ∈ m, impB q p = true

theorem Kept.add {l m : List Pl} (h : Kept l m) (n : Pl) : Kept (l ++ [n]) (addS m n) := by
  unfold addS
  split
  · rename_i hy
    obtain ⟨x, hx, hxn⟩ := List.any_eq_true.1 hy
    refine ⟨fun p hp => List.mem_append_left _ (h.sub p hp), h.anti, fun p hp => ?_⟩
    rcases List.mem_append.1 hp with hp | hp
    · exact h.cov p hp
    · simp at hp
      subst hp
      exact ⟨x, hx, hxn⟩
  · rename_i hno
    have hn : ∀ x ∈ m, impB x n = false := fun x hx => by
      cases hc : impB x n with
      | false => rfl
      | true => exact absurd (List.any_eq_true.2 ⟨x, hx, hc⟩) hno
    refine ⟨fun p hp => ?_, ?_, fun p hp => ?_⟩
    · rcases List.mem_append.1 hp with hp | hp
      · exact List.mem_append_left _ (h.sub p (List.mem_filter.1 hp).1)
      · exact List.mem_append_right _ hp
    · rw [List.pairwise_append]
      refine ⟨h.anti.filter _, List.pairwise_singleton _ _, fun a ha b hb => ?_⟩
      simp at hb
      subst hb
      obtain ⟨h1, h2⟩ := List.mem_filter.1 ha
      exact ⟨hn a h1, by simpa using h2⟩
    · rcases List.mem_append.1 hp with hp | hp
      · obtain ⟨q, hq, hqp⟩ := h.cov p hp
        cases hc : impB n q with
        | false => exact ⟨q, List.mem_append_left _ (List.mem_filter.2 ⟨hq, by simp [hc]⟩), hqp⟩
        | true => exact ⟨n, by simp, impB_trans n q p hc hqp⟩
      · simp at hp
        subst hp
        exact ⟨p, by simp, impB_refl p⟩

theorem kept_take (l : List Pl) : ∀ i, i ≤ l.length → Kept (l.take i) (addAll (l.take i))
  | 0, _ => ⟨fun p hp => by simp [addAll] at hp, by simp [addAll], fun p hp => by simp at hp⟩
  | i + 1, h => by
    rw [addAll_snoc l i (by omega), List.take_succ_eq_append_getElem (by omega)]
    exact (kept_take l i (by omega)).add _
theorem kept_all (l : List Pl) : Kept l (addAll l) := by
  have := kept_take l l.length (Nat.le_refl _)
  rwa [List.take_length] at this

theorem Kept.mem {l l' m m' : List Pl} (h : Kept l m) (h' : Kept l' m') (hm : ∀ p, p ∈ l ↔ p ∈ l') (p : Pl) (hp : p ∈ m) : p ∈ m' := by
  obtain ⟨q, hq, hqp⟩ := h'.cov p ((hm p).1 (h.sub p hp))
  obtain ⟨r, hr, hrq⟩ := h.cov q ((hm q).2 (h'.sub q hq))
  have hrp := impB_trans r q p hrq hqp
  have e : r = p := by
    rcases List.getElem_of_mem hr with ⟨i, hi, rfl⟩
    rcases List.getElem_of_mem hp with ⟨j, hj, rfl⟩
    rcases Nat.lt_trichotomy i j with hij | rfl | hij
    · have := (List.pairwise_iff_getElem.1 h.anti i j hi hj hij).1
      rw [this] at hrp
      cases hrp
    · rfl
    · have := (List.pairwise_iff_getElem.1 h.anti j i hj hi hij).2
      rw [this] at hrp
      cases hrp
  subst e
  rw [impB_anti r q hrq hqp]
  exact hq

theorem Kept.nodup {l m : List Pl} (h : Kept l m) : m.Nodup := h.anti.imp fun {a b} hab e => by
  subst e
  have := impB_refl a
  rw [hab.1] at this
  cases this

theorem perm_of_mem {α : Type} [DecidableEq α] : ∀ {l l' : List α}, l.Nodup → l'.Nodup → (∀ p, p ∈ l ↔ p ∈ l') → l.Perm l' := by
  intro l l' h h' hm
  rw [List.perm_iff_count]
  intro a
  rw [h.count, h'.count]
  simp only [hm a]

theorem kept_perm {l l' : List Pl} (hm : ∀ p, p ∈ l ↔ p ∈ l') : (addAll l).Perm (addAll l') :=
  perm_of_mem (kept_all l).nodup (kept_all l').nodup fun p => ⟨(kept_all l).mem (kept_all l') hm p, (kept_all l').mem (kept_all l) (fun q => (hm q).symm) p⟩

theorem mo_least (l : List Pl) (x : Int) (h : ∀ p ∈ l, x ≤ p.1) : ∀ m, x ≤ m → x ≤ l.foldl (fun m p => min m (p.1 : Int)) m := by
  induction l with
  | nil => exact fun m hm => hm
  | cons q l ih =>
    intro m hm
    have := h q (by simp)
    exact ih (fun p hp => h p (by simp [hp])) _ (show x ≤ min m (q.1 : Int) by omega)
theorem minO_perm {l l' : List Pl} (h : l.Perm l') : minO l = minO l' := by
  unfold minO
  by_cases h0 : l = []
  · subst h0
    rw [if_pos rfl, if_pos (List.nil_perm.1 h)]
  · rw [if_neg h0, if_neg (fun e => h0 (by subst e; exact List.perm_nil.1 h))]
    have a1 := mo_least l (mo l') (fun p hp => (mo_le l' _).2 p (h.mem_iff.1 hp)) _ (mo_le l' _).1
    have a2 := mo_least l' (mo l) (fun p hp => (mo_le l _).2 p (h.mem_iff.2 hp)) _ (mo_le l _).1
    exact Int.le_antisymm a2 a1

theorem permIn_of {d d' : Array Pl} (h : d.toList.Perm d'.toList) : PermIn 0 d.size d d' := by
  have hs : d'.size = d.size := by simpa using h.length_eq.symm
  refine ⟨hs, fun i hi => ?_, ?_⟩
  · rcases hi with hi | hi
    · omega
    · rw [getElem!_neg d' i (by omega), getElem!_neg d i (by omega)]
  · have e1 : (d'.extract 0 d.size).toList = d'.toList := by
      rw [Array.toList_extract]
      simp [List.extract]
      rw [List.take_of_length_le (by simp [hs])]
    have e2 : (d.extract 0 d.size).toList = d.toList := by
      rw [Array.toList_extract]
      simp [List.extract]
      rw [List.take_of_length_le (by simp)]
    rw [e1, e2]
    exact h.symm

theorem srtd_eq {a b : List Pl} (h : a.Perm b) (ha : Srtd a) (hb : Srtd b) : a = b := by
  have key : ∀ c : List Pl, a.Perm c → Srtd c → c = a.mergeSort (fun x y => !ltP y x) := by
    intro c hc hs
    have := Go.Sort.sorted_unique_holds (lt := ltP) swoP ltP_total a.toArray c.toArray (permIn_of (by simpa using hc)) (by
      intro i j _ hij hj
      have hj' : j < c.length := by
        have := hc.length_eq
        simp at hj
        omega
      have := hs i j (by omega) hj' hij
      rw [getElem!_pos c.toArray i (by simp; omega), getElem!_pos c.toArray j (by simpa using hj')]
      simpa using this)
    simpa using this
  rw [key a (List.Perm.refl _) ha, ← key b h hb]

/-- the same places, in whatever order: the same set -/
theorem set0_eq {l l' a b : List Pl} (hm : ∀ p, p ∈ l ↔ p ∈ l') (ha : Set0 l a) (hb : Set0 l' b) : a = b := by
  have hp := kept_perm hm
  have h1 := ha.1
  have h2 := hb.1
  rw [← minO_perm hp] at h2
  exact srtd_eq (h1.trans ((hp.map _).trans h2.symm)) ha.2 hb.2
theorem set0_ne {l a : List Pl} (h0 : 0 < l.length) (ha : Set0 l a) : 0 < a.length := by
  have := ha.1.length_eq
  rw [List.length_map] at this
  rcases Nat.eq_zero_or_pos (addAll l).length with h | h
  · exact absurd (List.eq_nil_of_length_eq_zero h) (addAll_ne l h0)
  · omega

end Go.Proofs.Ytgblmafollhojaa
