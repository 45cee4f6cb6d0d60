/-
  FnImplies: the distance from a place on changes by at most one from place to place. Conditions: none.
-/
import Derived.Test.YtpmkkajbmdoflabEdit
namespace Go.Proofs.Ytpmkkajbmdoflab
theorem ed_ge (xs ys : List Int) : ∀ (n i k : Nat), i + k ≤ n → k ≤ ed xs ys i k + i ∧ i ≤ ed xs ys i k + k
  | _, 0, k, _ => by rw [ed_zero]; omega
  | _, i + 1, 0, _ => by rw [ed_left]; omega
  | n + 1, i + 1, k + 1, h => by
    have h1 := ed_ge xs ys n i (k + 1) (by omega)
    have h2 := ed_ge xs ys n (i + 1) k (by omega)
    have h3 := ed_ge xs ys n i k (by omega)
    rw [ed_succ]
    split <;> omega
  | 0, _ + 1, _ + 1, h => by omega

theorem ed_cons (x : Int) (xs ys : List Int) : ∀ (n i k : Nat), i + k ≤ n → ed (x :: xs) ys (i + 1) k ≤ ed xs ys i k + 1 ∧ ed xs ys i k ≤ ed (x :: xs) ys (i + 1) k + 1
  | n, i, 0, _ => by rw [ed_left, ed_left]; omega
  | n, 0, k + 1, _ => by
    have h1 := ed_ge (x :: xs) ys _ 1 (k + 1) (Nat.le_refl _)
    have h3 : ∀ k, ed (x :: xs) ys 1 k ≤ k + 1 := fun k => by
      have := ed_le (x :: xs) ys _ 1 k (Nat.le_refl _)
      omega
    have h4 := h3 (k + 1)
    rw [ed_zero, Nat.zero_add]
    omega
  | n + 1, i + 1, k + 1, h => by
    have h1 := ed_cons x xs ys n i (k + 1) (by omega)
    have h2 := ed_cons x xs ys n (i + 1) k (by omega)
    have h3 := ed_cons x xs ys n i k (by omega)
    rw [ed_succ (x :: xs) ys (i + 1) k, ed_succ xs ys i k, List.getD_cons_succ]
    split <;> omega
  | 0, _ + 1, _ + 1, h => by omega

/-- what is read, from a place on -/
def rest_ (q l : List Int) (o : Nat) : Nat := ed (q.drop o) l (q.length - o) l.length

theorem rest_succ (q l : List Int) (o : Nat) (h : o < q.length) : rest_ q l o ≤ rest_ q l (o + 1) + 1 ∧ rest_ q l (o + 1) ≤ rest_ q l o + 1 := by
  unfold rest_
  rw [List.drop_eq_getElem_cons h, show q.length - o = (q.length - (o + 1)) + 1 by omega]
  exact ed_cons _ _ _ _ _ _ (Nat.le_refl _)

theorem rest_far (q l : List Int) (o : Nat) : ∀ d, o + d ≤ q.length → rest_ q l o ≤ rest_ q l (o + d) + d ∧ rest_ q l (o + d) ≤ rest_ q l o + d
  | 0, _ => by simp
  | d + 1, h => by
    have h1 := rest_far q l o d (by omega)
    have h2 := rest_succ q l (o + d) (by omega)
    have e : o + (d + 1) = o + d + 1 := by omega
    rw [e]
    omega

end Go.Proofs.Ytpmkkajbmdoflab
