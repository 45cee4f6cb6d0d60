/-
  FnStateFor: a state with any number of arcs is encoded: plain lemmas. Conditions: none.
-/
import Derived.Test.YtjonmfaeonldcaaDoorStN
import Derived.Deep.DeepCutAuto
namespace Go.Proofs.YtjonmfaeonldcaaDoor.fnStateFor
open Go.ChangeShapes Go.WideShapes Go.ChangeAt Go.RowKit
set_option linter.unusedVariables false

/-- the bytes of the arcs from the last one down to k -/
def revB (g : Arc → List Int) (l : List Arc) (k : Nat) : List Int := (l.drop k).reverse.flatMap g
theorem revB_end (g : Arc → List Int) (l : List Arc) : revB g l l.length = [] := by simp [revB]
theorem revB_zero (g : Arc → List Int) (l : List Arc) : revB g l 0 = l.reverse.flatMap g := by simp [revB]
theorem revB_step (g : Arc → List Int) (l : List Arc) (k : Nat) (h : k < l.length) : revB g l k = revB g l (k + 1) ++ g l[k] := by
  unfold revB
  rw [List.drop_eq_getElem_cons h, List.reverse_cons, List.flatMap_append, List.flatMap_cons, List.flatMap_nil, List.append_nil]
theorem revB_len (g : Arc → List Int) (b : Nat) (hg : ∀ x, (g x).length ≤ b) (l : List Arc) (k : Nat) : (revB g l k).length ≤ l.length * b := by
  have h : ∀ m : List Arc, (m.flatMap g).length ≤ m.length * b := fun m => by
    induction m with
    | nil => simp
    | cons x m ih =>
      have := hg x
      simp only [List.flatMap_cons, List.length_append, List.length_cons, Nat.succ_mul]
      omega
  have h1 := h (l.drop k).reverse
  have h2 : (l.drop k).reverse.length ≤ l.length := by simp
  exact Nat.le_trans h1 (Nat.mul_le_mul_right b h2)

theorem tszL_snoc (s : Int) (l : List Arc) (i : Nat) (h : i < l.length) : tszL s (l.take (i + 1)) = max (tszL s (l.take i)) (szN (dlt s l[i].2.2)) := by
  unfold tszL
  rw [List.take_succ_eq_append_getElem h, List.foldl_append]
  rfl
theorem oszL_snoc (o : Int) (l : List Arc) (i : Nat) (h : i < l.length) : oszL o (l.take (i + 1)) = max (oszL o (l.take i)) (szN l[i].2.1) := by
  unfold oszL
  rw [List.take_succ_eq_append_getElem h, List.foldl_append]
  rfl
theorem anyO_snoc (o : Int) (l : List Arc) (i : Nat) (h : i < l.length) : anyO o (l.take (i + 1)) = (anyO o (l.take i) || (l[i].2.1 != 0)) := by
  unfold anyO
  rw [List.take_succ_eq_append_getElem h, List.foldl_append]
  rfl

theorem nB_or : ∀ n : Fin 64, bits .or .u8 (n.val : Int) 64 = (n.val : Int) + 64 := by decide +kernel
theorem numB_le (n : Nat) : numB n ≤ 63 := by unfold numB; split <;> omega

end Go.Proofs.YtjonmfaeonldcaaDoor.fnStateFor
