/-
  The contracts of spec.step and spec.Distance: the edit distance by the table of the distances of beginnings. Conditions: lists of at most 1000 numbers.
-/
import Derived.Test.YtgblmafollhojaaBase
namespace Go.Proofs.Ytgblmafollhojaa
open Go.ChangeShapes Go.WideShapes Go.ChangeAt Go.RowKit
set_option linter.unusedVariables false

/-- one cell of the table, by those of fewer letters (i, k: at least 1) -/
def stepN (i k X Y Z V : Nat) (p1 p2 q1 q2 : Int) (sw : Bool) : Nat :=
  if sw = true ∧ 1 < i ∧ 1 < k ∧ p1 = q2 ∧ p2 = q1 then min (min (min X Y + 1) (if p1 = q1 then Z else Z + 1)) (V + 1)
  else min (min X Y + 1) (if p1 = q1 then Z else Z + 1)

theorem ret_i64 {a b : Int} (h : a = b) : Ending.returned (.int .i64 a) = .returned (.int .i64 b) := by rw [h]

set_option maxHeartbeats 1000000 in
theorem step_plain (a b : Addr) (gd n1 c1 la ca lb cb g0 g1 m1 m2 X Y Z I K : Nat) (i k : Int) (p1 q1 : Int) (sw : Bool) (w : World) (hi : i = (I : Int) + 1) (hk : k = (K : Int) + 1)
    (hn : I + 1 < n1) (hn2 : n1 ≤ 2000) (hla : I < la) (hla2 : la ≤ 1000) (hlb : K < lb) (hlb2 : lb ≤ 1000) (hm : K + 1 < m1) (hm2 : K + 1 < m2) (hm3 : m1 ≤ 2000) (hm4 : m2 ≤ 2000) (hX : X ≤ 4000) (hY : Y ≤ 4000) (hZ : Z ≤ 4000)
    (d1 : w.cell? ⟨gd, I, none⟩ = some (.slice (some ⟨g1, 0, none⟩) m1 m1)) (d0 : w.cell? ⟨gd, I + 1, none⟩ = some (.slice (some ⟨g0, 0, none⟩) m2 m2))
    (e1 : w.cell? ⟨g1, K + 1, none⟩ = some (.int .i64 X)) (e2 : w.cell? ⟨g0, K, none⟩ = some (.int .i64 Y)) (e3 : w.cell? ⟨g1, K, none⟩ = some (.int .i64 Z))
    (f1 : w.cell? (a.add I) = some (.int .i64 p1)) (f2 : w.cell? (b.add K) = some (.int .i64 q1)) (hs : sw = false) :
    Calls Try.prog 28 #[.slice (some ⟨gd, 0, none⟩) n1 c1, .slice (some a) la ca, .slice (some b) lb cb, .int .i64 i, .int .i64 k, .bool sw] w fun e w' =>
      e = .returned (.int .i64 ((min (min X Y + 1) (if p1 = q1 then Z else Z + 1) : Nat) : Int)) ∧ ∃ q, w' = w.drewN q := by
  subst hi hk hs
  have hI : ((I : Int) + 1 == 0) = false := by rw [beq_eq_false_iff_ne]; omega
  have hK : ((K : Int) + 1 == 0) = false := by rw [beq_eq_false_iff_ne]; omega
  have wi : IntKind.i64.wrap (I : Int) = I := by rw [IntKind.wrap_i64]; omega
  have wk : IntKind.i64.wrap (K : Int) = K := by rw [IntKind.wrap_i64]; omega
  have ti : ((I : Int) + 1).toNat = I + 1 := by omega
  have tk : ((K : Int) + 1).toNat = K + 1 := by omega
  have b1 : (0 : Int) ≤ (I : Int) := by omega
  have b2 : (0 : Int) ≤ (K : Int) := by omega
  have b3 : (I : Int) < (n1 : Int) := by omega
  have b4 : (I : Int) + 1 < (n1 : Int) := by omega
  have b5 : (K : Int) + 1 < (m1 : Int) := by omega
  have b6 : (K : Int) < (m2 : Int) := by omega
  have b7 : (I : Int) < (la : Int) := by omega
  have b8 : (K : Int) < (lb : Int) := by omega
  have b9 : (K : Int) < (m1 : Int) := by omega
  have b10 : (0 : Int) ≤ (I : Int) + 1 := by omega
  have b11 : (0 : Int) ≤ (K : Int) + 1 := by omega
  by_cases hp : p1 = q1
  · have hpq : (p1 == q1) = true := by rw [beq_iff_eq]; exact hp
    have HP := Lib.hid hp
    clear hp
    go_enter Try.func28, Try.ntmps28
    go_wp2
    go_quiet (fail)
    go_wp2
    all_goals go_quiet (fail)
    all_goals go_wp2
    all_goals go_quiet (fail)
    all_goals go_wp2
    all_goals
      go_ret
      exact ⟨ret_i64 (by show (_ : Int) = _; omega), _, rfl⟩
  · have hpq : (p1 == q1) = false := by rw [beq_eq_false_iff_ne]; exact hp
    have HP := Lib.hid hp
    clear hp
    go_enter Try.func28, Try.ntmps28
    go_wp2
    go_quiet (fail)
    go_wp2
    all_goals go_quiet (fail)
    all_goals go_wp2
    all_goals go_quiet (fail)
    all_goals go_wp2
    all_goals
      go_ret
      exact ⟨ret_i64 (by show (_ : Int) = _; omega), _, rfl⟩
/-! ### the table -/

/-- the distance of the first i letters of xs and the first k ones of ys (without swaps) -/
def ed (xs ys : List Int) : Nat → Nat → Nat
  | 0, k => k
  | i + 1, 0 => i + 1
  | i + 1, k + 1 => min (min (ed xs ys i (k + 1)) (ed xs ys (i + 1) k) + 1) (if xs.getD i 0 = ys.getD k 0 then ed xs ys i k else ed xs ys i k + 1)

theorem ed_zero (xs ys : List Int) (k : Nat) : ed xs ys 0 k = k := by unfold ed; rfl
theorem ed_left (xs ys : List Int) (i : Nat) : ed xs ys i 0 = i := by
  cases i with
  | zero => exact ed_zero _ _ _
  | succ i => unfold ed; rfl
theorem ed_succ (xs ys : List Int) (i k : Nat) : ed xs ys (i + 1) (k + 1) = min (min (ed xs ys i (k + 1)) (ed xs ys (i + 1) k) + 1) (if xs.getD i 0 = ys.getD k 0 then ed xs ys i k else ed xs ys i k + 1) := by
  rw [ed]

theorem ed_le (xs ys : List Int) : ∀ (n i k : Nat), i + k ≤ n → ed xs ys i k ≤ i + k
  | _, 0, k, _ => by rw [ed_zero]; omega
  | _, i + 1, 0, _ => by rw [ed_left]; omega
  | n + 1, i + 1, k + 1, h => by
    have h1 := ed_le xs ys n i (k + 1) (by omega)
    rw [ed_succ]
    omega
  | 0, _ + 1, _ + 1, h => by omega

/-- a row of the table -/
def rowN (xs ys : List Int) (i m : Nat) : List Value := (List.range m).map fun k => Value.int .i64 (ed xs ys i k : Nat)

theorem rowN_len (xs ys : List Int) (i m : Nat) : (rowN xs ys i m).length = m := by simp [rowN]
theorem rowN_get (xs ys : List Int) (i m k : Nat) (h : k < m) : (rowN xs ys i m)[k]? = some (.int .i64 (ed xs ys i k : Nat)) := by
  simp [rowN, List.getElem?_range h]
theorem rowN_snoc (xs ys : List Int) (i m : Nat) : rowN xs ys i (m + 1) = rowN xs ys i m ++ [.int .i64 (ed xs ys i m : Nat)] := by
  simp [rowN, List.range_succ]

theorem step_zero (D a b : Addr) (n1 c1 la ca lb cb : Nat) (i k : Int) (I K : Nat) (w : World) (hi : i = (I : Int)) (hk : k = (K : Int)) (h : I = 0 ∨ K = 0) (h1 : I ≤ 1000) (h2 : K ≤ 1000) (oa ob : Option Addr) (oD : Option Addr) (sw : Bool) :
    Calls Try.prog 28 #[.slice oD n1 c1, .slice oa la ca, .slice ob lb cb, .int .i64 i, .int .i64 k, .bool sw] w fun e w' =>
      e = .returned (.int .i64 ((I + K : Nat) : Int)) ∧ w = w' := by
  subst hi hk
  by_cases h0 : I = 0
  · subst h0
    clear h
    go_enter Try.func28, Try.ntmps28
    go_wp2
    go_ret
    exact ⟨ret_i64 (by show (_ : Int) = _; omega), rfl⟩
  · obtain rfl : K = 0 := by omega
    have hI : ((I : Int) == 0) = false := by rw [beq_eq_false_iff_ne]; omega
    clear h h0
    go_enter Try.func28, Try.ntmps28
    go_wp2
    go_ret
    exact ⟨ret_i64 (by show (_ : Int) = _; omega), rfl⟩
end Go.Proofs.Ytgblmafollhojaa
