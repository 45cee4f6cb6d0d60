/-
  FnTablePath: numbers in range; what fits. Conditions: as stated.
-/
import Derived.Test.YtobcgeonobgjpaaAppend
import Derived.Handy
namespace Go.Proofs.Ytobcgeonobgjpaa.fnTablePath
open Go.ChangeShapes Go.WideShapes Go.ChangeAt Go.RowKit
set_option linter.unusedVariables false

def atF (x : Int) (n : Nat) : Int := x % 18446744073709551616 % n
theorem atF_bd (x : Int) (n : Nat) (hn : 1 ≤ n) : 0 ≤ atF x n ∧ atF x n < n := ⟨Int.emod_nonneg _ (by omega), Int.emod_lt_of_pos _ (by omega)⟩

set_option maxHeartbeats 400000 in
theorem at_any (x : Int) (n : Nat) (w : World) (hn : 1 ≤ n) (hn2 : n ≤ 300) :
    Calls Try.prog 24 #[.int .i64 x, .int .i64 n] w fun e w' => e = .returned (.int .i64 (atF x n)) ∧ w = w' := by
  have e1 : IntKind.u64.wrap x = x % 18446744073709551616 := IntKind.wrap_u64 x
  have e2 : IntKind.u64.wrap (n : Int) = n := by rw [IntKind.wrap_u64]; omega
  have hnz : ((n : Int) == 0) = false := by rw [beq_eq_false_iff_ne]; omega
  have e3 : ((x % 18446744073709551616).tmod (n : Int)) = atF x n := by
    rw [Int.tmod_eq_emod_of_nonneg (by omega)]; rfl
  obtain ⟨b0, b1⟩ := atF_bd x n hn
  have e4 : wrap64 (atF x n) = atF x n := by unfold wrap64; omega
  have e5 : IntKind.i64.wrap (atF x n) = atF x n := by rw [IntKind.wrap_i64]; omega
  generalize atF x n = r at *
  go_enter Try.func24, Try.ntmps24
  go_wp2
  go_returns
  exact ⟨rfl, rfl⟩

/-- whether the first n rows are short enough -/
def rowsFit (rn : Nat → Nat) (n : Nat) : Bool := decide (∀ i, i < n → rn i ≤ 2147483647)
theorem rowsFit_no {rn : Nat → Nat} {n i : Nat} (hi : i < n) (h : 2147483647 < rn i) : rowsFit rn n = false := decide_eq_false (fun e => by have := e i hi; omega)
theorem rows_at {w : World} {B : Nat} {a : Option Addr} {n : Nat} {f : Nat → Value} (h : Sl w B a ((List.range n).map f)) (i : Nat) (hi : i < n) : ∃ ad, a = some ad ∧ ad.block < B ∧ w.cell? (ad.add i) = some (f i) :=
  h i (f i) (by rw [List.getElem?_map, List.getElem?_range hi]; rfl)

set_option maxHeartbeats 400000 in
theorem fits12_any (a : Option Addr) (c n : Nat) (ra : Nat → Option Addr) (rn rc : Nat → Nat) (w : World) (hn : n ≤ maxLen) (hr : ∀ i, i < n → rn i ≤ maxLen)
    (hs : Sl w w.heap.size a ((List.range n).map fun i => .slice (ra i) (rn i) (rc i))) :
    Calls Try.prog 23 #[.slice a n c] w fun e w' => e = .returned (.bool (decide (n ≤ 2147483647) && rowsFit rn n)) ∧ w = w' := by
  unfold maxLen at hn
  have HS := Lib.hid hs
  have HR := Lib.hid hr
  clear hs hr
  by_cases h : n ≤ 2147483647
  · go_enter Try.func23, Try.ntmps23
    go_wp2_with fail
    go_loopw [4, 10] (fun v k wr => ∃ m : Nat, m ≤ n ∧ k = .int .i64 m ∧ Hid (∀ i, i < m → rn i ≤ 2147483647) ∧ w = wr) (fun _ k _ => n - (intOf k).toNat)
    case atStart => exact ⟨0, by omega, rfl, Lib.hid (fun i h => absurd h (by omega)), rfl⟩
    case round =>
      obtain ⟨m, hm, rfl, hf, rfl⟩ := hrel
      by_cases hlt : m < n
      · obtain ⟨ad, rfl, hb, hc⟩ := rows_at HS.out m hlt
        have hrm := HR.out m hlt
        unfold maxLen at hrm
        have N1 := Lib.hid (@rowsFit_no rn n m hlt)
        have N2 := Lib.hid (fun (h : rn m ≤ 2147483647) i (hi : i < m + 1) => show rn i ≤ 2147483647 from by
          rcases Nat.lt_or_ge i m with h1 | h1
          · exact hf.out i h1
          · obtain rfl : i = m := by omega
            exact h)
        generalize rn m = r at *
        by_cases hr : r ≤ 2147483647
        · go_wp2
          go_roundw
          case rel => exact ⟨m + 1, by omega, by go_num, Lib.hid (N2.out hr), trivial⟩
          case measure => simp [intOf]; omega
        · go_wp2
          go_returns
          exact ⟨congrArg (fun b => Ending.returned (Value.bool b)) (by rw [N1.out (by omega), Bool.and_false]), rfl⟩
      · obtain rfl : m = n := by omega
        go_wp2
        go_returns
        exact ⟨congrArg (fun b => Ending.returned (Value.bool b)) (by rw [show rowsFit rn m = true from decide_eq_true hf.out, decide_eq_true h]; rfl), rfl⟩
  · go_enter Try.func23, Try.ntmps23
    go_wp2
    go_returns
    exact ⟨congrArg (fun b => Ending.returned (Value.bool b)) (by rw [decide_eq_false h]; rfl), rfl⟩

set_option maxHeartbeats 800000 in
theorem small_any (st : Int) (a0 a1 a2 a3 a4 : Option Addr) (n0 n1 n2 n3 n4 c0 c1 c2 c3 c4 : Nat) (w : World) (h0 : n0 ≤ maxLen) (h1 : n1 ≤ maxLen) :
    Calls Try.prog 15 #[.agg #[.int .i64 st, .slice a0 n0 c0, .slice a1 n1 c1, .slice a2 n2 c2, .slice a3 n3 c3, .slice a4 n4 c4]] w fun e w' => e = .returned (.bool (decide (n1 ≤ 65536) && decide (n0 ≤ 65536))) ∧ Below w.heap.size w w' := by
  unfold maxLen at h0 h1
  by_cases q1 : n1 ≤ 65536
  · by_cases q0 : n0 ≤ 65536
    · rw [decide_eq_true q1, decide_eq_true q0]
      go_enter Try.func15, Try.ntmps15
      go_wp2
      go_returns
      exact ⟨congrArg (fun b => Ending.returned (Value.bool b)) (decide_eq_true (by omega)), (Below.refl _ _).alloc (Nat.le_refl _) _⟩
    · rw [decide_eq_true q1, decide_eq_false q0]
      go_enter Try.func15, Try.ntmps15
      go_wp2
      go_returns
      exact ⟨congrArg (fun b => Ending.returned (Value.bool b)) (decide_eq_false (by omega)), (Below.refl _ _).alloc (Nat.le_refl _) _⟩
  · rw [decide_eq_false q1]
    go_enter Try.func15, Try.ntmps15
    go_wp2
    go_returns
    exact ⟨rfl, (Below.refl _ _).alloc (Nat.le_refl _) _⟩

def fits11F (n0 n1 n2 n3 n4 : Nat) (rf : Bool) : Bool := decide (n0 ≤ 2147483647) && (rf && (decide (n2 ≤ 2147483647) && (decide (n3 ≤ 2147483647) && decide (n4 ≤ 2147483647))))

set_option maxHeartbeats 800000 in
theorem fits11_any (st : Int) (a0 a1 a2 a3 a4 : Option Addr) (n0 n1 n2 n3 n4 c0 c1 c2 c3 c4 : Nat) (rf : Bool) (w : World) (h0 : n0 ≤ maxLen) (h2 : n2 ≤ maxLen) (h3 : n3 ≤ maxLen) (h4 : n4 ≤ maxLen)
    (h : ∀ W, Below w.heap.size w W → Calls Try.prog 23 #[.slice a1 n1 c1] W fun e w' => e = .returned (.bool rf) ∧ W = w') :
    Calls Try.prog 14 #[.agg #[.int .i64 st, .slice a0 n0 c0, .slice a1 n1 c1, .slice a2 n2 c2, .slice a3 n3 c3, .slice a4 n4 c4]] w fun e w' => e = .returned (.bool (fits11F n0 n1 n2 n3 n4 rf)) ∧ Below w.heap.size w w' := by
  unfold maxLen at h0 h2 h3 h4
  have H := Lib.hid (h _ ((Below.refl w.heap.size w).alloc (Nat.le_refl _) (.cells #[.int .i64 st, .slice a0 n0 c0, .slice a1 n1 c1, .slice a2 n2 c2, .slice a3 n3 c3, .slice a4 n4 c4] 41)))
  clear h
  unfold fits11F
  by_cases q0 : n0 ≤ 2147483647
  · rw [decide_eq_true q0]
    cases rf with
    | false =>
      go_enter Try.func14, Try.ntmps14
      go_wp2_with (go_at_call 23; refine H.out.mono ?_; rintro e w1 ⟨rfl, rfl⟩)
      go_returns
      exact ⟨rfl, (Below.refl _ _).alloc (Nat.le_refl _) _⟩
    | true =>
      by_cases q2 : n2 ≤ 2147483647
      · rw [decide_eq_true q2]
        by_cases q3 : n3 ≤ 2147483647
        · rw [decide_eq_true q3]
          by_cases q4 : n4 ≤ 2147483647
          · rw [decide_eq_true q4]
            go_enter Try.func14, Try.ntmps14
            go_wp2_with (go_at_call 23; refine H.out.mono ?_; rintro e w1 ⟨rfl, rfl⟩)
            go_returns
            exact ⟨rfl, (Below.refl _ _).alloc (Nat.le_refl _) _⟩
          · rw [decide_eq_false q4]
            go_enter Try.func14, Try.ntmps14
            go_wp2_with (go_at_call 23; refine H.out.mono ?_; rintro e w1 ⟨rfl, rfl⟩)
            go_returns
            exact ⟨rfl, (Below.refl _ _).alloc (Nat.le_refl _) _⟩
        · rw [decide_eq_false q3]
          go_enter Try.func14, Try.ntmps14
          go_wp2_with (go_at_call 23; refine H.out.mono ?_; rintro e w1 ⟨rfl, rfl⟩)
          go_returns
          exact ⟨rfl, (Below.refl _ _).alloc (Nat.le_refl _) _⟩
      · rw [decide_eq_false q2]
        go_enter Try.func14, Try.ntmps14
        go_wp2_with (go_at_call 23; refine H.out.mono ?_; rintro e w1 ⟨rfl, rfl⟩)
        go_returns
        exact ⟨rfl, (Below.refl _ _).alloc (Nat.le_refl _) _⟩
  · rw [decide_eq_false q0]
    go_enter Try.func14, Try.ntmps14
    go_wp2
    go_returns
    exact ⟨rfl, (Below.refl _ _).alloc (Nat.le_refl _) _⟩

end Go.Proofs.Ytobcgeonobgjpaa.fnTablePath
