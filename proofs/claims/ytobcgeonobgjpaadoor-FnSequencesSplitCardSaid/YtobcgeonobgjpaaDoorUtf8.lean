/-
  The contracts of spec.IsLetter and spec.Bytes (UTF-8 by its definition). Conditions: as stated.
-/
import Derived.Test.YtobcgeonobgjpaaDoorBase
namespace Go.Proofs.YtobcgeonobgjpaaDoor
open Go.ChangeShapes Go.WideShapes Go.ChangeAt Go.RowKit
set_option linter.unusedVariables false

def isL (r : Int) : Bool := decide (0 ≤ r ∧ r ≤ 1114111 ∧ (r < 55296 ∨ 57343 < r))
/-- the bytes of a letter -/
def ub (r : Int) : List Int :=
  if r ≤ 127 then [r] else if r ≤ 2047 then [192 + r / 64, 128 + r % 64]
  else if r ≤ 65535 then [224 + r / 4096, 128 + r / 64 % 64, 128 + r % 64]
  else [240 + r / 262144, 128 + r / 4096 % 64, 128 + r / 64 % 64, 128 + r % 64]

theorem ub_bd (r : Int) (h0 : 0 ≤ r) (h1 : r ≤ 1114111) : ∀ b ∈ ub r, 0 ≤ b ∧ b ≤ 255 := by
  unfold ub
  intro b hb
  split at hb
  · simp at hb; omega
  · split at hb
    · simp at hb; omega
    · split at hb
      · simp at hb; omega
      · simp at hb; omega

theorem isl_any (r : Int) (w : World) (hr : -2147483648 ≤ r ∧ r ≤ 2147483647) : Calls Tryd.prog 14 #[.int .i64 r] w fun e w' => e = .returned (.bool (isL r)) ∧ w = w' := by
  by_cases h0 : 0 ≤ r
  · by_cases h1 : r ≤ 1114111
    · by_cases h2 : r < 55296
      · have e : isL r = true := decide_eq_true ⟨h0, h1, .inl h2⟩
        rw [e]; clear e
        go_enter Tryd.func14, Tryd.ntmps14
        go_wp2
        go_ret
        exact ⟨rfl, rfl⟩
      · by_cases h3 : 57343 < r
        · have e : isL r = true := decide_eq_true ⟨h0, h1, .inr h3⟩
          rw [e]; clear e
          go_enter Tryd.func14, Tryd.ntmps14
          go_wp2
          go_ret
          exact ⟨rfl, rfl⟩
        · have e : isL r = false := decide_eq_false (by omega)
          rw [e]; clear e
          go_enter Tryd.func14, Tryd.ntmps14
          go_wp2
          go_ret
          exact ⟨rfl, rfl⟩
    · have e : isL r = false := decide_eq_false (by omega)
      rw [e]; clear e
      go_enter Tryd.func14, Tryd.ntmps14
      go_wp2
      go_ret
      exact ⟨rfl, rfl⟩
  · have e : isL r = false := decide_eq_false (by omega)
    rw [e]; clear e
    go_enter Tryd.func14, Tryd.ntmps14
    go_wp2
    go_ret
    exact ⟨rfl, rfl⟩

theorem bytesv_new (w : World) (t : TypeId) (l : List Int) : BytesV (w.alloc (.cells (l.map (Value.int .u8)).toArray t)) (.slice (some ⟨w.heap.size, 0, none⟩) l.length l.length) l :=
  ⟨_, _, rfl, (Blk.new w t _).sl (by simp)⟩

set_option maxHeartbeats 400000 in
theorem bytes_any (r : Int) (w : World) (h0 : 0 ≤ r) (h1 : r ≤ 1114111) :
    Calls Tryd.prog 15 #[.int .i64 r] w fun e w' => ∃ v, e = .returned v ∧ BytesV w' v (ub r) ∧ Below w.heap.size w w' := by
  by_cases h2 : r ≤ 127
  · have e := Lib.hid (show ub r = [r] by unfold ub; rw [if_pos h2])
    go_enter Tryd.func15, Tryd.ntmps15
    go_wp2
    go_ret
    exact ⟨_, rfl, by rw [e.out]; exact bytesv_new w 5 [r], (Below.refl _ _).alloc (Nat.le_refl _) _⟩
  · by_cases h3 : r ≤ 2047
    · have e := Lib.hid (show ub r = [192 + r / 64, 128 + r % 64] by unfold ub; rw [if_neg h2, if_pos h3])
      go_enter Tryd.func15, Tryd.ntmps15
      go_wp2
      go_ret
      exact ⟨_, rfl, by rw [e.out]; exact bytesv_new w 5 [192 + r / 64, 128 + r % 64], (Below.refl _ _).alloc (Nat.le_refl _) _⟩
    · by_cases h4 : r ≤ 65535
      · have e := Lib.hid (show ub r = [224 + r / 4096, 128 + r / 64 % 64, 128 + r % 64] by unfold ub; rw [if_neg h2, if_neg h3, if_pos h4])
        go_enter Tryd.func15, Tryd.ntmps15
        go_wp2
        go_ret
        exact ⟨_, rfl, by rw [e.out]; exact bytesv_new w 5 [224 + r / 4096, 128 + r / 64 % 64, 128 + r % 64], (Below.refl _ _).alloc (Nat.le_refl _) _⟩
      · have e := Lib.hid (show ub r = [240 + r / 262144, 128 + r / 4096 % 64, 128 + r / 64 % 64, 128 + r % 64] by unfold ub; rw [if_neg h2, if_neg h3, if_neg h4])
        go_enter Tryd.func15, Tryd.ntmps15
        go_wp2
        go_ret
        exact ⟨_, rfl, by rw [e.out]; exact bytesv_new w 5 [240 + r / 262144, 128 + r / 4096 % 64, 128 + r / 64 % 64, 128 + r % 64], (Below.refl _ _).alloc (Nat.le_refl _) _⟩

end Go.Proofs.YtobcgeonobgjpaaDoor
