/-
  The sequences of ranges of bytes: a range of letters of one width that is not cut any more is one sequence. Plain integers. Conditions: none.
-/
import Derived.Test.YtobcgeonobgjpaaDoorBase
namespace Go.Proofs.YtobcgeonobgjpaaDoor
set_option linter.unusedVariables false

/-- not to be cut at 64^i -/
def whole (m a z : Int) : Prop := a / m = z / m ∨ (a % m = 0 ∧ z % m = m - 1)

theorem two_bytes (a z x y : Int) (h0 : 0 ≤ a) (h : a ≤ z) (c1 : whole 64 a z) :
    (192 + a / 64 ≤ x ∧ x ≤ 192 + z / 64 ∧ 128 + a % 64 ≤ y ∧ y ≤ 128 + z % 64) ↔ ∃ r, a ≤ r ∧ r ≤ z ∧ x = 192 + r / 64 ∧ y = 128 + r % 64 := by
  unfold whole at c1
  constructor
  · rintro ⟨h1, h2, h3, h4⟩
    exact ⟨(x - 192) * 64 + (y - 128), by omega, by omega, by omega, by omega⟩
  · rintro ⟨r, h1, h2, rfl, rfl⟩
    omega

theorem three_bytes (a z x y u : Int) (h0 : 0 ≤ a) (h : a ≤ z) (c1 : whole 64 a z) (c2 : whole 4096 a z) :
    (224 + a / 4096 ≤ x ∧ x ≤ 224 + z / 4096 ∧ 128 + a / 64 % 64 ≤ y ∧ y ≤ 128 + z / 64 % 64 ∧ 128 + a % 64 ≤ u ∧ u ≤ 128 + z % 64) ↔ ∃ r, a ≤ r ∧ r ≤ z ∧ x = 224 + r / 4096 ∧ y = 128 + r / 64 % 64 ∧ u = 128 + r % 64 := by
  unfold whole at c1 c2
  constructor
  · rintro ⟨h1, h2, h3, h4, h5, h6⟩
    exact ⟨(x - 224) * 4096 + (y - 128) * 64 + (u - 128), by omega, by omega, by omega, by omega, by omega⟩
  · rintro ⟨r, h1, h2, rfl, rfl, rfl⟩
    omega

set_option maxHeartbeats 1000000 in
theorem four_bytes (a z x y u v : Int) (h0 : 0 ≤ a) (h : a ≤ z) (c1 : whole 64 a z) (c2 : whole 4096 a z) (c3 : whole 262144 a z) :
    (240 + a / 262144 ≤ x ∧ x ≤ 240 + z / 262144 ∧ 128 + a / 4096 % 64 ≤ y ∧ y ≤ 128 + z / 4096 % 64 ∧ 128 + a / 64 % 64 ≤ u ∧ u ≤ 128 + z / 64 % 64 ∧ 128 + a % 64 ≤ v ∧ v ≤ 128 + z % 64) ↔
      ∃ r, a ≤ r ∧ r ≤ z ∧ x = 240 + r / 262144 ∧ y = 128 + r / 4096 % 64 ∧ u = 128 + r / 64 % 64 ∧ v = 128 + r % 64 := by
  unfold whole at c1 c2 c3
  constructor
  · rintro ⟨h1, h2, h3, h4, h5, h6, h7, h8⟩
    exact ⟨(x - 240) * 262144 + (y - 128) * 4096 + (u - 128) * 64 + (v - 128), by omega, by omega, by omega, by omega, by omega, by omega⟩
  · rintro ⟨r, h1, h2, rfl, rfl, rfl, rfl⟩
    omega

/-! ### how much is left to be done with ranges -/
/-- of one range -/
def wgt (r : Int × Int) : Nat := if r = (65535, 0) then 0 else if r.2 < r.1 then 2 else 8 * (r.2 - r.1).toNat + 7
def wgtAll (l : List (Int × Int)) : Nat := (l.map wgt).sum

/-- a cut between two numbers of a range makes it less -/
theorem wgt_cut (a m z : Int) (h1 : a ≤ m) (h2 : m < z) : wgt (a, m) + wgt (m + 1, z) < wgt (a, z) := by
  unfold wgt
  simp only [Prod.mk.injEq]
  split <;> split <;> split <;> (try split) <;> (try split) <;> (try split) <;> omega
/-- the cut at the surrogates makes it less -/
theorem wgt_split (a z : Int) (h0 : a ≤ z) (h1 : a < 57344) (h2 : 55295 < z) : wgt (a, 55295) + wgt (57344, z) < wgt (a, z) := by
  unfold wgt
  simp only [Prod.mk.injEq]
  split <;> split <;> split <;> (try split) <;> (try split) <;> (try split) <;> omega

end Go.Proofs.YtobcgeonobgjpaaDoor
