/-
  FnPackedSize: the size of a number is how many bytes it needs, at least one. Conditions: none.
-/
import Derived.Test.YtpmkkajbmdoflabBase
namespace Go.Proofs.Ytpmkkajbmdoflab.fnPackedSize
open Go.ChangeShapes Go.WideShapes Go.ChangeAt Go.RowKit
set_option linter.unusedVariables false

def szI (n : Int) : Int :=
  if n < 256 then 1 else if n < 65536 then 2 else if n < 16777216 then 3 else if n < 4294967296 then 4
  else if n < 1099511627776 then 5 else if n < 281474976710656 then 6 else if n < 72057594037927936 then 7 else 8

theorem szI_bd (n : Int) : 1 ≤ szI n ∧ szI n ≤ 8 := by
  unfold szI
  repeat' split
  all_goals omega

theorem szI_small (n : Int) (h : n ≤ 255) : szI n = 1 := by
  unfold szI
  rw [if_pos (by omega)]

theorem szI_step (n : Int) (h : 255 < n) (hn : n ≤ 18446744073709551615) : szI n = 1 + szI (n / 256) := by
  unfold szI
  repeat' split
  all_goals omega

theorem ret_int {k : IntKind} {a b : Int} (h : a = b) : Ending.returned (.int k a) = .returned (.int k b) := by rw [h]

theorem sz_any (n : Int) (h0 : 0 ≤ n) (h1 : n ≤ 18446744073709551615) (w : World) :
    Calls Try.prog 30 #[.int .u64 n] w fun e w' => e = .returned (.int .i64 (szI n)) ∧ w = w' := by
  go_enter Try.func30, Try.ntmps30
  go_wp2
  all_goals
    go_ret
    refine ⟨ret_int ?_, rfl⟩
    unfold szI
    repeat' split
    all_goals first | rfl | omega

theorem spec_any (n : Int) (h0 : 0 ≤ n) (h1 : n ≤ 18446744073709551615) (w : World) :
    Calls Try.prog 9 #[.int .u64 n] w fun e w' => e = .returned (.int .i64 (szI n)) ∧ w = w' := by
  go_enter Try.func9, Try.ntmps9
  go_wp2
  go_loop [0, 3] (fun m k => ∃ x y : Int, m = .int .u64 x ∧ k = .int .i64 y ∧ 0 ≤ x ∧ x ≤ 18446744073709551615 ∧ 1 ≤ y ∧ y + szI x = 1 + szI n) (fun m _ => (intOf m).toNat)
  case atStart => exact ⟨n, 1, rfl, rfl, h0, h1, by omega, by omega⟩
  case round =>
    obtain ⟨x, y, rfl, rfl, hx0, hx1, hy, he⟩ := hrel
    have hb := szI_bd n
    have hbx := szI_bd x
    by_cases hlt : 255 < x
    · have hs := szI_step x hlt hx1
      have HE := Lib.hid he
      have HS := Lib.hid hs
      have hy8 : y ≤ 8 := by omega
      clear he hs hb hbx
      go_wp2
      go_round
      case rel => exact ⟨x / 256, y + 1, rfl, rfl, by omega, by omega, by omega, by have h1 := HE.out; have h2 := HS.out; omega⟩
      case measure => simp [intOf]; omega
    · have hs := szI_small x (by omega)
      have HE := Lib.hid (show y = szI n by omega)
      clear he hs hb hbx
      go_wp2
      go_ret
      exact ⟨ret_int HE.out, rfl⟩

theorem walk (a0 : Int) (w0 : (Lit.int .u64 a0).wf = true) (w : World) :
    Calls Try.prog 3 #[.int .u64 a0] w fun e w' => e = .returned (.bool true) ∧ Below w.heap.size w w' := by
  have hx := bd_u64 w0
  clear w0
  go_enter Try.func3, Try.ntmps3
  go_wp2_with (first | (go_at_call 30; refine (sz_any _ hx.1 hx.2 _).mono ?_; rintro e w' ⟨rfl, rfl⟩) | (go_at_call 9; refine (spec_any _ hx.1 hx.2 _).mono ?_; rintro e w' ⟨rfl, rfl⟩) | go_in)
  go_ret
  exact ⟨rfl, Below.refl _ _⟩

end Go.Proofs.Ytpmkkajbmdoflab.fnPackedSize
