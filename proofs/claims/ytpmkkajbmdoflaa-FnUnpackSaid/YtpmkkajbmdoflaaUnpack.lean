/-
  FnUnpack: at most eight bytes are read as the number that they are, the lowest first. Conditions: none.
-/
import Derived.Test.YtpmkkajbmdoflaaBase
import Derived.Laws.BitsAllLaws
namespace Go.Proofs.Ytpmkkajbmdoflaa.fnUnpack
open Go.ChangeShapes Go.WideShapes Go.ChangeAt Go.RowKit
set_option linter.unusedVariables false

/-- little end first -/
def leNum : List Int → Int
  | [] => 0
  | z :: r => z + 256 * leNum r

theorem leNum_bd : ∀ (l : List Int), (∀ z ∈ l, 0 ≤ z ∧ z ≤ 255) → 0 ≤ leNum l ∧ leNum l < 256 ^ l.length
  | [], _ => by simp [leNum]
  | z :: r, h => by
    have h1 := h z (by simp)
    have h2 := leNum_bd r (fun x hx => h x (by simp [hx]))
    simp only [leNum, List.length_cons, Int.pow_succ]
    omega

theorem leNum_snoc : ∀ (l : List Int) (z : Int), leNum (l ++ [z]) = leNum l + z * 256 ^ l.length
  | [], z => by simp [leNum]
  | y :: r, z => by
    simp only [List.cons_append, leNum, leNum_snoc r z, List.length_cons, Int.pow_succ]
    rw [Int.mul_add, Int.mul_left_comm 256 z, Int.mul_comm 256 (256 ^ r.length), Int.add_assoc]

theorem or_step (n : Nat) (x z : Int) (hn : n < 8) (hx0 : 0 ≤ x) (hx : x < 256 ^ n) (hz0 : 0 ≤ z) (hz : z ≤ 255) :
    bits .or .u64 x (IntKind.u64.wrap (IntKind.u64.wrap z * 2 ^ (n * 8))) = x + z * 256 ^ n := by
  obtain ⟨X, rfl⟩ := Int.eq_ofNat_of_zero_le hx0
  obtain ⟨Z, rfl⟩ := Int.eq_ofNat_of_zero_le hz0
  have e1 : (256 : Int) ^ n = ((2 ^ (8 * n) : Nat) : Int) := by
    rw [Nat.pow_mul]; simp
  have e2 : (2 : Int) ^ (n * 8) = ((2 ^ (8 * n) : Nat) : Int) := by rw [Nat.mul_comm n 8]; simp
  have hp : (2 : Nat) ^ (8 * n) ≤ 2 ^ 56 := Nat.pow_le_pow_right (by omega) (by omega)
  have hp1 : 1 ≤ (2 : Nat) ^ (8 * n) := Nat.one_le_two_pow
  rw [e1] at hx
  rw [e1, e2]
  generalize hq : (2 : Nat) ^ (8 * n) = q at *
  have hX : X < q := by omega
  have hZ : Z ≤ 255 := by omega
  have hm : Z * q ≤ 255 * q := Nat.mul_le_mul_right q hZ
  have hw : IntKind.u64.wrap (IntKind.u64.wrap (Z : Int) * (q : Int)) = ((Z * q : Nat) : Int) := by
    rw [IntKind.wrap_u64, IntKind.wrap_u64]
    have : ((Z : Int) % 18446744073709551616) = (Z : Int) := by omega
    rw [this, ← Int.natCast_mul]
    generalize Z * q = m at *
    omega
  rw [hw, u64_or_nat X (Z * q) (by omega) (by generalize Z * q = m at *; omega), Nat.or_comm, nat_join (8 * n) (Z * q) X (by rw [hq]; exact Nat.mul_mod_left _ _) (by rw [hq]; exact hX)]
  rw [Int.natCast_add, Int.natCast_mul, Int.add_comm]

theorem take_snoc (zs : List Int) (n : Nat) (h : n < zs.length) : zs.take (n + 1) = zs.take n ++ [zs[n]] := by
  rw [List.take_succ_eq_append_getElem h]

theorem drop_cons (zs : List Int) (n : Nat) (h : n < zs.length) : zs.drop n = zs[n] :: zs.drop (n + 1) := List.drop_eq_getElem_cons h

set_option maxHeartbeats 400000 in
theorem read_any (a : Option Addr) (zs : List Int) (c : Nat) (w : World) (hn : zs.length ≤ 8) (hb : ∀ z ∈ zs, 0 ≤ z ∧ z ≤ 255)
    (hc : ∀ j, j < zs.length → ∃ ad, a = some ad ∧ w.cell? (ad.add j) = some (.int .u8 (zs.getD j 0))) :
    Calls Try.prog 27 #[.slice a zs.length c] w fun e w' => e = .returned (.int .u64 (leNum zs)) ∧ w = w' := by
  go_enter Try.func27, Try.ntmps27
  go_wp2
  go_loop [2, 3, 4, 7] (fun rv _ _ k => ∃ n : Nat, n ≤ zs.length ∧ k = .int .i64 n ∧ rv = .int .u64 (leNum (zs.take n))) (fun _ _ _ k => zs.length - (intOf k).toNat)
  case atStart => exact ⟨0, by omega, rfl, rfl⟩
  case round =>
    obtain ⟨n, hnn, rfl, rfl⟩ := hrel
    by_cases hlt : n < zs.length
    · obtain ⟨ad, rfl, hcell⟩ := hc n hlt
      have HS := Lib.hid (take_snoc zs n hlt)
      have h1 := leNum_bd (zs.take n) (fun z hz => hb z (List.mem_of_mem_take hz))
      have H1 := Lib.hid h1
      have H2 := Lib.hid (hb _ (List.getElem_mem hlt))
      have HL : (zs.take n).length ≤ n := List.length_take_le _ _
      have HL2 := Lib.hid (List.length_take_of_le hnn)
      clear hc hb h1
      go_wp2
      go_round
      case rel =>
        refine ⟨n + 1, by omega, by go_num, ?_⟩
        have h1 := H1.out
        rw [HL2.out] at h1
        rw [HS.out, leNum_snoc, HL2.out, or_step n _ _ (by omega) h1.1 h1.2 H2.out.1 H2.out.2]
      case measure => simp [intOf]; omega
    · obtain rfl : n = zs.length := by omega
      go_wp2
      go_ret
      exact ⟨rfl, rfl⟩

set_option maxHeartbeats 400000 in
theorem spec_any (a : Option Addr) (zs : List Int) (c : Nat) (w : World) (hn : zs.length ≤ 8) (hb : ∀ z ∈ zs, 0 ≤ z ∧ z ≤ 255)
    (hc : ∀ j, j < zs.length → ∃ ad, a = some ad ∧ w.cell? (ad.add j) = some (.int .u8 (zs.getD j 0))) :
    Calls Try.prog 15 #[.slice a zs.length c] w fun e w' => e = .returned (.int .u64 (leNum zs)) ∧ w = w' := by
  go_enter Try.func15, Try.ntmps15
  go_wp2
  go_loop [3, 4] (fun rv i => ∃ n : Nat, n ≤ zs.length ∧ i = .int .i64 ((n : Int) - 1) ∧ rv = .int .u64 (leNum (zs.drop n))) (fun _ i => (intOf i + 1).toNat)
  case atStart => exact ⟨zs.length, by omega, rfl, by simp [leNum]⟩
  case round =>
    obtain ⟨n, hnn, rfl, rfl⟩ := hrel
    rcases n with _ | n
    · go_wp2
      go_ret
      exact ⟨rfl, rfl⟩
    · have hlt : n < zs.length := by omega
      obtain ⟨ad, rfl, hcell⟩ := hc n hlt
      have HS := Lib.hid (drop_cons zs n hlt)
      have h1 := leNum_bd (zs.drop (n + 1)) (fun z hz => hb z (List.mem_of_mem_drop hz))
      have H1 := Lib.hid h1
      have H2 := Lib.hid (hb _ (List.getElem_mem hlt))
      have HL2 := Lib.hid (List.length_drop (i := n + 1) (l := zs))
      have e : (((n + 1 : Nat) : Int) - 1) = (n : Int) := by omega
      rw [e]
      clear hc hb h1 e
      go_wp2
      go_round
      case rel =>
        refine ⟨n, by omega, rfl, ?_⟩
        have h1 := H1.out
        have h2 := H2.out
        rw [HL2.out] at h1
        have hp : (256 : Int) ^ (zs.length - (n + 1)) ≤ 256 ^ 7 := by
          have : (256 : Nat) ^ (zs.length - (n + 1)) ≤ 256 ^ 7 := Nat.pow_le_pow_right (by omega) (by omega)
          have e3 : ((256 ^ (zs.length - (n + 1)) : Nat) : Int) = 256 ^ (zs.length - (n + 1)) := by simp
          omega
        rw [HS.out]
        simp only [leNum, IntKind.wrap_u64]
        congr 1
        omega
      case measure => simp [intOf]

theorem walk (a : Option Addr) (zs : List Int) (c : Nat) (w : World) (hn : zs.length ≤ maxLen) (hb : ∀ z ∈ zs, 0 ≤ z ∧ z ≤ 255)
    (hc : ∀ j, j < zs.length → ∃ ad, a = some ad ∧ w.cell? (ad.add j) = some (.int .u8 (zs.getD j 0))) :
    Calls Try.prog 7 #[.slice a zs.length c] w fun e w' => e = .returned (.bool true) ∧ Below w.heap.size w w' := by
  unfold maxLen at hn
  by_cases h : zs.length ≤ 8
  · have C1 := Lib.hid (read_any a zs c w h hb hc)
    have C2 := Lib.hid (spec_any a zs c w h hb hc)
    clear hb hc
    go_enter Try.func7, Try.ntmps7
    go_wp2_with (first | (go_at_call 27; refine C1.out.mono ?_; rintro e w' ⟨rfl, rfl⟩) | (go_at_call 15; refine C2.out.mono ?_; rintro e w' ⟨rfl, rfl⟩) | go_in)
    go_ret
    exact ⟨rfl, Below.refl _ _⟩
  · clear hb hc
    go_enter Try.func7, Try.ntmps7
    go_wp2
    all_goals go_ret
    all_goals exact ⟨rfl, Below.refl _ _⟩

end Go.Proofs.Ytpmkkajbmdoflaa.fnUnpack
