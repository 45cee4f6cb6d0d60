/-
  The contract of spec.SameBytes: two byte slices are the same just if their bytes are. Conditions: lengths below 2^31.
-/
import Derived.Test.YtobcgeonobgjpaaBase
namespace Go.Proofs.Ytobcgeonobgjpaa
open Go.ChangeShapes Go.WideShapes Go.ChangeAt Go.RowKit
set_option linter.unusedVariables false

def sameL (xs ys : List Int) : Bool := decide (xs = ys)

theorem eq_of_takes {xs ys : List Int} (n : Nat) (h1 : n = xs.length) (h2 : xs.length = ys.length) (h : xs.take n = ys.take n) : xs = ys := by
  subst h1
  rw [List.take_length, h2, List.take_length] at h
  exact h

theorem takes_succ {xs ys : List Int} {n : Nat} (h1 : n < xs.length) (h2 : n < ys.length) (h : xs.take n = ys.take n) (he : xs.getD n 0 = ys.getD n 0) : xs.take (n + 1) = ys.take (n + 1) := by
  rw [List.take_succ_eq_append_getElem h1, List.take_succ_eq_append_getElem h2, h]
  rw [List.getD_eq_getElem?_getD, List.getD_eq_getElem?_getD, List.getElem?_eq_getElem h1, List.getElem?_eq_getElem h2] at he
  have e : xs[n] = ys[n] := by simpa using he
  rw [e]

theorem ret_bool' {a b : Bool} (h : a = b) : Ending.returned (.bool a) = .returned (.bool b) := by rw [h]

set_option maxHeartbeats 400000 in
theorem same_any (a b : Option Addr) (xs ys : List Int) (c d : Nat) (B : Nat) (w : World) (hl1 : xs.length ≤ 2147483647) (hl2 : ys.length ≤ 2147483647)
    (hx : Sl w B a (xs.map (.int .u8))) (hy : Sl w B b (ys.map (.int .u8))) :
    Calls Try.prog 12 #[.slice a xs.length c, .slice b ys.length d] w fun e w' => e = .returned (.bool (sameL xs ys)) ∧ Below w.heap.size w w' := by
  have HX := Lib.hid hx
  have HY := Lib.hid hy
  clear hx hy
  by_cases hlen : xs.length = ys.length
  · have hne : ((xs.length : Int) != (ys.length : Int)) = false := by rw [bne_eq_false_iff_eq]; omega
    have HL := Lib.hid hlen
    clear hlen
    go_enter Try.func12, Try.ntmps12
    go_wp2
    go_loopw [5] (fun i wr => ∃ n m : Nat, n ≤ xs.length ∧ i = .int .i64 n ∧ wr = w.drewN m ∧ Hid (xs.take n = ys.take n)) (fun i _ => xs.length - (intOf i).toNat)
    case atStart => exact ⟨0, 0, by omega, rfl, rfl, Lib.hid rfl⟩
    case round =>
      obtain ⟨n, m, hn, rfl, rfl, htk⟩ := hrel
      have HT := Lib.hid htk
      clear htk
      by_cases hlt : n < xs.length
      · obtain ⟨ad, rfl, hc0⟩ := HX.out.ints n hlt
        obtain ⟨ad', rfl, hc1⟩ := HY.out.ints n (by have := HL.out; omega)
        have HS := Lib.hid (takes_succ hlt (by have := HL.out; omega) HT.out.out)
        have HNE := Lib.hid (show xs.getD n 0 ≠ ys.getD n 0 → xs ≠ ys from fun h e => h (by rw [e]))
        have hb0 : (0 : Int) ≤ (n : Int) := by omega
        have hb1 : (n : Int) < (xs.length : Int) := by omega
        have hb2 : (n : Int) < (ys.length : Int) := by have := HL.out; omega
        have hb3 : n < ys.length := by omega
        generalize xs.getD n 0 = x at *
        generalize ys.getD n 0 = y at *
        by_cases he : x = y
        · have hd : (x != y) = false := by rw [bne_eq_false_iff_eq]; exact he
          have HE := Lib.hid he
          clear he
          go_wp2
          go_quiet (fail)
          go_wp2
          go_roundw
          case rel => exact ⟨n + 1, _, by omega, by go_num, rfl, Lib.hid (HS.out HE.out)⟩
          case measure => simp [intOf]; omega
        · have hd : (x != y) = true := by rw [bne_iff_ne]; exact he
          have HE := Lib.hid (HNE.out he)
          clear he
          go_wp2
          go_quiet (fail)
          go_wp2
          go_ret
          exact ⟨ret_bool' (by unfold sameL; exact (decide_eq_false HE.out).symm), below_drewN (below_drewN (Below.refl _ _) _) _⟩
      · have HE := Lib.hid (eq_of_takes n (by omega) HL.out HT.out.out)
        go_wp2
        go_ret
        exact ⟨ret_bool' (by unfold sameL; exact (decide_eq_true HE.out).symm), below_drewN (Below.refl _ _) _⟩
  · have hne : ((xs.length : Int) != (ys.length : Int)) = true := by rw [bne_iff_ne]; omega
    have HL := Lib.hid hlen
    clear hlen
    go_enter Try.func12, Try.ntmps12
    go_wp2
    go_ret
    exact ⟨ret_bool' (by unfold sameL; exact (decide_eq_false (fun e => HL.out (by rw [e]))).symm), Below.refl _ _⟩

end Go.Proofs.Ytobcgeonobgjpaa
