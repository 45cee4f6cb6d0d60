/-
  FnCommon: a byte's short code, if it has one, means this byte; no two bytes have one code; e has one. Conditions: the listed tables (laid), which the card ties.
-/
import Derived.Test.YtpmkkajbmdoflabDoorLaid
import Derived.Test.YtpmkkajbmdoflabDoorCards
import Derived.Test.YtpmkkajbmdoflabDoorTie
import Derived.SevenTiedAt
import Derived.Lib.LaidSlice
namespace Go.Proofs.YtpmkkajbmdoflabDoor.fnCommon
open Go.ChangeShapes Go.WideShapes Go.ChangeAt Go.RowKit
set_option linter.unusedVariables false

def dataInts : DataW Unit → List Int
  | .slice l _ => l.map fun
    | .lit (.int _ z) => z
    | _ => 0
  | _ => []
def tab1 : List Int := dataInts Rows.laid_pub_traverser_pub_vellum_commonInputs
def tab2 : List Int := dataInts Rows.laid_pub_traverser_pub_vellum_commonInputsInv
def nat1 : List Nat := tab1.map Int.toNat
def nat2 : List Nat := tab2.map Int.toNat
theorem eq1 : (Rows.laid_pub_traverser_pub_vellum_commonInputs : DataW Unit) = .slice (lits .u8 tab1) [] := by kernel_rfl
theorem eq2 : (Rows.laid_pub_traverser_pub_vellum_commonInputsInv : DataW Unit) = .slice (lits .u8 tab2) [] := by kernel_rfl
theorem len1 : tab1.length = 256 := by kernel_rfl
theorem len2 : tab2.length = 256 := by kernel_rfl
theorem bd1 : tab1.all (fun z => decide (0 ≤ z ∧ z ≤ 255)) = true := by kernel_rfl
theorem bd2 : tab2.all (fun z => decide (0 ≤ z ∧ z ≤ 255)) = true := by kernel_rfl
def encN (a : Nat) : Nat := if 63 < (tab1.getD a 0 + 1) % 256 then 0 else ((tab1.getD a 0 + 1) % 256).toNat
def decN (c : Nat) : Nat := (tab2.getD ((c + 255) % 256) 0).toNat
theorem check : (List.range 256).all (fun a => decide (encN a ≤ 63) && (encN a == 0 || decN (encN a) == a)) = true := by kernel_rfl
theorem check_e : decide (encN 101 ≠ 0 ∧ decN (encN 101) = 101) = true := by kernel_rfl

theorem enc_le (a : Nat) (h : a < 256) : encN a ≤ 63 := by
  have := List.all_eq_true.1 check a (List.mem_range.2 h)
  simp only [Bool.and_eq_true, decide_eq_true_eq] at this
  exact this.1
theorem enc_dec (a : Nat) (h : a < 256) (hx : encN a ≠ 0) : decN (encN a) = a := by
  have := List.all_eq_true.1 check a (List.mem_range.2 h)
  simp only [Bool.and_eq_true, Bool.or_eq_true, beq_iff_eq] at this
  rcases this.2 with h1 | h1
  · exact absurd h1 hx
  · exact h1
theorem tab_bd {t : List Int} (h : t.all (fun z => decide (0 ≤ z ∧ z ≤ 255)) = true) (hl : t.length = 256) (i : Nat) (hi : i < 256) : 0 ≤ t.getD i 0 ∧ t.getD i 0 ≤ 255 := by
  have := List.all_eq_true.1 h (t.getD i 0) (by rw [List.getD_eq_getElem?_getD, List.getElem?_eq_getElem (by omega)]; exact List.getElem_mem _)
  simpa using this

/-- what the list gives -/
structure Tabs (W : World) : Prop where
  one : ∃ a c, W.cell? ⟨0, 0, none⟩ = some (.slice a tab1.length c) ∧ Sl W W.heap.size a (tab1.map (.int .u8))
  two : ∃ a c, W.cell? ⟨1, 0, none⟩ = some (.slice a tab2.length c) ∧ Sl W W.heap.size a (tab2.map (.int .u8))

theorem tabs_of {W : World} (h : laidMetH Tryd.prog Rows.fnCommonRow.laid W) : Tabs W := by
  obtain ⟨ps, h1, _⟩ := (show laidMet Tryd.prog Rows.fnCommonRow.laid W from h)
  have h2 : DataW.LaidVars Tryd.prog W [("pub-traverser/pub/vellum.commonInputs", .slice (lits .u8 tab1) []), ("pub-traverser/pub/vellum.commonInputsInv", .slice (lits .u8 tab2) [])] ps := by
    rw [← eq1, ← eq2]
    exact h1
  obtain ⟨⟨a, c, hc, hs, _⟩, q, h3⟩ := laid_slice (g := 0) (by kernel_rfl) (by kernel_rfl) Tryd.underlying26 Tryd.underlying5 (by kernel_rfl) h2
  obtain ⟨⟨a', c', hc', hs', _⟩, _⟩ := laid_slice (g := 1) (by kernel_rfl) (by kernel_rfl) Tryd.underlying26 Tryd.underlying5 (by kernel_rfl) h3
  exact ⟨⟨a, c, hc, hs⟩, ⟨a', c', hc', hs'⟩⟩

theorem ret_u8 {a b : Int} (h : a = b) : Ending.returned (.int .u8 a) = .returned (.int .u8 b) := by rw [h]

theorem enc_any (n : Nat) (w : World) (hn : n < 256) (hT : Tabs w) : Calls Tryd.prog 7 #[.int .u8 n] w fun e w' => e = .returned (.int .u8 (encN n : Nat)) ∧ w = w' := by
  obtain ⟨a, c, hc, hs⟩ := hT.one
  obtain ⟨ad, rfl, hcell⟩ := hs.ints n (by rw [len1]; exact hn)
  have hb := tab_bd bd1 len1 n hn
  have HE := Lib.hid (show encN n = if 63 < (tab1.getD n 0 + 1) % 256 then 0 else ((tab1.getD n 0 + 1) % 256).toNat from rfl)
  rw [len1] at hc
  clear hs hT
  generalize tab1.getD n 0 = z at *
  by_cases h : 63 < (z + 1) % 256
  · have HE2 := Lib.hid (HE.out.trans (if_pos h))
    go_enter Tryd.func7, Tryd.ntmps7
    go_wp2
    go_ret
    exact ⟨ret_u8 (by rw [HE2.out]; rfl), rfl⟩
  · have HE2 := Lib.hid (HE.out.trans (if_neg h))
    go_enter Tryd.func7, Tryd.ntmps7
    go_wp2
    go_ret
    exact ⟨ret_u8 (by rw [HE2.out]; show (z + 1) % 256 = _; omega), rfl⟩

theorem dec_any (n : Nat) (w : World) (hn : n < 256) (hT : Tabs w) : Calls Tryd.prog 8 #[.int .u8 n] w fun e w' => e = .returned (.int .u8 (decN n : Nat)) ∧ w = w' := by
  obtain ⟨a, c, hc, hs⟩ := hT.two
  obtain ⟨ad, rfl, hcell⟩ := hs.ints ((n + 255) % 256) (by rw [len2]; omega)
  have hb := tab_bd bd2 len2 ((n + 255) % 256) (by omega)
  have HE := Lib.hid (show decN n = (tab2.getD ((n + 255) % 256) 0).toNat from rfl)
  rw [len2] at hc
  clear hs hT
  generalize tab2.getD ((n + 255) % 256) 0 = z at *
  have hi : IntKind.u8.wrap ((n : Int) - 1) = (((n + 255) % 256 : Nat) : Int) := by rw [IntKind.wrap_u8]; omega
  have hlt : (n + 255) % 256 < 256 := by omega
  generalize (n + 255) % 256 = m at *
  go_enter Tryd.func8, Tryd.ntmps8
  go_wp2
  go_ret
  exact ⟨ret_u8 (by rw [HE.out]; show z = _; omega), rfl⟩

theorem com_any (n : Nat) (w : World) (hn : n < 256) (hT : Tabs w) : Calls Tryd.prog 4 #[.int .u8 n] w fun e w' => e = .returned (.tuple #[.int .u8 (encN n : Nat), .int .u8 (decN (encN n) : Nat)]) ∧ w = w' := by
  have C1 := Lib.hid (enc_any n w hn hT)
  have C2 := Lib.hid (dec_any (encN n) w (by have := enc_le n hn; omega) hT)
  clear hT
  generalize decN (encN n) = d at *
  generalize encN n = x at *
  go_enter Tryd.func4, Tryd.ntmps4
  go_wp2_with (first | (go_at_call 7; refine C1.out.mono ?_; rintro e w' ⟨rfl, rfl⟩) | (go_at_call 8; refine C2.out.mono ?_; rintro e w' ⟨rfl, rfl⟩) | go_in)
  go_ret2
  exact ⟨rfl, rfl⟩

theorem b_ne (x y : Nat) (h : x = y) : (((x : Int) != (y : Int)) = false) := by rw [bne_eq_false_iff_eq, h]
theorem b_ne' (x y : Nat) (h : x ≠ y) : (((x : Int) != (y : Int)) = true) := by rw [bne_iff_ne]; omega

set_option maxHeartbeats 1000000 in
theorem law_any (a b : Nat) (w : World) (ha : a < 256) (hb : b < 256) (hT : Tabs w) :
    Calls Tryd.prog 3 #[.int .u8 a, .int .u8 b] w fun e w' => e = .returned (.bool true) ∧ Below w.heap.size w w' := by
  have C1 := Lib.hid (com_any a w ha hT)
  have C2 := Lib.hid (com_any b w hb hT)
  have C3 := Lib.hid (com_any 101 w (by omega) hT)
  have hE := of_decide_eq_true check_e
  have l1 := enc_le a ha
  have l2 := enc_le b hb
  have d1 := enc_dec a ha
  have d2 := enc_dec b hb
  have hI : encN a ≠ 0 → encN a = encN b → a = b := fun h e => by
    have h1 := d1 h
    rw [e] at h1 h
    rw [← h1, d2 h]
  clear hT
  generalize hx : encN a = x at *
  generalize hy : encN b = y at *
  generalize encN 101 = z at *
  generalize decN x = dx at *
  generalize decN y = dy at *
  generalize decN z = dz at *
  clear hx hy
  obtain ⟨hE1, hE2⟩ := hE
  have e1 : (((dz : Nat) : Int) != 101) = false := by rw [bne_eq_false_iff_eq]; omega
  have e2 : (((z : Nat) : Int) == 0) = false := by rw [beq_eq_false_iff_ne]; omega
  have l3 : ¬ (63 : Int) < x := by omega
  have l4 : ¬ (63 : Int) < y := by omega
  have l5 : decide ((63 : Int) < x) = false := decide_eq_false l3
  have l6 : decide ((63 : Int) < y) = false := decide_eq_false l4
  clear hE1 hE2 l1 l2
  by_cases hx : x = 0
  · have f1 : (((x : Nat) : Int) != 0) = false := by rw [bne_eq_false_iff_eq]; omega
    have f2 : (((x : Nat) : Int) == 0) = true := by rw [beq_iff_eq]; omega
    by_cases hy : y = 0
    · have g1 : (((y : Nat) : Int) != 0) = false := by rw [bne_eq_false_iff_eq]; omega
      clear hx hy hI d1 d2
      go_enter Tryd.func3, Tryd.ntmps3
      go_wp2_with fail
      refine C1.out.mono ?_
      rintro e w' ⟨rfl, rfl⟩
      go_wp2_with fail
      refine C2.out.mono ?_
      rintro e w' ⟨rfl, rfl⟩
      go_wp2_with fail
      refine C3.out.mono ?_
      rintro e w' ⟨rfl, rfl⟩
      go_wp2
      go_ret
      exact ⟨rfl, Below.refl _ _⟩
    · have g1 : (((y : Nat) : Int) != 0) = true := by rw [bne_iff_ne]; omega
      have g2 := b_ne dy b (d2 hy)
      clear hx hy hI d1 d2
      go_enter Tryd.func3, Tryd.ntmps3
      go_wp2_with fail
      refine C1.out.mono ?_
      rintro e w' ⟨rfl, rfl⟩
      go_wp2_with fail
      refine C2.out.mono ?_
      rintro e w' ⟨rfl, rfl⟩
      go_wp2_with fail
      refine C3.out.mono ?_
      rintro e w' ⟨rfl, rfl⟩
      go_wp2
      go_ret
      exact ⟨rfl, Below.refl _ _⟩
  · have f1 : (((x : Nat) : Int) != 0) = true := by rw [bne_iff_ne]; omega
    have f2 : (((x : Nat) : Int) == 0) = false := by rw [beq_eq_false_iff_ne]; omega
    have f3 := b_ne dx a (d1 hx)
    by_cases hy : y = 0
    · have g1 : (((y : Nat) : Int) != 0) = false := by rw [bne_eq_false_iff_eq]; omega
      have g2 := b_ne' x y (by omega)
      clear hx hy hI d1 d2
      go_enter Tryd.func3, Tryd.ntmps3
      go_wp2_with fail
      refine C1.out.mono ?_
      rintro e w' ⟨rfl, rfl⟩
      go_wp2_with fail
      refine C2.out.mono ?_
      rintro e w' ⟨rfl, rfl⟩
      go_wp2_with fail
      refine C3.out.mono ?_
      rintro e w' ⟨rfl, rfl⟩
      go_wp2
      go_ret
      exact ⟨rfl, Below.refl _ _⟩
    · have g1 : (((y : Nat) : Int) != 0) = true := by rw [bne_iff_ne]; omega
      have g2 := b_ne dy b (d2 hy)
      by_cases hxy : x = y
      · have g3 := b_ne x y hxy
        have g4 : (((a : Nat) : Int) == (b : Int)) = true := by rw [beq_iff_eq]; have := hI hx hxy; omega
        clear hx hy hI d1 d2 hxy
        go_enter Tryd.func3, Tryd.ntmps3
        go_wp2_with fail
        refine C1.out.mono ?_
        rintro e w' ⟨rfl, rfl⟩
        go_wp2_with fail
        refine C2.out.mono ?_
        rintro e w' ⟨rfl, rfl⟩
        go_wp2_with fail
        refine C3.out.mono ?_
        rintro e w' ⟨rfl, rfl⟩
        go_wp2
        go_ret
        exact ⟨rfl, Below.refl _ _⟩
      · have g3 := b_ne' x y hxy
        clear hx hy hI d1 d2 hxy
        go_enter Tryd.func3, Tryd.ntmps3
        go_wp2_with fail
        refine C1.out.mono ?_
        rintro e w' ⟨rfl, rfl⟩
        go_wp2_with fail
        refine C2.out.mono ?_
        rintro e w' ⟨rfl, rfl⟩
        go_wp2_with fail
        refine C3.out.mono ?_
        rintro e w' ⟨rfl, rfl⟩
        go_wp2
        go_ret
        exact ⟨rfl, Below.refl _ _⟩

end Go.Proofs.YtpmkkajbmdoflabDoor.fnCommon
