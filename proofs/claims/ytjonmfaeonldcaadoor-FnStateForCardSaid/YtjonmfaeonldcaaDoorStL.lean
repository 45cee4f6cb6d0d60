/-
  FnStateFor: the small functions: short codes, sizes, distances. Conditions: the tables of short codes, as listed.
-/
import Derived.Test.YtjonmfaeonldcaaDoorStK
import Derived.Test.YtjonmfaeonldcaaDoorLaid
import Derived.Lib.LaidSlice
namespace Go.Proofs.YtjonmfaeonldcaaDoor.fnStateFor
open Go.ChangeShapes Go.WideShapes Go.ChangeAt Go.RowKit
set_option linter.unusedVariables false

def dataInts : DataW Unit → List Int
  | .slice l _ => l.map fun
    | .lit (.int _ z) => z
    | _ => 0
  | _ => []
def tab1 : List Int := dataInts Rows.laid_pub_traverser_pub_vellum_commonInputs
def tab2 : List Int := dataInts Rows.laid_pub_traverser_pub_vellum_commonInputsInv
def nat1 : List Nat := tab1.map Int.toNat
def nat2 : List Nat := tab2.map Int.toNat
theorem eq1 : (Rows.laid_pub_traverser_pub_vellum_commonInputs : DataW Unit) = .slice (lits .u8 tab1) [] := by kernel_rfl
theorem eq2 : (Rows.laid_pub_traverser_pub_vellum_commonInputsInv : DataW Unit) = .slice (lits .u8 tab2) [] := by kernel_rfl
theorem len1 : tab1.length = 256 := by kernel_rfl
theorem len2 : tab2.length = 256 := by kernel_rfl
theorem bd1 : tab1.all (fun z => decide (0 ≤ z ∧ z ≤ 255)) = true := by kernel_rfl
theorem bd2 : tab2.all (fun z => decide (0 ≤ z ∧ z ≤ 255)) = true := by kernel_rfl
def encN (a : Nat) : Nat := if 63 < (tab1.getD a 0 + 1) % 256 then 0 else ((tab1.getD a 0 + 1) % 256).toNat
def decN (c : Nat) : Nat := (tab2.getD ((c + 255) % 256) 0).toNat
theorem check : (List.range 256).all (fun a => decide (encN a ≤ 63) && (encN a == 0 || decN (encN a) == a)) = true := by kernel_rfl
theorem check_e : decide (encN 101 ≠ 0 ∧ decN (encN 101) = 101) = true := by kernel_rfl

theorem enc_le (a : Nat) (h : a < 256) : encN a ≤ 63 := by
  have := List.all_eq_true.1 check a (List.mem_range.2 h)
  simp only [Bool.and_eq_true, decide_eq_true_eq] at this
  exact this.1
theorem enc_dec (a : Nat) (h : a < 256) (hx : encN a ≠ 0) : decN (encN a) = a := by
  have := List.all_eq_true.1 check a (List.mem_range.2 h)
  simp only [Bool.and_eq_true, Bool.or_eq_true, beq_iff_eq] at this
  rcases this.2 with h1 | h1
  · exact absurd h1 hx
  · exact h1
theorem tab_bd {t : List Int} (h : t.all (fun z => decide (0 ≤ z ∧ z ≤ 255)) = true) (hl : t.length = 256) (i : Nat) (hi : i < 256) : 0 ≤ t.getD i 0 ∧ t.getD i 0 ≤ 255 := by
  have := List.all_eq_true.1 h (t.getD i 0) (by rw [List.getD_eq_getElem?_getD, List.getElem?_eq_getElem (by omega)]; exact List.getElem_mem _)
  simpa using this

/-- what the list gives -/
structure Tabs (W : World) : Prop where
  one : ∃ a c, W.cell? ⟨1, 0, none⟩ = some (.slice a tab1.length c) ∧ Sl W W.heap.size a (tab1.map (.int .u8))
  two : ∃ a c, W.cell? ⟨3, 0, none⟩ = some (.slice a tab2.length c) ∧ Sl W W.heap.size a (tab2.map (.int .u8))

theorem ret_u8 {a b : Int} (h : a = b) : Ending.returned (.int .u8 a) = .returned (.int .u8 b) := by rw [h]

theorem enc_any (n : Nat) (w : World) (hn : n < 256) (hT : Tabs w) : Calls Tryd.prog 47 #[.int .u8 n] w fun e w' => e = .returned (.int .u8 (encN n : Nat)) ∧ w = w' := by
  obtain ⟨a, c, hc, hs⟩ := hT.one
  obtain ⟨ad, rfl, hcell⟩ := hs.ints n (by rw [len1]; exact hn)
  have hb := tab_bd bd1 len1 n hn
  have HE := Lib.hid (show encN n = if 63 < (tab1.getD n 0 + 1) % 256 then 0 else ((tab1.getD n 0 + 1) % 256).toNat from rfl)
  rw [len1] at hc
  clear hs hT
  generalize tab1.getD n 0 = z at *
  by_cases h : 63 < (z + 1) % 256
  · have HE2 := Lib.hid (HE.out.trans (if_pos h))
    go_enter Tryd.func47, Tryd.ntmps47
    go_wp2
    go_ret
    exact ⟨ret_u8 (by rw [HE2.out]; rfl), rfl⟩
  · have HE2 := Lib.hid (HE.out.trans (if_neg h))
    go_enter Tryd.func47, Tryd.ntmps47
    go_wp2
    go_ret
    exact ⟨ret_u8 (by rw [HE2.out]; show (z + 1) % 256 = _; omega), rfl⟩

theorem dec_any (n : Nat) (w : World) (hn : n < 256) (hT : Tabs w) : Calls Tryd.prog 49 #[.int .u8 n] w fun e w' => e = .returned (.int .u8 (decN n : Nat)) ∧ w = w' := by
  obtain ⟨a, c, hc, hs⟩ := hT.two
  obtain ⟨ad, rfl, hcell⟩ := hs.ints ((n + 255) % 256) (by rw [len2]; omega)
  have hb := tab_bd bd2 len2 ((n + 255) % 256) (by omega)
  have HE := Lib.hid (show decN n = (tab2.getD ((n + 255) % 256) 0).toNat from rfl)
  rw [len2] at hc
  clear hs hT
  generalize tab2.getD ((n + 255) % 256) 0 = z at *
  have hi : IntKind.u8.wrap ((n : Int) - 1) = (((n + 255) % 256 : Nat) : Int) := by rw [IntKind.wrap_u8]; omega
  have hlt : (n + 255) % 256 < 256 := by omega
  generalize (n + 255) % 256 = m at *
  go_enter Tryd.func49, Tryd.ntmps49
  go_wp2
  go_ret
  exact ⟨ret_u8 (by rw [HE.out]; show z = _; omega), rfl⟩


/-- a byte's short code -/
def cd (i : Int) : Int := (encN i.toNat : Nat)
theorem cd_bd (i : Int) (h0 : 0 ≤ i) (h1 : i ≤ 255) : 0 ≤ cd i ∧ cd i ≤ 63 := by
  have := enc_le i.toNat (by omega)
  unfold cd
  omega
theorem cd_any (i : Int) (h0 : 0 ≤ i) (h1 : i ≤ 255) (w : World) (hT : Tabs w) : Calls Tryd.prog 47 #[.int .u8 i] w fun e w' => e = .returned (.int .u8 (cd i)) ∧ w = w' := by
  obtain ⟨n, rfl⟩ := Int.eq_ofNat_of_zero_le h0
  exact enc_any n w (by omega) hT
theorem Tabs.below {w w' : World} (h : Tabs w) {B : Nat} (hb : Below B w w') (h0 : w.heap.size ≤ B) : Tabs w' := by
  obtain ⟨⟨a, c, h1, h2⟩, ⟨a', c', h3, h4⟩⟩ := h
  have l1 := World.block_lt_of_cell? w _ h1
  have l3 := World.block_lt_of_cell? w _ h3
  exact ⟨⟨a, c, (hb.cell (Nat.lt_of_lt_of_le l1 h0)).trans h1, (h2.below (hb.mono h0)).more hb.size⟩, ⟨a', c', (hb.cell (Nat.lt_of_lt_of_le l3 h0)).trans h3, (h4.below (hb.mono h0)).more hb.size⟩⟩

theorem eps_eq : ∀ t : Fin 9, ∀ o : Fin 9, bits .or .u8 ((t.val : Int) * 16) (o.val : Int) = 16 * (t.val : Int) + (o.val : Int) := by decide +kernel
theorem eps_any (t o : Nat) (ht : t ≤ 8) (ho : o ≤ 8) (w : World) : Calls Tryd.prog 45 #[.int .i64 t, .int .i64 o] w fun e w' => e = .returned (.int .u8 (16 * (t : Int) + o)) ∧ w = w' := by
  have h := eps_eq ⟨t, by omega⟩ ⟨o, by omega⟩
  have h : bits .or .u8 ((t : Int) * 16) (o : Int) = 16 * (t : Int) + (o : Int) := h
  go_enter Tryd.func45, Tryd.ntmps45
  go_wp2
  go_ret
  exact ⟨rfl, rfl⟩

theorem ent_any (n : Nat) (hn : n ≤ 256) (w : World) : Calls Tryd.prog 46 #[.int .i64 n] w fun e w' => e = .returned (.int .u8 (numB n)) ∧ w = w' := by
  by_cases h : n ≤ 63
  · rw [show numB n = n from if_pos h]
    go_enter Tryd.func46, Tryd.ntmps46
    go_wp2
    go_ret
    exact ⟨rfl, rfl⟩
  · rw [show numB n = 0 from if_neg h]
    go_enter Tryd.func46, Tryd.ntmps46
    go_wp2
    go_ret
    exact ⟨rfl, rfl⟩

theorem dlt_any (s a : Int) (h0 : 0 ≤ a) (h1 : a ≤ s) (h2 : s ≤ 1000000000) (w : World) : Calls Tryd.prog 42 #[.int .u64 s, .int .u64 a] w fun e w' => e = .returned (.int .u64 (dlt s a)) ∧ w = w' := by
  by_cases h : a = 0
  · rw [show dlt s a = 0 from if_pos h]
    subst h
    go_enter Tryd.func42, Tryd.ntmps42
    go_wp2
    go_ret
    exact ⟨rfl, rfl⟩
  · rw [show dlt s a = s - a from if_neg h]
    go_enter Tryd.func42, Tryd.ntmps42
    go_wp2
    go_ret
    exact ⟨rfl, rfl⟩

theorem psz_any (n : Int) (h0 : 0 ≤ n) (h1 : n ≤ 18446744073709551615) (w : World) : Calls Tryd.prog 41 #[.int .u64 n] w fun e w' => e = .returned (.int .i64 (szN n)) ∧ w = w' := by
  rw [szN_cast]
  go_enter Tryd.func41, Tryd.ntmps41
  go_wp2
  all_goals
    go_ret
    refine ⟨ret_int ?_, rfl⟩
    unfold szI
    repeat' split
    all_goals first | rfl | omega

end Go.Proofs.YtjonmfaeonldcaaDoor.fnStateFor
