/-
  FnStateFor: what is read of the bytes: numbers, sizes, short codes; a state with one arc. Conditions: as stated.
-/
import Derived.Test.YtjonmfaeonldcaaDoorStL
import Derived.Laws.BitsAllLaws
namespace Go.Proofs.YtjonmfaeonldcaaDoor.fnStateFor
open Go.ChangeShapes Go.WideShapes Go.ChangeAt Go.RowKit
set_option linter.unusedVariables false

theorem or_step (n : Nat) (x z : Int) (hn : n < 8) (hx0 : 0 ≤ x) (hx : x < 256 ^ n) (hz0 : 0 ≤ z) (hz : z ≤ 255) :
    bits .or .u64 x (IntKind.u64.wrap (IntKind.u64.wrap z * 2 ^ (n * 8))) = x + z * 256 ^ n := by
  obtain ⟨X, rfl⟩ := Int.eq_ofNat_of_zero_le hx0
  obtain ⟨Z, rfl⟩ := Int.eq_ofNat_of_zero_le hz0
  have e1 : (256 : Int) ^ n = ((2 ^ (8 * n) : Nat) : Int) := by
    rw [Nat.pow_mul]; simp
  have e2 : (2 : Int) ^ (n * 8) = ((2 ^ (8 * n) : Nat) : Int) := by rw [Nat.mul_comm n 8]; simp
  have hp : (2 : Nat) ^ (8 * n) ≤ 2 ^ 56 := Nat.pow_le_pow_right (by omega) (by omega)
  have hp1 : 1 ≤ (2 : Nat) ^ (8 * n) := Nat.one_le_two_pow
  rw [e1] at hx
  rw [e1, e2]
  generalize hq : (2 : Nat) ^ (8 * n) = q at *
  have hX : X < q := by omega
  have hZ : Z ≤ 255 := by omega
  have hm : Z * q ≤ 255 * q := Nat.mul_le_mul_right q hZ
  have hw : IntKind.u64.wrap (IntKind.u64.wrap (Z : Int) * (q : Int)) = ((Z * q : Nat) : Int) := by
    rw [IntKind.wrap_u64, IntKind.wrap_u64]
    have : ((Z : Int) % 18446744073709551616) = (Z : Int) := by omega
    rw [this, ← Int.natCast_mul]
    generalize Z * q = m at *
    omega
  rw [hw, u64_or_nat X (Z * q) (by omega) (by generalize Z * q = m at *; omega), Nat.or_comm, nat_join (8 * n) (Z * q) X (by rw [hq]; exact Nat.mul_mod_left _ _) (by rw [hq]; exact hX)]
  rw [Int.natCast_add, Int.natCast_mul, Int.add_comm]

theorem take_snoc (zs : List Int) (n : Nat) (h : n < zs.length) : zs.take (n + 1) = zs.take n ++ [zs[n]] := by
  rw [List.take_succ_eq_append_getElem h]

set_option maxHeartbeats 400000 in
theorem read_any (a : Option Addr) (zs : List Int) (c : Nat) (w : World) (hn : zs.length ≤ 8) (hb : ∀ z ∈ zs, 0 ≤ z ∧ z ≤ 255)
    (hc : ∀ j, j < zs.length → ∃ ad, a = some ad ∧ w.cell? (ad.add j) = some (.int .u8 (zs.getD j 0))) :
    Calls Tryd.prog 51 #[.slice a zs.length c] w fun e w' => e = .returned (.int .u64 (leNum zs)) ∧ w = w' := by
  go_enter Tryd.func51, Tryd.ntmps51
  go_wp2
  go_loop [2, 3, 4, 7] (fun rv _ _ k => ∃ n : Nat, n ≤ zs.length ∧ k = .int .i64 n ∧ rv = .int .u64 (leNum (zs.take n))) (fun _ _ _ k => zs.length - (intOf k).toNat)
  case atStart => exact ⟨0, by omega, rfl, rfl⟩
  case round =>
    obtain ⟨n, hnn, rfl, rfl⟩ := hrel
    by_cases hlt : n < zs.length
    · obtain ⟨ad, rfl, hcell⟩ := hc n hlt
      have HS := Lib.hid (take_snoc zs n hlt)
      have h1 := leNum_bd (zs.take n) (fun z hz => hb z (List.mem_of_mem_take hz))
      have H1 := Lib.hid h1
      have H2 := Lib.hid (hb _ (List.getElem_mem hlt))
      have HL : (zs.take n).length ≤ n := List.length_take_le _ _
      have HL2 := Lib.hid (List.length_take_of_le hnn)
      clear hc hb h1
      go_wp2
      go_round
      case rel =>
        refine ⟨n + 1, by omega, by go_num, ?_⟩
        have h1 := H1.out
        rw [HL2.out] at h1
        rw [HS.out, leNum_snoc, HL2.out, or_step n _ _ (by omega) h1.1 h1.2 H2.out.1 H2.out.2]
      case measure => simp [intOf]; omega
    · obtain rfl : n = zs.length := by omega
      go_wp2
      go_ret
      exact ⟨rfl, rfl⟩


/-- the bytes D lie in block g from its beginning on -/
structure Dt (W : World) (g : Nat) (D : List Int) : Prop where
  c : ∀ i, i < D.length → W.cell? ⟨g, i, none⟩ = some (.int .u8 (D.getD i 0))
theorem Dt.go {W W' : World} {g : Nat} {D : List Int} (h : Dt W g D) (hc : W'.heap[g]? = W.heap[g]?) : Dt W' g D := ⟨fun i hi => (World.cell?_of_block (a := ⟨g, i, none⟩) hc).trans (h.c i hi)⟩
theorem Dt.byte {W : World} {g i : Nat} {D : List Int} {y : Int} (h : Dt W g D) (ha : At D i [y]) : W.cell? ⟨g, i, none⟩ = some (.int .u8 y) := by
  have := h.c i (by have := ha.len; simp at this; omega)
  rw [ha.get] at this
  exact this
theorem At.getD {D X : List Int} {i j : Nat} (h : At D i X) (hj : j < X.length) : D.getD (i + j) 0 = X.getD j 0 := by
  obtain ⟨A, Z, rfl, rfl⟩ := h
  rw [getD_r _ _ _ _ (by omega), show A.length + j - A.length = j by omega, getD_l _ _ _ _ hj]
theorem Dt.cell {W : World} {g i j : Nat} {D X : List Int} (h : Dt W g D) (ha : At D i X) (hj : j < X.length) : W.cell? ⟨g, i + j, none⟩ = some (.int .u8 (X.getD j 0)) := by
  have := h.c (i + j) (by have := ha.len; omega)
  rw [ha.getD hj] at this
  exact this
/-- a number is read of its bytes -/
theorem rpu_any {W : World} {g i n c : Nat} {D : List Int} {v : Int} (h : Dt W g D) (ha : At D i (pk v n)) (hn : n ≤ 8) (h0 : 0 ≤ v) (hv : v < 256 ^ n) (w : World) (hw : ∀ p : Addr, p.block = g → w.cell? p = W.cell? p) :
    Calls Tryd.prog 51 #[.slice (some ⟨g, i, none⟩) n c] w fun e w' => e = .returned (.int .u64 v) ∧ w = w' := by
  have hx := read_any (some ⟨g, i, none⟩) (pk v n) c w (by rw [pk_len]; exact hn) (pk_bd v n) (fun j hj => ⟨_, rfl, by
    have e : ((⟨g, i, none⟩ : Addr).add j) = ⟨g, i + j, none⟩ := by
      unfold Addr.add
      by_cases h0 : j = 0 <;> simp [h0]
    rw [e, hw _ rfl]
    exact h.cell ha hj⟩)
  rw [pk_len, leNum_pk' v n h0 hv] at hx
  exact hx
theorem dps_eq : ∀ t : Fin 9, ∀ o : Fin 9, (16 * (t.val : Int) + (o.val : Int)) / 2 ^ 4 = (t.val : Int) ∧ bits .and .u8 (16 * (t.val : Int) + (o.val : Int)) 15 = (o.val : Int) := by decide +kernel
theorem dps_any (t o : Nat) (ht : t ≤ 8) (ho : o ≤ 8) (w : World) : Calls Tryd.prog 50 #[.int .u8 (16 * (t : Int) + o)] w fun e w' => e = .returned (.tuple #[.int .i64 t, .int .i64 o]) ∧ w = w' := by
  have h := dps_eq ⟨t, by omega⟩ ⟨o, by omega⟩
  have h1 : (16 * (t : Int) + (o : Int)) / 2 ^ 4 = t := h.1
  have h3 : (16 * (t : Int) + (o : Int)) / 16 = t := h1
  have h2 : bits .and .u8 (16 * (t : Int) + (o : Int)) 15 = o := h.2
  clear h
  go_enter Tryd.func50, Tryd.ntmps50
  go_wp2
  go_ret2
  exact ⟨rfl, rfl⟩
/-- a byte's short code means the byte -/
theorem cd_back (i : Int) (h0 : 0 ≤ i) (h1 : i ≤ 255) (hc : cd i ≠ 0) (w : World) (hT : Tabs w) : Calls Tryd.prog 49 #[.int .u8 (cd i)] w fun e w' => e = .returned (.int .u8 i) ∧ w = w' := by
  obtain ⟨n, rfl⟩ := Int.eq_ofNat_of_zero_le h0
  have h2 := enc_le n (by omega)
  have h3 := dec_any (encN n) w (by omega) hT
  have e : cd (n : Int) = (encN n : Nat) := rfl
  rw [e] at hc ⊢
  rw [enc_dec n (by omega) (by omega)] at h3
  exact h3

end Go.Proofs.YtjonmfaeonldcaaDoor.fnStateFor
