/-
  FnStateFor: where a byte is found in a row of bytes. Conditions: as stated.
-/
import Derived.Test.YtjonmfaeonldcaaDoorStS
import Derived.Lib.BytesEntry
namespace Go.Proofs.YtjonmfaeonldcaaDoor.fnStateFor
open Go.ChangeShapes Go.WideShapes Go.ChangeAt Go.RowKit
set_option linter.unusedVariables false

theorem byte_eq (x y : Int) (hx0 : 0 ≤ x) (hx : x ≤ 255) (hy0 : 0 ≤ y) (hy : y ≤ 255) : (UInt8.ofNat x.toNat == y.toNat.toUInt8) = decide (x = y) := by
  have e : y.toNat.toUInt8 = UInt8.ofNat y.toNat := rfl
  rw [e]
  by_cases h : x = y
  · subst h
    simp
  · rw [decide_eq_false h, beq_eq_false_iff_ne]
    intro h2
    have h3 := congrArg UInt8.toNat h2
    rw [UInt8.toNat_ofNat', UInt8.toNat_ofNat', Nat.mod_eq_of_lt (by omega), Nat.mod_eq_of_lt (by omega)] at h3
    omega

/-- a byte that is not there -/
theorem ix_none : ∀ (xs : List Int) (y : Int), (∀ z ∈ xs, 0 ≤ z ∧ z ≤ 255) → 0 ≤ y → y ≤ 255 → (∀ z ∈ xs, z ≠ y) → Lib.indexByte (Lib.bytesOf xs) y.toNat.toUInt8 = -1
  | [], y, _, _, _, _ => rfl
  | x :: xs, y, hb, h0, h1, hn => by
    have hx := hb x (by simp)
    have ih := ix_none xs y (fun z hz => hb z (by simp [hz])) h0 h1 (fun z hz => hn z (by simp [hz]))
    show (if (UInt8.ofNat x.toNat == y.toNat.toUInt8) then (0 : Int) else if Lib.indexByte (Lib.bytesOf xs) y.toNat.toUInt8 == -1 then -1 else Lib.indexByte (Lib.bytesOf xs) y.toNat.toUInt8 + 1) = -1
    rw [byte_eq x y hx.1 hx.2 h0 h1, decide_eq_false (hn x (by simp)), ih]
    rfl
/-- a byte's first place -/
theorem ix_some : ∀ (xs : List Int) (y : Int) (k : Nat), (∀ z ∈ xs, 0 ≤ z ∧ z ≤ 255) → 0 ≤ y → y ≤ 255 → k < xs.length → xs.getD k 0 = y → (∀ j, j < k → xs.getD j 0 ≠ y) → Lib.indexByte (Lib.bytesOf xs) y.toNat.toUInt8 = k
  | [], y, k, _, _, _, hk, _, _ => by simp at hk
  | x :: xs, y, k, hb, h0, h1, hk, he, hn => by
    have hx := hb x (by simp)
    show (if (UInt8.ofNat x.toNat == y.toNat.toUInt8) then (0 : Int) else if Lib.indexByte (Lib.bytesOf xs) y.toNat.toUInt8 == -1 then -1 else Lib.indexByte (Lib.bytesOf xs) y.toNat.toUInt8 + 1) = k
    match k with
    | 0 =>
      have : x = y := he
      rw [byte_eq x y hx.1 hx.2 h0 h1, decide_eq_true this]
      rfl
    | k + 1 =>
      have h2 : x ≠ y := hn 0 (by omega)
      have ih := ix_some xs y k (fun z hz => hb z (by simp [hz])) h0 h1 (by simp at hk; omega) he (fun j hj => hn (j + 1) (by omega))
      rw [byte_eq x y hx.1 hx.2 h0 h1, decide_eq_false h2, ih]
      have : (((k : Int)) == -1) = false := by rw [beq_eq_false_iff_ne]; omega
      rw [this]
      simp

set_option maxRecDepth 100000 in
theorem ib_any {W : World} {g i n c : Nat} {D X : List Int} {y : Int} (h : Dt W g D) (ha : At D i X) (hn : n = X.length) (w : World) (hw : ∀ p : Addr, p.block = g → w.cell? p = W.cell? p) :
    Calls Tryd.prog 88 #[.slice (some ⟨g, i, none⟩) n c, .int .u8 y] w fun e w' => e = .returned (.int .i64 (Lib.indexByte (Lib.bytesOf X) y.toNat.toUInt8)) ∧ w = w' := by
  subst hn
  have hc : ∀ j, j < X.length → w.cell? ⟨g, i + j, none⟩ = some (.int .u8 (X.getD j 0)) := fun j hj => by
    rw [hw ⟨g, i + j, none⟩ rfl]
    exact h.cell ha hj
  have R := Lib.run_indexByteSlice (P := Tryd.prog) w g i X.length c X rfl hc y
  have mixed : Tryd.prog.follows .mixedOrders = true := by kernel_rfl
  clear hc h ha
  go_enter Tryd.func88, Tryd.ntmps88
  go_wp2
  rw [run_callFunc_extern Tryd.func89 (by kernel_rfl) (by kernel_rfl) (by kernel_rfl) (e := Extern.BytealgIndexByte.indexByte) (by kernel_rfl), R]
  simp only [Result.andThen]
  rw [Oper.upon_value]
  go_wp2
  go_ret
  exact ⟨rfl, rfl⟩

end Go.Proofs.YtjonmfaeonldcaaDoor.fnStateFor
