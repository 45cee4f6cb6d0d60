/-
  FnStateFor: bytes.Buffer: Len, tryGrowByReslice, where the buffer has only been written. Conditions: as stated.
-/
import Derived.Test.YtjonmfaeonldcaaDoorStFr
namespace Go.Proofs.YtjonmfaeonldcaaDoor.fnStateFor
open Go.ChangeShapes Go.WideShapes Go.ChangeAt Go.RowKit
set_option linter.unusedVariables false

/-- the struct of a Buffer that has only been written -/
def Bs (W : World) (b : Nat) (v : Value) : Prop := ∃ lr : Int, Blk W b 52 [v, .int .i64 0, .int .i8 lr]
theorem Bs.cells {W : World} {b : Nat} {v : Value} (h : Bs W b v) : W.cell? ⟨b, 0, none⟩ = some v ∧ W.cell? ⟨b, 1, none⟩ = some (.int .i64 0) ∧ (∃ u, W.cell? ⟨b, 2, none⟩ = some u) ∧ W.frozen? ⟨b, 0, none⟩ = false ∧ W.frozen? ⟨b, 1, none⟩ = false ∧ W.frozen? ⟨b, 2, none⟩ = false := by
  obtain ⟨lr, h⟩ := h
  exact ⟨h.cell 0, h.cell 1, ⟨_, h.cell 2⟩, h.frozen 0, h.frozen 1, h.frozen 2⟩
theorem Bs.set0 {W : World} {b : Nat} {v : Value} (h : Bs W b v) (u : Value) : Bs (W.setCell ⟨b, 0, none⟩ u) b u := by
  obtain ⟨lr, h⟩ := h
  exact ⟨lr, h.set_ 0 u⟩
theorem Bs.set1 {W : World} {b : Nat} {v : Value} (h : Bs W b v) : Bs (W.setCell ⟨b, 1, none⟩ (.int .i64 0)) b v := by
  obtain ⟨lr, h⟩ := h
  exact ⟨lr, h.set_ 1 _⟩
theorem Bs.set2 {W : World} {b : Nat} {v : Value} (h : Bs W b v) (z : Int) : Bs (W.setCell ⟨b, 2, none⟩ (.int .i8 z)) b v := by
  obtain ⟨lr, h⟩ := h
  exact ⟨z, h.set_ 2 _⟩
theorem Bs.fr {O : Nat → Prop} {W W' : World} {b : Nat} {v : Value} (h : Bs W b v) (hf : Fr O W W') (hb : ¬ O b) : Bs W' b v := by
  obtain ⟨lr, h⟩ := h
  exact ⟨lr, hf.blk h hb⟩
theorem Bs.lt {W : World} {b : Nat} {v : Value} (h : Bs W b v) : b < W.heap.size := by
  obtain ⟨lr, h⟩ := h
  exact h.lt

theorem ret_int {k : IntKind} {a b : Int} (h : a = b) : Ending.returned (.int k a) = .returned (.int k b) := by rw [h]
theorem len_any {W : World} {b : Nat} {ao : Option Addr} {l c : Nat} (h : Bs W b (.slice ao l c)) (hl : l ≤ maxLen) :
    Calls Tryd.prog 78 #[.pointer (some ⟨b, 0, none⟩)] W fun e w' => e = .returned (.int .i64 l) ∧ ∃ n, w' = W.drewN n := by
  obtain ⟨c0, c1, -, -, -, -⟩ := h.cells
  clear h
  unfold maxLen at hl
  go_enter Tryd.func78, Tryd.ntmps78
  go_wp2
  go_quiet (fail)
  go_wp2
  go_ret
  exact ⟨rfl, _, rfl⟩

theorem tg_room {W : World} {b : Nat} {g l n cap : Nat} (h : Bs W b (.slice (some ⟨g, 0, none⟩) l cap)) (hlc : l + n ≤ cap) (hcm : cap ≤ maxLen) :
    Calls Tryd.prog 76 #[.pointer (some ⟨b, 0, none⟩), .int .i64 n] W fun e w' => e = .returned (.tuple #[.int .i64 l, .bool true]) ∧ w' = W.setCell ⟨b, 0, none⟩ (.slice (some ⟨g, 0, none⟩) (l + n) cap) := by
  obtain ⟨c0, c1, -, f0, -, -⟩ := h.cells
  unfold maxLen at hcm
  clear h
  have h1 : (n : Int) ≤ (cap : Int) - (l : Int) := by omega
  have h2 : (0 : Int) ≤ (l : Int) + (n : Int) := by omega
  have h3 : (l : Int) + (n : Int) ≤ (cap : Int) := by omega
  have h4 : ((l : Int) + (n : Int)).toNat = l + n := by omega
  go_enter Tryd.func76, Tryd.ntmps76
  go_wp2
  go_ret2
  exact ⟨rfl, rfl⟩

theorem tg_none {W : World} {b : Nat} {ao : Option Addr} {l n cap : Nat} (h : Bs W b (.slice ao l cap)) (hl : l ≤ cap) (hlc : cap < l + n) (hcm : cap ≤ maxLen) :
    Calls Tryd.prog 76 #[.pointer (some ⟨b, 0, none⟩), .int .i64 n] W fun e w' => e = .returned (.tuple #[.int .i64 0, .bool false]) ∧ w' = W := by
  obtain ⟨c0, c1, -, f0, -, -⟩ := h.cells
  unfold maxLen at hcm
  clear h
  have h1 : ¬ (n : Int) ≤ (cap : Int) - (l : Int) := by omega
  go_enter Tryd.func76, Tryd.ntmps76
  go_wp2
  go_ret2
  exact ⟨rfl, rfl⟩

end Go.Proofs.YtjonmfaeonldcaaDoor.fnStateFor
