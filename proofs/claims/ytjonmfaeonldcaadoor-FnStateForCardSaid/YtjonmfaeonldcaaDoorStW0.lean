/-
  FnStateFor: a state with any number of arcs, as it is read: its struct. Conditions: none.
-/
import Derived.Test.YtjonmfaeonldcaaDoorStT
import Derived.Test.YtjonmfaeonldcaaDoorStO
namespace Go.Proofs.YtjonmfaeonldcaaDoor.fnStateFor
open Go.ChangeShapes Go.WideShapes Go.ChangeAt Go.RowKit
set_option linter.unusedVariables false

theorem hdm_bits : ∀ (f : Fin 2) (c : Fin 64), bits .and .u8 ((c.val : Int) + 64 * (f.val : Int)) 64 = 64 * (f.val : Int) ∧ bits .and .u8 ((c.val : Int) + 64 * (f.val : Int)) 63 = (c.val : Int) ∧ ((c.val : Int) + 64 * (f.val : Int)) / 2 ^ 7 = 0 := by decide +kernel
theorem hdm_of (f : Bool) (c : Nat) (h1 : c ≤ 63) : bits .and .u8 ((c : Int) + if f then 64 else 0) 64 = (if f then 64 else 0) ∧ bits .and .u8 ((c : Int) + if f then 64 else 0) 63 = c ∧ ((c : Int) + if f then 64 else 0) / 128 = 0 := by
  cases f
  · exact hdm_bits 0 ⟨c, by omega⟩
  · exact hdm_bits 1 ⟨c, by omega⟩

/-- the struct of a state with any number of arcs -/
def mulL (g n cap t : Nat) (bot m zs os : Int) (f : Bool) (tT tB dT dB oT oB oF : Int) : List Value :=
  [.slice (some ⟨g, 0, none⟩) n cap, .int .i64 t, .int .i64 bot, .int .i64 m, .int .u8 0, .bool false, .int .u64 0, .int .u64 0, .int .i64 zs, .int .i64 os, .bool f, .int .i64 tT, .int .i64 tB, .int .i64 dT, .int .i64 dB, .int .i64 oT, .int .i64 oB, .int .i64 oF]
structure MuC (w : World) (N g n cap t : Nat) (bot m zs os : Int) (f : Bool) (tT tB dT dB oT oB oF : Int) : Prop where
  c0 : w.cell? ⟨N, 0, none⟩ = some (.slice (some ⟨g, 0, none⟩) n cap)
  c1 : w.cell? ⟨N, 1, none⟩ = some (.int .i64 t)
  c2 : w.cell? ⟨N, 2, none⟩ = some (.int .i64 bot)
  c3 : w.cell? ⟨N, 3, none⟩ = some (.int .i64 m)
  c8 : w.cell? ⟨N, 8, none⟩ = some (.int .i64 zs)
  c9 : w.cell? ⟨N, 9, none⟩ = some (.int .i64 os)
  c10 : w.cell? ⟨N, 10, none⟩ = some (.bool f)
  c11 : w.cell? ⟨N, 11, none⟩ = some (.int .i64 tT)
  c12 : w.cell? ⟨N, 12, none⟩ = some (.int .i64 tB)
  c13 : w.cell? ⟨N, 13, none⟩ = some (.int .i64 dT)
  c14 : w.cell? ⟨N, 14, none⟩ = some (.int .i64 dB)
  c15 : w.cell? ⟨N, 15, none⟩ = some (.int .i64 oT)
  c16 : w.cell? ⟨N, 16, none⟩ = some (.int .i64 oB)
  c17 : w.cell? ⟨N, 17, none⟩ = some (.int .i64 oF)
  fz : ∀ i, w.frozen? ⟨N, i, none⟩ = false
theorem muC {w : World} {N g n cap t : Nat} {bot m zs os : Int} {f : Bool} {tT tB dT dB oT oB oF : Int} (h : Blk w N 78 (mulL g n cap t bot m zs os f tT tB dT dB oT oB oF)) : MuC w N g n cap t bot m zs os f tT tB dT dB oT oB oF :=
  ⟨h.cell 0, h.cell 1, h.cell 2, h.cell 3, h.cell 8, h.cell 9, h.cell 10, h.cell 11, h.cell 12, h.cell 13, h.cell 14, h.cell 15, h.cell 16, h.cell 17, h.frozen⟩

/-- a state with any number of arcs has been read -/
def MulS (W : World) (N g n cap t s0 m zs os : Nat) (f : Bool) (s5 s4 s3 oT oB : Nat) (e : Ending) (w' : World) : Prop :=
  ∃ oF : Int, e = .returned .nilIface ∧ Blk w' N 78 (mulL g n cap t s0 m zs os f s5 s4 s4 s3 oT oB oF) ∧ Fr (fun k => k = N) W w'

end Go.Proofs.YtjonmfaeonldcaaDoor.fnStateFor
