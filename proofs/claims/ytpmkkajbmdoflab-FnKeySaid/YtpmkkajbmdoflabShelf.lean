/-
  Contracts of library functions at this program, laid by the kit's own tool in plain declarations. Conditions: as each states.
-/
import Derived.Ground.MnProg
import Derived.Shelf.Bin.LEPutUint64
import Derived.Shelf.Bin.LEPutUint64Panics
import Derived.Test.YtpmkkajbmdoflabProg
namespace Go.Proofs
open Go.Shelf
def Try.laysBin34_ren : Go.Shelf.Ren := ⟨fun | 34 => 37 | n => n, fun | 25 => 65 | 22 => 26 | 33 => 22 | 0 => 0 | 5 => 5 | 45 => 32 | n => n, fun | n => n⟩
theorem Try.laysBin34 : Go.Proofs.LaysBin.n34 Try.prog Try.laysBin34_ren := {
  mixed := by kernel_rfl
  f34 := Try.func37.trans (congrArg some (by kernel_rfl))
  t0 := Try.underlying0
  a0 := Try.isAgg0
  z0 := Try.sizeOf0
  v0 := Try.zeroValue0
  i0 := by kernel_rfl
  t5 := Try.underlying5
  a5 := Try.isAgg5
  z5 := Try.sizeOf5
  v5 := Try.zeroValue5
  i5 := by kernel_rfl
  t22 := Try.underlying26
  a22 := Try.isAgg26
  z22 := Try.sizeOf26
  v22 := Try.zeroValue26
  i22 := by kernel_rfl
  t25 := Try.underlying65
  a25 := Try.isAgg65
  z25 := Try.sizeOf65
  v25 := Try.zeroValue65
  i25 := by kernel_rfl
  t33 := Try.underlying22
  a33 := Try.isAgg22
  z33 := Try.sizeOf22
  v33 := Try.zeroValue22
  i33 := by kernel_rfl
  t45 := Try.underlying32
  a45 := Try.isAgg32
  z45 := Try.sizeOf32
  v45 := Try.zeroValue32
  i45 := by kernel_rfl }
open Go.RowKit in
/-- binary.LittleEndian.PutUint64: "PutUint64 stores v into b[0:8].": v's 8 BYTES, the least first ('Lib.leBytes 8 v'), ARE LAID IN THE SLICE's FIRST 8 CELLS ('World.setCells'); nothing else turns (the receiver, an empty struct, is laid in a new block without cells). (LAID: no walk: one application.) -/
theorem Try.binary_LE_PutUint64 (g o n c v : Nat) (hv : v < 18446744073709551616) (x0 x1 x2 x3 x4 x5 x6 x7 : Value) (w : World) (hn : 8 ≤ n) (c0 : w.cell? ⟨g, o, none⟩ = some x0) (c1 : w.cell? ⟨g, o + 1, none⟩ = some x1) (c2 : w.cell? ⟨g, o + 2, none⟩ = some x2) (c3 : w.cell? ⟨g, o + 3, none⟩ = some x3) (c4 : w.cell? ⟨g, o + 4, none⟩ = some x4) (c5 : w.cell? ⟨g, o + 5, none⟩ = some x5) (c6 : w.cell? ⟨g, o + 6, none⟩ = some x6) (c7 : w.cell? ⟨g, o + 7, none⟩ = some x7) (f0 : w.frozen? ⟨g, o, none⟩ = false) (f1 : w.frozen? ⟨g, o + 1, none⟩ = false) (f2 : w.frozen? ⟨g, o + 2, none⟩ = false) (f3 : w.frozen? ⟨g, o + 3, none⟩ = false) (f4 : w.frozen? ⟨g, o + 4, none⟩ = false) (f5 : w.frozen? ⟨g, o + 5, none⟩ = false) (f6 : w.frozen? ⟨g, o + 6, none⟩ = false) (f7 : w.frozen? ⟨g, o + 7, none⟩ = false) :
    Calls Try.prog 37 #[.agg #[], .slice (some ⟨g, o, none⟩) n c, .int .u64 v] w fun e w' => e = .returned (.tuple #[]) ∧ w' = (w.alloc (.cells #[] 65)).setCells g o (Lib.byteCells (Lib.leBytes 8 v)) := Any.binary_LE_PutUint64 Try.laysBin34 g o n c v hv x0 x1 x2 x3 x4 x5 x6 x7 w hn c0 c1 c2 c3 c4 c5 c6 c7 f0 f1 f2 f3 f4 f5 f6 f7
open Go.RowKit in
/-- binary.LittleEndian.PutUint64, b SHORTER THAN 8: IT PANICS: Go's 'runtime error: index out of range [7] with length n' ('Lib.boundsPanicked'). THE WORLD: the receiver's new block without cells, and the draw of the panic's flag: NOTHING IS WRITTEN. (LAID: no walk: one application.) -/
theorem Try.binary_LE_PutUint64_panics (ao : Option Addr) (n c v : Nat) (w : World) (hn : n < 8) (hnil : ao = none → n = 0) :
    Calls Try.prog 37 #[.agg #[], .slice ao n c, .int .u64 v] w fun e w' => Lib.boundsPanicked Try.prog 7 n e ∧ w' = (w.alloc (.cells #[] 65)).drew := Any.binary_LE_PutUint64_panics Try.laysBin34 ao n c v w hn hnil
end Go.Proofs
