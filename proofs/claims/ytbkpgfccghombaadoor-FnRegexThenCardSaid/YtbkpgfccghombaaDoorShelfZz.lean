/-
  Contracts of library functions at this program, laid by the kit's own tool in plain declarations. Conditions: as each states.
-/
import Derived.Test.YtbkpgfccghombaaDoorProg
import Derived.Ground.MnProg
import Derived.Shelf.Bin.LEPutUint64
import Derived.Shelf.Bin.LEPutUint64Panics
import Derived.Shelf.Unicode.CaseLookup
import Derived.Shelf.Unicode.CaseConvert
namespace Go.Proofs
open Go.Shelf
def Tryd.laysBin34_ren : Go.Shelf.Ren := ⟨fun | 34 => 94 | n => n, fun | 25 => 198 | 22 => 79 | 33 => 200 | 0 => 0 | 5 => 5 | 45 => 33 | n => n, fun | n => n⟩
theorem Tryd.laysBin34 : Go.Proofs.LaysBin.n34 Tryd.prog Tryd.laysBin34_ren := {
  mixed := by kernel_rfl
  f34 := Tryd.func94.trans (congrArg some (by kernel_rfl))
  t0 := Tryd.underlying0
  a0 := Tryd.isAgg0
  z0 := Tryd.sizeOf0
  v0 := Tryd.zeroValue0
  i0 := by kernel_rfl
  t5 := Tryd.underlying5
  a5 := Tryd.isAgg5
  z5 := Tryd.sizeOf5
  v5 := Tryd.zeroValue5
  i5 := by kernel_rfl
  t22 := Tryd.underlying79
  a22 := Tryd.isAgg79
  z22 := Tryd.sizeOf79
  v22 := Tryd.zeroValue79
  i22 := by kernel_rfl
  t25 := Tryd.underlying198
  a25 := Tryd.isAgg198
  z25 := Tryd.sizeOf198
  v25 := Tryd.zeroValue198
  i25 := by kernel_rfl
  t33 := Tryd.underlying200
  a33 := Tryd.isAgg200
  z33 := Tryd.sizeOf200
  v33 := Tryd.zeroValue200
  i33 := by kernel_rfl
  t45 := Tryd.underlying33
  a45 := Tryd.isAgg33
  z45 := Tryd.sizeOf33
  v45 := Tryd.zeroValue33
  i45 := by kernel_rfl }
open Go.RowKit in
/-- binary.LittleEndian.PutUint64: "PutUint64 stores v into b[0:8].": v's 8 BYTES, the least first ('Lib.leBytes 8 v'), ARE LAID IN THE SLICE's FIRST 8 CELLS ('World.setCells'); nothing else turns (the receiver, an empty struct, is laid in a new block without cells). (LAID: no walk: one application.) -/
theorem Tryd.binary_LE_PutUint64 (g o n c v : Nat) (hv : v < 18446744073709551616) (x0 x1 x2 x3 x4 x5 x6 x7 : Value) (w : World) (hn : 8 ≤ n) (c0 : w.cell? ⟨g, o, none⟩ = some x0) (c1 : w.cell? ⟨g, o + 1, none⟩ = some x1) (c2 : w.cell? ⟨g, o + 2, none⟩ = some x2) (c3 : w.cell? ⟨g, o + 3, none⟩ = some x3) (c4 : w.cell? ⟨g, o + 4, none⟩ = some x4) (c5 : w.cell? ⟨g, o + 5, none⟩ = some x5) (c6 : w.cell? ⟨g, o + 6, none⟩ = some x6) (c7 : w.cell? ⟨g, o + 7, none⟩ = some x7) (f0 : w.frozen? ⟨g, o, none⟩ = false) (f1 : w.frozen? ⟨g, o + 1, none⟩ = false) (f2 : w.frozen? ⟨g, o + 2, none⟩ = false) (f3 : w.frozen? ⟨g, o + 3, none⟩ = false) (f4 : w.frozen? ⟨g, o + 4, none⟩ = false) (f5 : w.frozen? ⟨g, o + 5, none⟩ = false) (f6 : w.frozen? ⟨g, o + 6, none⟩ = false) (f7 : w.frozen? ⟨g, o + 7, none⟩ = false) :
    Calls Tryd.prog 94 #[.agg #[], .slice (some ⟨g, o, none⟩) n c, .int .u64 v] w fun e w' => e = .returned (.tuple #[]) ∧ w' = (w.alloc (.cells #[] 198)).setCells g o (Lib.byteCells (Lib.leBytes 8 v)) := Any.binary_LE_PutUint64 Tryd.laysBin34 g o n c v hv x0 x1 x2 x3 x4 x5 x6 x7 w hn c0 c1 c2 c3 c4 c5 c6 c7 f0 f1 f2 f3 f4 f5 f6 f7
open Go.RowKit in
/-- binary.LittleEndian.PutUint64, b SHORTER THAN 8: IT PANICS: Go's 'runtime error: index out of range [7] with length n' ('Lib.boundsPanicked'). THE WORLD: the receiver's new block without cells, and the draw of the panic's flag: NOTHING IS WRITTEN. (LAID: no walk: one application.) -/
theorem Tryd.binary_LE_PutUint64_panics (ao : Option Addr) (n c v : Nat) (w : World) (hn : n < 8) (hnil : ao = none → n = 0) :
    Calls Tryd.prog 94 #[.agg #[], .slice ao n c, .int .u64 v] w fun e w' => Lib.boundsPanicked Tryd.prog 7 n e ∧ w' = (w.alloc (.cells #[] 198)).drew := Any.binary_LE_PutUint64_panics Tryd.laysBin34 ao n c v w hn hnil
def Tryd.lays274_ren : Go.Shelf.Ren := ⟨fun | 274 => 83 | n => n, fun | 21 => 21 | 162 => 180 | 160 => 178 | 3 => 3 | 4 => 4 | 46 => 33 | 0 => 0 | 208 => 204 | 51 => 93 | 206 => 202 | n => n, fun | n => n⟩
theorem Tryd.lays274 : Go.Proofs.Lays.n274 Tryd.prog Tryd.lays274_ren := {
  mixed := by kernel_rfl
  f274 := Tryd.func83.trans (congrArg some (by kernel_rfl))
  t0 := Tryd.underlying0
  a0 := Tryd.isAgg0
  z0 := Tryd.sizeOf0
  v0 := Tryd.zeroValue0
  t3 := Tryd.underlying3
  a3 := Tryd.isAgg3
  z3 := Tryd.sizeOf3
  v3 := Tryd.zeroValue3
  t4 := Tryd.underlying4
  a4 := Tryd.isAgg4
  z4 := Tryd.sizeOf4
  v4 := Tryd.zeroValue4
  t21 := Tryd.underlying21
  a21 := Tryd.isAgg21
  z21 := Tryd.sizeOf21
  v21 := Tryd.zeroValue21
  t46 := Tryd.underlying33
  a46 := Tryd.isAgg33
  z46 := Tryd.sizeOf33
  v46 := Tryd.zeroValue33
  t51 := Tryd.underlying93
  a51 := Tryd.isAgg93
  z51 := Tryd.sizeOf93
  v51 := Tryd.zeroValue93
  t160 := Tryd.underlying178
  a160 := Tryd.isAgg178
  z160 := Tryd.sizeOf178
  v160 := Tryd.zeroValue178
  t162 := Tryd.underlying180
  a162 := Tryd.isAgg180
  z162 := Tryd.sizeOf180
  v162 := Tryd.zeroValue180
  t208 := Tryd.underlying204
  a208 := Tryd.isAgg204
  z208 := Tryd.sizeOf204
  v208 := Tryd.zeroValue204 }
open Go.RowKit Go.Lib in
theorem Tryd.unicode_lookupCaseRange (T : Array CaseRow) (R oR cap : Nat) (r : Int) (w : World) (hT : CaseTab R oR T w) (hok : CaseOk T) (hn : T.size ≤ 1000000000) :
    Calls Tryd.prog 83 #[.int .i32 r, .slice (some ⟨R, oR, none⟩) T.size cap] w fun e w' =>
      e = .returned (match lookupIdx T r (T.size + 1) 0 T.size with | some i => .pointer (some ⟨R, oR + i * 5, none⟩) | none => .pointer none) ∧ w' = w := Any.unicode_lookupCaseRange Tryd.lays274 T R oR cap r w hT hok hn
def Tryd.lays275_ren : Go.Shelf.Ren := ⟨fun | 275 => 84 | n => n, fun | 3 => 3 | 21 => 21 | 160 => 178 | 0 => 0 | 208 => 204 | 206 => 202 | 4 => 4 | 51 => 93 | n => n, fun | n => n⟩
theorem Tryd.lays275 : Go.Proofs.Lays.n275 Tryd.prog Tryd.lays275_ren := {
  mixed := by kernel_rfl
  f275 := Tryd.func84.trans (congrArg some (by kernel_rfl))
  t0 := Tryd.underlying0
  a0 := Tryd.isAgg0
  z0 := Tryd.sizeOf0
  v0 := Tryd.zeroValue0
  t3 := Tryd.underlying3
  a3 := Tryd.isAgg3
  z3 := Tryd.sizeOf3
  v3 := Tryd.zeroValue3
  t4 := Tryd.underlying4
  a4 := Tryd.isAgg4
  z4 := Tryd.sizeOf4
  v4 := Tryd.zeroValue4
  t21 := Tryd.underlying21
  a21 := Tryd.isAgg21
  z21 := Tryd.sizeOf21
  v21 := Tryd.zeroValue21
  t51 := Tryd.underlying93
  a51 := Tryd.isAgg93
  z51 := Tryd.sizeOf93
  v51 := Tryd.zeroValue93
  t160 := Tryd.underlying178
  a160 := Tryd.isAgg178
  z160 := Tryd.sizeOf178
  v160 := Tryd.zeroValue178
  t206 := Tryd.underlying202
  a206 := Tryd.isAgg202
  z206 := Tryd.sizeOf202
  v206 := Tryd.zeroValue202
  t208 := Tryd.underlying204
  a208 := Tryd.isAgg204
  z208 := Tryd.sizeOf204
  v208 := Tryd.zeroValue204 }
open Go.RowKit Go.Lib in
theorem Tryd.unicode_convertCase (c : Nat) (hc : c < 3) (r : Int) (A o : Nat) (x : CaseRow) (w : World) (hlo : (x.1 : Int) ≤ r) (hhi : r ≤ (x.2.1 : Int)) (hH : x.2.1 < 2147483647) (c0 : w.cell? ⟨A, o, none⟩ = some (.int .u32 x.1)) (cD : w.cell? ⟨A, o + 2 + c, none⟩ = some (.int .i32 (x.delta c))) :
    Calls Tryd.prog 84 #[.int .i64 c, .int .i32 r, .pointer (some ⟨A, o, none⟩)] w fun e w' => e = .returned (.int .i32 (wrap32 (convertR c r x))) ∧ ∃ q, w' = w.drewN q := Any.unicode_convertCase Tryd.lays275 c hc r A o x w hlo hhi hH c0 cD
end Go.Proofs
