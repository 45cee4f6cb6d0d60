/-
  FnStateFor: bytes.Buffer: grow, where the buffer has only been written and has no room. Conditions: as stated.
-/
import Derived.Test.YtjonmfaeonldcaaDoorStC
import Derived.Test.YtjonmfaeonldcaaDoorStShelf
import Derived.Lib.BufferMore
import Derived.Shelf.RegionOpenPlain
import Derived.Deep.RegionWith
namespace Go.Proofs.YtjonmfaeonldcaaDoor.fnStateFor
open Go.ChangeShapes Go.WideShapes Go.ChangeAt Go.RowKit
set_option linter.unusedVariables false

theorem info8 : (Tryd.prog.info? 5).map (fun i => (i.zero, i.size, i.bytes)) = some (some (.int .u8 0), 1, 1) := by kernel_rfl

/-- a Buffer with room for n bytes behind its l ones: they are counted in its slice already -/
structure Gr (W : World) (b g l n cap : Nat) (cur : List Value) : Prop where
  s : Bs W b (.slice (some ⟨g, 0, none⟩) (l + n) cap)
  g : Blk W g 5 cur
  len : cur.length = cap
  le : l + n ≤ cap
  mx : cap ≤ maxLen

theorem nil_eql : ∀ W : World, (binOp .eql 34 (.slice none 0 0) (.slice none 0 0)).run Tryd.prog W = .ok (.bool true) W := fun W => Lib.run_eql_slice_nil_nil W _ _ Tryd.underlying34
theorem some_eql (g l cap : Nat) : ∀ W : World, (binOp .eql 34 (.slice (some ⟨g, 0, none⟩) l cap) (.slice none 0 0)).run Tryd.prog W = .ok (.bool false) W := fun W => Lib.run_eql_slice_some_nil W _ _ _ Tryd.underlying34

set_option maxRecDepth 100000 in
set_option maxHeartbeats 1600000 in
/-- no row yet, few bytes: 64 are made -/
theorem grow_small {W : World} {b n : Nat} (h : Bs W b (.slice none 0 0)) (hn : 1 ≤ n) (h64 : n ≤ 64) :
    Calls Tryd.prog 77 #[.pointer (some ⟨b, 0, none⟩), .int .i64 n] W fun e w' => e = .returned (.int .i64 0) ∧ ∃ g cap cur, Gr w' b g 0 n cap cur ∧ W.heap.size ≤ g ∧ Fr (fun k => k = b) W w' := by
  obtain ⟨i0, hi, hz0, hz1, hz2⟩ := info_parts info8
  obtain ⟨M, hM⟩ : ∃ M, M = madeCells (Value.int .u8 0).cells ((64 : Int).toNat * i0.size) := ⟨_, rfl⟩
  have hMs : M.size = 64 := by rw [hM, size_madeCells, hz1]; rfl
  have hmk : ∀ W : World, (Instr.makeSlice 34 (.int .i64 (n : Int)) (.int .i64 64)).run Tryd.prog W = .ok (.slice (some ⟨W.heap.size, 0, none⟩) n 64) (W.alloc (.cells M 5)) := fun W => by
    have h := run_makeSlice (P := Tryd.prog) W 34 5 i0 (.int .u8 0) Tryd.underlying34 hi hz0 .i64 .i64 (n : Int) 64 (by omega) (by omega) (by rw [hz1]; decide) (by rw [hz2]; decide) (by decide)
    rw [← hM] at h
    simpa using h
  clear hM hz0 hz1 hz2 hi
  have CL := Lib.hid (len_any h (by unfold maxLen; omega))
  have CT := Lib.hid (fun k => tg_none (n := n) (show Bs (W.drewN k) b (.slice none 0 0) from h) (Nat.le_refl _) (by omega) (by unfold maxLen; omega))
  have H := Lib.hid h
  have hnil := nil_eql
  obtain ⟨c0, c1, -, f0, f1, -⟩ := h.cells
  have hlt := h.lt
  have c0a : ∀ k o, ((W.drewN k).alloc o).cell? ⟨b, 0, none⟩ = some (.slice none 0 0) := fun k o => (World.cell?_of_block (a := ⟨b, 0, none⟩) (Below.heap_alloc (W.drewN k) o b hlt)).trans c0
  have f0a : ∀ k o, ((W.drewN k).alloc o).frozen? ⟨b, 0, none⟩ = false := fun k o => (World.frozen?_of_block (a := ⟨b, 0, none⟩) (Below.heap_alloc (W.drewN k) o b hlt)).trans f0
  have HM := Lib.hid hMs
  clear h hMs
  go_enter Tryd.func77, Tryd.ntmps77
  go_wp2_with fail
  refine CL.out.mono ?_
  rintro e w1 ⟨rfl, k, rfl⟩
  go_wp2_with fail
  refine (CT.out k).mono ?_
  rintro e w1 ⟨rfl, rfl⟩
  go_wp2
  go_ret
  refine ⟨rfl, W.heap.size, 64, M.toList, ⟨?_, ?_, by simpa using HM.out, by omega, by unfold maxLen; omega⟩, Nat.le_refl _, ?_⟩
  · have h1 : Bs ((W.drewN k).alloc (.cells M 5)) b (.slice none 0 0) := H.out.fr (O := fun _ => False) (((Fr.refl _ _).drewN k).alloc _) (fun h => h)
    simpa using h1.set0 (.slice (some ⟨W.heap.size, 0, none⟩) n 64)
  · have h1 : Blk ((W.drewN k).alloc (.cells M 5)) W.heap.size 5 M.toList := Blk.new (W.drewN k) _ M.toList
    exact h1.far (by show W.heap.size ≠ b; omega) _
  · exact (((Fr.refl _ _).drewN k).alloc _).set _ _ rfl

/-- growSlice of the first l bytes of a row (or of nil) -/
def Gs (W : World) (l n : Nat) (xs : List Value) (e : Ending) (w' : World) : Prop :=
  ∃ cap2 cur, e = .returned (.slice (some ⟨W.heap.size, 0, none⟩) l cap2) ∧ Blk w' W.heap.size 5 cur ∧ cur.length = cap2 ∧ cur.take l = xs ∧ l + n ≤ cap2 ∧ cap2 ≤ maxLen ∧ Below W.heap.size W w'

theorem gr_end {W w1 w2 : World} {b l n cap2 : Nat} {v u : Value} {cur xs : List Value} (h : Bs w2 b v ∧ Blk w2 W.heap.size 5 cur ∧ cur.length = cap2 ∧ cur.take l = xs ∧ l + n ≤ cap2 ∧ cap2 ≤ maxLen ∧ Below W.heap.size w1 w2)
    (hb : b < W.heap.size) (hf : Fr (fun k => k = b) W w1) :
    ∃ g2 cap2' cur', Gr (((w2.setCell ⟨b, 0, none⟩ u).setCell ⟨b, 1, none⟩ (.int .i64 0)).setCell ⟨b, 0, none⟩ (.slice (some ⟨W.heap.size, 0, none⟩) (l + n) cap2)) b g2 l n cap2' cur' ∧ cur'.take l = xs ∧ W.heap.size ≤ g2 ∧
      Fr (fun k => k = b) W (((w2.setCell ⟨b, 0, none⟩ u).setCell ⟨b, 1, none⟩ (.int .i64 0)).setCell ⟨b, 0, none⟩ (.slice (some ⟨W.heap.size, 0, none⟩) (l + n) cap2)) := by
  obtain ⟨h1, h2, h3, h4, h5, h6, h7⟩ := h
  have hne : W.heap.size ≠ b := by omega
  refine ⟨W.heap.size, cap2, cur, ⟨((h1.set0 u).set1).set0 _, ((h2.far hne _).far hne _).far hne _, h3, h5, h6⟩, h4, Nat.le_refl _, ?_⟩
  have h8 : Fr (fun k => k = b) W w2 := ⟨h7.os.trans hf.os, h7.tape.trans hf.tape, h7.output.trans hf.output, Nat.le_trans hf.size h7.size, fun k hk hn => (h7.block k hk).trans (hf.block k hk hn)⟩
  exact ((h8.set _ _ rfl).set _ _ rfl).set _ _ rfl

set_option maxRecDepth 100000 in
set_option maxHeartbeats 3200000 in
/-- a row without room: a new one -/
theorem grow_row {W : World} {b g l cap n : Nat} {xs : List Value} (h : Bs W b (.slice (some ⟨g, 0, none⟩) l cap)) (hn : 1 ≤ n) (hlc : l ≤ cap) (hno : cap < l + n) (hl0 : 1 ≤ l) (hlim : l + n ≤ 140737488355328)
    (hG : ∀ w : World, Fr (fun k => k = b) W w → Calls Tryd.prog 79 #[.slice (some ⟨g, 0, none⟩) l cap, .int .i64 n] w (Gs w l n xs)) :
    Calls Tryd.prog 77 #[.pointer (some ⟨b, 0, none⟩), .int .i64 n] W fun e w' => e = .returned (.int .i64 l) ∧ ∃ g2 cap2 cur, Gr w' b g2 l n cap2 cur ∧ cur.take l = xs ∧ W.heap.size ≤ g2 ∧ Fr (fun k => k = b) W w' := by
  have CL := Lib.hid (len_any h (by unfold maxLen; omega))
  have CT := Lib.hid (fun k => tg_none (n := n) (show Bs (W.drewN k) b (.slice (some ⟨g, 0, none⟩) l cap) from h) hlc hno (by unfold maxLen; omega))
  have CG := Lib.hid hG
  have H := Lib.hid h
  have hnil := some_eql g l cap
  obtain ⟨c0, c1, -, f0, f1, -⟩ := h.cells
  have hlt := h.lt
  have hcm : cap ≤ 140737488355328 := by omega
  have hwn : IntKind.i64.wrap (n : Int) = n := by rw [IntKind.wrap_i64]; omega
  have hq : ¬ ((n : Int) ≤ ((cap : Int) / 2) - (l : Int)) := by omega
  have mixed : Tryd.prog.follows .mixedOrders = true := by kernel_rfl
  clear h hG
  go_enter Tryd.func77, Tryd.ntmps77
  go_wp2_with fail
  refine CL.out.mono ?_
  rintro e w1 ⟨rfl, k, rfl⟩
  go_wp2_with fail
  refine (CT.out k).mono ?_
  rintro e w1 ⟨rfl, rfl⟩
  go_wp2
  go_region_with_o (
      go_at_call 79
      refine (CG.out _ ?_).mono ?_
      exact (((Fr.refl _ _).drewN k).drew)
      rintro e w2 ⟨cap2, cur, rfl, hB2, hcl, htk, hle, hmx, hbel⟩
      have hs2 : Bs w2 b (.slice (some ⟨g, 0, none⟩) l cap) := H.out.fr (O := fun _ => False) ((((Fr.refl _ W).drewN k).drew).trans (Fr.of_below (O := fun _ => False) hbel) (fun _ _ h => h)) (fun h => h)
      obtain ⟨d0, d1, -, e0, e1, -⟩ := hs2.cells
      have HG2 := Lib.hid (⟨hs2, hB2, hcl, htk, hle, hmx, hbel⟩ : Bs w2 b (.slice (some ⟨g, 0, none⟩) l cap) ∧ Blk w2 _ _ cur ∧ cur.length = cap2 ∧ cur.take l = xs ∧ l + n ≤ cap2 ∧ cap2 ≤ maxLen ∧ Below _ _ w2)
      clear hs2 hB2 hcl htk hbel)
  all_goals
    go_wp2
    go_ret
    exact ⟨rfl, gr_end HG2.out hlt (((Fr.refl _ W).drewN k).drew)⟩

set_option maxRecDepth 100000 in
set_option maxHeartbeats 3200000 in
/-- no row yet, more than 64 bytes -/
theorem grow_big {W : World} {b n : Nat} (h : Bs W b (.slice none 0 0)) (hn : 64 < n) (hlim : n ≤ 140737488355328)
    (hG : ∀ w : World, Fr (fun k => k = b) W w → Calls Tryd.prog 79 #[.slice none 0 0, .int .i64 n] w (Gs w 0 n [])) :
    Calls Tryd.prog 77 #[.pointer (some ⟨b, 0, none⟩), .int .i64 n] W fun e w' => e = .returned (.int .i64 0) ∧ ∃ g2 cap2 cur, Gr w' b g2 0 n cap2 cur ∧ cur.take 0 = [] ∧ W.heap.size ≤ g2 ∧ Fr (fun k => k = b) W w' := by
  have CL := Lib.hid (len_any h (by unfold maxLen; omega))
  have CT := Lib.hid (fun k => tg_none (n := n) (show Bs (W.drewN k) b (.slice none 0 0) from h) (Nat.le_refl _) (by omega) (by unfold maxLen; omega))
  have CG := Lib.hid hG
  have H := Lib.hid h
  have hnil := nil_eql
  obtain ⟨c0, c1, -, f0, f1, -⟩ := h.cells
  have hlt := h.lt
  have hwn : IntKind.i64.wrap (n : Int) = n := by rw [IntKind.wrap_i64]; omega
  have mixed : Tryd.prog.follows .mixedOrders = true := by kernel_rfl
  clear h hG
  go_enter Tryd.func77, Tryd.ntmps77
  go_wp2_with fail
  refine CL.out.mono ?_
  rintro e w1 ⟨rfl, k, rfl⟩
  go_wp2_with fail
  refine (CT.out k).mono ?_
  rintro e w1 ⟨rfl, rfl⟩
  go_wp2
  go_region_with_o (
      go_at_call 79
      refine (CG.out _ ?_).mono ?_
      exact (((Fr.refl _ _).drewN k).drew)
      rintro e w2 ⟨cap2, cur, rfl, hB2, hcl, htk, hle, hmx, hbel⟩
      have hs2 : Bs w2 b (.slice none 0 0) := H.out.fr (O := fun _ => False) ((((Fr.refl _ W).drewN k).drew).trans (Fr.of_below (O := fun _ => False) hbel) (fun _ _ h => h)) (fun h => h)
      obtain ⟨d0, d1, -, e0, e1, -⟩ := hs2.cells
      have HG2 := Lib.hid (⟨hs2, hB2, hcl, htk, hle, hmx, hbel⟩ : Bs w2 b (.slice none 0 0) ∧ Blk w2 _ _ cur ∧ cur.length = cap2 ∧ cur.take 0 = [] ∧ 0 + n ≤ cap2 ∧ cap2 ≤ maxLen ∧ Below _ _ w2)
      clear hs2 hB2 hcl htk hbel)
  all_goals
    go_wp2
    go_ret
    refine ⟨rfl, ?_⟩
    have h9 := gr_end (W := W) HG2.out hlt ((Fr.refl _ W).drewN (k + 1)) (u := .slice (some ⟨W.heap.size, 0, none⟩) 0 cap2)
    rw [Nat.zero_add] at h9
    exact h9

end Go.Proofs.YtjonmfaeonldcaaDoor.fnStateFor
