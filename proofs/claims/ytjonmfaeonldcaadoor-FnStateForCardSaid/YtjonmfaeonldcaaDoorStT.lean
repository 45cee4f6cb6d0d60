/-
  FnStateFor: a state with one arc is read: atSingle. Conditions: as stated.
-/
import Derived.Test.YtjonmfaeonldcaaDoorStS
import Derived.StillTailTactics
import Derived.Shelf.RegionOpenPlain
import Derived.Deep.DeepCutAuto
namespace Go.Proofs.YtjonmfaeonldcaaDoor.fnStateFor
open Go.ChangeShapes Go.WideShapes Go.ChangeAt Go.RowKit
set_option linter.unusedVariables false

theorem hdr_bits : ∀ (n : Fin 2) (c : Fin 64), bits .and .u8 (128 + 64 * (n.val : Int) + (c.val : Int)) 64 = 64 * (n.val : Int) ∧ bits .and .u8 (128 + 64 * (n.val : Int) + (c.val : Int)) 63 = (c.val : Int) ∧ (128 + 64 * (n.val : Int) + (c.val : Int)) / 2 ^ 7 = 1 := by decide +kernel
theorem hdr_of (nx c : Int) (hn : nx = 0 ∨ nx = 64) (h0 : 0 ≤ c) (h1 : c ≤ 63) : bits .and .u8 (128 + nx + c) 64 = nx ∧ bits .and .u8 (128 + nx + c) 63 = c ∧ (128 + nx + c) / 128 = 1 := by
  obtain ⟨m, rfl⟩ := Int.eq_ofNat_of_zero_le h0
  rcases hn with rfl | rfl
  · exact hdr_bits 0 ⟨m, by omega⟩
  · exact hdr_bits 1 ⟨m, by omega⟩

/-- the state's struct: the data, the top, the bottom, and what stands in the fields 3 to 9 -/
def stL (g n cap t : Nat) (bot : Int) (x3 x4 x5 x6 x7 x8 x9 : Value) : List Value :=
  [.slice (some ⟨g, 0, none⟩) n cap, .int .i64 t, .int .i64 bot, x3, x4, x5, x6, x7, x8, x9, .bool false, .int .i64 0, .int .i64 0, .int .i64 0, .int .i64 0, .int .i64 0, .int .i64 0, .int .i64 0]
structure StC (w : World) (N g n cap t : Nat) (bot : Int) (x3 x4 x5 x6 x7 x8 x9 : Value) : Prop where
  c0 : w.cell? ⟨N, 0, none⟩ = some (.slice (some ⟨g, 0, none⟩) n cap)
  c1 : w.cell? ⟨N, 1, none⟩ = some (.int .i64 t)
  c2 : w.cell? ⟨N, 2, none⟩ = some (.int .i64 bot)
  c3 : w.cell? ⟨N, 3, none⟩ = some x3
  c4 : w.cell? ⟨N, 4, none⟩ = some x4
  c5 : w.cell? ⟨N, 5, none⟩ = some x5
  c6 : w.cell? ⟨N, 6, none⟩ = some x6
  c7 : w.cell? ⟨N, 7, none⟩ = some x7
  c8 : w.cell? ⟨N, 8, none⟩ = some x8
  c9 : w.cell? ⟨N, 9, none⟩ = some x9
  f : ∀ i, w.frozen? ⟨N, i, none⟩ = false
theorem stC {w : World} {N g n cap t : Nat} {bot : Int} {x3 x4 x5 x6 x7 x8 x9 : Value} (h : Blk w N 78 (stL g n cap t bot x3 x4 x5 x6 x7 x8 x9)) : StC w N g n cap t bot x3 x4 x5 x6 x7 x8 x9 :=
  ⟨h.cell 0, h.cell 1, h.cell 2, h.cell 3, h.cell 4, h.cell 5, h.cell 6, h.cell 7, h.cell 8, h.cell 9, h.frozen⟩
theorem cut_end {W w : World} {N : Nat} {l0 : List Value} (h : ∃ l, Blk w N 78 l ∧ l = l0) (hb : Fr (fun k => k = N) W w) : Blk w N 78 l0 ∧ Fr (fun k => k = N) W w := by
  obtain ⟨l, h1, rfl⟩ := h
  exact ⟨h1, hb⟩
theorem Fr.cell_ne {w w' : World} {N g : Nat} (h : Fr (fun k => k = N) w w') (hg : g < w.heap.size) (hne : g ≠ N) : ∀ p : Addr, p.block = g → w'.cell? p = w.cell? p := fun p hp => World.cell?_of_block (h.block _ (by rw [hp]; exact hg) (by rw [hp]; exact hne))

theorem name_world {P : Program} {c : Code} {Q : Exit → Act → World → Prop} {a : Act} {w : World} (h : ∀ w1, w1 = w → Code.wp P c Q a w1) : Code.wp P c Q a w := h w rfl
/-- a state with one arc has been read: its byte, where it goes, its output -/
def OneS (W : World) (N g n cap t : Nat) (ch addr out : Int) (e : Ending) (w' : World) : Prop :=
  ∃ bot x3 x5 x8 x9, e = .returned .nilIface ∧ Blk w' N 78 (stL g n cap t bot x3 (.int .u8 ch) x5 (.int .u64 addr) (.int .u64 out) x8 x9) ∧ Fr (fun k => k = N) W w'
theorem one_end {W w' : World} {N g n cap t : Nat} {ch addr out bot : Int} {x3 x5 x8 x9 : Value} {e : Ending} (he : e = .returned .nilIface) (h : Blk w' N 78 (stL g n cap t bot x3 (.int .u8 ch) x5 (.int .u64 addr) (.int .u64 out) x8 x9) ∧ Fr (fun k => k = N) W w') : OneS W N g n cap t ch addr out e w' :=
  ⟨bot, x3, x5, x8, x9, he, h.1, h.2⟩

set_option maxRecDepth 100000 in
set_option maxHeartbeats 6400000 in
theorem atsN1 {W : World} {N g n cap t : Nat} {D : List Int} {i : Int} (hB : Blk W N 78 (stL g n cap t t (.int .i64 0) (.int .u8 0) (.bool false) (.int .u64 0) (.int .u64 0) (.int .i64 0) (.int .i64 0)))
    (hD : Dt W g D) (hn : n = D.length) (hT : ∀ w, Fr (fun k => k = N) W w → Tabs w) (hg : g < W.heap.size) (hgN : g ≠ N) (h0 : 0 ≤ i) (h1 : i ≤ 255) (hc : cd i ≠ 0) (ht : At D t [128 + 64 + cd i]) (h16 : 16 ≤ t) (hcap : n ≤ cap) (hmax : n ≤ 100000000) :
    Calls Tryd.prog 37 #[.pointer (some ⟨N, 0, none⟩), .slice (some ⟨g, 0, none⟩) n cap, .int .i64 t] W (OneS W N g n cap t i ((t : Int) - 1) 0) := by
  have hcb := cd_bd i h0 h1
  have hby := hD.byte ht
  obtain ⟨q1, q2, q3⟩ := hdr_of 64 (cd i) (.inr rfl) hcb.1 hcb.2
  have htn : (t : Int) < (n : Int) := by have := ht.len; simp at this; omega
  have mixed : Tryd.prog.follows .mixedOrders = true := by kernel_rfl
  have HB0 := Lib.hid hB
  obtain ⟨c0, c1, c2, c3, c4, c5, c6, c7, c8, c9, f⟩ := stC hB
  have hcz : (cd i == 0) = false := by rw [beq_eq_false_iff_ne]; exact hc
  have CDC := Lib.hid (fun w (hb : Fr (fun k => k = N) W w) => cd_back i h0 h1 hc w (hT w hb))
  generalize 128 + 64 + cd i = hh at *
  clear hD hn ht hT hc hB
  go_enter Tryd.func37, Tryd.ntmps37
  go_wp2_with (first | (go_at_call 49; refine (CDC.out _ ?_).mono ?_; (repeat (with_reducible (first | exact Fr.refl _ _ | exact Fr.refl _ _ | refine Fr.set ?_ _ _ (by rfl) | apply Fr.drewN | apply Fr.drew))); rintro e w9 ⟨rfl, rfl⟩) | fail)
  go_ret
  refine one_end (bot := t) (x3 := .int .i64 1) (x5 := .bool true) (x8 := .int .i64 0) (x9 := .int .i64 0) rfl (cut_end (by
    apply Exists.intro
    refine ⟨?_, ?_⟩
    · (repeat (with_reducible (first | exact HB0.out | apply Blk.set_ | apply Blk.drewN | apply Blk.drew)))
    · rfl) (by (repeat (with_reducible (first | exact Fr.refl _ _ | exact Fr.refl _ _ | refine Fr.set ?_ _ _ (by rfl) | apply Fr.drewN | apply Fr.drew)))))

set_option maxRecDepth 100000 in
set_option maxHeartbeats 6400000 in
theorem atsN0 {W : World} {N g n cap t b1 : Nat} {D : List Int} {i : Int} (hB : Blk W N 78 (stL g n cap t t (.int .i64 0) (.int .u8 0) (.bool false) (.int .u64 0) (.int .u64 0) (.int .i64 0) (.int .i64 0)))
    (hD : Dt W g D) (hn : n = D.length) (hT : ∀ w, Fr (fun k => k = N) W w → Tabs w) (hg : g < W.heap.size) (hgN : g ≠ N) (h0 : 0 ≤ i) (h1 : i ≤ 255) (hc : cd i = 0) (ht : At D t [128 + 64 + cd i]) (h16 : 16 ≤ t) (hcap : n ≤ cap) (hmax : n ≤ 100000000) (hi : At D b1 [i]) (hb : t = b1 + 1) :
    Calls Tryd.prog 37 #[.pointer (some ⟨N, 0, none⟩), .slice (some ⟨g, 0, none⟩) n cap, .int .i64 t] W (OneS W N g n cap t i ((b1 : Int) - 1) 0) := by
  have hcb := cd_bd i h0 h1
  have hby := hD.byte ht
  obtain ⟨q1, q2, q3⟩ := hdr_of 64 (cd i) (.inr rfl) hcb.1 hcb.2
  have htn : (t : Int) < (n : Int) := by have := ht.len; simp at this; omega
  have mixed : Tryd.prog.follows .mixedOrders = true := by kernel_rfl
  have HB0 := Lib.hid hB
  obtain ⟨c0, c1, c2, c3, c4, c5, c6, c7, c8, c9, f⟩ := stC hB
  have hby2 := hD.byte hi
  have r0 : (t : Int) - 1 = (b1 : Int) := by omega
  have hb1 : (b1 : Int) < (n : Int) := by omega
  have hcz : (cd i == 0) = true := by rw [beq_iff_eq]; exact hc
  generalize 128 + 64 + cd i = hh at *
  clear hD hn ht hT hc hB hi hb
  go_enter Tryd.func37, Tryd.ntmps37
  go_wp2_with (first | fail)
  go_ret
  refine one_end (bot := b1) (x3 := .int .i64 1) (x5 := .bool true) (x8 := .int .i64 0) (x9 := .int .i64 0) rfl (cut_end (by
    apply Exists.intro
    refine ⟨?_, ?_⟩
    · (repeat (with_reducible (first | exact HB0.out | apply Blk.set_ | apply Blk.drewN | apply Blk.drew)))
    · rfl) (by (repeat (with_reducible (first | exact Fr.refl _ _ | exact Fr.refl _ _ | refine Fr.set ?_ _ _ (by rfl) | apply Fr.drewN | apply Fr.drew)))))

end Go.Proofs.YtjonmfaeonldcaaDoor.fnStateFor
