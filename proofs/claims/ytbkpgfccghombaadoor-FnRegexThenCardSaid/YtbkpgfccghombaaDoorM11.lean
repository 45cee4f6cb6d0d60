/-
  Parts of the proof in one text: Wl, Wma, Wmb. Conditions: as each states.
-/
import Derived.Test.YtbkpgfccghombaaDoorM10
import Derived.Test.YtbkpgfccghombaaDoorM04
/-! The law's expression out of any one. Conditions: as stated. -/
namespace Go.Proofs.YtbkpgfccghombaaDoor.rx
open Go.ChangeShapes Go.WideShapes Go.ChangeAt Go.RowKit
set_option linter.unusedVariables false

/-- the seven cells of any node -/
def rwc (op mn mx : Int) (lz fo : Bool) (ra : Option Addr) (rn rc : Nat) (sa : Option Addr) (sn sc : Nat) : List Value := [.int .i64 op, .slice ra rn rc, .int .i64 mn, .int .i64 mx, .bool lz, .bool fo, .slice sa sn sc]
structure RawH (w : World) (B : Nat) (op mn mx : Int) (ra : Option Addr) (rs : List Int) (sa : Option Addr) (ls : List (List Value)) : Prop where
  o : -9223372036854775808 ≤ op ∧ op ≤ 9223372036854775807
  n : -9223372036854775808 ≤ mn ∧ mn ≤ 9223372036854775807
  m : -9223372036854775808 ≤ mx ∧ mx ≤ 9223372036854775807
  rl : rs.length ≤ 9223372036854775807
  sl : ls.length ≤ 9223372036854775807
  rb : ∀ x ∈ rs, -2147483648 ≤ x ∧ x ≤ 2147483647
  r : Sl w B ra (rs.map (.int .i32))
  s : Sl w B sa (ls.flatMap id)
  l7 : ∀ x ∈ ls, x.length = 7
/-- any expression in memory below block B, seen for d levels -/
def RawC (w : World) (B : Nat) : Nat → List Value → Prop
  | 0, _ => True
  | d + 1, cs => ∃ op mn mx lz fo ra rc sa sc, ∃ rs : List Int, ∃ ls : List (List Value), cs = rwc op mn mx lz fo ra rs.length rc sa ls.length sc ∧ RawH w B op mn mx ra rs sa ls ∧ ∀ x ∈ ls, RawC w B d x
theorem RawC.keep {w w' : World} {B B' : Nat} (hb : ∀ p : Addr, p.block < B → w'.cell? p = w.cell? p) (hB : B ≤ B') : ∀ (d : Nat) (cs : List Value), RawC w B d cs → RawC w' B' d cs
  | 0, _, _ => trivial
  | d + 1, cs, h => by
    obtain ⟨op, mn, mx, lz, fo, ra, rc, sa, sc, rs, ls, h1, h2, h3⟩ := h
    exact ⟨op, mn, mx, lz, fo, ra, rc, sa, sc, rs, ls, h1, ⟨h2.o, h2.n, h2.m, h2.rl, h2.sl, h2.rb, (h2.r.keep hb).more hB, (h2.s.keep hb).more hB, h2.l7⟩, fun x hx => RawC.keep hb hB d x (h3 x hx)⟩

/-- an expression of at most d levels in memory, outside the blocks of O -/
def RgO (w : World) (O : Nat → Prop) : Nat → Rx → List Value → Prop
  | 0, _, _ => False
  | d + 1, .nd op rs mn mx subs, cs => ∃ ra rc sa sc, ∃ ls : List (List Value), cs = rxc op mn mx ra rs.length rc sa subs.length sc ∧ SlO w O ra (rs.map (.int .i32)) ∧ ls.length = subs.length ∧ (∀ x ∈ ls, x.length = 7) ∧ SlO w O sa (ls.flatMap id) ∧ ∀ x ∈ subs.zip ls, RgO w O d x.1 x.2
theorem RgO.go {w w' : World} {O O' : Nat → Prop} (hf : Fr O w w') (ho : ∀ k, O' k → O k ∨ w.heap.size ≤ k) : ∀ (d : Nat) (r : Rx) (cs : List Value), RgO w O d r cs → RgO w' O' d r cs
  | 0, _, _, h => h
  | d + 1, .nd op rs mn mx subs, cs, h => by
    obtain ⟨ra, rc, sa, sc, ls, h1, h2, h3, h4, h5, h6⟩ := h
    exact ⟨ra, rc, sa, sc, ls, h1, h2.go hf ho, h3, h4, h5.go hf ho, fun x hx => RgO.go hf ho d x.1 x.2 (h6 x hx)⟩
theorem SlO.toSl {w : World} {O : Nat → Prop} {a : Option Addr} {xs : List Value} (h : SlO w O a xs) : Sl w w.heap.size a xs := fun j v hv => by
  obtain ⟨ad, h1, h2, -, h3⟩ := h j v hv
  exact ⟨ad, h1, h2, h3⟩
theorem RgO.toC {w : World} {O : Nat → Prop} : ∀ (d : Nat) (r : Rx) (cs : List Value), RgO w O d r cs → RgC w w.heap.size d r cs
  | 0, _, _, h => h
  | d + 1, .nd op rs mn mx subs, cs, h => by
    obtain ⟨ra, rc, sa, sc, ls, h1, h2, h3, h4, h5, h6⟩ := h
    exact ⟨ra, rc, sa, sc, ls, h1, h2.toSl, h3, h4, h5.toSl, fun x hx => RgO.toC d x.1 x.2 (h6 x hx)⟩
theorem RgO.form {w : World} {O : Nat → Prop} {d : Nat} {r : Rx} {cs : List Value} (h : RgO w O d r cs) : ∃ op mn mx ra rn rc sa sn sc, cs = rxc op mn mx ra rn rc sa sn sc := by
  match d, r, h with
  | d + 1, .nd op rs mn mx subs, h =>
    obtain ⟨ra, rc, sa, sc, ls, rfl, -⟩ := h
    exact ⟨_, _, _, _, _, _, _, _, _, rfl⟩

def opsL : List Int := [2, 3, 3, 4, 4, 6, 5, 18, 19, 14, 15, 16, 17, 13]
theorem ops_at (k : Int) (h0 : 0 ≤ k) (h1 : k < 14) : ∃ o, opsL[k.toNat]? = some o ∧ (o = 2 ∨ o = 3 ∨ o = 4 ∨ o = 5 ∨ o = 6 ∨ (13 ≤ o ∧ o ≤ 19)) := by
  obtain ⟨n, rfl⟩ : ∃ n : Nat, k = n := ⟨k.toNat, by omega⟩
  have : n < 14 := by omega
  simp only [Int.toNat_natCast]
  have : n = 0 ∨ n = 1 ∨ n = 2 ∨ n = 3 ∨ n = 4 ∨ n = 5 ∨ n = 6 ∨ n = 7 ∨ n = 8 ∨ n = 9 ∨ n = 10 ∨ n = 11 ∨ n = 12 ∨ n = 13 := by omega
  rcases this with rfl | rfl | rfl | rfl | rfl | rfl | rfl | rfl | rfl | rfl | rfl | rfl | rfl | rfl <;> exact ⟨_, rfl, by decide⟩

/-- the node that is being made -/
structure Xs (w wx : World) (cs : List Value) (o mn mx : Int) (v1 v6 : Value) : Prop where
  raw : Blk wx w.heap.size 25 cs
  res : Blk wx (w.heap.size + 1) 25 (rxc 0 0 0 none 0 0 none 0 0)
  r : Blk wx (w.heap.size + 1 + 1 + 1) 25 [.int .i64 o, v1, .int .i64 mn, .int .i64 mx, .bool false, .bool false, v6]
  low : Below w.heap.size w wx
  sz : w.heap.size + 4 ≤ wx.heap.size

theorem Xs.set {w wx : World} {cs : List Value} {o mn mx : Int} {v1 v6 : Value} (h : Xs w wx cs o mn mx v1 v6) (i : Nat) (u : Value) {l : List Value} (hl : ([.int .i64 o, v1, .int .i64 mn, .int .i64 mx, .bool false, .bool false, v6] : List Value).set i u = l) :
    Blk (wx.setCell ⟨w.heap.size + 1 + 1 + 1, i, none⟩ u) w.heap.size 25 cs ∧ Blk (wx.setCell ⟨w.heap.size + 1 + 1 + 1, i, none⟩ u) (w.heap.size + 1) 25 (rxc 0 0 0 none 0 0 none 0 0) ∧
      Blk (wx.setCell ⟨w.heap.size + 1 + 1 + 1, i, none⟩ u) (w.heap.size + 1 + 1 + 1) 25 l ∧ Below w.heap.size w (wx.setCell ⟨w.heap.size + 1 + 1 + 1, i, none⟩ u) ∧ w.heap.size + 4 ≤ (wx.setCell ⟨w.heap.size + 1 + 1 + 1, i, none⟩ u).heap.size :=
  ⟨h.raw.far (p := ⟨w.heap.size + 1 + 1 + 1, i, none⟩) (by simp; omega) _, h.res.far (p := ⟨w.heap.size + 1 + 1 + 1, i, none⟩) (by simp) _, hl ▸ h.r.set_ i u, h.low.setCell (p := ⟨w.heap.size + 1 + 1 + 1, i, none⟩) (by simp; omega) _, by simpa using h.sz⟩
theorem Xs.set0 {w wx : World} {cs : List Value} {o mn mx : Int} {v1 v6 : Value} (h : Xs w wx cs o mn mx v1 v6) (z : Int) : Xs w (wx.setCell ⟨w.heap.size + 1 + 1 + 1, 0, none⟩ (.int .i64 z)) cs z mn mx v1 v6 := by
  obtain ⟨h1, h2, h3, h4, h5⟩ := h.set 0 (.int .i64 z) rfl
  exact ⟨h1, h2, h3, h4, h5⟩
theorem Xs.set1 {w wx : World} {cs : List Value} {o mn mx : Int} {v1 v6 : Value} (h : Xs w wx cs o mn mx v1 v6) (u : Value) : Xs w (wx.setCell ⟨w.heap.size + 1 + 1 + 1, 1, none⟩ u) cs o mn mx u v6 := by
  obtain ⟨h1, h2, h3, h4, h5⟩ := h.set 1 u rfl
  exact ⟨h1, h2, h3, h4, h5⟩
theorem Xs.set2 {w wx : World} {cs : List Value} {o mn mx : Int} {v1 v6 : Value} (h : Xs w wx cs o mn mx v1 v6) (z : Int) : Xs w (wx.setCell ⟨w.heap.size + 1 + 1 + 1, 2, none⟩ (.int .i64 z)) cs o z mx v1 v6 := by
  obtain ⟨h1, h2, h3, h4, h5⟩ := h.set 2 (.int .i64 z) rfl
  exact ⟨h1, h2, h3, h4, h5⟩
theorem Xs.set3 {w wx : World} {cs : List Value} {o mn mx : Int} {v1 v6 : Value} (h : Xs w wx cs o mn mx v1 v6) (z : Int) : Xs w (wx.setCell ⟨w.heap.size + 1 + 1 + 1, 3, none⟩ (.int .i64 z)) cs o mn z v1 v6 := by
  obtain ⟨h1, h2, h3, h4, h5⟩ := h.set 3 (.int .i64 z) rfl
  exact ⟨h1, h2, h3, h4, h5⟩
theorem Xs.set6 {w wx : World} {cs : List Value} {o mn mx : Int} {v1 v6 : Value} (h : Xs w wx cs o mn mx v1 v6) (u : Value) : Xs w (wx.setCell ⟨w.heap.size + 1 + 1 + 1, 6, none⟩ u) cs o mn mx v1 u := by
  obtain ⟨h1, h2, h3, h4, h5⟩ := h.set 6 u rfl
  exact ⟨h1, h2, h3, h4, h5⟩
theorem Xs.go {w wx w2 : World} {cs : List Value} {o mn mx : Int} {v1 v6 : Value} (h : Xs w wx cs o mn mx v1 v6) (hb : Below wx.heap.size wx w2) : Xs w w2 cs o mn mx v1 v6 :=
  ⟨h.raw.below hb h.raw.lt, h.res.below hb h.res.lt, h.r.below hb h.r.lt, h.low.trans (hb.mono h.low.size), Nat.le_trans h.sz hb.size⟩
theorem Xs.grown {w w5 w7 : World} {cs : List Value} {o mn mx : Int} {v1 v6 v : Value} {e : TypeId} {sz n : Nat} {xs : List Value} (h : Xs w w5 cs o mn mx v1 v6) (own : w5.ownsRow (w.heap.size + 4) e sz v n xs) (hg : w5.grownBy w7 v.ownBlock) : Xs w w7 cs o mn mx v1 v6 := by
  have hge := own_block_ge own
  have hne : ∀ k, k < w.heap.size + 4 → some k ≠ v.ownBlock := fun k hk e => by have := hge k e.symm; omega
  exact ⟨h.raw.grown hg (hne _ (by omega)), h.res.grown hg (hne _ (by omega)), h.r.grown hg (hne _ (by omega)), h.low.grown hg h.low.size (fun k e => by have := hge k e; omega), Nat.le_trans h.sz hg.size⟩
theorem Xs.app1 {w w5 w7 : World} {cs : List Value} {o mn mx : Int} {v1 v6 v : Value} {e : TypeId} {sz n : Nat} {xs : List Value} (h : Xs w w5 cs o mn mx v1 v6) (own : w5.ownsRow (w.heap.size + 4) e sz v n xs) (hg : w5.grownBy w7 v.ownBlock) (v7 : Value) :
    w7.frozen? ⟨w.heap.size + 1 + 1 + 1, 1, none⟩ = false ∧ w7.cell? ⟨w.heap.size + 1 + 1 + 1, 1, none⟩ = some v1 ∧ Xs w (w7.setCell ⟨w.heap.size + 1 + 1 + 1, 1, none⟩ v7) cs o mn mx v7 v6 := by
  have h7 := h.grown own hg
  exact ⟨h7.r.frozen 1, h7.r.cell 1, h7.set1 v7⟩
theorem Xs.app6 {w w5 w7 : World} {cs : List Value} {o mn mx : Int} {v1 v6 v : Value} {e : TypeId} {sz n : Nat} {xs : List Value} (h : Xs w w5 cs o mn mx v1 v6) (own : w5.ownsRow (w.heap.size + 4) e sz v n xs) (hg : w5.grownBy w7 v.ownBlock) (v7 : Value) :
    w7.frozen? ⟨w.heap.size + 1 + 1 + 1, 6, none⟩ = false ∧ w7.cell? ⟨w.heap.size + 1 + 1 + 1, 6, none⟩ = some v6 ∧ Xs w (w7.setCell ⟨w.heap.size + 1 + 1 + 1, 6, none⟩ v7) cs o mn mx v1 v7 := by
  have h7 := h.grown own hg
  exact ⟨h7.r.frozen 6, h7.r.cell 6, h7.set6 v7⟩
theorem ops_cell (w : World) (o1 o2 : Obj) (t : TypeId) (k : Nat) (v : Int) (h : opsL[k]? = some v) : (((w.alloc o1).alloc o2).alloc (.cells #[.int .i64 2, .int .i64 3, .int .i64 3, .int .i64 4, .int .i64 4, .int .i64 6, .int .i64 5, .int .i64 18, .int .i64 19, .int .i64 14, .int .i64 15, .int .i64 16, .int .i64 17, .int .i64 13] t)).cell? ⟨w.heap.size + 1 + 1, k, none⟩ = some (.int .i64 v) := by
  have hb := (Blk.new ((w.alloc o1).alloc o2) t (opsL.map (.int .i64))).cell k
  rw [List.getElem?_map, h] at hb
  have e : ((w.alloc o1).alloc o2).heap.size = w.heap.size + 1 + 1 := by simp
  rw [e] at hb
  exact hb
theorem xs_new (w : World) (cs : List Value) (t t2 : TypeId) (o3 : Obj) (o : Int) : Xs w (((((w.alloc (.cells cs.toArray 25)).alloc (.cells #[.int .i64 0, .slice none 0 0, .int .i64 0, .int .i64 0, .bool false, .bool false, .slice none 0 0] 25)).alloc o3).alloc (.cells #[.int .i64 o, .slice none 0 0, .int .i64 0, .int .i64 0, .bool false, .bool false, .slice none 0 0] 25))) cs o 0 0 (.slice none 0 0) (.slice none 0 0) := by
  have h0 := Blk.new w 25 cs
  have h1 := Blk.new (w.alloc (.cells cs.toArray 25)) 25 (rxc 0 0 0 none 0 0 none 0 0)
  have h3 := Blk.new (((w.alloc (.cells cs.toArray 25)).alloc (.cells #[.int .i64 0, .slice none 0 0, .int .i64 0, .int .i64 0, .bool false, .bool false, .slice none 0 0] 25)).alloc o3) 25 [.int .i64 o, .slice none 0 0, .int .i64 0, .int .i64 0, .bool false, .bool false, .slice none 0 0]
  have e1 : (w.alloc (.cells cs.toArray 25)).heap.size = w.heap.size + 1 := by simp
  have e3 : (((w.alloc (.cells cs.toArray 25)).alloc (.cells #[.int .i64 0, .slice none 0 0, .int .i64 0, .int .i64 0, .bool false, .bool false, .slice none 0 0] 25)).alloc o3).heap.size = w.heap.size + 1 + 1 + 1 := by simp
  rw [e1] at h1
  rw [e3] at h3
  exact ⟨((h0.alloc _).alloc _).alloc _, (h1.alloc _).alloc _, h3, ((((Below.refl _ _).alloc (Nat.le_refl _) _).alloc (by simp) _).alloc (by simp; omega) _).alloc (by simp; omega) _, by simp⟩

theorem exp_res {tmps : Array Value} {N : Nat} {o mn mx : Int} {a1 a6 : Option Addr} {n1 c1 n6 c6 : Nat} {w : World} (h4 : tmps.getD 4 undef = .pointer (some ⟨N, 0, none⟩)) (hb : Blk w N 25 [.int .i64 o, .slice a1 n1 c1, .int .i64 mn, .int .i64 mx, .bool false, .bool false, .slice a6 n6 c6]) :
    (results Tryd.f10 tmps).run Tryd.prog w = .ok (.agg #[.int .i64 o, .slice a1 n1 c1, .int .i64 mn, .int .i64 mx, .bool false, .bool false, .slice a6 n6 c6]) w := by
  have c0 := hb.cell 0
  have c1 := hb.cell 1
  have c2 := hb.cell 2
  have c3 := hb.cell 3
  have c4 := hb.cell 4
  have c5 := hb.cell 5
  have c6 := hb.cell 6
  simp only [List.getElem?_cons_zero, List.getElem?_cons_succ] at c0 c1 c2 c3 c4 c5 c6
  have h5 : tmps[4]?.getD undef = .pointer (some ⟨N, 0, none⟩) := by rw [← h4]; simp
  simp [results, Tryd.results10, go_sem, h5, c0, c1, c2, c3, c4, c5, c6]
theorem Xs.ret {w wx : World} {cs : List Value} {o mn mx : Int} {v1 v6 : Value} (h : Xs w wx cs o mn mx v1 v6) :
    Blk (((((((wx.setCell ⟨w.heap.size + 1, 0, none⟩ (.int .i64 o)).setCell ⟨w.heap.size + 1, 1, none⟩ v1).setCell ⟨w.heap.size + 1, 2, none⟩ (.int .i64 mn)).setCell ⟨w.heap.size + 1, 3, none⟩ (.int .i64 mx)).setCell ⟨w.heap.size + 1, 4, none⟩ (.bool false)).setCell ⟨w.heap.size + 1, 5, none⟩ (.bool false)).setCell ⟨w.heap.size + 1, 6, none⟩ v6)
      (w.heap.size + 1) 25 [.int .i64 o, v1, .int .i64 mn, .int .i64 mx, .bool false, .bool false, v6] :=
  ((((((h.res.set_ 0 _).set_ 1 _).set_ 2 _).set_ 3 _).set_ 4 _).set_ 5 _).set_ 6 _
theorem below_seven {w wx : World} {N : Nat} {v0 v1 v2 v3 v4 v5 v6 : Value} (h : Below N w wx) {M : Nat} (hM : N ≤ M) :
    Below N w (((((((wx.setCell ⟨M, 0, none⟩ v0).setCell ⟨M, 1, none⟩ v1).setCell ⟨M, 2, none⟩ v2).setCell ⟨M, 3, none⟩ v3).setCell ⟨M, 4, none⟩ v4).setCell ⟨M, 5, none⟩ v5).setCell ⟨M, 6, none⟩ v6) :=
  ((((((h.setCell (p := ⟨M, 0, none⟩) hM _).setCell (p := ⟨M, 1, none⟩) hM _).setCell (p := ⟨M, 2, none⟩) hM _).setCell (p := ⟨M, 3, none⟩) hM _).setCell (p := ⟨M, 4, none⟩) hM _).setCell (p := ⟨M, 5, none⟩) hM _).setCell (p := ⟨M, 6, none⟩) hM _
end Go.Proofs.YtbkpgfccghombaaDoor.rx

/-! The law's expression out of any one: what is made is right. Conditions: as stated. -/
namespace Go.Proofs.YtbkpgfccghombaaDoor.rx
open Go.ChangeShapes Go.WideShapes Go.ChangeAt Go.RowKit
set_option linter.unusedVariables false

theorem slo_nil {w : World} {O : Nat → Prop} {a : Option Addr} : SlO w O a [] := fun j v h => by simp at h
theorem fr_seven {O : Nat → Prop} {wx : World} {M : Nat} {v0 v1 v2 v3 v4 v5 v6 : Value} (hM : O M) :
    Fr O wx (((((((wx.setCell ⟨M, 0, none⟩ v0).setCell ⟨M, 1, none⟩ v1).setCell ⟨M, 2, none⟩ v2).setCell ⟨M, 3, none⟩ v3).setCell ⟨M, 4, none⟩ v4).setCell ⟨M, 5, none⟩ v5).setCell ⟨M, 6, none⟩ v6) :=
  (((((((Fr.refl O wx).set ⟨M, 0, none⟩ v0 hM).set ⟨M, 1, none⟩ v1 hM).set ⟨M, 2, none⟩ v2 hM).set ⟨M, 3, none⟩ v3 hM).set ⟨M, 4, none⟩ v4 hM).set ⟨M, 5, none⟩ v5 hM).set ⟨M, 6, none⟩ v6 hM
theorem slo_seven {wx : World} {n M : Nat} {v0 v1 v2 v3 v4 v5 v6 : Value} {a : Option Addr} {xs : List Value} (h : SlO wx (fun k => k < n + 4) a xs) (hM : M < n + 4) :
    SlO (((((((wx.setCell ⟨M, 0, none⟩ v0).setCell ⟨M, 1, none⟩ v1).setCell ⟨M, 2, none⟩ v2).setCell ⟨M, 3, none⟩ v3).setCell ⟨M, 4, none⟩ v4).setCell ⟨M, 5, none⟩ v5).setCell ⟨M, 6, none⟩ v6) (fun k => k < n) a xs :=
  h.go (fr_seven hM) (fun k hk => .inl (by omega))
theorem infoX : (Tryd.prog.info? 25).map (fun i => (i.zero, i.size, i.bytes)) = some (some (.agg #[.int .i64 0, .slice none 0 0, .int .i64 0, .int .i64 0, .bool false, .bool false, .slice none 0 0]), 7, 80) := by kernel_rfl
theorem raw_at {w : World} {B : Nat} {sa : Option Addr} {ls : List (List Value)} (h4 : ∀ x ∈ ls, x.length = 7) (h5 : Sl w B sa (ls.flatMap id)) (i : Nat) (hi : i < ls.length) :
    ∃ ad, sa = some ad ∧ ad.block < B ∧ ∀ j v, ls[i][j]? = some v → w.cell? (ad.add (i * 7 + j)) = some v := by
  have h7 : ls[i].length = 7 := h4 _ (List.getElem_mem hi)
  have hat : ∀ j v, ls[i][j]? = some v → (ls.flatMap id)[i * 7 + j]? = some v := by
    intro j v hj
    have : ∀ (l : List (List Value)) (i : Nat) (h : i < l.length), (∀ x ∈ l, x.length = 7) → ∀ j, j < 7 → (l.flatMap id)[i * 7 + j]? = l[i][j]? := by
      intro l
      induction l with
      | nil => intro i h; simp at h
      | cons x r ih =>
        intro i h hx j hj7
        have hx7 : x.length = 7 := hx x (by simp)
        cases i with
        | zero =>
          simp only [List.flatMap_cons, id, Nat.zero_mul, Nat.zero_add, List.getElem_cons_zero]
          rw [List.getElem?_append_left (by omega)]
        | succ i =>
          simp only [List.flatMap_cons, id, List.getElem_cons_succ]
          rw [List.getElem?_append_right (by omega), hx7, show (i + 1) * 7 + j - 7 = i * 7 + j by omega]
          exact ih i (by simpa using h) (fun y hy => hx y (by simp [hy])) j hj7
    rw [this ls i hi h4 j (by have := (List.getElem?_eq_some_iff.1 hj).1; omega)]
    exact hj
  obtain ⟨ad, h, hb, -⟩ := h5 (i * 7 + 0) (ls[i][0]'(by omega)) (hat 0 _ (List.getElem?_eq_getElem (by omega)))
  refine ⟨ad, h, hb, fun j v hj => ?_⟩
  obtain ⟨ad2, h', -, hc⟩ := h5 (i * 7 + j) v (hat j v hj)
  rw [h] at h'
  injection h' with h'
  subst h'
  exact hc
theorem RawC.form {w : World} {B d : Nat} {cs : List Value} (hd : 1 ≤ d) (h : RawC w B d cs) : ∃ op mn mx lz fo ra rn rc sa sn sc, cs = rwc op mn mx lz fo ra rn rc sa sn sc := by
  match d, h with
  | d + 1, h =>
    obtain ⟨op, mn, mx, lz, fo, ra, rc, sa, sc, rs, ls, rfl, -⟩ := h
    exact ⟨_, _, _, _, _, _, _, _, _, _, _, rfl⟩
  | 0, _ => omega
/-- what must not be a part's -/
def OutR (n : Nat) (v : Value) (k : Nat) : Prop := k < n + 4 ∨ v.ownBlock = some k
/-- how far the parts are made -/
structure Sx (w wr : World) (cs : List Value) (dd : Nat) (o mn mx : Int) (a : Option Addr) (i c : Nat) (subs : List Rx) (cc : List (List Value)) : Prop where
  ls : subs.length = i
  lc : cc.length = i
  wfs : ∀ s ∈ subs, wf 3 dd s
  l7 : ∀ x ∈ cc, x.length = 7
  xs : Xs w wr cs o mn mx (.slice none 0 0) (.slice a i c)
  row : wr.ownsRow (w.heap.size + 4) 25 7 (.slice a i c) i (cc.flatMap id)
  kids : ∀ x ∈ subs.zip cc, RgO wr (OutR w.heap.size (.slice a i c)) dd x.1 x.2
theorem Sx.drew {w wr : World} {cs : List Value} {dd : Nat} {o mn mx : Int} {a : Option Addr} {i c : Nat} {subs : List Rx} {cc : List (List Value)} (h : Sx w wr cs dd o mn mx a i c subs cc) : Sx w wr.drew cs dd o mn mx a i c subs cc := by
  have hb : Below wr.heap.size wr wr.drew := (Below.refl _ _).drew
  exact ⟨h.ls, h.lc, h.wfs, h.l7, h.xs.go hb, own_below h.row hb, fun x hx => RgO.go (Fr.none_of_below hb) (fun _ e => .inl e) dd x.1 x.2 (h.kids x hx)⟩
/-- a cell of the node's is set -/
theorem Sx.put {w wr : World} {cs : List Value} {dd : Nat} {o mn mx o2 mn2 mx2 : Int} {a : Option Addr} {i c : Nat} {subs : List Rx} {cc : List (List Value)} (h : Sx w wr cs dd o mn mx a i c subs cc) (p : Addr) (u : Value) (hp : p.block < w.heap.size + 4) (hx : Xs w (wr.setCell p u) cs o2 mn2 mx2 (.slice none 0 0) (.slice a i c)) : Sx w (wr.setCell p u) cs dd o2 mn2 mx2 a i c subs cc :=
  ⟨h.ls, h.lc, h.wfs, h.l7, hx, own_far h.row _ _ (fun e => by have := own_block_ge h.row _ e; omega), fun x hx => RgO.go ((Fr.refl _ _).set p u (.inl hp)) (fun _ e => .inl e) dd x.1 x.2 (h.kids x hx)⟩
theorem Sx.next {w wr w5 w7 : World} {cs : List Value} {dd : Nat} {o mn mx : Int} {a : Option Addr} {i c g7 c7 : Nat} {subs : List Rx} {cc : List (List Value)} {r5 : Rx} {y0 y2 y3 : Int} {y1 y6 : Option Addr} {y1n y1c y6n y6c : Nat} (h : Sx w wr cs dd o mn mx a i c subs cc) (hb : Below wr.heap.size wr w5) (hr : RgO w5 (fun k => k < wr.heap.size) dd r5 [.int .i64 y0, .slice y1 y1n y1c, .int .i64 y2, .int .i64 y3, .bool false, .bool false, .slice y6 y6n y6c]) (hwf : wf 3 dd r5)
    (ho : w7.ownsRow (w.heap.size + 4) 25 7 (.slice (some ⟨g7, 0, none⟩) (i + 1) c7) (i + 1) (cc.flatMap id ++ (#[.int .i64 y0, .slice y1 y1n y1c, .int .i64 y2, .int .i64 y3, .bool false, .bool false, .slice y6 y6n y6c] : Array Value).toList)) (hg : w5.grownBy w7 (Value.slice a i c).ownBlock) (hat : ∀ k, (Value.slice (some ⟨g7, 0, none⟩) (i + 1) c7).ownBlock = some k → (Value.slice a i c).ownBlock = some k ∨ w5.heap.size ≤ k) :
    w7.frozen? ⟨w.heap.size + 1 + 1 + 1, 6, none⟩ = false ∧ w7.cell? ⟨w.heap.size + 1 + 1 + 1, 6, none⟩ = some (.slice a i c) ∧ Sx w (w7.setCell ⟨w.heap.size + 1 + 1 + 1, 6, none⟩ (.slice (some ⟨g7, 0, none⟩) (i + 1) c7)) cs dd o mn mx (some ⟨g7, 0, none⟩) (i + 1) c7 (subs ++ [r5]) (cc ++ [[.int .i64 y0, .slice y1 y1n y1c, .int .i64 y2, .int .i64 y3, .bool false, .bool false, .slice y6 y6n y6c]]) := by
  obtain ⟨f, l, x⟩ := (h.xs.go hb).app6 (own_below h.row hb) hg (.slice (some ⟨g7, 0, none⟩) (i + 1) c7)
  refine ⟨f, l, by rw [List.length_append, h.ls]; rfl, by rw [List.length_append, h.lc]; rfl, fun s hs => ?_, fun y hy => ?_, x, ?_, fun y hy => ?_⟩
  · rcases List.mem_append.1 hs with hs | hs
    · exact h.wfs s hs
    · simp at hs; subst hs; exact hwf
  · rcases List.mem_append.1 hy with hy | hy
    · exact h.l7 y hy
    · simp at hy; subst hy; rfl
  · have e : (cc ++ [([.int .i64 y0, .slice y1 y1n y1c, .int .i64 y2, .int .i64 y3, .bool false, .bool false, .slice y6 y6n y6c] : List Value)]).flatMap id = cc.flatMap id ++ (#[.int .i64 y0, .slice y1 y1n y1c, .int .i64 y2, .int .i64 y3, .bool false, .bool false, .slice y6 y6n y6c] : Array Value).toList := by simp
    rw [e]
    exact own_far ho _ _ (fun e => by have := own_block_ge ho _ e; simp at this; omega)
  · have fr : Fr (OutR w.heap.size (.slice a i c)) w5 (w7.setCell ⟨w.heap.size + 1 + 1 + 1, 6, none⟩ (.slice (some ⟨g7, 0, none⟩) (i + 1) c7)) := (Fr.of_grown hg (fun k e => .inr e)).set _ _ (.inl (show w.heap.size + 1 + 1 + 1 < w.heap.size + 4 by omega))
    have hO : ∀ k, OutR w.heap.size (.slice (some ⟨g7, 0, none⟩) (i + 1) c7) k → OutR w.heap.size (.slice a i c) k ∨ w5.heap.size ≤ k := by
      rintro k (e | e)
      · exact .inl (.inl e)
      · rcases hat k e with e | e
        · exact .inl (.inr e)
        · exact .inr e
    rw [List.zip_append (by rw [h.ls, h.lc])] at hy
    rcases List.mem_append.1 hy with hy | hy
    · exact RgO.go fr hO dd y.1 y.2 (RgO.go (Fr.none_of_below hb) (fun _ e => .inl e) dd y.1 y.2 (h.kids y hy))
    · simp at hy
      subst hy
      refine RgO.go fr hO dd _ _ (RgO.go (Fr.refl _ _) ?_ dd _ _ hr)
      rintro k (e | e)
      · exact .inl (Nat.lt_of_lt_of_le e h.xs.sz)
      · exact .inl (own_block_lt h.row k e)
theorem Sx.fin {w wr : World} {cs : List Value} {dd on : Nat} {mn mx : Int} {a : Option Addr} {i c M : Nat} {subs : List Rx} {cc : List (List Value)} {v0 v1 v2 v3 v4 v5 v6 : Value} (h : Sx w wr cs dd on mn mx a i c subs cc) (hM : M < w.heap.size + 4) :
    RgO (((((((wr.setCell ⟨M, 0, none⟩ v0).setCell ⟨M, 1, none⟩ v1).setCell ⟨M, 2, none⟩ v2).setCell ⟨M, 3, none⟩ v3).setCell ⟨M, 4, none⟩ v4).setCell ⟨M, 5, none⟩ v5).setCell ⟨M, 6, none⟩ v6) (fun k => k < w.heap.size) (dd + 1) (.nd on [] mn mx subs) [.int .i64 on, .slice none 0 0, .int .i64 mn, .int .i64 mx, .bool false, .bool false, .slice a i c] := by
  refine ⟨none, 0, a, c, cc, by rw [h.ls]; rfl, slo_nil, by rw [h.lc, h.ls], h.l7, slo_seven (slo_of_own h.row) hM, fun x hx => ?_⟩
  exact RgO.go (fr_seven (O := OutR w.heap.size (.slice a i c)) (.inl hM)) (fun k hk => .inl (.inl (by omega))) dd x.1 x.2 (h.kids x hx)
/-- what is told of any expression, of d levels -/
def ExpOk (d : Nat) : Prop := ∀ (w : World) (cs : List Value), RawC w w.heap.size d cs → Calls Tryd.prog 10 #[.agg cs.toArray, .int .i64 d] w fun e w' => ∃ r cs', e = .returned (.agg (cs' : List Value).toArray) ∧ wf 3 d r ∧ RgO w' (fun k => k < w.heap.size) d r cs' ∧ Below w.heap.size w w'

/-- what the node is, with a part or without -/
def oSel (op : Int) (d : Nat) (n : Nat) : Int := if (d ≤ 1 ∨ n = 0) ∧ 13 ≤ opsL.getD (atF op 14).toNat 0 then 3 else opsL.getD (atF op 14).toNat 0
theorem oSel_is (op : Int) (d n : Nat) : oSel op d n = 2 ∨ oSel op d n = 3 ∨ oSel op d n = 4 ∨ oSel op d n = 5 ∨ oSel op d n = 6 ∨ 13 ≤ oSel op d n := by
  obtain ⟨b0, b1⟩ := atF_bd op 14 (by omega)
  obtain ⟨o, ho, ho2⟩ := ops_at _ b0 b1
  have e : opsL.getD (atF op 14).toNat 0 = o := by rw [List.getD_eq_getElem?_getD, ho]; rfl
  unfold oSel
  rw [e]
  split <;> omega
/-- the statement on a step -/
def ExpStep (dd d : Nat) (op mn mx : Int) (lz fo : Bool) (ra : Option Addr) (rn rc : Nat) (sa : Option Addr) (sn sc : Nat) (w : World) : Prop :=
  Calls Tryd.prog 10 #[.agg (rwc op mn mx lz fo ra rn rc sa sn sc).toArray, .int .i64 d] w fun e w' => ∃ r cs', e = .returned (.agg (cs' : List Value).toArray) ∧ wf 3 (dd + 1) r ∧ RgO w' (fun k => k < w.heap.size) (dd + 1) r cs' ∧ Below w.heap.size w w'
end Go.Proofs.YtbkpgfccghombaaDoor.rx

/-! The law's expression out of any one: what is made is right: leaves and classes. Conditions: as stated. -/
namespace Go.Proofs.YtbkpgfccghombaaDoor.rx
open Go.ChangeShapes Go.WideShapes Go.ChangeAt Go.RowKit
set_option linter.unusedVariables false

set_option maxRecDepth 100000 in
set_option maxHeartbeats 6400000 in
theorem exp_leaf (dd d : Nat) (hdd : d = dd + 1) (hd : d ≤ 5) (IH : 1 ≤ dd → ExpOk dd) (op mn mx : Int) (lz fo : Bool) (ra : Option Addr) (rs : List Int) (rc : Nat) (sa : Option Addr) (ls : List (List Value)) (sc : Nat) (w : World) (hR : RawH w w.heap.size op mn mx ra rs sa ls) (hL : ∀ x ∈ ls, RawC w w.heap.size dd x) (hsel : oSel op d ls.length = 2 ∨ oSel op d ls.length = 4 ∨ oSel op d ls.length = 5 ∨ oSel op d ls.length = 6) :
    ExpStep dd d op mn mx lz fo ra rs.length rc sa ls.length sc w := by
  obtain ⟨i0, hi0, hz0, hz1, hz2⟩ := info_parts infoR
  unfold ExpStep
  have HDD := Lib.hid hdd
  have HL := Lib.hid hL
  have IH := Lib.hid IH
  have hd1 : 1 ≤ d := by omega
  clear hdd hL
  have CA := Lib.hid (fun W => at_any op 14 W (by omega) (by omega))
  obtain ⟨b0, b1⟩ := atF_bd op 14 (by omega)
  obtain ⟨o, ho, ho2⟩ := ops_at _ b0 b1
  have HR := Lib.hid hR
  have HSO := Lib.hid (show oSel op d ls.length = if (d ≤ 1 ∨ ls.length = 0) ∧ 13 ≤ o then 3 else o from by
    have e : opsL.getD (atF op 14).toNat 0 = o := by rw [List.getD_eq_getElem?_getD, ho]; rfl
    unfold oSel
    rw [e])
  have HSEL := Lib.hid hsel
  clear hsel
  unfold rwc
  clear hR
  generalize atF op 14 = k at *
  obtain ⟨k, rfl⟩ : ∃ n : Nat, k = n := ⟨k.toNat, by omega⟩
  rw [Int.toNat_natCast] at ho
  have hcell := fun o1 o2 => ops_cell w o1 o2 54 k o ho
  go_enter Tryd.func10, Tryd.ntmps10
  go_upto_region 3 with (go_at_call 28; refine (CA.out _).mono ?_; rintro e w1 ⟨rfl, rfl⟩)
  clear hcell ho
  refine name_world ?_
  intro w1 hw1
  have X1 := Lib.hid (show Xs w w1 [.int .i64 op, .slice ra rs.length rc, .int .i64 mn, .int .i64 mx, .bool lz, .bool fo, .slice sa ls.length sc] o 0 0 (.slice none 0 0) (.slice none 0 0) from by rw [hw1]; exact xs_new w _ 0 0 _ o)
  clear hw1
  have r6 := X1.out.raw.cell 6
  simp only [List.getElem?_cons_zero, List.getElem?_cons_succ] at r6
  obtain ⟨bb, hbb⟩ : ∃ bb, bb = decide (d ≤ 1 ∨ ls.length = 0) := ⟨_, rfl⟩
  have HBB := Lib.hid hbb
  clear hbb
  go_cut [24] (fun s24 wx => s24 = .bool bb ∧ w1 = wx)
  case first =>
    by_cases h1 : d ≤ 1
    · have h1' : (d : Int) ≤ 1 := by omega
      obtain rfl : bb = true := by rw [HBB.out]; simp [h1]
      go_wp2
      go_meet
      case rel => exact ⟨rfl, rfl⟩
    · have h1' : ¬ (d : Int) ≤ 1 := by omega
      by_cases h2 : ls.length = 0
      · have h2' : ((ls.length : Int) == 0) = true := by simp [h2]
        obtain rfl : bb = true := by rw [HBB.out]; simp [h2]
        clear h2
        go_wp2
        go_meet
        case rel => exact ⟨rfl, rfl⟩
      · have h2' : ((ls.length : Int) == 0) = false := by rw [beq_eq_false_iff_ne]; omega
        obtain rfl : bb = false := by rw [HBB.out]; simp [h1, h2]
        clear h2
        go_wp2
        go_meet
        case rel => exact ⟨rfl, rfl⟩
  case rest =>
    obtain ⟨rfl, rfl⟩ := hcut
    clear r6
    obtain ⟨o', ho'⟩ : ∃ o', o' = if bb = true ∧ 13 ≤ o then 3 else o := ⟨_, rfl⟩
    have HO := Lib.hid ho'
    clear ho'
    have l0 := X1.out.r.cell 0
    have f0 := X1.out.r.frozen 0
    simp only [List.getElem?_cons_zero] at l0
    go_upto_if 24 with fail
    go_cut [] (fun wx => Hid (Xs w wx [.int .i64 op, .slice ra rs.length rc, .int .i64 mn, .int .i64 mx, .bool lz, .bool fo, .slice sa ls.length sc] o' 0 0 (.slice none 0 0) (.slice none 0 0)))
    case first =>
      cases bb with
      | false =>
        obtain rfl : o' = o := by rw [HO.out]; simp
        go_wp2
        go_meet
        case rel => exact X1
      | true =>
        by_cases h13 : 13 ≤ o
        · obtain rfl : o' = 3 := by rw [HO.out]; simp [h13]
          have g2 : (o == 2) = false := by rw [beq_eq_false_iff_ne]; omega
          have g3 : (o == 3) = false := by rw [beq_eq_false_iff_ne]; omega
          have g4 : (o == 4) = false := by rw [beq_eq_false_iff_ne]; omega
          have g5 : (o == 5) = false := by rw [beq_eq_false_iff_ne]; omega
          have g6 : (o == 6) = false := by rw [beq_eq_false_iff_ne]; omega
          clear ho2
          go_wp2
          go_meet
          case rel => exact Lib.hid (X1.out.set0 3)
        · have HH : Hid (o' = o) := Lib.hid (by rw [HO.out]; simp [h13])
          have ho3 : o = 2 ∨ o = 3 ∨ o = 4 ∨ o = 5 ∨ o = 6 := by omega
          clear ho2 HO
          have XX1 := Lib.hid (show Xs w w1 [.int .i64 op, .slice ra rs.length rc, .int .i64 mn, .int .i64 mx, .bool lz, .bool fo, .slice sa ls.length sc] o' 0 0 (.slice none 0 0) (.slice none 0 0) from by rw [HH.out]; exact X1.out)
          clear HH
          rcases ho3 with rfl | rfl | rfl | rfl | rfl
          all_goals
            go_wp2
            go_meet
            case rel => exact XX1
    case rest =>
      have XC := hcut
      have HOP : Hid (o' = 2 ∨ o' = 3 ∨ o' = 4 ∨ o' = 5 ∨ o' = 6 ∨ (13 ≤ o' ∧ o' ≤ 19 ∧ 1 < d ∧ ls.length ≠ 0)) := Lib.hid (by
        have h1 := HO.out
        have h2 := HBB.out
        by_cases hb : bb = true
        · by_cases h13 : 13 ≤ o
          · rw [if_pos ⟨hb, h13⟩] at h1; omega
          · rw [if_neg (fun h => h13 h.2)] at h1; omega
        · rw [if_neg (fun h => hb h.1)] at h1
          have : ¬ (d ≤ 1 ∨ ls.length = 0) := fun h => hb (by rw [h2]; exact decide_eq_true h)
          omega)
      have hsel : o' = oSel op d ls.length := by
        rw [HSO.out, HO.out, HBB.out]
        simp
      have HS2 := HSEL.out
      rw [← hsel] at HS2
      clear HO HBB ho2 hcut X1 hsel HSEL HSO
      clear HOP
      rcases HS2 with h2 | h2 | h2 | h2
      · subst h2
        have l0 := XC.out.r.cell 0
        have l1 := XC.out.r.cell 1
        have l2 := XC.out.r.cell 2
        have l3 := XC.out.r.cell 3
        have l4 := XC.out.r.cell 4
        have l5 := XC.out.r.cell 5
        have l6 := XC.out.r.cell 6
        simp only [List.getElem?_cons_zero, List.getElem?_cons_succ] at l0 l1 l2 l3 l4 l5 l6
        have m0 := XC.out.res.cell 0
        have m1 := XC.out.res.cell 1
        have m2 := XC.out.res.cell 2
        have m3 := XC.out.res.cell 3
        have m4 := XC.out.res.cell 4
        have m5 := XC.out.res.cell 5
        have m6 := XC.out.res.cell 6
        simp only [rxc, List.getElem?_cons_zero, List.getElem?_cons_succ] at m0 m1 m2 m3 m4 m5 m6
        have f0 := XC.out.res.frozen 0
        have f1 := XC.out.res.frozen 1
        have f2 := XC.out.res.frozen 2
        have f3 := XC.out.res.frozen 3
        have f4 := XC.out.res.frozen 4
        have f5 := XC.out.res.frozen 5
        have f6 := XC.out.res.frozen 6
        go_wp2_with fail
        refine bodyPost_ret_by (exp_res rfl XC.out.ret) rfl ?_
        exact ⟨.nd 2 [] 0 0 [], rxc 2 0 0 none 0 0 none 0 0, rfl, .inl ⟨rfl, rfl, rfl⟩, ⟨none, 0, none, 0, [], rfl, slo_nil, rfl, by simp, slo_nil, by simp⟩, below_seven XC.out.low (by omega)⟩
      · subst h2
        have q1 := XC.out.raw.cell 1
        have l0 := XC.out.r.cell 0
        simp only [List.getElem?_cons_zero, List.getElem?_cons_succ] at q1 l0
        have CP := Lib.hid (prs_any ra rc rs wc ((HR.out.r.below XC.out.low).more XC.out.low.size) HR.out.rl HR.out.rb)
        have RL1 := Lib.hid (fun (W : World) (hb : Below wc.heap.size wc W) => (XC.out.go hb).r.cell 1)
        have RF1 := Lib.hid (fun (W : World) (hb : Below wc.heap.size wc W) => (XC.out.go hb).r.frozen 1)
        go_upto_region 26 with (first | (go_at_call 20; refine CP.out.mono ?_; rintro e w2 ⟨a2, c2, rfl, hs2, hb2⟩; have X2 := Lib.hid (XC.out.go hb2); have HS2 := Lib.hid hs2; have l1 := RL1.out _ hb2; have f1 := RF1.out _ hb2; simp only [List.getElem?_cons_zero, List.getElem?_cons_succ] at l1; clear hs2 hb2 CP) | fail)
        refine name_world ?_
        intro w3 hw3
        have X3 := Lib.hid (show Xs w w3 [.int .i64 op, .slice ra rs.length rc, .int .i64 mn, .int .i64 mx, .bool lz, .bool fo, .slice sa ls.length sc] 4 0 0 (.slice (some a2) (Prs rs).length c2) (.slice none 0 0) from by rw [hw3]; exact X2.out.set1 _)
        have HS3 := Lib.hid (show SlO w3 (fun k => k < w.heap.size + 4) (some a2) ((Prs rs).map (.int .i32)) from by
          rw [hw3]
          exact HS2.out.go ((Fr.refl _ _).set _ _ (by have := XC.out.sz; simp; omega)) (fun k hk => .inl (by have := XC.out.sz; omega)))
        clear hw3 q1 l0 l1 f1 RL1 RF1
        have l0 := X3.out.r.cell 0
        have l1 := X3.out.r.cell 1
        have l2 := X3.out.r.cell 2
        have l3 := X3.out.r.cell 3
        have l4 := X3.out.r.cell 4
        have l5 := X3.out.r.cell 5
        have l6 := X3.out.r.cell 6
        simp only [List.getElem?_cons_zero, List.getElem?_cons_succ] at l0 l1 l2 l3 l4 l5 l6
        have m0 := X3.out.res.cell 0
        have m1 := X3.out.res.cell 1
        have m2 := X3.out.res.cell 2
        have m3 := X3.out.res.cell 3
        have m4 := X3.out.res.cell 4
        have m5 := X3.out.res.cell 5
        have m6 := X3.out.res.cell 6
        simp only [rxc, List.getElem?_cons_zero, List.getElem?_cons_succ] at m0 m1 m2 m3 m4 m5 m6
        have f0 := X3.out.res.frozen 0
        have f1 := X3.out.res.frozen 1
        have f2 := X3.out.res.frozen 2
        have f3 := X3.out.res.frozen 3
        have f4 := X3.out.res.frozen 4
        have f5 := X3.out.res.frozen 5
        have f6 := X3.out.res.frozen 6
        go_wp2_with fail
        refine bodyPost_ret_by (exp_res rfl X3.out.ret) rfl ?_
        exact ⟨.nd 4 (Prs rs) 0 0 [], rxc 4 0 0 (some a2) (Prs rs).length c2 none 0 0, rfl, .inr (.inr (.inl ⟨.inl ⟨rfl, (Prs_ok rs).2, (Prs_ok rs).1⟩, rfl⟩)), ⟨some a2, c2, none, 0, [], rfl, slo_seven HS3.out (by omega), rfl, by simp, slo_nil, by simp⟩, below_seven X3.out.low (by omega)⟩
      · subst h2
        have l0 := XC.out.r.cell 0
        have l1 := XC.out.r.cell 1
        have l2 := XC.out.r.cell 2
        have l3 := XC.out.r.cell 3
        have l4 := XC.out.r.cell 4
        have l5 := XC.out.r.cell 5
        have l6 := XC.out.r.cell 6
        simp only [List.getElem?_cons_zero, List.getElem?_cons_succ] at l0 l1 l2 l3 l4 l5 l6
        have m0 := XC.out.res.cell 0
        have m1 := XC.out.res.cell 1
        have m2 := XC.out.res.cell 2
        have m3 := XC.out.res.cell 3
        have m4 := XC.out.res.cell 4
        have m5 := XC.out.res.cell 5
        have m6 := XC.out.res.cell 6
        simp only [rxc, List.getElem?_cons_zero, List.getElem?_cons_succ] at m0 m1 m2 m3 m4 m5 m6
        have f0 := XC.out.res.frozen 0
        have f1 := XC.out.res.frozen 1
        have f2 := XC.out.res.frozen 2
        have f3 := XC.out.res.frozen 3
        have f4 := XC.out.res.frozen 4
        have f5 := XC.out.res.frozen 5
        have f6 := XC.out.res.frozen 6
        go_wp2_with fail
        refine bodyPost_ret_by (exp_res rfl XC.out.ret) rfl ?_
        exact ⟨.nd 5 [] 0 0 [], rxc 5 0 0 none 0 0 none 0 0, rfl, .inr (.inr (.inl ⟨.inr ⟨.inl rfl, rfl⟩, rfl⟩)), ⟨none, 0, none, 0, [], rfl, slo_nil, rfl, by simp, slo_nil, by simp⟩, below_seven XC.out.low (by omega)⟩
      · subst h2
        have l0 := XC.out.r.cell 0
        have l1 := XC.out.r.cell 1
        have l2 := XC.out.r.cell 2
        have l3 := XC.out.r.cell 3
        have l4 := XC.out.r.cell 4
        have l5 := XC.out.r.cell 5
        have l6 := XC.out.r.cell 6
        simp only [List.getElem?_cons_zero, List.getElem?_cons_succ] at l0 l1 l2 l3 l4 l5 l6
        have m0 := XC.out.res.cell 0
        have m1 := XC.out.res.cell 1
        have m2 := XC.out.res.cell 2
        have m3 := XC.out.res.cell 3
        have m4 := XC.out.res.cell 4
        have m5 := XC.out.res.cell 5
        have m6 := XC.out.res.cell 6
        simp only [rxc, List.getElem?_cons_zero, List.getElem?_cons_succ] at m0 m1 m2 m3 m4 m5 m6
        have f0 := XC.out.res.frozen 0
        have f1 := XC.out.res.frozen 1
        have f2 := XC.out.res.frozen 2
        have f3 := XC.out.res.frozen 3
        have f4 := XC.out.res.frozen 4
        have f5 := XC.out.res.frozen 5
        have f6 := XC.out.res.frozen 6
        go_wp2_with fail
        refine bodyPost_ret_by (exp_res rfl XC.out.ret) rfl ?_
        exact ⟨.nd 6 [] 0 0 [], rxc 6 0 0 none 0 0 none 0 0, rfl, .inr (.inr (.inl ⟨.inr ⟨.inr rfl, rfl⟩, rfl⟩)), ⟨none, 0, none, 0, [], rfl, slo_nil, rfl, by simp, slo_nil, by simp⟩, below_seven XC.out.low (by omega)⟩

end Go.Proofs.YtbkpgfccghombaaDoor.rx
