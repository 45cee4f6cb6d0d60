/-
  FnTablePath: the way of a table along a text, by the states that its rows lead to. Conditions: as stated.
-/
import Derived.Test.YtobcgeonobgjpaaTabB
import Derived.Test.YtobcgeonobgjpaaTabE
namespace Go.Proofs.Ytobcgeonobgjpaa.fnTablePath
open Go.ChangeShapes Go.WideShapes Go.ChangeAt Go.RowKit
set_option linter.unusedVariables false

/-- the state behind the first i bytes -/
def sqF (st : Int) (cls : List Int) (rs : List (Option Addr × Nat × List Int)) (t : ByteArray) : Nat → Nat
  | 0 => st.toNat
  | i + 1 => ((rs.getD (sqF st cls rs t i) (none, 0, [])).2.2.getD (cls.getD (t.data.getD i 0).toNat 0).toNat 0).toNat

theorem byte_at (t : ByteArray) (i : Nat) (h : i < t.size) : t.data.getD i 0 = t[i] := by
  have h' : i < t.data.size := h
  unfold Array.getD
  rw [dif_pos h']
  rfl

section
variable {w : World} {st : Int} {b0 b1 b2 b3 b4 : Option Addr} {n : Nat} {cls : List Int} {rs : List (Option Addr × Nat × List Int)} {ms cn al : List Bool}
theorem getD_in {α : Type} {l : List α} {i : Nat} {d : α} (h : i < l.length) : l.getD i d = l[i] := by
  rw [List.getD_eq_getElem?_getD, List.getElem?_eq_getElem h]
  rfl
theorem IsTab.below {w' : World} (T : IsTab w st b0 b1 b2 b3 b4 n cls rs ms cn al) (hb : Below w.heap.size w w') : IsTab w' st b0 b1 b2 b3 b4 n cls rs ms cn al :=
  ⟨T.hn1, T.hn, T.hst, T.hcl, T.hcb, T.hrl, T.hrb, T.hm, T.hcn, T.hal, (T.s0.below hb).more hb.size, (T.s1.below hb).more hb.size, fun r hr => ((T.sr r hr).below hb).more hb.size, (T.s2.below hb).more hb.size, (T.s3.below hb).more hb.size, (T.s4.below hb).more hb.size⟩
/-- a class, a row, a next state -/
theorem IsTab.cls_ (T : IsTab w st b0 b1 b2 b3 b4 n cls rs ms cn al) (b : Nat) (hb : b ≤ 255) : ∃ ad, b0 = some ad ∧ ad.block < w.heap.size ∧ w.cell? (ad.add b) = some (.int .i64 (cls.getD b 0)) ∧ 0 ≤ cls.getD b 0 ∧ cls.getD b 0 < 5 := by
  have hl : b < cls.length := by rw [T.hcl]; omega
  obtain ⟨ad, h1, h2, h3⟩ := T.s0 b (.int .i64 (cls.getD b 0)) (by rw [List.getElem?_map, List.getElem?_eq_getElem hl, getD_in hl]; rfl)
  have := T.hcb _ (getD_mem (d := 0) hl)
  exact ⟨ad, h1, h2, h3, this.1, by omega⟩
theorem IsTab.row_ (T : IsTab w st b0 b1 b2 b3 b4 n cls rs ms cn al) (k : Nat) (hk : k < n) : ∃ ad, b1 = some ad ∧ ad.block < w.heap.size ∧ w.cell? (ad.add k) = some (.slice (rs.getD k (none, 0, [])).1 5 (rs.getD k (none, 0, [])).2.1) := by
  have hl : k < rs.length := by rw [T.hrl]; exact hk
  obtain ⟨ad, h1, h2, h3⟩ := T.s1 k (.slice (rs.getD k (none, 0, [])).1 5 (rs.getD k (none, 0, [])).2.1) (by rw [List.getElem?_map, List.getElem?_eq_getElem hl, getD_in hl]; rfl)
  exact ⟨ad, h1, h2, h3⟩
theorem IsTab.to_ (T : IsTab w st b0 b1 b2 b3 b4 n cls rs ms cn al) (k c : Nat) (hk : k < n) (hc : c < 5) : ∃ ad, (rs.getD k (none, 0, [])).1 = some ad ∧ ad.block < w.heap.size ∧ w.cell? (ad.add c) = some (.int .i64 ((rs.getD k (none, 0, [])).2.2.getD c 0)) ∧
    0 ≤ (rs.getD k (none, 0, [])).2.2.getD c 0 ∧ (rs.getD k (none, 0, [])).2.2.getD c 0 < n := by
  have hl : k < rs.length := by rw [T.hrl]; exact hk
  have hm := getD_mem (d := ((none, 0, []) : Option Addr × Nat × List Int)) hl
  obtain ⟨h5, hb⟩ := T.hrb _ hm
  have hc' : c < (rs.getD k (none, 0, [])).2.2.length := by omega
  obtain ⟨ad, h1, h2, h3⟩ := T.sr _ hm c (.int .i64 ((rs.getD k (none, 0, [])).2.2.getD c 0)) (by rw [List.getElem?_map, List.getElem?_eq_getElem hc', getD_in hc']; rfl)
  have := hb _ (getD_mem (d := 0) hc')
  exact ⟨ad, h1, h2, h3, this.1, this.2⟩
theorem sq_bd (T : IsTab w st b0 b1 b2 b3 b4 n cls rs ms cn al) (t : ByteArray) : ∀ i, sqF st cls rs t i < n
  | 0 => by
    have := T.hst
    unfold sqF
    omega
  | i + 1 => by
    have h1 := sq_bd T t i
    have hb : (t.data.getD i 0).toNat ≤ 255 := by have := UInt8.toNat_lt (t.data.getD i 0); omega
    obtain ⟨_, -, -, -, h2, h3⟩ := T.cls_ _ hb
    obtain ⟨_, -, -, -, h4, h5⟩ := T.to_ (sqF st cls rs t i) (cls.getD (t.data.getD i 0).toNat 0).toNat h1 (by omega)
    unfold sqF
    omega
end

set_option maxHeartbeats 800000 in
theorem path_tab (st : Int) (b0 b1 b2 b3 b4 : Option Addr) (d0 d1 d2 d3 d4 n : Nat) (cls : List Int) (rs : List (Option Addr × Nat × List Int)) (ms cn al : List Bool) (t : ByteArray) (w : World) (ht : t.size ≤ 4096) (T : IsTab w st b0 b1 b2 b3 b4 n cls rs ms cn al) :
    Calls Try.prog 26 #[.iface 60 (.agg #[.int .i64 st, .slice b0 256 d0, .slice b1 n d1, .slice b2 n d2, .slice b3 n d3, .slice b4 n d4]), .string t] w fun e w' => ∃ x1 y1 x2 y2 x3 y3, e = .returned (.tuple #[.slice x1 (t.size + 1) y1, .slice x2 (t.size + 1) y2, .slice x3 (t.size + 1) y3]) ∧
      Sl w' w'.heap.size x1 (rng (fun i => ms.getD (sqF st cls rs t i) false) (t.size + 1)) ∧ Sl w' w'.heap.size x2 (rng (fun i => cn.getD (sqF st cls rs t i) false) (t.size + 1)) ∧ Sl w' w'.heap.size x3 (rng (fun i => al.getD (sqF st cls rs t i) false) (t.size + 1)) ∧ Below w.heap.size w w' := by
  exact (path_any (.agg #[.int .i64 st, .slice b0 256 d0, .slice b1 n d1, .slice b2 n d2, .slice b3 n d3, .slice b4 n d4]) t (sqF st cls rs t) (fun i => ms.getD (sqF st cls rs t i) false) (fun i => cn.getD (sqF st cls rs t i) false) (fun i => al.getD (sqF st cls rs t i) false) w ht
    (fun i => by have := sq_bd T t i; have := T.hn; omega)
    (fun W hW => by
      have h := start_any st b0 b1 b2 b3 b4 256 n n n n d0 d1 d2 d3 d4 W ⟨T.hst.1, by have := T.hst.2; have := T.hn; omega⟩
      have e : st = ((sqF st cls rs t 0 : Nat) : Int) := by have := T.hst.1; unfold sqF; omega
      rw [← e]
      exact h)
    (fun i _ W hW => by
      have hk := sq_bd T t i
      have h := ismatch_any st b0 b1 b2 b3 b4 256 n n n d0 d1 d2 d3 d4 (sqF st cls rs t i) ms W ((T.below hW).s2) (by rw [T.hm]; exact hk) (by have := T.hm; have := T.hn; omega)
      rw [← getD_in (d := false), T.hm] at h
      exact h)
    (fun i _ W hW => by
      have hk := sq_bd T t i
      have h := canmatch_any st b0 b1 b2 b3 b4 256 n n n d0 d1 d2 d3 d4 (sqF st cls rs t i) cn W ((T.below hW).s3) (by rw [T.hcn]; exact hk) (by have := T.hcn; have := T.hn; omega)
      rw [← getD_in (d := false), T.hcn] at h
      exact h)
    (fun i _ W hW => by
      have hk := sq_bd T t i
      have h := will_any st b0 b1 b2 b3 b4 256 n n n d0 d1 d2 d3 d4 (sqF st cls rs t i) al W ((T.below hW).s4) (by rw [T.hal]; exact hk) (by have := T.hal; have := T.hn; omega)
      rw [← getD_in (d := false), T.hal] at h
      exact h)
    (fun i hi W hW => by
      have TW := T.below hW
      have hk := sq_bd T t i
      have hb : (t.data.getD i 0).toNat ≤ 255 := by have := UInt8.toNat_lt (t.data.getD i 0); omega
      rw [← byte_at t i hi]
      obtain ⟨a0, e0, -, c0, l0, u0⟩ := TW.cls_ _ hb
      obtain ⟨a1, e1, -, c1⟩ := TW.row_ _ hk
      obtain ⟨a2, e2, -, c2, l2, u2⟩ := TW.to_ (sqF st cls rs t i) (cls.getD (t.data.getD i 0).toNat 0).toNat hk (by omega)
      have h := accept_any st b0 b1 b2 b3 b4 (rs.getD (sqF st cls rs t i) (none, 0, [])).1 n n n d0 d1 d2 d3 d4 (sqF st cls rs t i) n 5 (rs.getD (sqF st cls rs t i) (none, 0, [])).2.1 (cls.getD (t.data.getD i 0).toNat 0) ((t.data.getD i 0).toNat : Int)
        ((rs.getD (sqF st cls rs t i) (none, 0, [])).2.2.getD (cls.getD (t.data.getD i 0).toNat 0).toNat 0) cls W T.hcl hk (by have := T.hn; omega) ⟨by omega, by omega⟩ ⟨a0, e0, by simpa using c0⟩ ⟨a1, e1, c1⟩ ⟨l0, by omega⟩ (by omega) ⟨a2, e2, c2⟩ ⟨l2, by have := T.hn; omega⟩
      have e : ((rs.getD (sqF st cls rs t i) (none, 0, [])).2.2.getD (cls.getD (t.data.getD i 0).toNat 0).toNat 0) = ((sqF st cls rs t (i + 1) : Nat) : Int) := by
        rw [sqF]
        omega
      rw [e] at h
      exact h))

set_option maxHeartbeats 800000 in
theorem tpath_any (st : Int) (b0 b1 b2 b3 b4 : Option Addr) (d0 d1 d2 d3 d4 n : Nat) (cls : List Int) (rs : List (Option Addr × Nat × List Int)) (ms cn al : List Bool) (t : ByteArray) (w : World) (ht : t.size ≤ 4096) (T : IsTab w st b0 b1 b2 b3 b4 n cls rs ms cn al) :
    Calls Try.prog 17 #[.agg #[.int .i64 st, .slice b0 256 d0, .slice b1 n d1, .slice b2 n d2, .slice b3 n d3, .slice b4 n d4], .string t] w fun e w' => ∃ x1 y1 x2 y2 x3 y3, e = .returned (.tuple #[.slice x1 (t.size + 1) y1, .slice x2 (t.size + 1) y2, .slice x3 (t.size + 1) y3]) ∧
      Sl w' w'.heap.size x1 (rng (fun i => ms.getD (sqF st cls rs t i) false) (t.size + 1)) ∧ Sl w' w'.heap.size x2 (rng (fun i => cn.getD (sqF st cls rs t i) false) (t.size + 1)) ∧ Sl w' w'.heap.size x3 (rng (fun i => al.getD (sqF st cls rs t i) false) (t.size + 1)) ∧ Below w.heap.size w w' := by
  have C := Lib.hid (path_tab st b0 b1 b2 b3 b4 d0 d1 d2 d3 d4 n cls rs ms cn al t (w.alloc (.cells #[.int .i64 st, .slice b0 256 d0, .slice b1 n d1, .slice b2 n d2, .slice b3 n d3, .slice b4 n d4] 41)) ht (T.below ((Below.refl _ _).alloc (Nat.le_refl _) _)))
  clear T
  go_enter Try.func17, Try.ntmps17
  go_wp2_with (go_at_call 26; refine C.out.mono ?_; rintro e w1 ⟨x1, y1, x2, y2, x3, y3, rfl, h1, h2, h3, hb⟩)
  go_returns
  exact ⟨x1, y1, x2, y2, x3, y3, rfl, h1, h2, h3, ((Below.refl _ _).alloc (Nat.le_refl _) _).trans (hb.mono (by simp))⟩

end Go.Proofs.Ytobcgeonobgjpaa.fnTablePath
