/-
  FnTablePath: a table in range out of any one. Conditions: as stated.
-/
import Derived.Test.YtobcgeonobgjpaaTabC
import Derived.Test.YtobcgeonobgjpaaTabD
import Derived.Test.YtobcgeonobgjpaaTabOpen
import Derived.Test.YtobcgeonobgjpaaStepApp
import Derived.Deep.RegionLaw
import Derived.Test.YtobcgeonobgjpaaLastStore
namespace Go.Proofs.Ytobcgeonobgjpaa.fnTablePath
open Go.ChangeShapes Go.WideShapes Go.ChangeAt Go.RowKit
set_option linter.unusedVariables false

theorem infoS : (Try.prog.info? 37).map (fun i => (i.zero, i.size, i.bytes)) = some (some (.slice none 0 0), 1, 24) := by kernel_rfl

/-- rows of unlike elements lie apart -/
theorem apart_type {w : World} {B1 B2 : Nat} {e1 e2 : TypeId} {k1 k2 n1 n2 : Nat} {u v : Value} {x1 x2 : List Value} (h1 : w.ownsRow B1 e1 k1 u n1 x1) (h2 : w.ownsRow B2 e2 k2 v n2 x2) (hne : e1 ≠ e2) : Apart u v := by
  intro k hu hv
  rcases h1.2 with ⟨rfl, -⟩ | ⟨g1, c1, r1, rfl, -, hh1, -⟩
  · simp [Value.ownBlock] at hu
  rcases h2.2 with ⟨rfl, -⟩ | ⟨g2, c2, r2, rfl, -, hh2, -⟩
  · simp [Value.ownBlock] at hv
  simp [Value.ownBlock] at hu hv
  subst hu
  subst hv
  rw [hh1] at hh2
  injection hh2 with hh2
  injection hh2 with _ ht
  exact hne ht

/-- the table that is being made: its classes, its rows, its matches -/
structure AM (w : World) (B : Nat) (v0 v1 v2 : Value) (s m : Nat) (cls : List Int) (rws : List (Option Addr × Nat × List Int)) (mt : List Bool) : Prop where
  o0 : w.ownsRow B 3 1 v0 256 (cls.map (.int .i64))
  o1 : w.ownsRow B 37 1 v1 s (rws.map fun r => .slice r.1 5 r.2.1)
  o2 : w.ownsRow B 4 1 v2 m (mt.map .bool)
  rows : ∀ r ∈ rws, w.ownsRow B 3 1 (.slice r.1 5 r.2.1) 5 (r.2.2.map (.int .i64))

section
variable {w w' : World} {B : Nat} {v0 v1 v2 v : Value} {s m : Nat} {cls : List Int} {rws : List (Option Addr × Nat × List Int)} {mt : List Bool}
theorem AM.below (h : AM w B v0 v1 v2 s m cls rws mt) (hb : Below w.heap.size w w') : AM w' B v0 v1 v2 s m cls rws mt :=
  ⟨own_below h.o0 hb, own_below h.o1 hb, own_below h.o2 hb, fun r hr => own_below (h.rows r hr) hb⟩
theorem AM.set_below (h : AM w B v0 v1 v2 s m cls rws mt) {p : Addr} (hp : p.block < B) (u : Value) : AM (w.setCell p u) B v0 v1 v2 s m cls rws mt :=
  ⟨ownsRow_setCell_below h.o0 hp u, ownsRow_setCell_below h.o1 hp u, ownsRow_setCell_below h.o2 hp u, fun r hr => ownsRow_setCell_below (h.rows r hr) hp u⟩
theorem AM.app1 (h : AM w B v0 v1 v2 s m cls rws mt) {a : Option Addr} {c : Nat} {l : List Int} (hr : w.ownsRow B 3 1 (.slice a 5 c) 5 (l.map (.int .i64)))
    (ho : w'.ownsRow B 37 1 v (s + 1) ((rws.map fun r => Value.slice r.1 5 r.2.1) ++ [.slice a 5 c])) (hg : w.grownBy w' v1.ownBlock) : AM w' B v0 v v2 (s + 1) m cls (rws ++ [(a, c, l)]) mt :=
  ⟨h.o0.kept hg (apart_type h.o0 h.o1 (by decide)).kept, by simpa using ho, h.o2.kept hg (apart_type h.o2 h.o1 (by decide)).kept, fun r hm => by
    rcases List.mem_append.1 hm with hm | hm
    · exact (h.rows r hm).kept hg (apart_type (h.rows r hm) h.o1 (by decide)).kept
    · simp at hm
      subst hm
      exact hr.kept hg (apart_type hr h.o1 (by decide)).kept⟩
theorem AM.app2 (h : AM w B v0 v1 v2 s m cls rws mt) {b : Bool} (ho : w'.ownsRow B 4 1 v (m + 1) (mt.map .bool ++ [.bool b])) (hg : w.grownBy w' v2.ownBlock) : AM w' B v0 v1 v s (m + 1) cls rws (mt ++ [b]) :=
  ⟨h.o0.kept hg (apart_type h.o0 h.o2 (by decide)).kept, h.o1.kept hg (apart_type h.o1 h.o2 (by decide)).kept, by simpa using ho, fun r hm => (h.rows r hm).kept hg (apart_type (h.rows r hm) h.o2 (by decide)).kept⟩
end

/-- the three blocks of the call: the argument, the answer, the table that is being made; and what is older -/
structure Fr (w W : World) (raw a : List Value) : Prop where
  r : Blk W w.heap.size 41 raw
  z : Blk W (w.heap.size + 1) 41 [.int .i64 0, .slice none 0 0, .slice none 0 0, .slice none 0 0, .slice none 0 0, .slice none 0 0]
  a : Blk W (w.heap.size + 1 + 1) 41 a
  b : Below w.heap.size w W
theorem Fr.grown {w W W' : World} {raw a : List Value} {v : Value} (h : Fr w W raw a) (hg : W.grownBy W' v.ownBlock) (hge : ∀ k, v.ownBlock = some k → w.heap.size + 1 + 1 + 1 ≤ k) : Fr w W' raw a :=
  ⟨h.r.grown hg (fun e => by have := hge _ e.symm; omega), h.z.grown hg (fun e => by have := hge _ e.symm; omega), h.a.grown hg (fun e => by have := hge _ e.symm; omega), h.b.grown hg h.b.size (fun k hk => by have := hge k hk; omega)⟩
theorem Fr.set_ {w W : World} {raw a : List Value} (h : Fr w W raw a) (i : Nat) (u : Value) : Fr w (W.setCell ⟨w.heap.size + 1 + 1, i, none⟩ u) raw (a.set i u) :=
  ⟨h.r.far (p := ⟨w.heap.size + 1 + 1, i, none⟩) (by simp <;> omega) u, h.z.far (p := ⟨w.heap.size + 1 + 1, i, none⟩) (by simp) u, h.a.set_ i u, h.b.setCell (p := ⟨w.heap.size + 1 + 1, i, none⟩) (by simp <;> omega) u⟩
theorem Fr.below {w W W' : World} {raw a : List Value} (h : Fr w W raw a) (hb : Below W.heap.size W W') : Fr w W' raw a :=
  ⟨h.r.below hb h.r.lt, h.z.below hb h.z.lt, h.a.below hb h.a.lt, h.b.trans (hb.mono h.b.size)⟩
theorem Fr.drewN {w W : World} {raw a : List Value} (h : Fr w W raw a) (n : Nat) : Fr w (W.drewN n) raw a := h.below (below_drewN (Below.refl _ _) n)
theorem Fr.size {w W : World} {raw a : List Value} (h : Fr w W raw a) : w.heap.size + 1 + 1 + 1 ≤ W.heap.size := h.a.lt

theorem at_still (x : Int) (n : Nat) (w : World) (hn : 1 ≤ n) (hn2 : n ≤ 300) :
    Calls Try.prog 24 #[.int .i64 x, .int .i64 n] w fun e w' => e = .returned (.int .i64 (atF x n)) ∧ w' = w :=
  (at_any x n w hn hn2).mono (by rintro e w' ⟨h1, h2⟩; exact ⟨h1, h2.symm⟩)

theorem snoc_bd {l : List Int} {n : Nat} {y : Int} (h : ∀ x ∈ l, 0 ≤ x ∧ x < n) (hy : 0 ≤ y ∧ y < n) : ∀ x ∈ l ++ [y], 0 ≤ x ∧ x < n := fun x hx => by
  rcases List.mem_append.1 hx with hx | hx
  · exact h x hx
  · simp at hx
    subst hx
    exact hy

/-- a table in range, as it lies -/
structure IsTab (w : World) (st : Int) (b0 b1 b2 b3 b4 : Option Addr) (n : Nat) (cls : List Int) (rs : List (Option Addr × Nat × List Int)) (ms cn al : List Bool) : Prop where
  hn1 : 1 ≤ n
  hn : n ≤ 300
  hst : 0 ≤ st ∧ st < n
  hcl : cls.length = 256
  hcb : ∀ x ∈ cls, 0 ≤ x ∧ x < (5 : Nat)
  hrl : rs.length = n
  hrb : ∀ r ∈ rs, r.2.2.length = 5 ∧ ∀ x ∈ r.2.2, 0 ≤ x ∧ x < (n : Int)
  hm : ms.length = n
  hcn : cn.length = n
  hal : al.length = n
  s0 : Sl w w.heap.size b0 (cls.map (.int .i64))
  s1 : Sl w w.heap.size b1 (rs.map fun r => .slice r.1 5 r.2.1)
  sr : ∀ r ∈ rs, Sl w w.heap.size r.1 (r.2.2.map (.int .i64))
  s2 : Sl w w.heap.size b2 (ms.map .bool)
  s3 : Sl w w.heap.size b3 (cn.map .bool)
  s4 : Sl w w.heap.size b4 (al.map .bool)

/-- some table has been given back -/
def GivesTab (e : Ending) (w' : World) : Prop := ∃ (st : Int) (b0 b1 b2 b3 b4 : Option Addr) (d0 d1 d2 d3 d4 n : Nat) (cls : List Int) (rs : List (Option Addr × Nat × List Int)) (ms cn al : List Bool),
  e = .returned (.agg #[.int .i64 st, .slice b0 256 d0, .slice b1 n d1, .slice b2 n d2, .slice b3 n d3, .slice b4 n d4]) ∧ IsTab w' st b0 b1 b2 b3 b4 n cls rs ms cn al

theorem rows_snoc {rs : List (Option Addr × Nat × List Int)} {n : Nat} {la : Option Addr} {lc : Nat} {l : List Int} (h : ∀ r ∈ rs, r.2.2.length = 5 ∧ ∀ x ∈ r.2.2, 0 ≤ x ∧ x < (n : Int)) (h5 : l.length = 5) (hb : ∀ x ∈ l, 0 ≤ x ∧ x < (n : Int)) :
    ∀ (a : Option Addr) (k : Nat) (b : List Int), (a, k, b) ∈ rs ++ [(la, lc, l)] → b.length = 5 ∧ ∀ x ∈ b, 0 ≤ x ∧ x < (n : Int) := by
  intro a k b hm
  rcases List.mem_append.1 hm with hm | hm
  · exact h _ hm
  · simp at hm
    obtain ⟨rfl, rfl, rfl⟩ := hm
    exact ⟨h5, hb⟩

theorem getD_mem {α : Type} {l : List α} {i : Nat} {d : α} (h : i < l.length) : l.getD i d ∈ l := by
  rw [List.getD_eq_getElem?_getD, List.getElem?_eq_getElem h]
  exact List.getElem_mem h
theorem rows_range {rs : List (Option Addr × Nat × List Int)} {n : Nat} (h : rs.length = n) :
    (rs.map fun r => Value.slice r.1 5 r.2.1) = (List.range n).map fun i => .slice (rs.getD i (none, 0, [])).1 5 (rs.getD i (none, 0, [])).2.1 := by
  subst h
  apply List.ext_getElem
  · simp
  · intro i h1 h2
    simp at h1
    simp [List.getD_eq_getElem?_getD, List.getElem?_eq_getElem h1]

theorem own_mono {w : World} {B B' : Nat} {e : TypeId} {size n : Nat} {v : Value} {xs : List Value} (h : w.ownsRow B e size v n xs) (hB : B' ≤ B) : w.ownsRow B' e size v n xs := by
  refine ⟨h.1, ?_⟩
  rcases h.2 with h | ⟨g, cap, cur, rfl, hg, rest⟩
  · exact .inl h
  · exact .inr ⟨g, cap, cur, rfl, by omega, rest⟩

set_option maxRecDepth 20000 in
set_option maxHeartbeats 6400000 in
theorem auto_any (st : Int) (a0 a1 a2 a3 a4 : Option Addr) (n3 n4 c0 c1 c2 c3 c4 : Nat) (cl : List Int) (mt : List Bool) (rws : List (Option Addr × Nat × List Int)) (w : World)
    (hn0 : cl.length ≤ 65536) (hr : rws.length ≤ 65536) (hn2 : mt.length ≤ 2147483647)
    (h0 : Sl w w.heap.size a0 (cl.map (.int .i64))) (h1 : Sl w w.heap.size a1 (rws.map rowv)) (hx : ∀ r ∈ rws, r.2.2.length ≤ 2147483647 ∧ Sl w w.heap.size r.1 (r.2.2.map (.int .i64)))
    (h2 : Sl w w.heap.size a2 (mt.map .bool)) :
    Calls Try.prog 16 #[.agg #[.int .i64 st, .slice a0 cl.length c0, .slice a1 rws.length c1, .slice a2 mt.length c2, .slice a3 n3 c3, .slice a4 n4 c4], .int .i64 300] w fun e w' => GivesTab e w' ∧ Below w.heap.size w w' := by
  obtain ⟨i0, hi, hz0, hz1, hz2⟩ := info_parts infoBD
  obtain ⟨j0, ji, jz0, jz1, jz2⟩ := info_parts infoID
  obtain ⟨k0, ki, kz0, kz1, kz2⟩ := info_parts infoS
  obtain ⟨m, hm⟩ : ∃ m : Nat, (if (300 : Int) < (rws.length : Int) then (300 : Int) else (rws.length : Int)) = (m : Int) := ⟨if 300 < rws.length then 300 else rws.length, by split <;> split <;> omega⟩
  obtain ⟨n, hn, hn1, hn3⟩ : ∃ n : Nat, (if (m : Int) > 1 then (m : Int) else 1) = (n : Int) ∧ 1 ≤ n ∧ n ≤ 300 := ⟨if m > 1 then m else 1, by split <;> split <;> omega, by split <;> omega, by have : m ≤ 300 := by { split at hm <;> omega }; split <;> omega⟩
  have H0 := Lib.hid h0
  have H1 := Lib.hid h1
  have HX := Lib.hid hx
  have H2 := Lib.hid h2
  have HT := Lib.hid (fun W => at_any st n W hn1 hn3)
  have HN := Lib.hid (fun x W => at_any x n W hn1 hn3)
  have H5 := Lib.hid (fun x W => at_still x 5 W (by omega) (by omega))
  clear h0 h1 hx h2
  generalize hcl : cl.length = n0 at *
  generalize hmt : mt.length = n2 at *
  generalize hrw : rws.length = n1 at *
  have HMN : Builtin.min_ #[3, 3] 3 #[.int .i64 (n1 : Int), .int .i64 300] = pure (.int .i64 (m : Int)) := by rw [← hm]; rfl
  have HMX : Builtin.max_ #[3, 3] 3 #[.int .i64 1, .int .i64 (m : Int)] = pure (.int .i64 (n : Int)) := by rw [← hn]; rfl
  clear hm hn
  go_enter Try.func16, Try.ntmps16
  go_wp2_with (go_at_call 24; refine (HT.out _).mono ?_; rintro e w1 ⟨rfl, rfl⟩)
  go_loopw [7, 8] (fun k _ wr => ∃ (b : Nat) (b0 : Option Addr) (d0 : Nat) (cls : List Int), b ≤ 256 ∧ k = .int .i64 b ∧ cls.length = b ∧ (∀ x ∈ cls, 0 ≤ x ∧ x < (5 : Nat)) ∧
    Fr w wr [.int .i64 st, .slice a0 n0 c0, .slice a1 n1 c1, .slice a2 n2 c2, .slice a3 n3 c3, .slice a4 n4 c4] [.int .i64 (atF st n), .slice b0 b d0, .slice none 0 0, .slice none 0 0, .slice none 0 0, .slice none 0 0] ∧
    wr.ownsRow (w.heap.size + 1 + 1 + 1) 3 1 (.slice b0 b d0) b (cls.map (.int .i64))) (fun k _ _ => 256 - (intOf k).toNat)
  case atStart =>
    refine ⟨0, none, 0, [], by omega, rfl, rfl, by simp, ⟨((Blk.new w 41 [_, _, _, _, _, _]).alloc _).alloc _, (blk_new_at _ 41 [_, _, _, _, _, _] _ (by simp)).alloc _, blk_new_at _ 41 [_, _, _, _, _, _] _ (by simp), ?_⟩, ⟨by simp, .inl ⟨rfl, rfl⟩⟩⟩
    exact (((Below.refl _ _).alloc (Nat.le_refl _) _).alloc (by simp) _).alloc (by simp <;> omega) _
  case round =>
    obtain ⟨b, b0, d0, cls, hb, rfl, hcl', hcb, hF, own⟩ := hrel
    have r1 : wr.cell? ⟨w.heap.size, 1, none⟩ = some (.slice a0 n0 c0) := hF.r.cell 1
    have g1 : wr.cell? ⟨w.heap.size + 1 + 1, 1, none⟩ = some (.slice b0 b d0) := hF.a.cell 1
    have g1a : ∀ o, (wr.alloc o).cell? ⟨w.heap.size + 1 + 1, 1, none⟩ = some (.slice b0 b d0) := fun o => (hF.a.alloc o).cell 1
    have g1b : ∀ n o, ((wr.drewN n).alloc o).cell? ⟨w.heap.size + 1 + 1, 1, none⟩ = some (.slice b0 b d0) := fun n o => ((hF.a.drewN n).alloc o).cell 1
    by_cases hlt : b < 256
    · have HF := Lib.hid hF
      have OWN := Lib.hid own
      have CB := Lib.hid hcb
      clear hF own hcb
      rcases Nat.eq_zero_or_pos n0 with h00 | h00
      · subst h00
        go_wp2_with fail
        go_region_law (first
          | (refine step_append1 _ _ rfl (.tmp 43) (.tmp 46) 37 rfl (w.heap.size + 1 + 1 + 1) 3 j0 _ 1 8 Try.underlying37 ji jz0 jz1 jz2 rfl (by omega) rfl (.slice b0 b d0) b _ rfl (own_below OWN.out (Below.refl _ _).drew) wr.heap.size rfl rfl (by simp [Value.oneCell']) (by unfold maxLen; omega) (by omega) HF.out.size ?_
             intro g0 d0' w1 ho hg hat
             have HF1 := Lib.hid ((HF.out.below (Below.refl _ _).drew).grown hg (own_block_ge OWN.out))
             have k1 : w1.cell? ⟨w.heap.size + 1 + 1, 1, none⟩ = some (.slice b0 b d0) := HF1.out.a.cell 1
             have f1 : w1.frozen? ⟨w.heap.size + 1 + 1, 1, none⟩ = false := HF1.out.a.frozen 1)
          | (go_simp; go_at_call 24; refine (H5.out _ _).mono ?_; rintro e w1 ⟨rfl, rfl⟩))
        all_goals go_wp2_with fail
        all_goals exact ⟨⟨b + 1, some ⟨g0, 0, none⟩, d0', cls ++ [atF b 5], by omega, by go_num, by simp [hcl'], snoc_bd CB.out (atF_bd b 5 (by omega)), HF1.out.set_ 1 _, by simpa using ownsRow_setCell_below (a := ⟨w.heap.size + 1 + 1, 1, none⟩) ho (by simp) (.slice (some ⟨g0, 0, none⟩) (b + 1) d0')⟩, by
          change 256 - ((b : Int) + 1).toNat < 256 - (b : Int).toNat
          omega⟩
      · have hr : b % n0 < n0 := Nat.mod_lt _ h00
        have hdiv : ((n0 : Int) == 0) = false := by rw [beq_eq_false_iff_ne]; omega
        have htm : (b : Int).tmod (n0 : Int) = ((b % n0 : Nat) : Int) := by rw [Int.tmod_eq_emod_of_nonneg (by omega)]; omega
        obtain ⟨ad0, had, hx⟩ := (H0.out.below HF.out.b).ints (b % n0) (by omega)
        subst had
        generalize cl.getD (b % n0) 0 = y at *
        generalize b % n0 = r at *
        go_wp2_with fail
        go_quiet (fail)
        go_wp2_with fail
        go_region_law (first
          | (refine step_append1 _ _ rfl (.tmp 43) (.tmp 46) 37 rfl (w.heap.size + 1 + 1 + 1) 3 j0 _ 1 8 Try.underlying37 ji jz0 jz1 jz2 rfl (by omega) rfl (.slice b0 b d0) b _ rfl (own_below OWN.out (below_drewN (Below.refl _ _) _)) wr.heap.size rfl rfl (by simp [Value.oneCell']) (by unfold maxLen; omega) (by omega) HF.out.size ?_
             intro g0 d0' w1 ho hg hat
             have HF1 := Lib.hid ((HF.out.below (below_drewN (Below.refl _ _) _)).grown hg (own_block_ge OWN.out))
             have k1 : w1.cell? ⟨w.heap.size + 1 + 1, 1, none⟩ = some (.slice b0 b d0) := HF1.out.a.cell 1
             have f1 : w1.frozen? ⟨w.heap.size + 1 + 1, 1, none⟩ = false := HF1.out.a.frozen 1)
          | (go_simp; go_at_call 24; refine (H5.out _ _).mono ?_; rintro e w1 ⟨rfl, rfl⟩))
        all_goals go_wp2_with fail
        all_goals exact ⟨⟨b + 1, some ⟨g0, 0, none⟩, d0', cls ++ [atF y 5], by omega, by go_num, by simp [hcl'], snoc_bd CB.out (atF_bd y 5 (by omega)), HF1.out.set_ 1 _, by simpa using ownsRow_setCell_below (a := ⟨w.heap.size + 1 + 1, 1, none⟩) ho (by simp) (.slice (some ⟨g0, 0, none⟩) (b + 1) d0')⟩, by
          change 256 - ((b : Int) + 1).toNat < 256 - (b : Int).toNat
          omega⟩
    · obtain rfl : b = 256 := by omega
      obtain ⟨wa, hwa⟩ : ∃ wa : World, wa = wr := ⟨_, rfl⟩
      subst hwa
      have HA0 : Hid (AM wa (w.heap.size + 1 + 1 + 1) (.slice b0 256 d0) (.slice none 0 0) (.slice none 0 0) 0 0 cls [] []) := Lib.hid ⟨own, ⟨by simp, .inl ⟨rfl, rfl⟩⟩, ⟨by simp, .inl ⟨rfl, rfl⟩⟩, by simp⟩
      have HF0 := Lib.hid hF
      have CB := Lib.hid hcb
      clear hF own hcb r1 g1 g1a g1b
      go_wp2_with fail
      go_loopw [9, 10, 11, 12] (fun k _ _ _ wr => ∃ (s : Nat) (b1 b2 : Option Addr) (d1 d2 : Nat) (rs : List (Option Addr × Nat × List Int)) (ms : List Bool), s ≤ n ∧ k = .int .i64 s ∧ rs.length = s ∧ ms.length = s ∧
        Hid (∀ r ∈ rs, r.2.2.length = 5 ∧ ∀ x ∈ r.2.2, 0 ≤ x ∧ x < n) ∧
        Hid (Fr w wr [.int .i64 st, .slice a0 n0 c0, .slice a1 n1 c1, .slice a2 n2 c2, .slice a3 n3 c3, .slice a4 n4 c4] [.int .i64 (atF st n), .slice b0 256 d0, .slice b1 s d1, .slice b2 s d2, .slice none 0 0, .slice none 0 0]) ∧
        Hid (AM wr (w.heap.size + 1 + 1 + 1) (.slice b0 256 d0) (.slice b1 s d1) (.slice b2 s d2) s s cls rs ms)) (fun k _ _ _ _ => n - (intOf k).toNat)
      case atStart => exact ⟨0, none, none, 0, 0, [], [], by omega, rfl, rfl, rfl, Lib.hid (by simp), HF0, HA0⟩
      case round =>
        obtain ⟨s, b1, b2, d1, d2, rs, ms, hs, rfl, hrl, hml, RB, HF, HA⟩ := hrel
        obtain ⟨wo, hwo⟩ : ∃ wo : World, wo = wr := ⟨_, rfl⟩
        subst hwo
        clear HF0 HA0
        by_cases hlt : s < n
        · go_wp2_with fail
          go_loopw [10, 11, 12] (fun rv k _ wr => ∃ (c : Nat) (la : Option Addr) (lc : Nat) (l : List Int), c ≤ 5 ∧ k = .int .i64 c ∧ rv = .slice la c lc ∧ l.length = c ∧ Hid (wr.ownsRow wo.heap.size 3 1 (.slice la c lc) c (l.map (.int .i64))) ∧
            Hid (∀ x ∈ l, 0 ≤ x ∧ x < n) ∧ Hid (Below wo.heap.size wo wr)) (fun _ k _ _ => 5 - (intOf k).toNat)
          case atStart => exact ⟨0, none, 0, [], by omega, rfl, rfl, rfl, Lib.hid ⟨by simp, .inl ⟨rfl, rfl⟩⟩, Lib.hid (by simp), Lib.hid (Below.refl _ _)⟩
          case round =>
            obtain ⟨c, la, lc, l, hc, rfl, rfl, hll, OWN, LB, BL⟩ := hrel
            have r2 : wr.cell? ⟨w.heap.size, 2, none⟩ = some (.slice a1 n1 c1) := (HF.out.below BL.out).r.cell 2
            have hsz : w.heap.size + 1 + 1 + 1 ≤ wr.heap.size := (HF.out.below BL.out).size
            by_cases hlc : c < 5
            · rcases Nat.lt_or_ge s n1 with h11 | h11
              · obtain ⟨ad1, hd1, -, hrow⟩ := H1.out.below (HF.out.below BL.out).b s (rowv (rws[s]'(by rw [hrw]; exact h11))) (by rw [List.getElem?_map, List.getElem?_eq_getElem (by rw [hrw]; exact h11)]; rfl)
                obtain ⟨hq1, hq2⟩ := HX.out (rws[s]'(by rw [hrw]; exact h11)) (List.getElem_mem _)
                have hq3 := hq2.below (HF.out.below BL.out).b
                clear hq2
                generalize (rws[s]'(by rw [hrw]; exact h11)) = r at *
                obtain ⟨ra, rk, rl⟩ := r
                subst hd1
                simp only [rowv] at hrow
                dsimp only at hq1 hq3
                generalize hlr : rl.length = lr at *
                rcases Nat.eq_zero_or_pos lr with h00 | h00
                · subst h00
                  clear hq3
                  go_wp2_with (first
                    | (go_at_call 24; refine (HN.out _ _).mono ?_; rintro e w1 ⟨rfl, rfl⟩)
                    | (at_builtin; refine append1_at _ _ rfl (.tmp 87) (.tmp 91) 37 rfl wo.heap.size 3 j0 _ 1 8 Try.underlying37 ji jz0 jz1 jz2 rfl (by omega) rfl (.slice la c lc) c _ rfl OWN.out wr.heap.size rfl rfl (by simp [Value.oneCell']) (by unfold maxLen; omega) (by omega) BL.out.size ?_
                       intro u1 w1 ho hg hne hat
                       obtain ⟨la', lc', rfl⟩ := own_value ho))
                  exact ⟨⟨c + 1, by omega, by omega, la', lc', ⟨rfl, rfl, rfl⟩, l ++ [atF 0 n], by simp [hll], Lib.hid (by simpa using ho), Lib.hid (snoc_bd LB.out (atF_bd 0 n hn1)), Lib.hid (BL.out.grown hg BL.out.size (own_block_ge OWN.out))⟩, by
                    change 5 - ((c : Int) + 1).toNat < 5 - (c : Int).toNat
                    omega⟩
                · have hr : c % lr < lr := Nat.mod_lt _ h00
                  have hdiv : ((lr : Int) == 0) = false := by rw [beq_eq_false_iff_ne]; omega
                  have htm : (c : Int).tmod (lr : Int) = ((c % lr : Nat) : Int) := by rw [Int.tmod_eq_emod_of_nonneg (by omega)]; omega
                  obtain ⟨ad0, had, hx⟩ := hq3.ints (c % lr) (by omega)
                  subst had
                  generalize rl.getD (c % lr) 0 = y at *
                  generalize c % lr = r at *
                  clear hq3
                  go_wp2_with fail
                  go_quiet (fail)
                  go_wp2_with (first
                    | (go_at_call 24; refine (HN.out _ _).mono ?_; rintro e w1 ⟨rfl, rfl⟩)
                    | (at_builtin; refine append1_at _ _ rfl (.tmp 87) (.tmp 91) 37 rfl wo.heap.size 3 j0 _ 1 8 Try.underlying37 ji jz0 jz1 jz2 rfl (by omega) rfl (.slice la c lc) c _ rfl (own_below OWN.out (below_drewN (Below.refl _ _) _)) wr.heap.size rfl rfl (by simp [Value.oneCell']) (by unfold maxLen; omega) (by omega) BL.out.size ?_
                       intro u1 w1 ho hg hne hat
                       obtain ⟨la', lc', rfl⟩ := own_value ho))
                  exact ⟨⟨c + 1, by omega, by omega, la', lc', ⟨rfl, rfl, rfl⟩, l ++ [atF y n], by simp [hll], Lib.hid (by simpa using ho), Lib.hid (snoc_bd LB.out (atF_bd y n hn1)), Lib.hid ((below_drewN BL.out _).grown hg BL.out.size (own_block_ge OWN.out))⟩, by
                    change 5 - ((c : Int) + 1).toNat < 5 - (c : Int).toNat
                    omega⟩
              · go_wp2_with (first
                  | (go_at_call 24; refine (HN.out _ _).mono ?_; rintro e w1 ⟨rfl, rfl⟩)
                  | (at_builtin; refine append1_at _ _ rfl (.tmp 87) (.tmp 91) 37 rfl wo.heap.size 3 j0 _ 1 8 Try.underlying37 ji jz0 jz1 jz2 rfl (by omega) rfl (.slice la c lc) c _ rfl OWN.out wr.heap.size rfl rfl (by simp [Value.oneCell']) (by unfold maxLen; omega) (by omega) BL.out.size ?_
                     intro u1 w1 ho hg hne hat
                     obtain ⟨la', lc', rfl⟩ := own_value ho))
                exact ⟨⟨c + 1, by omega, by omega, la', lc', ⟨rfl, rfl, rfl⟩, l ++ [atF 0 n], by simp [hll], Lib.hid (by simpa using ho), Lib.hid (snoc_bd LB.out (atF_bd 0 n hn1)), Lib.hid (BL.out.grown hg BL.out.size (own_block_ge OWN.out))⟩, by
                  change 5 - ((c : Int) + 1).toNat < 5 - (c : Int).toNat
                  omega⟩
            · obtain rfl : c = 5 := by omega
              have OWR : Hid (wr.ownsRow (w.heap.size + 1 + 1 + 1) 3 1 (.slice la 5 lc) 5 (l.map (.int .i64))) := Lib.hid (own_mono OWN.out HF.out.size)
              have HF' := Lib.hid (HF.out.below BL.out)
              have HA' := Lib.hid (HA.out.below BL.out)
              clear HF HA BL OWN r2 hsz
              obtain ⟨HF, HA⟩ := And.intro HF' HA'
              clear HF' HA'
              have g2 : wr.cell? ⟨w.heap.size + 1 + 1, 2, none⟩ = some (.slice b1 s d1) := HF.out.a.cell 2
              rcases Nat.lt_or_ge s n2 with h22 | h22
              · obtain ⟨ad2, had2, -, -⟩ := Sl.bool H2.out s (by rw [hmt]; exact h22)
                subst had2
                have HBV : Hid (∀ W, Below w.heap.size w W → W.cell? (ad2.add s) = some (.bool (mt[s]'(by rw [hmt]; exact h22)))) := Lib.hid fun W hW => by
                  obtain ⟨ad, e, -, h⟩ := Sl.bool (H2.out.below hW) s (by rw [hmt]; exact h22)
                  injection e with e
                  subst e
                  exact h
                have h24 : decide ((s : Int) < (n2 : Int)) = true := decide_eq_true (by omega)
                generalize (mt[s]'(by rw [hmt]; exact h22)) = bv at *
                go_wp2_with (at_builtin; refine append1_at _ _ rfl (.tmp 94) (.tmp 96) 38 rfl (w.heap.size + 1 + 1 + 1) 37 k0 _ 1 24 Try.underlying38 ki kz0 kz1 kz2 rfl (by omega) rfl (.slice b1 s d1) s _ rfl HA.out.o1 wr.heap.size rfl rfl (by simp [Value.oneCell']) (by unfold maxLen; omega) (by omega) HF.out.size ?_
                             intro u1 w1 ho1 hg1 hne1 hat1
                             obtain ⟨b1', d1', rfl⟩ := own_value ho1
                             have HF1 := Lib.hid (HF.out.grown hg1 (own_block_ge HA.out.o1))
                             have k1 : w1.cell? ⟨w.heap.size + 1 + 1, 2, none⟩ = some (.slice b1 s d1) := HF1.out.a.cell 2
                             have f1 : w1.frozen? ⟨w.heap.size + 1 + 1, 2, none⟩ = false := HF1.out.a.frozen 2
                             have HF2 := Lib.hid (HF1.out.set_ 2 (.slice b1' (s + 1) d1'))
                             have HA2 := Lib.hid ((HA.out.app1 OWR.out ho1 hg1).set_below (p := ⟨w.heap.size + 1 + 1, 2, none⟩) (by simp) (.slice b1' (s + 1) d1'))
                             have q1 : (w1.setCell ⟨w.heap.size + 1 + 1, 2, none⟩ (.slice b1' (s + 1) d1')).cell? ⟨w.heap.size, 3, none⟩ = some (.slice (some ad2) n2 c2) := HF2.out.r.cell 3
                             have q2 : (w1.setCell ⟨w.heap.size + 1 + 1, 2, none⟩ (.slice b1' (s + 1) d1')).cell? ⟨w.heap.size + 1 + 1, 3, none⟩ = some (.slice b2 s d2) := HF2.out.a.cell 3
                             have q3 : ∀ o, ((w1.setCell ⟨w.heap.size + 1 + 1, 2, none⟩ (.slice b1' (s + 1) d1')).alloc o).cell? ⟨w.heap.size + 1 + 1, 3, none⟩ = some (.slice b2 s d2) := fun o => (HF2.out.a.alloc o).cell 3
                             have q5 : ∀ o, ((w1.setCell ⟨w.heap.size + 1 + 1, 2, none⟩ (.slice b1' (s + 1) d1')).alloc o).cell? ⟨w.heap.size, 3, none⟩ = some (.slice (some ad2) n2 c2) := fun o => (HF2.out.r.alloc o).cell 3
                             have q6 : ∀ o, ((w1.setCell ⟨w.heap.size + 1 + 1, 2, none⟩ (.slice b1' (s + 1) d1')).alloc o).cell? (ad2.add s) = some (.bool bv) := fun o => HBV.out _ (HF2.out.b.alloc HF2.out.b.size o)
                             have q4 : (w1.setCell ⟨w.heap.size + 1 + 1, 2, none⟩ (.slice b1' (s + 1) d1')).cell? (ad2.add s) = some (.bool bv) := HBV.out _ (HF2.out.b))
                refine wp_region_upto (fun W => W.cell? ⟨w.heap.size, 3, none⟩ = some (.slice (some ad2) n2 c2) ∧ W.cell? ⟨w.heap.size + 1 + 1, 3, none⟩ = some (.slice b2 s d2) ∧ W.cell? (ad2.add s) = some (.bool bv)) 17 (by kernel_rfl) ?_
                simp only [List.size_toArray, List.length_cons, List.length_nil, Nat.reduceAdd]
                refine upto_take (i := 0) (oi := ?oi0) (v := ?v0) ?hi0 (by kernel_rfl) (by kernel_rfl) (by kernel_rfl) (by kernel_rfl) ?hQ0 ?hS0 ?hy0 ?rest0
                case hi0 =>
                  simp only [List.getElem?_toArray, List.getElem?_cons_zero]
                  rfl
                case hQ0 => exact fun _ _ _ h => h
                case hS0 => exact ⟨q1, q2, q4⟩
                case hy0 =>
                  refine yields_if (by rfl) (fun W hW => ?_)
                  try dsimp only at hW
                  go_simp
                  first | done | with_reducible rfl
                simp only [Act.put, List.setIfInBounds_toArray, List.set_cons_zero, List.set_cons_succ]
                refine upto_take (i := 1) (oi := ?oi1) (v := ?v1) ?hi1 (by kernel_rfl) (by kernel_rfl) (by kernel_rfl) (by kernel_rfl) ?hQ1 ?hS1 ?hy1 ?rest1
                case hi1 =>
                  simp only [List.getElem?_toArray, List.getElem?_cons_succ, List.getElem?_cons_zero]
                  rfl
                case hQ1 => exact fun _ _ _ h => h
                case hS1 => exact ⟨q1, q2, q4⟩
                case hy1 =>
                  refine yields_if (by rfl) (fun W hW => ?_)
                  try dsimp only at hW
                  go_simp
                  first | done | with_reducible rfl
                simp only [Act.put, List.setIfInBounds_toArray, List.set_cons_zero, List.set_cons_succ]
                refine upto_take (i := 2) (oi := ?oi2) (v := ?v2) ?hi2 (by kernel_rfl) (by kernel_rfl) (by kernel_rfl) (by kernel_rfl) ?hQ2 ?hS2 ?hy2 ?rest2
                case hi2 =>
                  simp only [List.getElem?_toArray, List.getElem?_cons_succ, List.getElem?_cons_zero]
                  rfl
                case hQ2 => exact fun _ _ _ h => h
                case hS2 => exact ⟨q1, q2, q4⟩
                case hy2 =>
                  refine yields_if (by rfl) (fun W hW => ?_)
                  try dsimp only at hW
                  go_simp
                  first | done | with_reducible rfl
                simp only [Act.put, List.setIfInBounds_toArray, List.set_cons_zero, List.set_cons_succ]
                refine upto_take (i := 3) (oi := ?oi3) (v := ?v3) ?hi3 (by kernel_rfl) (by kernel_rfl) (by kernel_rfl) (by kernel_rfl) ?hQ3 ?hS3 ?hy3 ?rest3
                case hi3 =>
                  simp only [List.getElem?_toArray, List.getElem?_cons_succ, List.getElem?_cons_zero]
                  rfl
                case hQ3 => exact fun _ _ _ h => h
                case hS3 => exact ⟨q1, q2, q4⟩
                case hy3 =>
                  refine yields_if (by rfl) (fun W hW => ?_)
                  try dsimp only at hW
                  go_simp
                  first | done | with_reducible rfl
                simp only [Act.put, List.setIfInBounds_toArray, List.set_cons_zero, List.set_cons_succ]
                refine upto_take (i := 4) (oi := ?oi4) (v := ?v4) ?hi4 (by kernel_rfl) (by kernel_rfl) (by kernel_rfl) (by kernel_rfl) ?hQ4 ?hS4 ?hy4 ?rest4
                case hi4 =>
                  simp only [List.getElem?_toArray, List.getElem?_cons_succ, List.getElem?_cons_zero]
                  rfl
                case hQ4 => exact fun _ _ _ h => h
                case hS4 => exact ⟨q1, q2, q4⟩
                case hy4 =>
                  refine yields_if (by rfl) (fun W hW => ?_)
                  try dsimp only at hW
                  go_simp
                  first | done | with_reducible rfl
                simp only [Act.put, List.setIfInBounds_toArray, List.set_cons_zero, List.set_cons_succ]
                refine upto_take (i := 5) (oi := ?oi5) (v := ?v5) ?hi5 (by kernel_rfl) (by kernel_rfl) (by kernel_rfl) (by kernel_rfl) ?hQ5 ?hS5 ?hy5 ?rest5
                case hi5 =>
                  simp only [List.getElem?_toArray, List.getElem?_cons_succ, List.getElem?_cons_zero]
                  rfl
                case hQ5 => exact fun _ _ _ h => h
                case hS5 => exact ⟨q1, q2, q4⟩
                case hy5 =>
                  refine yields_if (by rfl) (fun W hW => ?_)
                  try dsimp only at hW
                  go_simp
                  first | done | with_reducible rfl
                simp only [Act.put, List.setIfInBounds_toArray, List.set_cons_zero, List.set_cons_succ]
                refine upto_take (i := 6) (oi := ?oi6) (v := ?v6) ?hi6 (by kernel_rfl) (by kernel_rfl) (by kernel_rfl) (by kernel_rfl) ?hQ6 ?hS6 ?hy6 ?rest6
                case hi6 =>
                  simp only [List.getElem?_toArray, List.getElem?_cons_succ, List.getElem?_cons_zero]
                  rfl
                case hQ6 => exact fun _ _ _ h => h
                case hS6 => exact ⟨q1, q2, q4⟩
                case hy6 =>
                  refine yields_if (by rfl) (fun W hW => ?_)
                  try dsimp only at hW
                  go_simp
                  first | done | with_reducible rfl
                simp only [Act.put, List.setIfInBounds_toArray, List.set_cons_zero, List.set_cons_succ]
                refine upto_take (i := 7) (oi := ?oi7) (v := ?v7) ?hi7 (by kernel_rfl) (by kernel_rfl) (by kernel_rfl) (by kernel_rfl) ?hQ7 ?hS7 ?hy7 ?rest7
                case hi7 =>
                  simp only [List.getElem?_toArray, List.getElem?_cons_succ, List.getElem?_cons_zero]
                  rfl
                case hQ7 => exact fun _ _ _ h => h
                case hS7 => exact ⟨q1, q2, q4⟩
                case hy7 =>
                  refine yields_if (by rfl) (fun W hW => ?_)
                  try dsimp only at hW
                  go_simp
                  first | done | with_reducible rfl
                simp only [Act.put, List.setIfInBounds_toArray, List.set_cons_zero, List.set_cons_succ]
                refine upto_take (i := 8) (oi := ?oi8) (v := ?v8) ?hi8 (by kernel_rfl) (by kernel_rfl) (by kernel_rfl) (by kernel_rfl) ?hQ8 ?hS8 ?hy8 ?rest8
                case hi8 =>
                  simp only [List.getElem?_toArray, List.getElem?_cons_succ, List.getElem?_cons_zero]
                  rfl
                case hQ8 => exact fun _ _ _ h => h
                case hS8 => exact ⟨q1, q2, q4⟩
                case hy8 =>
                  refine yields_if (by rfl) (fun W hW => ?_)
                  try dsimp only at hW
                  go_simp
                  first | done | with_reducible rfl
                simp only [Act.put, List.setIfInBounds_toArray, List.set_cons_zero, List.set_cons_succ]
                refine upto_take (i := 9) (oi := ?oi9) (v := ?v9) ?hi9 (by kernel_rfl) (by kernel_rfl) (by kernel_rfl) (by kernel_rfl) ?hQ9 ?hS9 ?hy9 ?rest9
                case hi9 =>
                  simp only [List.getElem?_toArray, List.getElem?_cons_succ, List.getElem?_cons_zero]
                  rfl
                case hQ9 => exact fun _ _ _ h => h
                case hS9 => exact ⟨q1, q2, q4⟩
                case hy9 =>
                  refine yields_if (by rfl) (fun W hW => ?_)
                  try dsimp only at hW
                  go_simp
                  first | done | with_reducible rfl
                simp only [Act.put, List.setIfInBounds_toArray, List.set_cons_zero, List.set_cons_succ]
                refine upto_take (i := 10) (oi := ?oi10) (v := ?v10) ?hi10 (by kernel_rfl) (by kernel_rfl) (by kernel_rfl) (by kernel_rfl) ?hQ10 ?hS10 ?hy10 ?rest10
                case hi10 =>
                  simp only [List.getElem?_toArray, List.getElem?_cons_succ, List.getElem?_cons_zero]
                  rfl
                case hQ10 => exact fun _ _ _ h => h
                case hS10 => exact ⟨q1, q2, q4⟩
                case hy10 =>
                  refine yields_if (by rfl) (fun W hW => ?_)
                  try dsimp only at hW
                  go_simp
                  first | done | with_reducible rfl
                simp only [Act.put, List.setIfInBounds_toArray, List.set_cons_zero, List.set_cons_succ]
                refine upto_take (i := 11) (oi := ?oi11) (v := ?v11) ?hi11 (by kernel_rfl) (by kernel_rfl) (by kernel_rfl) (by kernel_rfl) ?hQ11 ?hS11 ?hy11 ?rest11
                case hi11 =>
                  simp only [List.getElem?_toArray, List.getElem?_cons_succ, List.getElem?_cons_zero]
                  rfl
                case hQ11 => exact fun _ _ _ h => h
                case hS11 => exact ⟨q1, q2, q4⟩
                case hy11 =>
                  refine yields_if (by rfl) (fun W hW => ?_)
                  try dsimp only at hW
                  go_simp
                  first | done | with_reducible rfl
                simp only [Act.put, List.setIfInBounds_toArray, List.set_cons_zero, List.set_cons_succ]
                refine upto_take (i := 12) (oi := ?oi12) (v := ?v12) ?hi12 (by kernel_rfl) (by kernel_rfl) (by kernel_rfl) (by kernel_rfl) ?hQ12 ?hS12 ?hy12 ?rest12
                case hi12 =>
                  simp only [List.getElem?_toArray, List.getElem?_cons_succ, List.getElem?_cons_zero]
                  rfl
                case hQ12 => exact fun _ _ _ h => h
                case hS12 => exact ⟨q1, q2, q4⟩
                case hy12 =>
                  refine yields_if (by rfl) (fun W hW => ?_)
                  try dsimp only at hW
                  go_simp
                  first | done | with_reducible rfl
                simp only [Act.put, List.setIfInBounds_toArray, List.set_cons_zero, List.set_cons_succ]
                refine upto_take (i := 13) (oi := ?oi13) (v := ?v13) ?hi13 (by kernel_rfl) (by kernel_rfl) (by kernel_rfl) (by kernel_rfl) ?hQ13 ?hS13 ?hy13 ?rest13
                case hi13 =>
                  simp only [List.getElem?_toArray, List.getElem?_cons_succ, List.getElem?_cons_zero]
                  rfl
                case hQ13 => exact fun _ _ _ h => h
                case hS13 => exact ⟨q1, q2, q4⟩
                case hy13 =>
                  refine yields_if (by rfl) (fun W hW => ?_)
                  try dsimp only at hW
                  go_simp
                  first | done | with_reducible rfl
                simp only [Act.put, List.setIfInBounds_toArray, List.set_cons_zero, List.set_cons_succ]
                refine upto_one (i := 14) (o := ?o14) ?ho14 (by kernel_rfl) (fun K hK => ?_)
                case ho14 =>
                  simp only [List.getElem?_toArray, List.getElem?_cons_succ, List.getElem?_cons_zero]
                  rfl
                go_simp
                refine hK _ _ (.inr ⟨q5 _, q3 _, q6 _⟩) ?_
                clear hK K
                try simp only [Act.put, List.setIfInBounds_toArray, List.set_cons_zero, List.set_cons_succ]
                refine upto_one (i := 15) (o := ?o15) ?ho15 (by kernel_rfl) (fun K hK => ?_)
                case ho15 =>
                  simp only [List.getElem?_toArray, List.getElem?_cons_succ, List.getElem?_cons_zero]
                  rfl
                refine step_append1 _ _ rfl (.tmp 100) (.tmp 113) 39 rfl (w.heap.size + 1 + 1 + 1) 4 i0 _ 1 1 Try.underlying39 hi hz0 hz1 hz2 rfl (by omega) rfl (.slice b2 s d2) s _ rfl (own_below HA2.out.o2 (Below.refl _ _).drew) w1.heap.size (by simp [World.setCell, World.drew]) rfl (by simp [Value.oneCell']) (by unfold maxLen; omega) (by omega) HF2.out.size ?_
                intro g0 d2' w3 ho3 hg3 hat3
                have HF3 := Lib.hid ((HF2.out.below (Below.refl _ _).drew).grown hg3 (own_block_ge HA2.out.o2))
                have HA3 := Lib.hid ((HA2.out.below (Below.refl _ _).drew).app2 ho3 hg3)
                have k3 : w3.cell? ⟨w.heap.size + 1 + 1, 3, none⟩ = some (.slice b2 s d2) := HF3.out.a.cell 3
                have f3 : w3.frozen? ⟨w.heap.size + 1 + 1, 3, none⟩ = false := HF3.out.a.frozen 3
                have p1 : w3.cell? ⟨w.heap.size, 3, none⟩ = some (.slice (some ad2) n2 c2) := HF3.out.r.cell 3
                have p3 : w3.cell? (ad2.add s) = some (.bool bv) := HBV.out _ HF3.out.b
                refine hK _ _ (.inr ⟨p1, k3, p3⟩) ?_
                clear hK K
                try simp only [Act.put, List.setIfInBounds_toArray, List.set_cons_zero, List.set_cons_succ]
                refine upto_take (i := 16) (oi := ?oi16) (v := ?v16) ?hi16 (by kernel_rfl) (by kernel_rfl) (by kernel_rfl) (by kernel_rfl) ?hQ16 ?hS16 ?hy16 ?rest16
                case hi16 =>
                  simp only [List.getElem?_toArray, List.getElem?_cons_succ, List.getElem?_cons_zero]
                  rfl
                case hQ16 => exact fun _ _ _ h => h
                case hS16 => exact ⟨p1, k3, p3⟩
                case hy16 =>
                  refine yields_if (by rfl) (fun W hW => ?_)
                  try dsimp only at hW
                  go_simp
                  first | done | with_reducible rfl
                simp only [Act.put, List.setIfInBounds_toArray, List.set_cons_zero, List.set_cons_succ]
                refine upto_one (i := 17) (o := ?o17) ?ho17 (by kernel_rfl) (fun K hK => ?_)
                case ho17 =>
                  simp only [List.getElem?_toArray, List.getElem?_cons_succ, List.getElem?_cons_zero]
                  rfl
                go_simp
                refine hK _ _ (.inl rfl) ?_
                clear hK K
                try simp only [Act.put, List.setIfInBounds_toArray, List.set_cons_zero, List.set_cons_succ]
                refine upto_done (by kernel_rfl) ?_ _
                go_wp2_with fail
                exact ⟨⟨s + 1, by omega, by omega, b1', some ⟨g0, 0, none⟩, d1', d2', rs ++ [(la, lc, l)], by simp [hrl], ms ++ [bv], by simp [hml], Lib.hid (rows_snoc RB.out hll LB.out), Lib.hid (HF3.out.set_ 3 _), Lib.hid (HA3.out.set_below (p := ⟨w.heap.size + 1 + 1, 3, none⟩) (by simp) _)⟩, by
                  change n - ((s : Int) + 1).toNat < n - (s : Int).toNat
                  omega⟩
              · have h23 : ¬ s < n2 := by omega
                have h24 : decide ((s : Int) < (n2 : Int)) = false := decide_eq_false (by omega)
                go_wp2_with (at_builtin; refine append1_at _ _ rfl (.tmp 94) (.tmp 96) 38 rfl (w.heap.size + 1 + 1 + 1) 37 k0 _ 1 24 Try.underlying38 ki kz0 kz1 kz2 rfl (by omega) rfl (.slice b1 s d1) s _ rfl HA.out.o1 wr.heap.size rfl rfl (by simp [Value.oneCell']) (by unfold maxLen; omega) (by omega) HF.out.size ?_
                             intro u1 w1 ho1 hg1 hne1 hat1
                             obtain ⟨b1', d1', rfl⟩ := own_value ho1
                             have HF1 := Lib.hid (HF.out.grown hg1 (own_block_ge HA.out.o1))
                             have k1 : w1.cell? ⟨w.heap.size + 1 + 1, 2, none⟩ = some (.slice b1 s d1) := HF1.out.a.cell 2
                             have f1 : w1.frozen? ⟨w.heap.size + 1 + 1, 2, none⟩ = false := HF1.out.a.frozen 2
                             have HF2 := Lib.hid (HF1.out.set_ 2 (.slice b1' (s + 1) d1'))
                             have HA2 := Lib.hid ((HA.out.app1 OWR.out ho1 hg1).set_below (p := ⟨w.heap.size + 1 + 1, 2, none⟩) (by simp) (.slice b1' (s + 1) d1'))
                             have q1 : (w1.setCell ⟨w.heap.size + 1 + 1, 2, none⟩ (.slice b1' (s + 1) d1')).cell? ⟨w.heap.size, 3, none⟩ = some (.slice a2 n2 c2) := HF2.out.r.cell 3
                             have q2 : (w1.setCell ⟨w.heap.size + 1 + 1, 2, none⟩ (.slice b1' (s + 1) d1')).cell? ⟨w.heap.size + 1 + 1, 3, none⟩ = some (.slice b2 s d2) := HF2.out.a.cell 3
                             have q3 : ∀ o, ((w1.setCell ⟨w.heap.size + 1 + 1, 2, none⟩ (.slice b1' (s + 1) d1')).alloc o).cell? ⟨w.heap.size + 1 + 1, 3, none⟩ = some (.slice b2 s d2) := fun o => (HF2.out.a.alloc o).cell 3
                             have q5 : ∀ o, ((w1.setCell ⟨w.heap.size + 1 + 1, 2, none⟩ (.slice b1' (s + 1) d1')).alloc o).cell? ⟨w.heap.size, 3, none⟩ = some (.slice a2 n2 c2) := fun o => (HF2.out.r.alloc o).cell 3)
                refine wp_region_upto (fun W => W.cell? ⟨w.heap.size, 3, none⟩ = some (.slice (a2) n2 c2) ∧ W.cell? ⟨w.heap.size + 1 + 1, 3, none⟩ = some (.slice b2 s d2)) 17 (by kernel_rfl) ?_
                simp only [List.size_toArray, List.length_cons, List.length_nil, Nat.reduceAdd]
                refine upto_take (i := 0) (oi := ?oi0b) (v := ?v0b) ?hi0b (by kernel_rfl) (by kernel_rfl) (by kernel_rfl) (by kernel_rfl) ?hQ0b ?hS0b ?hy0b ?rest0b
                case hi0b =>
                  simp only [List.getElem?_toArray, List.getElem?_cons_zero]
                  rfl
                case hQ0b => exact fun _ _ _ h => h
                case hS0b => exact ⟨q1, q2⟩
                case hy0b =>
                  refine yields_if (by rfl) (fun W hW => ?_)
                  try dsimp only at hW
                  go_simp
                  first | done | with_reducible rfl
                simp only [Act.put, List.setIfInBounds_toArray, List.set_cons_zero, List.set_cons_succ]
                refine upto_take (i := 1) (oi := ?oi1b) (v := ?v1b) ?hi1b (by kernel_rfl) (by kernel_rfl) (by kernel_rfl) (by kernel_rfl) ?hQ1b ?hS1b ?hy1b ?rest1b
                case hi1b =>
                  simp only [List.getElem?_toArray, List.getElem?_cons_succ, List.getElem?_cons_zero]
                  rfl
                case hQ1b => exact fun _ _ _ h => h
                case hS1b => exact ⟨q1, q2⟩
                case hy1b =>
                  refine yields_if (by rfl) (fun W hW => ?_)
                  try dsimp only at hW
                  go_simp
                  first | done | with_reducible rfl
                simp only [Act.put, List.setIfInBounds_toArray, List.set_cons_zero, List.set_cons_succ]
                refine upto_take (i := 2) (oi := ?oi2b) (v := ?v2b) ?hi2b (by kernel_rfl) (by kernel_rfl) (by kernel_rfl) (by kernel_rfl) ?hQ2b ?hS2b ?hy2b ?rest2b
                case hi2b =>
                  simp only [List.getElem?_toArray, List.getElem?_cons_succ, List.getElem?_cons_zero]
                  rfl
                case hQ2b => exact fun _ _ _ h => h
                case hS2b => exact ⟨q1, q2⟩
                case hy2b =>
                  refine yields_if (by rfl) (fun W hW => ?_)
                  try dsimp only at hW
                  go_simp
                  first | done | with_reducible rfl
                simp only [Act.put, List.setIfInBounds_toArray, List.set_cons_zero, List.set_cons_succ]
                refine upto_take (i := 3) (oi := ?oi3b) (v := ?v3b) ?hi3b (by kernel_rfl) (by kernel_rfl) (by kernel_rfl) (by kernel_rfl) ?hQ3b ?hS3b ?hy3b ?rest3b
                case hi3b =>
                  simp only [List.getElem?_toArray, List.getElem?_cons_succ, List.getElem?_cons_zero]
                  rfl
                case hQ3b => exact fun _ _ _ h => h
                case hS3b => exact ⟨q1, q2⟩
                case hy3b =>
                  refine yields_if (by rfl) (fun W hW => ?_)
                  try dsimp only at hW
                  go_simp
                  first | done | with_reducible rfl
                simp only [Act.put, List.setIfInBounds_toArray, List.set_cons_zero, List.set_cons_succ]
                refine upto_take (i := 4) (oi := ?oi4b) (v := ?v4b) ?hi4b (by kernel_rfl) (by kernel_rfl) (by kernel_rfl) (by kernel_rfl) ?hQ4b ?hS4b ?hy4b ?rest4b
                case hi4b =>
                  simp only [List.getElem?_toArray, List.getElem?_cons_succ, List.getElem?_cons_zero]
                  rfl
                case hQ4b => exact fun _ _ _ h => h
                case hS4b => exact ⟨q1, q2⟩
                case hy4b =>
                  refine yields_if (by rfl) (fun W hW => ?_)
                  try dsimp only at hW
                  go_simp
                  first | done | with_reducible rfl
                simp only [Act.put, List.setIfInBounds_toArray, List.set_cons_zero, List.set_cons_succ]
                refine upto_take (i := 5) (oi := ?oi5b) (v := ?v5b) ?hi5b (by kernel_rfl) (by kernel_rfl) (by kernel_rfl) (by kernel_rfl) ?hQ5b ?hS5b ?hy5b ?rest5b
                case hi5b =>
                  simp only [List.getElem?_toArray, List.getElem?_cons_succ, List.getElem?_cons_zero]
                  rfl
                case hQ5b => exact fun _ _ _ h => h
                case hS5b => exact ⟨q1, q2⟩
                case hy5b =>
                  refine yields_if (by rfl) (fun W hW => ?_)
                  try dsimp only at hW
                  go_simp
                  first | done | with_reducible rfl
                simp only [Act.put, List.setIfInBounds_toArray, List.set_cons_zero, List.set_cons_succ]
                refine upto_take (i := 6) (oi := ?oi6b) (v := ?v6b) ?hi6b (by kernel_rfl) (by kernel_rfl) (by kernel_rfl) (by kernel_rfl) ?hQ6b ?hS6b ?hy6b ?rest6b
                case hi6b =>
                  simp only [List.getElem?_toArray, List.getElem?_cons_succ, List.getElem?_cons_zero]
                  rfl
                case hQ6b => exact fun _ _ _ h => h
                case hS6b => exact ⟨q1, q2⟩
                case hy6b =>
                  refine yields_if (by rfl) (fun W hW => ?_)
                  try dsimp only at hW
                  go_simp
                  first | done | with_reducible rfl
                simp only [Act.put, List.setIfInBounds_toArray, List.set_cons_zero, List.set_cons_succ]
                refine upto_take (i := 7) (oi := ?oi7b) (v := ?v7b) ?hi7b (by kernel_rfl) (by kernel_rfl) (by kernel_rfl) (by kernel_rfl) ?hQ7b ?hS7b ?hy7b ?rest7b
                case hi7b =>
                  simp only [List.getElem?_toArray, List.getElem?_cons_succ, List.getElem?_cons_zero]
                  rfl
                case hQ7b => exact fun _ _ _ h => h
                case hS7b => exact ⟨q1, q2⟩
                case hy7b =>
                  refine yields_if (by rfl) (fun W hW => ?_)
                  try dsimp only at hW
                  go_simp
                  first | done | with_reducible rfl
                simp only [Act.put, List.setIfInBounds_toArray, List.set_cons_zero, List.set_cons_succ]
                refine upto_take (i := 8) (oi := ?oi8b) (v := ?v8b) ?hi8b (by kernel_rfl) (by kernel_rfl) (by kernel_rfl) (by kernel_rfl) ?hQ8b ?hS8b ?hy8b ?rest8b
                case hi8b =>
                  simp only [List.getElem?_toArray, List.getElem?_cons_succ, List.getElem?_cons_zero]
                  rfl
                case hQ8b => exact fun _ _ _ h => h
                case hS8b => exact ⟨q1, q2⟩
                case hy8b =>
                  refine yields_not ?_
                  rfl
                simp only [Act.put, List.setIfInBounds_toArray, List.set_cons_zero, List.set_cons_succ]
                refine upto_take (i := 9) (oi := ?oi9b) (v := ?v9b) ?hi9b (by kernel_rfl) (by kernel_rfl) (by kernel_rfl) (by kernel_rfl) ?hQ9b ?hS9b ?hy9b ?rest9b
                case hi9b =>
                  simp only [List.getElem?_toArray, List.getElem?_cons_succ, List.getElem?_cons_zero]
                  rfl
                case hQ9b => exact fun _ _ _ h => h
                case hS9b => exact ⟨q1, q2⟩
                case hy9b =>
                  refine yields_not ?_
                  rfl
                simp only [Act.put, List.setIfInBounds_toArray, List.set_cons_zero, List.set_cons_succ]
                refine upto_take (i := 10) (oi := ?oi10b) (v := ?v10b) ?hi10b (by kernel_rfl) (by kernel_rfl) (by kernel_rfl) (by kernel_rfl) ?hQ10b ?hS10b ?hy10b ?rest10b
                case hi10b =>
                  simp only [List.getElem?_toArray, List.getElem?_cons_succ, List.getElem?_cons_zero]
                  rfl
                case hQ10b => exact fun _ _ _ h => h
                case hS10b => exact ⟨q1, q2⟩
                case hy10b =>
                  refine yields_not ?_
                  rfl
                simp only [Act.put, List.setIfInBounds_toArray, List.set_cons_zero, List.set_cons_succ]
                refine upto_take (i := 11) (oi := ?oi11b) (v := ?v11b) ?hi11b (by kernel_rfl) (by kernel_rfl) (by kernel_rfl) (by kernel_rfl) ?hQ11b ?hS11b ?hy11b ?rest11b
                case hi11b =>
                  simp only [List.getElem?_toArray, List.getElem?_cons_succ, List.getElem?_cons_zero]
                  rfl
                case hQ11b => exact fun _ _ _ h => h
                case hS11b => exact ⟨q1, q2⟩
                case hy11b =>
                  refine yields_not ?_
                  rfl
                simp only [Act.put, List.setIfInBounds_toArray, List.set_cons_zero, List.set_cons_succ]
                refine upto_take (i := 12) (oi := ?oi12b) (v := ?v12b) ?hi12b (by kernel_rfl) (by kernel_rfl) (by kernel_rfl) (by kernel_rfl) ?hQ12b ?hS12b ?hy12b ?rest12b
                case hi12b =>
                  simp only [List.getElem?_toArray, List.getElem?_cons_succ, List.getElem?_cons_zero]
                  rfl
                case hQ12b => exact fun _ _ _ h => h
                case hS12b => exact ⟨q1, q2⟩
                case hy12b =>
                  refine yields_not ?_
                  rfl
                simp only [Act.put, List.setIfInBounds_toArray, List.set_cons_zero, List.set_cons_succ]
                refine upto_take (i := 13) (oi := ?oi13b) (v := ?v13b) ?hi13b (by kernel_rfl) (by kernel_rfl) (by kernel_rfl) (by kernel_rfl) ?hQ13b ?hS13b ?hy13b ?rest13b
                case hi13b =>
                  simp only [List.getElem?_toArray, List.getElem?_cons_succ, List.getElem?_cons_zero]
                  rfl
                case hQ13b => exact fun _ _ _ h => h
                case hS13b => exact ⟨q1, q2⟩
                case hy13b =>
                  refine yields_if (by rfl) (fun W hW => ?_)
                  try dsimp only at hW
                  go_simp
                  first | done | with_reducible rfl
                simp only [Act.put, List.setIfInBounds_toArray, List.set_cons_zero, List.set_cons_succ]
                refine upto_one (i := 14) (o := ?o14b) ?ho14b (by kernel_rfl) (fun K hK => ?_)
                case ho14b =>
                  simp only [List.getElem?_toArray, List.getElem?_cons_succ, List.getElem?_cons_zero]
                  rfl
                go_simp
                refine hK _ _ (.inr ⟨q5 _, q3 _⟩) ?_
                clear hK K
                try simp only [Act.put, List.setIfInBounds_toArray, List.set_cons_zero, List.set_cons_succ]
                refine upto_one (i := 15) (o := ?o15b) ?ho15b (by kernel_rfl) (fun K hK => ?_)
                case ho15b =>
                  simp only [List.getElem?_toArray, List.getElem?_cons_succ, List.getElem?_cons_zero]
                  rfl
                refine step_append1 _ _ rfl (.tmp 100) (.tmp 113) 39 rfl (w.heap.size + 1 + 1 + 1) 4 i0 _ 1 1 Try.underlying39 hi hz0 hz1 hz2 rfl (by omega) rfl (.slice b2 s d2) s _ rfl (own_below HA2.out.o2 (Below.refl _ _).drew) w1.heap.size (by simp [World.setCell, World.drew]) rfl (by simp [Value.oneCell']) (by unfold maxLen; omega) (by omega) HF2.out.size ?_
                intro g0 d2' w3 ho3 hg3 hat3
                have HF3 := Lib.hid ((HF2.out.below (Below.refl _ _).drew).grown hg3 (own_block_ge HA2.out.o2))
                have HA3 := Lib.hid ((HA2.out.below (Below.refl _ _).drew).app2 ho3 hg3)
                have k3 : w3.cell? ⟨w.heap.size + 1 + 1, 3, none⟩ = some (.slice b2 s d2) := HF3.out.a.cell 3
                have f3 : w3.frozen? ⟨w.heap.size + 1 + 1, 3, none⟩ = false := HF3.out.a.frozen 3
                have p1 : w3.cell? ⟨w.heap.size, 3, none⟩ = some (.slice (a2) n2 c2) := HF3.out.r.cell 3
                refine hK _ _ (.inr ⟨p1, k3⟩) ?_
                clear hK K
                try simp only [Act.put, List.setIfInBounds_toArray, List.set_cons_zero, List.set_cons_succ]
                refine upto_take (i := 16) (oi := ?oi16b) (v := ?v16b) ?hi16b (by kernel_rfl) (by kernel_rfl) (by kernel_rfl) (by kernel_rfl) ?hQ16b ?hS16b ?hy16b ?rest16b
                case hi16b =>
                  simp only [List.getElem?_toArray, List.getElem?_cons_succ, List.getElem?_cons_zero]
                  rfl
                case hQ16b => exact fun _ _ _ h => h
                case hS16b => exact ⟨p1, k3⟩
                case hy16b =>
                  refine yields_if (by rfl) (fun W hW => ?_)
                  try dsimp only at hW
                  go_simp
                  first | done | with_reducible rfl
                simp only [Act.put, List.setIfInBounds_toArray, List.set_cons_zero, List.set_cons_succ]
                refine upto_one (i := 17) (o := ?o17b) ?ho17b (by kernel_rfl) (fun K hK => ?_)
                case ho17b =>
                  simp only [List.getElem?_toArray, List.getElem?_cons_succ, List.getElem?_cons_zero]
                  rfl
                go_simp
                refine hK _ _ (.inl rfl) ?_
                clear hK K
                try simp only [Act.put, List.setIfInBounds_toArray, List.set_cons_zero, List.set_cons_succ]
                refine upto_done (by kernel_rfl) ?_ _
                go_wp2_with fail
                exact ⟨⟨s + 1, by omega, by omega, b1', some ⟨g0, 0, none⟩, d1', d2', rs ++ [(la, lc, l)], by simp [hrl], ms ++ [false], by simp [hml], Lib.hid (rows_snoc RB.out hll LB.out), Lib.hid (HF3.out.set_ 3 _), Lib.hid (HA3.out.set_below (p := ⟨w.heap.size + 1 + 1, 3, none⟩) (by simp) _)⟩, by
                  change n - ((s : Int) + 1).toNat < n - (s : Int).toNat
                  omega⟩
        · obtain rfl : s = n := by omega
          have t0 : wo.cell? ⟨w.heap.size + 1 + 1, 0, none⟩ = some (.int .i64 (atF st s)) := HF.out.a.cell 0
          have t1 : wo.cell? ⟨w.heap.size + 1 + 1, 1, none⟩ = some (.slice b0 256 d0) := HF.out.a.cell 1
          have t2 : wo.cell? ⟨w.heap.size + 1 + 1, 2, none⟩ = some (.slice b1 s d1) := HF.out.a.cell 2
          have t3 : wo.cell? ⟨w.heap.size + 1 + 1, 3, none⟩ = some (.slice b2 s d2) := HF.out.a.cell 3
          have t4 : wo.cell? ⟨w.heap.size + 1 + 1, 4, none⟩ = some (.slice none 0 0) := HF.out.a.cell 4
          have t5 : wo.cell? ⟨w.heap.size + 1 + 1, 5, none⟩ = some (.slice none 0 0) := HF.out.a.cell 5
          have HL : Hid (s = rs.length) := Lib.hid hrl.symm
          have HTD := Lib.hid (told_any (atF st s) b0 b1 b2 256 d0 d1 d2 0 0 0 0 s none none (fun i => (rs.getD i (none, 0, [])).1) (fun i => (rs.getD i (none, 0, [])).2.1) (fun i => (rs.getD i (none, 0, [])).2.2) ms wo hn1 hn3
            (by rw [← rows_range hrl]; exact sl_of_own HA.out.o1) (fun i hi => sl_of_own (HA.out.rows _ (getD_mem (by omega)))) (fun i hi => (RB.out _ (getD_mem (by omega))).1) (fun i hi => (RB.out _ (getD_mem (by omega))).2) (sl_of_own HA.out.o2) hml)
          go_wp2_with (go_at_call 25; refine HTD.out.mono ?_
                       rintro e w1 ⟨b3, b4, d3, d4, cn, al, rfl, hcn, hal, o3, o4, hb⟩
                       have HF1 := Lib.hid (HF.out.below hb)
                       have r0 : w1.cell? ⟨w.heap.size + 1, 0, none⟩ = some (.int .i64 0) := HF1.out.z.cell 0
                       have f0 : w1.frozen? ⟨w.heap.size + 1, 0, none⟩ = false := HF1.out.z.frozen 0
                       have r1 : w1.cell? ⟨w.heap.size + 1, 1, none⟩ = some (.slice none 0 0) := HF1.out.z.cell 1
                       have f1 : w1.frozen? ⟨w.heap.size + 1, 1, none⟩ = false := HF1.out.z.frozen 1
                       have r2 : w1.cell? ⟨w.heap.size + 1, 2, none⟩ = some (.slice none 0 0) := HF1.out.z.cell 2
                       have f2 : w1.frozen? ⟨w.heap.size + 1, 2, none⟩ = false := HF1.out.z.frozen 2
                       have r3 : w1.cell? ⟨w.heap.size + 1, 3, none⟩ = some (.slice none 0 0) := HF1.out.z.cell 3
                       have f3 : w1.frozen? ⟨w.heap.size + 1, 3, none⟩ = false := HF1.out.z.frozen 3
                       have r4 : w1.cell? ⟨w.heap.size + 1, 4, none⟩ = some (.slice none 0 0) := HF1.out.z.cell 4
                       have f4 : w1.frozen? ⟨w.heap.size + 1, 4, none⟩ = false := HF1.out.z.frozen 4
                       have r5 : w1.cell? ⟨w.heap.size + 1, 5, none⟩ = some (.slice none 0 0) := HF1.out.z.cell 5
                       have f5 : w1.frozen? ⟨w.heap.size + 1, 5, none⟩ = false := HF1.out.z.frozen 5
                       have B6 : Blk ((((((w1.setCell ⟨w.heap.size + 1, 0, none⟩ (.int .i64 (atF st s))).setCell ⟨w.heap.size + 1, 1, none⟩ (.slice b0 256 d0)).setCell ⟨w.heap.size + 1, 2, none⟩ (.slice b1 s d1)).setCell ⟨w.heap.size + 1, 3, none⟩ (.slice b2 s d2)).setCell ⟨w.heap.size + 1, 4, none⟩ (.slice b3 s d3)).setCell ⟨w.heap.size + 1, 5, none⟩ (.slice b4 s d4)) (w.heap.size + 1) 41 [.int .i64 (atF st s), .slice b0 256 d0, .slice b1 s d1, .slice b2 s d2, .slice b3 s d3, .slice b4 s d4] := ((((((HF1.out.z.set_ 0 _).set_ 1 _).set_ 2 _).set_ 3 _).set_ 4 _).set_ 5 _)
                       have e0 : ((((((w1.setCell ⟨w.heap.size + 1, 0, none⟩ (.int .i64 (atF st s))).setCell ⟨w.heap.size + 1, 1, none⟩ (.slice b0 256 d0)).setCell ⟨w.heap.size + 1, 2, none⟩ (.slice b1 s d1)).setCell ⟨w.heap.size + 1, 3, none⟩ (.slice b2 s d2)).setCell ⟨w.heap.size + 1, 4, none⟩ (.slice b3 s d3)).setCell ⟨w.heap.size + 1, 5, none⟩ (.slice b4 s d4)).cell? ⟨w.heap.size + 1, 0, none⟩ = some (.int .i64 (atF st s)) := B6.cell 0
                       have e1 : ((((((w1.setCell ⟨w.heap.size + 1, 0, none⟩ (.int .i64 (atF st s))).setCell ⟨w.heap.size + 1, 1, none⟩ (.slice b0 256 d0)).setCell ⟨w.heap.size + 1, 2, none⟩ (.slice b1 s d1)).setCell ⟨w.heap.size + 1, 3, none⟩ (.slice b2 s d2)).setCell ⟨w.heap.size + 1, 4, none⟩ (.slice b3 s d3)).setCell ⟨w.heap.size + 1, 5, none⟩ (.slice b4 s d4)).cell? ⟨w.heap.size + 1, 1, none⟩ = some (.slice b0 256 d0) := B6.cell 1
                       have e2 : ((((((w1.setCell ⟨w.heap.size + 1, 0, none⟩ (.int .i64 (atF st s))).setCell ⟨w.heap.size + 1, 1, none⟩ (.slice b0 256 d0)).setCell ⟨w.heap.size + 1, 2, none⟩ (.slice b1 s d1)).setCell ⟨w.heap.size + 1, 3, none⟩ (.slice b2 s d2)).setCell ⟨w.heap.size + 1, 4, none⟩ (.slice b3 s d3)).setCell ⟨w.heap.size + 1, 5, none⟩ (.slice b4 s d4)).cell? ⟨w.heap.size + 1, 2, none⟩ = some (.slice b1 s d1) := B6.cell 2
                       have e3 : ((((((w1.setCell ⟨w.heap.size + 1, 0, none⟩ (.int .i64 (atF st s))).setCell ⟨w.heap.size + 1, 1, none⟩ (.slice b0 256 d0)).setCell ⟨w.heap.size + 1, 2, none⟩ (.slice b1 s d1)).setCell ⟨w.heap.size + 1, 3, none⟩ (.slice b2 s d2)).setCell ⟨w.heap.size + 1, 4, none⟩ (.slice b3 s d3)).setCell ⟨w.heap.size + 1, 5, none⟩ (.slice b4 s d4)).cell? ⟨w.heap.size + 1, 3, none⟩ = some (.slice b2 s d2) := B6.cell 3
                       have e4 : ((((((w1.setCell ⟨w.heap.size + 1, 0, none⟩ (.int .i64 (atF st s))).setCell ⟨w.heap.size + 1, 1, none⟩ (.slice b0 256 d0)).setCell ⟨w.heap.size + 1, 2, none⟩ (.slice b1 s d1)).setCell ⟨w.heap.size + 1, 3, none⟩ (.slice b2 s d2)).setCell ⟨w.heap.size + 1, 4, none⟩ (.slice b3 s d3)).setCell ⟨w.heap.size + 1, 5, none⟩ (.slice b4 s d4)).cell? ⟨w.heap.size + 1, 4, none⟩ = some (.slice b3 s d3) := B6.cell 4
                       have e5 : ((((((w1.setCell ⟨w.heap.size + 1, 0, none⟩ (.int .i64 (atF st s))).setCell ⟨w.heap.size + 1, 1, none⟩ (.slice b0 256 d0)).setCell ⟨w.heap.size + 1, 2, none⟩ (.slice b1 s d1)).setCell ⟨w.heap.size + 1, 3, none⟩ (.slice b2 s d2)).setCell ⟨w.heap.size + 1, 4, none⟩ (.slice b3 s d3)).setCell ⟨w.heap.size + 1, 5, none⟩ (.slice b4 s d4)).cell? ⟨w.heap.size + 1, 5, none⟩ = some (.slice b4 s d4) := B6.cell 5
                       clear B6)
          go_wp2_with fail
          refine bodyPost_ret (by simp [results, Try.results16, go_sem, e0, e1, e2, e3, e4, e5]; try rfl) rfl ?_
          have z3 : ∀ {W : World} {v : Value} {m : Nat} {xs : List Value} (i : Nat) (u : Value), W.ownsRow (wo.heap.size + 2) 4 1 v m xs → (W.setCell ⟨w.heap.size + 1, i, none⟩ u).ownsRow (wo.heap.size + 2) 4 1 v m xs :=
            fun i u h => ownsRow_setCell_below h (by have := HF.out.size; simp; omega) u
          have zA : ∀ {W : World} (i : Nat) (u : Value), AM W (w.heap.size + 1 + 1 + 1) (.slice b0 256 d0) (.slice b1 s d1) (.slice b2 s d2) s s cls rs ms → AM (W.setCell ⟨w.heap.size + 1, i, none⟩ u) (w.heap.size + 1 + 1 + 1) (.slice b0 256 d0) (.slice b1 s d1) (.slice b2 s d2) s s cls rs ms :=
            fun i u h => h.set_below (by simp) u
          have y : ∀ {W : World} (i : Nat) (u : Value), Below w.heap.size w W → Below w.heap.size w (W.setCell ⟨w.heap.size + 1, i, none⟩ u) := fun i u h => h.setCell (p := ⟨w.heap.size + 1, i, none⟩) (by simp) u
          have A6 := zA 5 (.slice b4 s d4) (zA 4 (.slice b3 s d3) (zA 3 (.slice b2 s d2) (zA 2 (.slice b1 s d1) (zA 1 (.slice b0 256 d0) (zA 0 (.int .i64 (atF st s)) (HA.out.below hb))))))
          have O3 := z3 5 (.slice b4 s d4) (z3 4 (.slice b3 s d3) (z3 3 (.slice b2 s d2) (z3 2 (.slice b1 s d1) (z3 1 (.slice b0 256 d0) (z3 0 (.int .i64 (atF st s)) o3)))))
          have O4 := z3 5 (.slice b4 s d4) (z3 4 (.slice b3 s d3) (z3 3 (.slice b2 s d2) (z3 2 (.slice b1 s d1) (z3 1 (.slice b0 256 d0) (z3 0 (.int .i64 (atF st s)) o4)))))
          refine ⟨⟨atF st s, b0, b1, b2, b3, b4, d0, d1, d2, d3, d4, s, cls, rs, ms, cn, al, rfl, ⟨hn1, hn3, atF_bd st s hn1, hcl', CB.out, hrl, RB.out, hml, hcn, hal, sl_of_own A6.o0, sl_of_own A6.o1, fun r hr => sl_of_own (A6.rows r hr), sl_of_own A6.o2, sl_of_own O3, sl_of_own O4⟩⟩, ?_⟩
          exact y _ _ (y _ _ (y _ _ (y _ _ (y _ _ (y _ _ HF1.out.b)))))

end Go.Proofs.Ytobcgeonobgjpaa.fnTablePath
