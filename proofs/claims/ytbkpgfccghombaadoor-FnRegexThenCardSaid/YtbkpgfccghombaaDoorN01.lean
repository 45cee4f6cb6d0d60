/-
  Parts of the proof in one text: Dc, Db, Dd, Dk, De, Df. Conditions: as each states.
-/
import Derived.Test.YtbkpgfccghombaaDoorM16
import Derived.Test.YtbkpgfccghombaaDoorM20
import Derived.Test.YtbkpgfccghombaaDoorShelfZz
import Derived.Test.YtbkpgfccghombaaDoorM10
import Derived.BigQuiet
import Derived.Deep.OwnRows
import Derived.Deep.DeepCutAuto
import Derived.Laws.MakeOwn
import Derived.Lib.LazyBuf
import Derived.Maps.OwnSet
/-! Sets of numbers of instructions in memory. Conditions: as stated. -/
namespace Go.Proofs.YtbkpgfccghombaaDoor.rx
open Go.ChangeShapes Go.WideShapes Go.ChangeAt Go.RowKit
set_option linter.unusedVariables false
set_option linter.unusedSimpArgs false

/-- a set's three blocks -/
structure S3 where
  S : Nat
  D : Nat
  R : Nat
def S3.O (K : S3) (k : Nat) : Prop := k = K.S ∨ k = K.D ∨ k = K.R
/-- a set in memory: its numbers, in the order in which they were added -/
structure SetM (w : World) (N n : Nat) (K : S3) (l : List Nat) : Prop where
  s : Blk w K.S 168 [.slice (some ⟨K.D, 0, none⟩) n n, .slice (some ⟨K.R, 0, none⟩) n n, .int .u64 (l.length : Nat)]
  d : ∃ dl : List Nat, dl.length = n ∧ dl.take l.length = l ∧ Blk w K.D 33 (natsU dl)
  r : ∃ rl : List Nat, rl.length = n ∧ (∀ i (h : i < l.length), rl[l[i]]? = some i) ∧ Blk w K.R 33 (natsU rl)
  ne : K.D ≠ K.R
  sB : N ≤ K.S
  dB : N ≤ K.D
  rB : N ≤ K.R
section
variable {w w' : World} {N n : Nat} {K : S3} {l : List Nat}
theorem SetM.keep {O : Nat → Prop} (h : SetM w N n K l) (hf : Fr O w w') (hO : ∀ k, K.O k → ¬ O k) : SetM w' N n K l := by
  obtain ⟨dl, d1, d2, d3⟩ := h.d
  obtain ⟨rl, r1, r2, r3⟩ := h.r
  exact ⟨hf.blk h.s (hO _ (.inl rfl)), ⟨dl, d1, d2, hf.blk d3 (hO _ (.inr (.inl rfl)))⟩, ⟨rl, r1, r2, hf.blk r3 (hO _ (.inr (.inr rfl)))⟩, h.ne, h.sB, h.dB, h.rB⟩
theorem SetM.sd (h : SetM w N n K l) : K.S ≠ K.D := by
  obtain ⟨dl, d1, d2, d3⟩ := h.d
  exact h.s.ne_ d3 (by decide)
theorem SetM.sr (h : SetM w N n K l) : K.S ≠ K.R := by
  obtain ⟨dl, d1, d2, d3⟩ := h.r
  exact h.s.ne_ d3 (by decide)
theorem SetM.O_lt (h : SetM w N n K l) : ∀ k, K.O k → N ≤ k ∧ k < w.heap.size := by
  obtain ⟨dl, d1, d2, d3⟩ := h.d
  obtain ⟨rl, r1, r2, r3⟩ := h.r
  rintro k (rfl | rfl | rfl)
  · exact ⟨h.sB, h.s.lt⟩
  · exact ⟨h.dB, d3.lt⟩
  · exact ⟨h.rB, r3.lt⟩
theorem SetM.len (h : SetM w N n K l) : l.length ≤ n := by
  obtain ⟨dl, d1, d2, d3⟩ := h.d
  have := congrArg List.length d2
  rw [List.length_take] at this
  omega
theorem SetM.new (h : SetM w N n K l) (hb : Below w.heap.size w w') : SetM w' N n K l := h.keep (Fr.of_below hb) (fun _ _ e => e)
theorem SetM.drewN (h : SetM w N n K l) (m : Nat) : SetM (w.drewN m) N n K l := h.new (below_drewN (Below.refl _ _) m)

set_option maxRecDepth 100000 in
theorem len_any (h : SetM w N n K l) (hn : n ≤ 1000000000000) : Calls Tryd.prog 78 #[.pointer (some ⟨K.S, 0, none⟩)] w fun e w' => e = .returned (.int .i64 (l.length : Nat)) ∧ w = w' := by
  have c2 : w.cell? ⟨K.S, 2, none⟩ = some (.int .u64 (l.length : Nat)) := h.s.cell 2
  have hl := h.len
  clear h
  go_enter Tryd.func78, Tryd.ntmps78
  go_wp2
  go_ret
  exact ⟨rfl, rfl⟩
set_option maxRecDepth 100000 in
theorem get_any (h : SetM w N n K l) (i : Nat) (hi : i < l.length) (hn : n ≤ 1000000000000) : Calls Tryd.prog 79 #[.pointer (some ⟨K.S, 0, none⟩), .int .u64 i] w fun e w' => e = .returned (.int .u64 (l[i] : Nat)) ∧ w = w' := by
  have c0 : w.cell? ⟨K.S, 0, none⟩ = some (.slice (some ⟨K.D, 0, none⟩) n n) := h.s.cell 0
  have hl := h.len
  obtain ⟨dl, d1, d2, d3⟩ := h.d
  have hd : i < dl.length := by omega
  have c3 : w.cell? ⟨K.D, i, none⟩ = some (.int .u64 (l[i] : Nat)) := by
    rw [d3.cell i, natsU_at dl i hd]
    have : l[i] = dl[i] := by
      have := List.getElem_take (xs := dl) (j := l.length) (i := i) (h := by rw [List.length_take]; omega)
      rw [← this]
      congr 1
      exact d2.symm
    rw [this]
  clear h d1 d2 d3 hd
  go_enter Tryd.func79, Tryd.ntmps79
  go_wp2
  go_ret
  exact ⟨rfl, rfl⟩
set_option maxRecDepth 100000 in
theorem clear_any (h : SetM w N n K l) : Calls Tryd.prog 81 #[.pointer (some ⟨K.S, 0, none⟩)] w fun e w' => e = .returned (.tuple #[]) ∧ SetM w' N n K [] ∧ Fr K.O w w' := by
  have f2 : w.frozen? ⟨K.S, 2, none⟩ = false := h.s.frozen 2
  have c2 : w.cell? ⟨K.S, 2, none⟩ = some (.int .u64 (l.length : Nat)) := h.s.cell 2
  have HF := Lib.hid (show SetM (w.setCell ⟨K.S, 2, none⟩ (.int .u64 0)) N n K [] ∧ Fr K.O w (w.setCell ⟨K.S, 2, none⟩ (.int .u64 0)) from by
    obtain ⟨dl, d1, d2, d3⟩ := h.d
    obtain ⟨rl, r1, r2, r3⟩ := h.r
    exact ⟨⟨h.s.set_ 2 (.int .u64 0), ⟨dl, d1, by simp, d3.far (by exact fun e => h.sd e.symm) _⟩, ⟨rl, r1, fun i h => by simp at h, r3.far (by exact fun e => h.sr e.symm) _⟩, h.ne, h.sB, h.dB, h.rB⟩, (Fr.refl _ _).set _ _ (.inl rfl)⟩)
  clear h
  go_enter Tryd.func81, Tryd.ntmps81
  go_wp2
  go_returns
  exact ⟨rfl, HF.out.1, HF.out.2⟩
theorem SetM.add (h : SetM w N n K l) (i : Nat) (hi : i < n) (hm : i ∉ l) (hl : l.length < n) :
    let w3 := ((w.setCell ⟨K.D, l.length, none⟩ (.int .u64 i)).setCell ⟨K.R, i, none⟩ (.int .u64 (l.length : Nat))).setCell ⟨K.S, 2, none⟩ (.int .u64 ((l.length + 1 : Nat) : Int))
    SetM w3 N n K (l ++ [i]) ∧ Fr K.O w w3 := by
  intro w3
  obtain ⟨dl, d1, d2, d3⟩ := h.d
  obtain ⟨rl, r1, r2, r3⟩ := h.r
  have hs := h.sd
  have hr := h.sr
  have hne := h.ne
  refine ⟨⟨?_, ⟨dl.set l.length i, by simp [d1], ?_, ?_⟩, ⟨rl.set i l.length, by simp [r1], ?_, ?_⟩, h.ne, h.sB, h.dB, h.rB⟩, ?_⟩
  · have := ((h.s.far (p := ⟨K.D, l.length, none⟩) hs (.int .u64 i)).far (p := ⟨K.R, i, none⟩) hr (.int .u64 (l.length : Nat))).set_ 2 (.int .u64 ((l.length + 1 : Nat) : Int))
    rw [List.length_append]
    exact this
  · rw [List.length_append, List.length_singleton, List.take_succ_eq_append_getElem (by simp; omega)]
    simp only [List.getElem_set_self, List.take_set_of_le (Nat.le_refl _), d2]
  · have := ((d3.set_ l.length (.int .u64 i)).far (p := ⟨K.R, i, none⟩) hne (.int .u64 (l.length : Nat))).far (p := ⟨K.S, 2, none⟩) (fun e => hs e.symm) (.int .u64 ((l.length + 1 : Nat) : Int))
    unfold natsU at this ⊢
    rw [List.map_set]
    exact this
  · intro j hj
    rw [List.length_append, List.length_singleton] at hj
    rw [List.getElem?_set]
    by_cases hjl : j < l.length
    · rw [List.getElem_append_left hjl, if_neg (fun e => hm (by rw [e]; exact List.getElem_mem hjl))]
      exact r2 j hjl
    · obtain rfl : j = l.length := by omega
      rw [List.getElem_append_right (by omega)]
      simp [r1, hi]
  · have := ((r3.far (p := ⟨K.D, l.length, none⟩) (fun e => hne e.symm) (.int .u64 i)).set_ i (.int .u64 (l.length : Nat))).far (p := ⟨K.S, 2, none⟩) (fun e => hr e.symm) (.int .u64 ((l.length + 1 : Nat) : Int))
    unfold natsU at this ⊢
    rw [List.map_set]
    exact this
  · exact (((Fr.refl _ _).set _ _ (.inr (.inl rfl))).set _ _ (.inr (.inr rfl))).set _ _ (.inl rfl)
set_option maxRecDepth 100000 in
set_option maxHeartbeats 800000 in
theorem sadd_any (h : SetM w N n K l) (i : Nat) (hi : i < n) (hm : i ∉ l) (hl : l.length < n) (hn : n ≤ 1000000000000) :
    Calls Tryd.prog 77 #[.pointer (some ⟨K.S, 0, none⟩), .int .u64 i] w fun e w' => e = .returned (.int .u64 (l.length : Nat)) ∧ SetM w' N n K (l ++ [i]) ∧ Fr K.O w w' := by
  have HF := Lib.hid (h.add i hi hm hl)
  have s0 := Lib.hid h.s
  have hs := Lib.hid h.sd
  have hr := Lib.hid h.sr
  have hne := Lib.hid h.ne
  obtain ⟨dl, d1, d2, d3⟩ := h.d
  obtain ⟨rl, r1, r2, r3⟩ := h.r
  have HD := Lib.hid d3
  have HR := Lib.hid r3
  have c0 : w.cell? ⟨K.S, 0, none⟩ = some (.slice (some ⟨K.D, 0, none⟩) n n) := h.s.cell 0
  have c2 : w.cell? ⟨K.S, 2, none⟩ = some (.int .u64 (l.length : Nat)) := h.s.cell 2
  obtain ⟨y0, cd⟩ : ∃ y : Int, w.cell? ⟨K.D, l.length, none⟩ = some (.int .u64 y) := ⟨_, by rw [d3.cell]; exact natsU_at dl l.length (by omega)⟩
  have fd : w.frozen? ⟨K.D, l.length, none⟩ = false := d3.frozen _
  have hri : i < rl.length := by omega
  clear h d1 d2 d3 r2 r3
  go_enter Tryd.func77, Tryd.ntmps77
  go_upto_region 3 with fail
  refine name_world ?_
  intro w2 hw2
  have s2 := Lib.hid (show Blk w2 K.S _ _ from by rw [hw2]; exact s0.out.far (p := ⟨K.D, l.length, none⟩) hs.out _)
  have R2 := Lib.hid (show Blk w2 K.R _ _ from by rw [hw2]; exact HR.out.far (p := ⟨K.D, l.length, none⟩) (fun e => hne.out e.symm) _)
  have HW := Lib.hid hw2
  clear hw2 c0 c2 cd fd
  have c1 : w2.cell? ⟨K.S, 1, none⟩ = some (.slice (some ⟨K.R, 0, none⟩) n n) := s2.out.cell 1
  have cr : w2.cell? ⟨K.R, i, none⟩ = some (.int .u64 (rl[i] : Nat)) := by rw [R2.out.cell]; exact natsU_at rl _ _
  have fr : w2.frozen? ⟨K.R, i, none⟩ = false := R2.out.frozen _
  go_upto_region 4 with fail
  refine name_world ?_
  intro w3 hw3
  have s3 := Lib.hid (show Blk w3 K.S _ _ from by rw [hw3]; exact s2.out.far (p := ⟨K.R, i, none⟩) hr.out _)
  have HW3 := Lib.hid hw3
  clear hw3 c1 cr fr
  have c2 : w3.cell? ⟨K.S, 2, none⟩ = some (.int .u64 (l.length : Nat)) := s3.out.cell 2
  have f2 : w3.frozen? ⟨K.S, 2, none⟩ = false := s3.out.frozen _
  go_wp2
  go_ret
  have e := HW3.out
  rw [HW.out] at e
  subst e
  exact ⟨rfl, by simpa using HF.out.1, by simpa using HF.out.2⟩
set_option maxRecDepth 100000 in
set_option maxHeartbeats 800000 in
theorem has_any (h : SetM w N n K l) (i : Nat) (hi : i < n) (hn : n ≤ 1000000000000) :
    Calls Tryd.prog 76 #[.pointer (some ⟨K.S, 0, none⟩), .int .u64 i] w fun e w' => e = .returned (.bool (decide (i ∈ l))) ∧ w = w' := by
  have hl := h.len
  obtain ⟨dl, d1, d2, d3⟩ := h.d
  obtain ⟨rl, r1, r2, r3⟩ := h.r
  have c0 : w.cell? ⟨K.S, 0, none⟩ = some (.slice (some ⟨K.D, 0, none⟩) n n) := h.s.cell 0
  have c1 : w.cell? ⟨K.S, 1, none⟩ = some (.slice (some ⟨K.R, 0, none⟩) n n) := h.s.cell 1
  have c2 : w.cell? ⟨K.S, 2, none⟩ = some (.int .u64 (l.length : Nat)) := h.s.cell 2
  have hri : i < rl.length := by omega
  have cr : w.cell? ⟨K.R, i, none⟩ = some (.int .u64 (rl[i] : Nat)) := by rw [r3.cell]; exact natsU_at rl _ _
  obtain ⟨v, hv⟩ : ∃ v, rl[i] = v := ⟨_, rfl⟩
  rw [hv] at cr
  by_cases hvl : v < l.length
  · have hvd : v < dl.length := by omega
    have cd : w.cell? ⟨K.D, v, none⟩ = some (.int .u64 (l[v] : Nat)) := by
      rw [d3.cell, natsU_at dl v hvd]
      have : l[v] = dl[v] := by
        have := List.getElem_take (xs := dl) (j := l.length) (i := v) (h := by rw [List.length_take]; omega)
        rw [← this]
        congr 1
        exact d2.symm
      rw [this]
    have hiff : (((l[v] : Nat) : Int) == (i : Int)) = decide (i ∈ l) := by
      rw [Bool.eq_iff_iff, beq_iff_eq, decide_eq_true_eq]
      constructor
      · intro e
        have : i = l[v] := by omega
        rw [this]
        exact List.getElem_mem hvl
      · intro hm
        obtain ⟨j, hj, e⟩ := List.getElem_of_mem hm
        have := r2 j hj
        rw [e, List.getElem?_eq_getElem hri, hv] at this
        injection this with this
        subst this
        rw [e]
    generalize decide (i ∈ l) = b at *
    generalize l[v] = y at *
    clear h d1 d2 d3 r1 r2 r3 hv hri hvd
    obtain ⟨z, hz⟩ : ∃ z : Int, z = (y : Int) := ⟨_, rfl⟩
    have h1 : (v : Int) < (l.length : Int) := by omega
    have h2 : (v : Int) < (n : Int) := by omega
    have HI := Lib.hid hiff
    clear hiff hz
    go_enter Tryd.func76, Tryd.ntmps76
    go_wp2
    go_ret
    rw [← HI.out]
    exact ⟨rfl, rfl⟩
  · have hm : i ∉ l := fun hm => by
      obtain ⟨j, hj, e⟩ := List.getElem_of_mem hm
      have := r2 j hj
      rw [e, List.getElem?_eq_getElem hri, hv] at this
      injection this with this
      omega
    rw [decide_eq_false hm]
    have h1 : ¬ (v : Int) < (l.length : Int) := by omega
    clear h d1 d2 d3 r1 r2 r3 hv hri hm
    go_enter Tryd.func76, Tryd.ntmps76
    go_wp2
    go_ret
    exact ⟨rfl, rfl⟩
end
theorem infoUi : (Tryd.prog.info? 33).map (fun i => (i.zero, i.size, i.bytes)) = some (some (.int .u64 0), 1, 8) := by kernel_rfl
theorem made_nats (c : Nat) : madeCells #[.int .u64 0] c = (natsU (List.replicate c 0)).toArray := by
  apply Array.toList_inj.1
  rw [toList_madeCells_one]
  simp [natsU]
theorem three_new (w : World) (t t1 t2 : TypeId) (l l1 l2 : List Value) :
    Blk ((((w.alloc (.cells l.toArray t)).alloc (.cells l1.toArray t1)).alloc (.cells l2.toArray t2)).drew) w.heap.size t l ∧
    Blk ((((w.alloc (.cells l.toArray t)).alloc (.cells l1.toArray t1)).alloc (.cells l2.toArray t2)).drew) (w.heap.size + 1) t1 l1 ∧
    Blk ((((w.alloc (.cells l.toArray t)).alloc (.cells l1.toArray t1)).alloc (.cells l2.toArray t2)).drew) (w.heap.size + 1 + 1) t2 l2 ∧
    Below w.heap.size w ((((w.alloc (.cells l.toArray t)).alloc (.cells l1.toArray t1)).alloc (.cells l2.toArray t2)).drew) := by
  refine ⟨(((Blk.new w t l).alloc _).alloc _).drew, ?_, ?_, ((((Below.refl _ _).alloc (Nat.le_refl _) _).alloc (by simp) _).alloc (by simp; omega) _).drew⟩
  · have h := ((Blk.new (w.alloc (.cells l.toArray t)) t1 l1).alloc (.cells l2.toArray t2)).drew
    simpa using h
  · have h := (Blk.new ((w.alloc (.cells l.toArray t)).alloc (.cells l1.toArray t1)) t2 l2).drew
    simpa using h
theorem set_new {w w' : World} {n D R S : Nat} (hd : Blk w' D 33 (natsU (List.replicate n 0))) (hr : Blk w' R 33 (natsU (List.replicate n 0))) (hs : Blk w' S 168 [.slice (some ⟨D, 0, none⟩) n n, .slice (some ⟨R, 0, none⟩) n n, .int .u64 0])
    (hne : D ≠ R) (h1 : w.heap.size ≤ S) (h2 : w.heap.size ≤ D) (h3 : w.heap.size ≤ R) : SetM w' w.heap.size n ⟨S, D, R⟩ [] :=
  ⟨hs, ⟨_, by simp, by simp, hd⟩, ⟨_, by simp, fun i h => by simp at h, hr⟩, hne, h1, h2, h3⟩
set_option maxRecDepth 100000 in
theorem newset_any (n : Nat) (w : World) (hn : n ≤ 1000000000000) : Calls Tryd.prog 60 #[.int .u64 n] w fun e w' => ∃ K : S3, e = .returned (.pointer (some ⟨K.S, 0, none⟩)) ∧ SetM w' w.heap.size n K [] ∧ Below w.heap.size w w' := by
  have hmk : ∀ w : World, (Instr.makeSlice 101 (.int .u64 (n : Int)) (.int .u64 (n : Int))).run Tryd.prog w = .ok (.slice (some ⟨w.heap.size, 0, none⟩) n n) (w.alloc (.cells (madeCells #[.int .u64 0] n) 33)) :=
    fun w => run_make_row' 101 33 (.int .u64 0) 8 Tryd.underlying101 infoUi rfl .u64 .u64 n (by omega) (by omega) w
  go_enter Tryd.func60, Tryd.ntmps60
  go_wp2_with fail
  rw [made_nats] at hmk
  go_region
  · go_wp2
    go_ret
    obtain ⟨h1, h2, h3, h4⟩ := three_new w 33 33 168 (natsU (List.replicate n 0)) (natsU (List.replicate n 0)) [.slice (some ⟨w.heap.size, 0, none⟩) n n, .slice (some ⟨w.heap.size + 1, 0, none⟩) n n, .int .u64 0]
    exact ⟨⟨w.heap.size + 1 + 1, w.heap.size, w.heap.size + 1⟩, rfl, set_new h1 h2 h3 (by omega) (by omega) (by omega) (by omega), h4⟩
  · go_wp2
    go_ret
    obtain ⟨h1, h2, h3, h4⟩ := three_new w 33 33 168 (natsU (List.replicate n 0)) (natsU (List.replicate n 0)) [.slice (some ⟨w.heap.size + 1, 0, none⟩) n n, .slice (some ⟨w.heap.size, 0, none⟩) n n, .int .u64 0]
    exact ⟨⟨w.heap.size + 1 + 1, w.heap.size + 1, w.heap.size⟩, rfl, set_new h2 h1 h3 (by omega) (by omega) (by omega) (by omega), h4⟩
end Go.Proofs.YtbkpgfccghombaaDoor.rx

/-! The automaton of a program: its states as the builder makes them; too many. Plain. Conditions: none. -/
namespace Go.Proofs.YtbkpgfccghombaaDoor.rx
open Classical
set_option linter.unusedVariables false

/-- bytes -/
def byt (u : List Int) : Prop := ∀ x ∈ u, 0 ≤ x ∧ x ≤ 255
theorem byt_snoc {u : List Int} {x : Int} (h : byt u) (h0 : 0 ≤ x) (h1 : x ≤ 255) : byt (u ++ [x]) := fun y hy => by
  rcases List.mem_append.1 hy with hy | hy
  · exact h y hy
  · simp at hy
    subst hy
    exact ⟨h0, h1⟩
section
variable (P : List Ins)
/-- too many states -/
def Many : Prop := ∃ l : List (List Nat), l.Nodup ∧ 10000 < l.length ∧ ∀ x ∈ l, x = [] ∨ ∃ u, byt u ∧ x = pth P u
/-- states: the first has no places -/
structure Sts (S : List (List Nat)) : Prop where
  nd : S.Nodup
  z : S[0]? = some []
  o : S[1]? = some (st0 P)
  rch : ∀ x ∈ S, x = [] ∨ ∃ u, byt u ∧ x = pth P u
def put (S : List (List Nat)) (L : List Nat) : List (List Nat) := if L ∈ S then S else S ++ [L]
/-- a state whose steps are known -/
def Stp (S : List (List Nat)) (tb : Nat → Nat → Nat) (v x : Nat) : Prop := st1 P (S.getD v []) x ∈ S ∧ tb v x = S.idxOf (st1 P (S.getD v []) x)
def Known (S : List (List Nat)) (tb : Nat → Nat → Nat) (v : Nat) : Prop := ∀ x, x < 256 → Stp P S tb v x
end
section
variable {P : List Ins}
theorem Sts.len {S : List (List Nat)} (h : Sts P S) : 2 ≤ S.length := by
  have := (List.getElem?_eq_some_iff.1 h.o).1
  omega
theorem put_sub {S : List (List Nat)} {L x : List Nat} (h : x ∈ S) : x ∈ put S L := by
  unfold put
  split
  · exact h
  · simp [h]
theorem put_me (S : List (List Nat)) (L : List Nat) : L ∈ put S L := by
  unfold put
  split
  · assumption
  · simp
theorem put_len (S : List (List Nat)) (L : List Nat) : S.length ≤ (put S L).length ∧ (put S L).length ≤ S.length + 1 := by
  unfold put
  split <;> simp
theorem put_at {S : List (List Nat)} {L : List Nat} {v : Nat} (h : v < S.length) : (put S L)[v]? = S[v]? := by
  unfold put
  split
  · rfl
  · exact List.getElem?_append_left h
theorem put_getD {S : List (List Nat)} {L : List Nat} {v : Nat} (h : v < S.length) : (put S L).getD v [] = S.getD v [] := by
  rw [List.getD_eq_getElem?_getD, List.getD_eq_getElem?_getD, put_at h]
theorem put_idx {S : List (List Nat)} {L x : List Nat} (h : x ∈ S) : (put S L).idxOf x = S.idxOf x := by
  unfold put
  split
  · rfl
  · rw [List.idxOf_append, if_pos h]
theorem put_idx_me (S : List (List Nat)) (L : List Nat) : (put S L).idxOf L = S.idxOf L := by
  unfold put
  split
  · rfl
  · rename_i h
    rw [List.idxOf_append, if_neg h, List.idxOf_cons_self, List.idxOf_eq_length h]
    simp
theorem getD_mem {S : List (List Nat)} {v : Nat} (h : v < S.length) : S.getD v [] ∈ S := by
  rw [List.getD_eq_getElem?_getD, List.getElem?_eq_getElem h]
  exact List.getElem_mem h
theorem Sts.put {S : List (List Nat)} (h : Sts P S) {v : Nat} (hv : v < S.length) {x : Int} (h0 : 0 ≤ x) (h1 : x ≤ 255) : Sts P (put S (st1 P (S.getD v []) x)) := by
  have hl := h.len
  refine ⟨?_, by rw [put_at (by omega)]; exact h.z, by rw [put_at (by omega)]; exact h.o, fun y hy => ?_⟩
  · unfold rx.put
    split
    · exact h.nd
    · rename_i hn
      refine List.nodup_append.2 ⟨h.nd, by simp, fun a ha b hb e => ?_⟩
      simp at hb
      subst hb e
      exact hn ha
  · unfold rx.put at hy
    split at hy
    · exact h.rch y hy
    · rcases List.mem_append.1 hy with hy | hy
      · exact h.rch y hy
      · simp only [List.mem_singleton] at hy
        subst hy
        rcases h.rch _ (getD_mem hv) with e | ⟨u, hu, e⟩
        · rw [e, st1_nil]
          exact .inl rfl
        · exact .inr ⟨u ++ [x], byt_snoc hu h0 h1, by rw [e, pth_snoc]⟩
theorem Sts.many {S : List (List Nat)} (h : Sts P S) (hl : 10000 < S.length) : Many P := ⟨S, h.nd, hl, h.rch⟩
/-- all states, with all their steps -/
structure Full (P : List Ins) (S : List (List Nat)) (tb : Nat → Nat → Nat) : Prop where
  sts : Sts P S
  kn : ∀ v, v < S.length → Known P S tb v
/-- the state behind a text -/
def goT (tb : Nat → Nat → Nat) (u : List Int) (v : Nat) : Nat := u.foldl (fun v x => tb v x.toNat) v
theorem idx_getD {S : List (List Nat)} {x : List Nat} (h : x ∈ S) : S.getD (S.idxOf x) [] = x := by
  have h1 := List.idxOf_lt_length_iff.2 h
  rw [List.getD_eq_getElem?_getD, List.getElem?_eq_getElem h1]
  simp
theorem Sts.idx1 {S : List (List Nat)} (h : Sts P S) : S.idxOf (st0 P) = 1 := by
  obtain ⟨h1, h2⟩ := List.getElem?_eq_some_iff.1 h.o
  rw [← h2]
  exact List.Nodup.idxOf_getElem h.nd 1 h1
theorem Full.path {S : List (List Nat)} {tb : Nat → Nat → Nat} (h : Full P S tb) (u : List Int) (hu : byt u) : pth P u ∈ S ∧ goT tb u 1 = S.idxOf (pth P u) := by
  obtain ⟨v, hv⟩ : ∃ v, v = u.reverse := ⟨_, rfl⟩
  obtain rfl : u = v.reverse := by rw [hv, List.reverse_reverse]
  clear hv
  induction v with
  | nil => exact ⟨List.mem_of_getElem? h.sts.o, h.sts.idx1.symm⟩
  | cons x v ih =>
    rw [List.reverse_cons] at hu ⊢
    obtain ⟨h1, h2⟩ := ih (fun y hy => hu y (by simp [hy]))
    obtain ⟨b0, b1⟩ := hu x (by simp)
    obtain ⟨g1, g2⟩ := h.kn _ (List.idxOf_lt_length_iff.2 h1) x.toNat (by omega)
    rw [idx_getD h1, Int.toNat_of_nonneg b0, ← pth_snoc] at g1 g2
    refine ⟨g1, ?_⟩
    rw [← g2, ← h2]
    unfold goT
    rw [List.foldl_append]
    rfl
theorem Full.not_many {S : List (List Nat)} {tb : Nat → Nat → Nat} (h : Full P S tb) (hl : S.length ≤ 10000) : ¬ Many P := by
  rintro ⟨l, h1, h2, h3⟩
  have := nodup_sub l S h1 (fun x hx => by
    rcases h3 x hx with rfl | ⟨u, hu, rfl⟩
    · exact List.mem_of_getElem? h.sts.z
    · exact (h.path u hu).1)
  omega

/-! the builder's loops -/
structure InL (P : List Ins) (S : List (List Nat)) (tb : Nat → Nat → Nat) (st sn : List Nat) (s b : Nat) : Prop where
  sts : Sts P S
  s1 : 1 ≤ s
  sl : s < S.length
  stl : ∀ v ∈ st, 1 ≤ v ∧ v < S.length
  snl : ∀ v ∈ sn, v < S.length
  snd : sn.Nodup
  all : ∀ v, 1 ≤ v → v < S.length → v = s ∨ v ∈ st ∨ Known P S tb v
  row : ∀ x, x < b → Stp P S tb s x
  zer : ∀ x, x < 256 → tb 0 x = 0
structure OutL (P : List Ins) (S : List (List Nat)) (tb : Nat → Nat → Nat) (st sn : List Nat) : Prop where
  sts : Sts P S
  stl : ∀ v ∈ st, 1 ≤ v ∧ v < S.length
  snl : ∀ v ∈ sn, v < S.length
  snd : sn.Nodup
  all : ∀ v, 1 ≤ v → v < S.length → v ∈ st ∨ Known P S tb v
  zer : ∀ x, x < 256 → tb 0 x = 0
theorem Stp.put {S : List (List Nat)} {tb tb2 : Nat → Nat → Nat} {v x : Nat} (h : Stp P S tb v x) (hv : v < S.length) (L : List Nat) (ht : tb2 v x = tb v x) : Stp P (rx.put S L) tb2 v x := by
  unfold Stp at h ⊢
  rw [put_getD hv]
  exact ⟨put_sub h.1, by rw [ht, h.2, put_idx h.1]⟩
theorem InL.step {S : List (List Nat)} {tb tb2 : Nat → Nat → Nat} {st sn : List Nat} {s b : Nat} (h : InL P S tb st sn s b) (hb : b < 256) {L : List Nat} (hL : L = st1 P (S.getD s []) b) (ht : tb2 s b = S.idxOf L) (ho : ∀ v x, ¬ (v = s ∧ x = b) → tb2 v x = tb v x) :
    InL P (rx.put S L) tb2 (if S.idxOf L ≠ 0 ∧ S.idxOf L ∉ sn then st ++ [S.idxOf L] else st) (if S.idxOf L ≠ 0 ∧ S.idxOf L ∉ sn then sn ++ [S.idxOf L] else sn) s (b + 1) := by
  subst hL
  have hlen := put_len S (st1 P (S.getD s []) b)
  have hme : S.idxOf (st1 P (S.getD s []) b) < (rx.put S (st1 P (S.getD s []) b)).length := by
    rw [← put_idx_me]
    exact List.idxOf_lt_length_iff.2 (put_me _ _)
  refine ⟨h.sts.put h.sl (by omega) (by omega), h.s1, by have := h.sl; omega, fun v hv => ?_, fun v hv => ?_, ?_, fun v h1 h2 => ?_, fun x hx => ?_, fun x hx => ?_⟩
  · split at hv
    · rename_i hc
      rcases List.mem_append.1 hv with hv | hv
      · have := h.stl v hv; omega
      · rw [List.mem_singleton] at hv; subst hv; have := hc.1; omega
    · have := h.stl v hv; omega
  · split at hv
    · rename_i hc
      rcases List.mem_append.1 hv with hv | hv
      · have := h.snl v hv; omega
      · rw [List.mem_singleton] at hv; subst hv; exact hme
    · have := h.snl v hv; omega
  · split
    · rename_i hc
      refine List.nodup_append.2 ⟨h.snd, by simp, fun a ha c hc2 e => ?_⟩
      rw [List.mem_singleton] at hc2
      subst hc2
      exact hc.2 (e ▸ ha)
    · exact h.snd
  · by_cases hvs : v = s
    · exact .inl hvs
    · right
      by_cases hvl : v < S.length
      · rcases h.all v h1 hvl with e | e | e
        · exact absurd e hvs
        · left
          split
          · simp [e]
          · exact e
        · right
          exact fun x hx => (e x hx).put hvl _ (ho v x (fun g => hvs g.1))
      · left
        have hn : st1 P (S.getD s []) b ∉ S := fun hm => by
          have : rx.put S (st1 P (S.getD s []) b) = S := by unfold rx.put; rw [if_pos hm]
          rw [this] at h2
          exact hvl h2
        have hi : S.idxOf (st1 P (S.getD s []) b) = S.length := List.idxOf_eq_length hn
        have h3 := h.sts.len
        rw [if_pos ⟨by rw [hi]; omega, fun hm => by have := h.snl _ hm; omega⟩, hi]
        have : v = S.length := by omega
        simp [this]
  · by_cases hxb : x = b
    · subst hxb
      unfold Stp
      rw [put_getD h.sl]
      exact ⟨put_me _ _, by rw [ht, put_idx_me]⟩
    · exact (h.row x (by omega)).put h.sl _ (ho s x (fun g => hxb g.2))
  · rw [ho 0 x (fun g => by have := h.s1; omega)]
    exact h.zer x hx
theorem InL.out {S : List (List Nat)} {tb : Nat → Nat → Nat} {st sn : List Nat} {s : Nat} (h : InL P S tb st sn s 256) : OutL P S tb st sn :=
  ⟨h.sts, h.stl, h.snl, h.snd, fun v h1 h2 => by
    rcases h.all v h1 h2 with rfl | e | e
    · exact .inr h.row
    · exact .inl e
    · exact .inr e, h.zer⟩
theorem OutL.pop {S : List (List Nat)} {tb : Nat → Nat → Nat} {st sn : List Nat} {s : Nat} (h : OutL P S tb (st ++ [s]) sn) : InL P S tb st sn s 0 :=
  ⟨h.sts, (h.stl s (by simp)).1, (h.stl s (by simp)).2, fun v hv => h.stl v (by simp [hv]), h.snl, h.snd, fun v h1 h2 => by
    rcases h.all v h1 h2 with e | e
    · rcases List.mem_append.1 e with e | e
      · exact .inr (.inl e)
      · simp at e
        exact .inl e
    · exact .inr (.inr e), fun x hx => by omega, h.zer⟩
theorem OutL.full {S : List (List Nat)} {tb : Nat → Nat → Nat} {sn : List Nat} (h : OutL P S tb [] sn) : Full P S tb :=
  ⟨h.sts, fun v hv => by
    rcases Nat.eq_zero_or_pos v with rfl | h1
    · intro x hx
      unfold Stp
      have e : S.getD 0 [] = [] := by rw [List.getD_eq_getElem?_getD, h.sts.z]; rfl
      rw [e, st1_nil, h.zer x hx]
      refine ⟨List.mem_of_getElem? h.sts.z, ?_⟩
      obtain ⟨g1, g2⟩ := List.getElem?_eq_some_iff.1 h.sts.z
      have := List.Nodup.idxOf_getElem h.sts.nd 0 g1
      rw [g2] at this
      exact this.symm
    · rcases h.all v h1 hv with e | e
      · simp at e
      · exact e⟩

/-! few places: few states -/
/-- all that can be made of letters, none twice -/
def arr : Nat → List Nat → List (List Nat)
  | 0, _ => [[]]
  | k + 1, A => [] :: A.flatMap fun a => (arr k (A.erase a)).map (a :: ·)
theorem arr_mem : ∀ (k : Nat) (A l : List Nat), l.Nodup → (∀ x ∈ l, x ∈ A) → l.length ≤ k → l ∈ arr k A
  | 0, A, l, _, _, h => by
    obtain rfl : l = [] := by cases l; rfl; simp at h
    simp [arr]
  | k + 1, A, [], _, _, _ => by simp [arr]
  | k + 1, A, a :: l, hn, hs, h => by
    have h2 := List.nodup_cons.1 hn
    have := arr_mem k (A.erase a) l h2.2 (fun x hx => (List.mem_erase_of_ne (fun e => h2.1 (by rw [← e]; exact hx))).2 (hs x (by simp [hx]))) (by simpa using h)
    unfold arr
    refine List.mem_cons_of_mem _ (List.mem_flatMap.2 ⟨a, hs a (by simp), List.mem_map.2 ⟨l, this, rfl⟩⟩)
def cnt : Nat → Nat
  | 0 => 1
  | k + 1 => 1 + (k + 1) * cnt k
theorem arr_len : ∀ (k : Nat) (A : List Nat), A.length ≤ k → (arr k A).length ≤ cnt k
  | 0, A, _ => by simp [arr, cnt]
  | k + 1, A, h => by
    unfold arr cnt
    rw [List.length_cons, List.length_flatMap]
    have h1 : (A.map fun a => ((arr k (A.erase a)).map (a :: ·)).length).sum ≤ A.length * cnt k := by
      have : ∀ (B : List Nat), (∀ a ∈ B, a ∈ A) → (B.map fun a => ((arr k (A.erase a)).map (a :: ·)).length).sum ≤ B.length * cnt k := by
        intro B
        induction B with
        | nil => simp
        | cons a B ih =>
          intro hB
          have h3 := ih (fun b hb => hB b (by simp [hb]))
          have h4 := arr_len k (A.erase a) (by rw [List.length_erase_of_mem (hB a (by simp))]; omega)
          simp only [List.map_cons, List.sum_cons, List.length_map, List.length_cons] at h3 ⊢
          rw [Nat.succ_mul]
          omega
      exact this A (fun a h => h)
    have h2 : A.length * cnt k ≤ (k + 1) * cnt k := Nat.mul_le_mul_right _ h
    omega
/-- at most six places that match or take a byte: not too many states -/
theorem few_states (hS : Snd P) (hP : 0 < P.length) (A : List Nat) (hA : A.length ≤ 6) (h : ∀ i, i < P.length → rmB P[i]? = true → i ∈ A) : ¬ Many P := by
  rintro ⟨l, h1, h2, h3⟩
  have h4 := nodup_sub l (arr 6 A) h1 (fun x hx => by
    have hx2 : x.Nodup ∧ ∀ i ∈ x, i ∈ A := by
      rcases h3 x hx with rfl | ⟨u, hu, rfl⟩
      · simp
      · obtain ⟨g1, g2⟩ := pth_mem hS hP u
        exact ⟨g1.nd, fun i hi => h i (g1.lt i hi) ((g2 i).1 hi).2⟩
    exact arr_mem 6 A x hx2.1 hx2.2 (by have := nodup_sub x A hx2.1 hx2.2; omega))
  have h5 := arr_len 6 A hA
  have : cnt 6 = 1957 := rfl
  omega
end
end Go.Proofs.YtbkpgfccghombaaDoor.rx

/-! What is reached without a byte, and behind a byte, as the builder finds it. Conditions: as stated. -/
namespace Go.Proofs.YtbkpgfccghombaaDoor.rx
open Go.ChangeShapes Go.WideShapes Go.ChangeAt Go.RowKit
set_option linter.unusedVariables false
set_option linter.unusedSimpArgs false

/-- a program in memory: pointers to instructions -/
def PrM (w : World) (N : Nat) (a : Option Addr) (P : List Ins) : Prop := ∃ ps : List (Nat × Nat), ps.length = P.length ∧ Sl w N a (ps.map fun x => .pointer (some ⟨x.1, x.2, none⟩)) ∧ ∀ i (h : i < P.length) x, ps[i]? = some x → x.1 < N ∧ ∀ j, j < 6 → w.cell? ⟨x.1, x.2 + j, none⟩ = (insC P[i])[j]?
theorem PrM.below {w w' : World} {N : Nat} {a : Option Addr} {P : List Ins} (h : PrM w N a P) (hb : Below N w w') : PrM w' N a P := by
  obtain ⟨ps, h1, h2, h3⟩ := h
  exact ⟨ps, h1, h2.below hb, fun i hi x hx => ⟨(h3 i hi x hx).1, fun j hj => (hb.cell (p := ⟨x.1, _, none⟩) (h3 i hi x hx).1).trans ((h3 i hi x hx).2 j hj)⟩⟩
theorem PrM.more {w : World} {N N' : Nat} {a : Option Addr} {P : List Ins} (h : PrM w N a P) (hN : N ≤ N') : PrM w N' a P := by
  obtain ⟨ps, h1, h2, h3⟩ := h
  exact ⟨ps, h1, h2.more hN, fun i hi x hx => ⟨Nat.lt_of_lt_of_le (h3 i hi x hx).1 hN, (h3 i hi x hx).2⟩⟩
theorem PrM.at {w : World} {N : Nat} {a : Option Addr} {P : List Ins} (h : PrM w N a P) (i : Nat) (hi : i < P.length) :
    ∃ ad b o, a = some ad ∧ ∀ W, Below N w W → W.cell? (ad.add i) = some (.pointer (some ⟨b, o, none⟩)) ∧ W.cell? ⟨b, o, none⟩ = some (.int .i64 (iop P[i])) ∧ W.cell? ⟨b, o + 1, none⟩ = some (.int .u64 (ito P[i])) ∧ W.cell? ⟨b, o + 2, none⟩ = some (.int .u64 (ia P[i])) ∧ W.cell? ⟨b, o + 3, none⟩ = some (.int .u64 (ib P[i])) ∧ W.cell? ⟨b, o + 4, none⟩ = some (.int .u8 (ilo P[i])) ∧ W.cell? ⟨b, o + 5, none⟩ = some (.int .u8 (ihi P[i])) := by
  obtain ⟨ps, h1, h2, h3⟩ := h
  have hx : ps[i]? = some ps[i] := List.getElem?_eq_getElem (by omega)
  obtain ⟨ad, rfl, hb, hc⟩ := h2 i _ (by rw [List.getElem?_map, hx]; rfl)
  obtain ⟨g1, g2⟩ := h3 i hi _ hx
  rw [insC_is] at g2
  have hk : ∀ k v, k < 6 → w.cell? ⟨ps[i].1, ps[i].2 + k, none⟩ = some v → ∀ W, Below N w W → W.cell? ⟨ps[i].1, ps[i].2 + k, none⟩ = some v := fun k v hk h W hW => (hW.cell (p := ⟨ps[i].1, _, none⟩) g1).trans h
  exact ⟨ad, ps[i].1, ps[i].2, rfl, fun W hW => ⟨(hW.cell (by rw [block_add]; exact hb)).trans hc, hk 0 _ (by omega) (g2 0 (by omega)) W hW, hk 1 _ (by omega) (g2 1 (by omega)) W hW, hk 2 _ (by omega) (g2 2 (by omega)) W hW, hk 3 _ (by omega) (g2 3 (by omega)) W hW, hk 4 _ (by omega) (g2 4 (by omega)) W hW, hk 5 _ (by omega) (g2 5 (by omega)) W hW⟩⟩
/-- the automaton's program -/
structure DfE (w : World) (N F : Nat) (va : Option Addr) (vc : Nat) (P : List Ins) : Prop where
  c : w.cell? ⟨F, 0, none⟩ = some (.slice va P.length vc)
  lt : F < w.heap.size
  ge : N ≤ F
  pr : PrM w N va P
section
variable {w w' : World} {N F : Nat} {va : Option Addr} {vc : Nat} {P : List Ins}
theorem DfE.keep {O : Nat → Prop} (h : DfE w N F va vc P) (hf : Fr O w w') (hF : ¬ O F) (hN : ∀ k, k < N → ¬ O k) : DfE w' N F va vc P :=
  ⟨(fr_cell hf (p := ⟨F, 0, none⟩) h.lt hF).trans h.c, Nat.lt_of_lt_of_le h.lt hf.size, h.ge, h.pr.below (hf.below hN (Nat.le_trans h.ge (Nat.le_of_lt h.lt)))⟩
theorem DfE.set {K : S3} {n : Nat} {l : List Nat} (h : DfE w N F va vc P) (hM : SetM w N n K l) (hf : Fr K.O w w') (hF : ¬ K.O F) : DfE w' N F va vc P :=
  h.keep hf hF (fun k hk hO => by have := (hM.O_lt k hO).1; omega)
theorem DfE.below (h : DfE w N F va vc P) : Below N w w := Below.refl _ _
set_option maxRecDepth 100000 in
set_option maxHeartbeats 3200000 in
theorem dadd_any {K : S3} (hS : Snd P) (hn : P.length ≤ 1000000000000) (hF : ¬ K.O F) : ∀ (k : Nat) (l : List Nat) (i : Nat) (w : World), SetM w N P.length K l → DfE w N F va vc P → Nums P l → i < P.length → P.length + 1 ≤ l.length + k →
    Calls Tryd.prog 61 #[.pointer (some ⟨F, 0, none⟩), .pointer (some ⟨K.S, 0, none⟩), .int .u64 i] w fun e w' => e = .returned (.tuple #[]) ∧ SetM w' N P.length K (addF P k l i) ∧ Fr K.O w w'
  | 0, l, i, w, hM, hE, hN, hi, hk => by have := hN.len; omega
  | k + 1, l, i, w, hM, hE, hN, hi, hk => by
    have CH0 := has_any hM i hi hn
    by_cases hm : i ∈ l
    · rw [decide_eq_true hm] at CH0
      have CH := Lib.hid CH0
      have HM := Lib.hid hM
      have e : addF P (k + 1) l i = l := by unfold addF; rw [if_pos hm]
      rw [e]
      clear CH0 hM hE hN e
      go_enter Tryd.func61, Tryd.ntmps61
      go_wp2_with (first | (go_at_call 76; refine CH.out.mono ?_; rintro e w1 ⟨rfl, rfl⟩) | fail)
      go_returns
      exact ⟨rfl, HM.out, Fr.refl _ _⟩
    · rw [decide_eq_false hm] at CH0
      have CH := Lib.hid CH0
      have hl : l.length < P.length := by
        have := (hN.snoc hi hm).len
        simp at this
        omega
      have CA := Lib.hid (sadd_any hM i hi hm hl hn)
      have HN := Lib.hid (hN.snoc hi hm)
      have HK := Lib.hid (show P.length + 1 ≤ (l ++ [i]).length + k by simp; omega)
      obtain ⟨ad, b, o, hva, hc⟩ := hE.pr.at i hi
      have HC := Lib.hid hc
      have HM := Lib.hid hM
      have HE := Lib.hid hE
      have HS := Lib.hid hS
      have hx : P[i]? = some P[i] := List.getElem?_eq_getElem hi
      have IH := Lib.hid (dadd_any hS hn hF k)
      have HFF := Lib.hid hF
      have HTO := Lib.hid (hS i hi).1
      clear CH0 hM hE hN hc hS hF hl hk
      subst hva
      have eA : addF P (k + 1) l i = match P[i]? with
          | some (.jp t) => addF P k (l ++ [i]) t
          | some (.sp a b) => addF P k (addF P k (l ++ [i]) a) b
          | _ => l ++ [i] := by
        rw [addF, if_neg hm]
        rfl
      rw [eA, hx]
      rw [hx] at HTO
      clear eA hx
      generalize P[i] = x at *
      go_enter Tryd.func61, Tryd.ntmps61
      go_upto_region 2 with (first | (go_at_call 76; refine CH.out.mono ?_; rintro e w1 ⟨rfl, rfl⟩) | (go_at_call 77; refine CA.out.mono ?_; rintro e w2 ⟨rfl, h2, hf2⟩; have H2 := Lib.hid h2; have F2 := Lib.hid hf2; have E2 := Lib.hid (HE.out.set HM.out hf2 HFF.out); have HB2 := hf2.below (fun k hk hO => by have := (HM.out.O_lt k hO).1; omega) (Nat.le_trans HE.out.ge (Nat.le_of_lt HE.out.lt)); obtain ⟨cp, e0, e1, e2, e3, -, -⟩ := HC.out _ HB2; have cF := E2.out.c; clear h2 hf2 HB2 CH CA) | fail)
      cases x with
      | mt =>
        simp only [iop, ito, ia, ib] at e0 e1 e2 e3 ⊢
        go_wp2
        go_returns
        exact ⟨rfl, H2.out, F2.out⟩
      | rg lo hi2 =>
        simp only [iop, ito, ia, ib] at e0 e1 e2 e3 ⊢
        go_wp2
        go_returns
        exact ⟨rfl, H2.out, F2.out⟩
      | jp t =>
        simp only [iop, ito, ia, ib] at e0 e1 e2 e3 ⊢
        have C3 := Lib.hid (IH.out (l ++ [i]) t w2 H2.out E2.out HN.out (HTO.out t (by simp [tos])) HK.out)
        go_wp2_with (first | (go_at_call 61; refine C3.out.mono ?_; rintro e w3 ⟨rfl, h3, hf3⟩; have H3 := Lib.hid (And.intro h3 (F2.out.trans hf3 (fun _ _ e => e))); clear h3 hf3) | fail)
        go_returns
        exact ⟨rfl, H3.out.1, H3.out.2⟩
      | sp s t =>
        simp only [iop, ito, ia, ib] at e0 e1 e2 e3 ⊢
        have hs := HTO.out s (by simp [tos])
        have ht := HTO.out t (by simp [tos])
        have C3 := Lib.hid (IH.out (l ++ [i]) s w2 H2.out E2.out HN.out hs HK.out)
        have A3 := Lib.hid (adds HS.out k (l ++ [i]) s HN.out hs HK.out)
        have K3 := Lib.hid (show P.length + 1 ≤ (addF P k (l ++ [i]) s).length + k by
          obtain ⟨m, hm2⟩ := A3.out.app
          have := HK.out
          rw [hm2, List.length_append]
          omega)
        go_upto_region 7 with (first | (go_at_call 61; refine C3.out.mono ?_; rintro e w3 ⟨rfl, h3, hf3⟩; have H3 := Lib.hid (And.intro h3 (F2.out.trans hf3 (fun _ _ e => e))); have E3 := Lib.hid (E2.out.set H2.out hf3 HFF.out); have HB3 := H3.out.2.below (fun k hk hO => by have := (HM.out.O_lt k hO).1; omega) (Nat.le_trans HE.out.ge (Nat.le_of_lt HE.out.lt)); clear cp e0 e1 e2 e3 cF; obtain ⟨cp, e0, e1, e2, e3, -, -⟩ := HC.out _ HB3; have cF := E3.out.c; clear h3 hf3 HB3 C3) | fail)
        simp only [iop, ito, ia, ib] at e0 e1 e2 e3
        have C4 := Lib.hid (IH.out _ t w3 H3.out.1 E3.out A3.out.nums ht K3.out)
        go_wp2_with (first | (go_at_call 61; refine C4.out.mono ?_; rintro e w4 ⟨rfl, h4, hf4⟩; have H4 := Lib.hid (And.intro h4 (H3.out.2.trans hf4 (fun _ _ e => e))); clear h4 hf4) | fail)
        go_returns
        exact ⟨rfl, H4.out.1, H4.out.2⟩
theorem runF_take (l : List Nat) (x : Int) (i : Nat) (h : i < l.length) : runF P (l.take (i + 1)) x = run1 P x (runF P (l.take i) x) l[i] := by
  unfold runF
  rw [List.take_succ_eq_append_getElem h, List.foldl_append]
  rfl
set_option maxRecDepth 100000 in
set_option maxHeartbeats 3200000 in
theorem drun_any {K K2 : S3} {l l2 : List Nat} (hS : Snd P) (hn : P.length ≤ 1000000000000) (hF : ¬ K2.O F) (hKK : ∀ k, K.O k → ¬ K2.O k) (b : Nat) (hb : b < 256) (hM : SetM w N P.length K l) (hM2 : SetM w N P.length K2 l2) (hE : DfE w N F va vc P) (hN : Nums P l) :
    Calls Tryd.prog 82 #[.pointer (some ⟨F, 0, none⟩), .pointer (some ⟨K.S, 0, none⟩), .pointer (some ⟨K2.S, 0, none⟩), .int .u8 b] w fun e w' => ∃ v, e = .returned v ∧ SetM w' N P.length K2 (runF P l b) ∧ Fr K2.O w w' := by
  have CC := Lib.hid (clear_any hM2)
  have HM := Lib.hid hM
  have HM2 := Lib.hid hM2
  have HE := Lib.hid hE
  have HS := Lib.hid hS
  have HF := Lib.hid hF
  have HKK := Lib.hid hKK
  have HN := Lib.hid hN
  have hll := hM.len
  clear hM hM2 hE hS hF hKK hN
  go_enter Tryd.func82, Tryd.ntmps82
  go_wp2_with (first | (go_at_call 81; refine CC.out.mono ?_; rintro e w1 ⟨rfl, h1, hf1⟩; have H1 := Lib.hid (And.intro h1 hf1); clear h1 hf1 CC) | fail)
  go_loopw [9, 10, 11] (fun v9 v10 v11 wr => ∃ (i : Nat) (m : Bool), i ≤ l.length ∧ v9 = .bool m ∧ v10 = .int .u64 i ∧ Hid (SetM wr N P.length K2 (runF P (l.take i) b) ∧ Fr K2.O w wr)) (fun _ v10 _ _ => l.length - (intOf v10).toNat)
  case atStart => exact ⟨0, false, by omega, rfl, rfl, H1⟩
  case round =>
    obtain ⟨i, m, hi, rfl, rfl, H2⟩ := hrel
    have MF := Lib.hid (HM.out.keep H2.out.2 HKK.out)
    have CL := Lib.hid (len_any MF.out hn)
    by_cases hlt : i < l.length
    · have CG := Lib.hid (get_any MF.out i hlt hn)
      have E2 := Lib.hid (HE.out.set HM2.out H2.out.2 HF.out)
      have hj := HN.out.lt l[i] (List.getElem_mem hlt)
      have HT := Lib.hid (runF_take (P := P) l b i hlt)
      obtain ⟨ad, pb, po, hva, hc⟩ := E2.out.pr.at l[i] hj
      obtain ⟨cp, e0, -, -, -, e4, e5⟩ := hc wr (Below.refl _ _)
      subst hva
      have cF := E2.out.c
      have HX := Lib.hid (show P[l[i]]? = some P[l[i]] from List.getElem?_eq_getElem hj)
      have HTK := Lib.hid (fun (h : tkB b (P[l[i]]?) = true) => tk_lt HS.out h)
      have HR := Lib.hid (show run1 P b (runF P (l.take i) b) l[i] = if tkB b (P[l[i]]?) then addF P (P.length + 1) (runF P (l.take i) b) (l[i] + 1) else runF P (l.take i) b from rfl)
      have CD := Lib.hid (fun (h : tkB b (P[l[i]]?) = true) => dadd_any HS.out hn HF.out (P.length + 1) (runF P (l.take i) b) (l[i] + 1) wr H2.out.1 E2.out (runs_any HS.out (l.take i) b).nums (tk_lt HS.out h) (by omega))
      rw [HX.out] at HR CD HTK
      clear hc
      generalize P[l[i]] = x at *
      generalize l[i] = q at *
      cases x with
      | mt =>
        simp only [iop, ilo, ihi] at e0 e4 e5
        have HR2 := Lib.hid (HT.out.trans HR.out)
        simp only [tkB] at HR2
        go_wp2_with (first | (go_at_call 78; refine CL.out.mono ?_; rintro e w1 ⟨rfl, rfl⟩) | (go_at_call 79; refine CG.out.mono ?_; rintro e w1 ⟨rfl, rfl⟩) | fail)
        go_roundw
        case rel => exact ⟨i + 1, true, by omega, rfl, by go_num, by rw [HR2.out]; exact H2⟩
        case measure => simp [intOf]; omega
      | jp t =>
        simp only [iop, ilo, ihi] at e0 e4 e5
        have HR2 := Lib.hid (HT.out.trans HR.out)
        simp only [tkB] at HR2
        go_wp2_with (first | (go_at_call 78; refine CL.out.mono ?_; rintro e w1 ⟨rfl, rfl⟩) | (go_at_call 79; refine CG.out.mono ?_; rintro e w1 ⟨rfl, rfl⟩) | fail)
        go_roundw
        case rel => exact ⟨i + 1, m, by omega, rfl, by go_num, by rw [HR2.out]; exact H2⟩
        case measure => simp [intOf]; omega
      | sp s t =>
        simp only [iop, ilo, ihi] at e0 e4 e5
        have HR2 := Lib.hid (HT.out.trans HR.out)
        simp only [tkB] at HR2
        go_wp2_with (first | (go_at_call 78; refine CL.out.mono ?_; rintro e w1 ⟨rfl, rfl⟩) | (go_at_call 79; refine CG.out.mono ?_; rintro e w1 ⟨rfl, rfl⟩) | fail)
        go_roundw
        case rel => exact ⟨i + 1, m, by omega, rfl, by go_num, by rw [HR2.out]; exact H2⟩
        case measure => simp [intOf]; omega
      | rg lo hi2 =>
        simp only [iop, ilo, ihi] at e0 e4 e5
        have HR2 := Lib.hid (HT.out.trans HR.out)
        by_cases h1 : lo ≤ (b : Int)
        · by_cases h2 : (b : Int) ≤ hi2
          · have ht : tkB b (some (.rg lo hi2)) = true := by simp [tkB, h1, h2]
            have CDD := Lib.hid (CD.out ht)
            have hq := HTK.out ht
            rw [if_pos ht] at HR2
            rw [show ((q + 1 : Nat) : Int) = (q : Int) + 1 by omega] at CDD
            clear ht
            go_wp2_with (first | (go_at_call 78; refine CL.out.mono ?_; rintro e w1 ⟨rfl, rfl⟩) | (go_at_call 79; refine CG.out.mono ?_; rintro e w1 ⟨rfl, rfl⟩) | (go_at_call 61; refine CDD.out.mono ?_; rintro e w2 ⟨rfl, h2, hf2⟩; have H3 := Lib.hid (And.intro h2 (H2.out.2.trans hf2 (fun _ _ e => e))); clear h2 hf2) | fail)
            go_roundw
            case rel => exact ⟨i + 1, m, by omega, rfl, by go_num, by rw [HR2.out]; exact H3⟩
            case measure => simp [intOf]; omega
          · have ht : ¬ tkB b (some (.rg lo hi2)) = true := by simp [tkB, h2]
            rw [if_neg ht] at HR2
            clear ht
            go_wp2_with (first | (go_at_call 78; refine CL.out.mono ?_; rintro e w1 ⟨rfl, rfl⟩) | (go_at_call 79; refine CG.out.mono ?_; rintro e w1 ⟨rfl, rfl⟩) | fail)
            go_roundw
            case rel => exact ⟨i + 1, m, by omega, rfl, by go_num, by rw [HR2.out]; exact H2⟩
            case measure => simp [intOf]; omega
        · have ht : ¬ tkB b (some (.rg lo hi2)) = true := by simp [tkB, h1]
          rw [if_neg ht] at HR2
          clear ht
          go_wp2_with (first | (go_at_call 78; refine CL.out.mono ?_; rintro e w1 ⟨rfl, rfl⟩) | (go_at_call 79; refine CG.out.mono ?_; rintro e w1 ⟨rfl, rfl⟩) | fail)
          go_roundw
          case rel => exact ⟨i + 1, m, by omega, rfl, by go_num, by rw [HR2.out]; exact H2⟩
          case measure => simp [intOf]; omega
    · obtain rfl : i = l.length := by omega
      rw [List.take_length] at H2
      go_wp2_with (first | (go_at_call 78; refine CL.out.mono ?_; rintro e w1 ⟨rfl, rfl⟩) | fail)
      go_ret
      exact ⟨_, rfl, H2.out.1, H2.out.2⟩
end
end Go.Proofs.YtbkpgfccghombaaDoor.rx

/-! The bytes of a list of numbers, in a row that is used again. Conditions: as stated. -/
namespace Go.Proofs.YtbkpgfccghombaaDoor.rx
open Go.ChangeShapes Go.WideShapes Go.ChangeAt Go.RowKit
set_option linter.unusedVariables false
set_option linter.unusedSimpArgs false

def le8 (n : Int) : List Value := Lib.byteCells (Lib.leBytes 8 n.toNat)
theorem le8_len (n : Int) : (le8 n).length = 8 := by
  simp [le8, Lib.byteCells, Lib.leBytes]
def keyCells (ns : List Int) : List Value := ns.flatMap le8
theorem keyCells_len (ns : List Int) : (keyCells ns).length = ns.length * 8 := flat_len le8 8 le8_len ns

theorem made_one (z : Value) (n : Nat) : (madeCells #[z] n).toList = List.replicate n z := by
  apply List.ext_getElem
  · simp [madeCells]
  · intro i h1 h2
    simp [madeCells, Nat.mod_one]

theorem info5 : (Tryd.prog.info? 5).map (fun i => (i.zero, i.size, i.bytes)) = some (some (.int .u8 0), 1, 1) := by kernel_rfl

theorem keyCells_snoc (ns : List Int) (k : Nat) (h : k < ns.length) : keyCells (ns.take (k + 1)) = keyCells (ns.take k) ++ le8 ns[k] := by
  unfold keyCells
  rw [List.take_succ_eq_append_getElem h, List.flatMap_append]
  simp

def le8i (n : Int) : List Int := (Lib.leBytes 8 n.toNat).map fun b => (b.toNat : Int)
def keyL (ns : List Int) : List Int := ns.flatMap le8i
theorem le8i_len (n : Int) : (le8i n).length = 8 := by simp [le8i, Lib.leBytes]
theorem keyL_map : ∀ (ns : List Int), (keyL ns).map (Value.int .u8) = keyCells ns
  | [] => rfl
  | n :: ns => by
    have h := keyL_map ns
    unfold keyL keyCells at h ⊢
    simp only [List.flatMap_cons, List.map_append, h]
    congr 1
theorem keyL_len (ns : List Int) : (keyL ns).length = ns.length * 8 := by
  have h := congrArg List.length (keyL_map ns)
  rw [List.length_map, keyCells_len] at h
  exact h

def leVal : List Int → Nat
  | [] => 0
  | b :: r => b.toNat + 256 * leVal r
theorem leVal_leBytes : ∀ (k v : Nat), leVal ((Lib.leBytes k v).map fun b => (b.toNat : Int)) = v % 256 ^ k
  | 0, v => by simp [Lib.leBytes, leVal, Nat.mod_one]
  | k + 1, v => by
    simp only [Lib.leBytes, List.map_cons, leVal, leVal_leBytes k (v / 256)]
    have e : ((v % 256).toUInt8.toNat : Int).toNat = v % 256 := by
      rw [Int.toNat_natCast, Lib.toUInt8_mod]
    rw [e, Nat.pow_succ, Nat.mul_comm (256 ^ k) 256, Nat.mod_mul]

theorem le8i_inj (x y : Int) (hx : 0 ≤ x ∧ x ≤ 18446744073709551615) (hy : 0 ≤ y ∧ y ≤ 18446744073709551615) (h : le8i x = le8i y) : x = y := by
  have h2 := congrArg leVal h
  unfold le8i at h2
  rw [leVal_leBytes, leVal_leBytes] at h2
  omega

theorem keyL_inj : ∀ (xs ys : List Int), (∀ z ∈ xs, 0 ≤ z ∧ z ≤ 18446744073709551615) → (∀ z ∈ ys, 0 ≤ z ∧ z ≤ 18446744073709551615) → keyL xs = keyL ys → xs = ys
  | [], [], _, _, _ => rfl
  | [], y :: ys, _, _, h => by
    have := congrArg List.length h
    rw [keyL_len, keyL_len] at this
    simp at this
  | x :: xs, [], _, _, h => by
    have := congrArg List.length h
    rw [keyL_len, keyL_len] at this
    simp at this
  | x :: xs, y :: ys, hx, hy, h => by
    unfold keyL at h
    simp only [List.flatMap_cons] at h
    obtain ⟨h1, h2⟩ := List.append_inj h (by rw [le8i_len, le8i_len])
    rw [le8i_inj x y (hx x (by simp)) (hy y (by simp)) h1, keyL_inj xs ys (fun z hz => hx z (by simp [hz])) (fun z hz => hy z (by simp [hz])) h2]

theorem eight (l : List Value) (h : 8 ≤ l.length) : ∃ x0 x1 x2 x3 x4 x5 x6 x7 r, l = [x0, x1, x2, x3, x4, x5, x6, x7] ++ r := by
  match l, h with
  | x0 :: x1 :: x2 :: x3 :: x4 :: x5 :: x6 :: x7 :: r, _ => exact ⟨x0, x1, x2, x3, x4, x5, x6, x7, r, rfl⟩


def ints (L : List Nat) : List Int := L.map fun (k : Nat) => (k : Int)
theorem natsU_ints (L : List Nat) : natsU L = (ints L).map (.int .u64) := by simp [natsU, ints]
theorem ints_len (L : List Nat) : (ints L).length = L.length := by simp [ints]
/-- a row of the call's own, as a block whole -/
theorem row_parts {w : World} {base : Nat} {e : TypeId} {n c : Nat} {a : Option Addr} {xs : List Value} (h : w.ownsRow base e 1 (.slice a n c) n xs) : (a = none ∧ n = 0 ∧ c = 0) ∨ ∃ g l, a = some ⟨g, 0, none⟩ ∧ base ≤ g ∧ Blk w g e l ∧ l.length = c ∧ n ≤ c ∧ c ≤ maxLen ∧ l.take n = xs := by
  rcases h.2 with ⟨h1, h2⟩ | ⟨g, cap, cur, h1, hb, hg, hn, hc, hs, ht⟩
  · injection h1 with h1 h3 h4
    exact .inl ⟨h1, h2, h4⟩
  · injection h1 with h1 h3 h4
    subst h4
    exact .inr ⟨g, cur.toList, h1, hb, by show w.heap[g]? = _; simpa using hg, by simpa using hs, hn, hc, by simpa using ht⟩
theorem row_mk {w : World} {base : Nat} {e : TypeId} {n c g : Nat} {l xs : List Value} (hb : base ≤ g) (hg : Blk w g e l) (hl : l.length = c) (hn : n ≤ c) (hc : c ≤ maxLen) (ht : l.take n = xs) : w.ownsRow base e 1 (.slice (some ⟨g, 0, none⟩) n c) n xs := by
  refine ⟨?_, .inr ⟨g, c, l.toArray, rfl, hb, hg, hn, hc, by simpa using hl, by simpa using ht⟩⟩
  rw [← ht, List.length_take]
  omega
theorem Fr.setCells {O : Nat → Prop} {a : World} (g : Nat) (hO : O g) : ∀ (vs : List Value) (o : Nat) (w : World), Fr O a w → Fr O a (w.setCells g o vs)
  | [], o, w, h => h
  | v :: vs, o, w, h => Fr.setCells g hO vs (o + 1) (w.setCell ⟨g, o, none⟩ v) (h.set ⟨g, o, none⟩ v hO)
set_option maxRecDepth 100000 in
set_option maxHeartbeats 1600000 in
theorem key_buf (a : Option Addr) (L : List Nat) (c : Nat) (w : World) (N : Nat) (ka : Option Addr) (kn kc : Nat) (ks : List Value) (hl : L.length ≤ 1000000000000) (h0 : 0 < L.length) (hn : ∀ z ∈ L, z ≤ 1000000000000) (hN : N ≤ w.heap.size)
    (hs : SlO w (fun k => isAt ka k) a (natsU L)) (hk : w.ownsRow N 5 1 (.slice ka kn kc) kn ks) :
    Calls Tryd.prog 80 #[.slice a L.length c, .slice ka kn kc] w fun e w' => ∃ g cc, e = .returned (.slice (some ⟨g, 0, none⟩) (8 * L.length) cc) ∧ w'.ownsRow N 5 1 (.slice (some ⟨g, 0, none⟩) (8 * L.length) cc) (8 * L.length) (keyCells (ints L)) ∧ Fr (fun k => isAt ka k) w w' ∧ (isAt ka g ∨ w.heap.size ≤ g) := by
  obtain ⟨ns, hns⟩ : ∃ ns, ns = ints L := ⟨_, rfl⟩
  have hnl : ns.length = L.length := by rw [hns, ints_len]
  rw [natsU_ints, ← hns] at hs
  rw [← hns, ← hnl]
  rw [← hnl] at hl h0
  have hn : ∀ z ∈ ns, 0 ≤ z ∧ z ≤ 1000000000000 := fun z hz => by
    rw [hns] at hz
    obtain ⟨k, hk, rfl⟩ := List.mem_map.1 hz
    have := hn k hk
    omega
  clear hns hnl
  have HS := Lib.hid hs
  have HN := Lib.hid hn
  have HP := Lib.hid (row_parts hk)
  clear hs hn hk
  obtain ⟨i0, hi, hz0, hz1, hz2⟩ := info_parts (show (Tryd.prog.info? 5).map (fun i => (i.zero, i.size, i.bytes)) = some (some (.int .u8 0), 1, 1) by kernel_rfl)
  have hmk : ∀ u : World, (Instr.makeSlice 79 (.int .i64 (8 * (ns.length : Int))) (.int .i64 (8 * (ns.length : Int)))).run Tryd.prog u =
      .ok (.slice (some ⟨u.heap.size, 0, none⟩) (8 * ns.length) (8 * ns.length)) (u.alloc (.cells (madeCells #[.int .u8 0] (8 * ns.length)) 5)) := fun u => by
    have h := run_make (P := Tryd.prog) u 79 5 i0 (.int .u8 0) Tryd.underlying79 hi hz0 .i64 .i64 (8 * (ns.length : Int)) (8 * (ns.length : Int)) (by omega) (Int.le_refl _) (by rw [hz2]; omega) (by omega)
    have e : (8 * (ns.length : Int)).toNat = 8 * ns.length := by omega
    rw [e] at h
    simpa [hz1, Value.cells] using h
  have hd0 : (0 : Int) < 8 * (ns.length : Int) := by omega
  have HNEW := Lib.hid (show ∀ u : World, Blk (u.alloc (.cells (madeCells #[.int .u8 0] (8 * ns.length)) 5)) u.heap.size 5 (List.replicate (8 * ns.length) (.int .u8 0)) from fun u => by
    have h := Blk.new u 5 (madeCells #[.int .u8 0] (8 * ns.length)).toList
    rw [made_one] at h
    rw [show (madeCells #[Value.int IntKind.u8 0] (8 * ns.length)) = (List.replicate (8 * ns.length) (Value.int IntKind.u8 0)).toArray by rw [← made_one]]
    exact h)
  go_enter Tryd.func80, Tryd.ntmps80
  go_upto_if 12 with fail
  go_cut [1] (fun v1 wx => ∃ g cc l0, v1 = .slice (some ⟨g, 0, none⟩) (8 * ns.length) cc ∧ 8 * ns.length ≤ cc ∧ cc ≤ maxLen ∧ Hid (Blk wx g 5 l0 ∧ List.length l0 = cc ∧ N ≤ g ∧ Fr (fun k => isAt ka k) w wx ∧ (isAt ka g ∨ w.heap.size ≤ g)))
  case first =>
    rcases HP.out with ⟨rfl, rfl, rfl⟩ | ⟨g, l, rfl, hg, hb, hlc, hnc, hcm, -⟩
    · go_wp2
      go_meet
      exact ⟨_, _, _, rfl, Nat.le_refl _, by unfold maxLen; omega, Lib.hid ⟨HNEW.out w, by simp, hN, (Fr.refl _ _).alloc _, .inr (Nat.le_refl _)⟩⟩
    · have HB := Lib.hid hb
      have HG := Lib.hid hg
      clear hb hg
      by_cases hc8 : (kc : Int) < 8 * (ns.length : Int)
      · go_wp2
        go_meet
        exact ⟨_, _, _, rfl, Nat.le_refl _, by unfold maxLen; omega, Lib.hid ⟨HNEW.out w, by simp, hN, (Fr.refl _ _).alloc _, .inr (Nat.le_refl _)⟩⟩
      · have hc9 : 8 * (ns.length : Int) ≤ (kc : Int) := by omega
        have h80 : (0 : Int) ≤ 8 * (ns.length : Int) := by omega
        have ht8 : (8 * (ns.length : Int)).toNat = 8 * ns.length := by omega
        go_wp2
        go_meet
        exact ⟨_, _, _, rfl, by omega, hcm, Lib.hid ⟨HB.out, hlc, HG.out, Fr.refl _ _, .inl ⟨_, rfl, rfl⟩⟩⟩
  case rest =>
  rename World => w1
  obtain ⟨g, cc, l0, rfl, hcc, hcm, H1⟩ := hcut
  clear hmk
  have HS1 := Lib.hid (show SlO w1 (fun q => q = g) a (ns.map (.int .u64)) from by
    refine HS.out.go H1.out.2.2.2.1 ?_
    rintro k rfl
    exact H1.out.2.2.2.2)
  go_upto_region 4 with fail
  go_wp2_with fail
  go_loopw [5, 6, 24] (fun _ _ k wr => ∃ (n : Nat) (l : List Value), n ≤ ns.length ∧ k = .int .i64 n ∧ l.length + 8 * n = cc ∧ Hid (Blk wr g 5 (keyCells (ns.take n) ++ l) ∧ Fr (fun q => q = g) w1 wr)) (fun _ _ k _ => ns.length - (intOf k).toNat)
  case atStart => exact ⟨0, l0, by omega, rfl, by have := H1.out.2.1; omega, Lib.hid ⟨H1.out.1, Fr.refl _ _⟩⟩
  case round =>
    obtain ⟨n, l, hnn, rfl, hll, H2⟩ := hrel
    by_cases hlt : n < ns.length
    · obtain ⟨ad, had, -, -, hc0⟩ := (HS1.out.go H2.out.2 (fun _ e => .inl e)) n (.int .u64 ns[n]) (by rw [List.getElem?_map, List.getElem?_eq_getElem hlt]; rfl)
      subst had
      have hzn := HN.out ns[n] (List.getElem_mem hlt)
      have HK := Lib.hid (keyCells_snoc ns n hlt)
      generalize ns[n] = z at *
      obtain ⟨v, rfl⟩ := Int.eq_ofNat_of_zero_le hzn.1
      obtain ⟨x0, x1, x2, x3, x4, x5, x6, x7, r, rfl⟩ := eight l (by omega)
      have hkl := keyCells_len (ns.take n)
      have htl : (ns.take n).length = n := List.length_take_of_le hnn
      rw [htl] at hkl
      have HKL := Lib.hid hkl
      have hC : ∀ j u, ([x0, x1, x2, x3, x4, x5, x6, x7] ++ r)[j]? = some u → wr.drew.cell? ⟨g, n * 8 + j, none⟩ = some u := fun j u hu => by
        have h := (H2.out.1.drew).cell (n * 8 + j)
        rw [h, List.getElem?_append_right (by omega), hkl, show n * 8 + j - n * 8 = j by omega]
        exact hu
      have hB := H2.out.1.drew
      have C := Lib.hid (Tryd.binary_LE_PutUint64 g (n * 8) (8 * ns.length - n * 8) (cc - n * 8) v (by omega) x0 x1 x2 x3 x4 x5 x6 x7 wr.drew (by omega) (hC 0 _ rfl) (hC 1 _ rfl) (hC 2 _ rfl) (hC 3 _ rfl) (hC 4 _ rfl) (hC 5 _ rfl) (hC 6 _ rfl) (hC 7 _ rfl)
        (hB.frozen _) (hB.frozen _) (hB.frozen _) (hB.frozen _) (hB.frozen _) (hB.frozen _) (hB.frozen _) (hB.frozen _))
      clear hC htl hkl hB
      have hb0 : (0 : Int) ≤ (n : Int) * 8 := by omega
      have hb1 : (n : Int) * 8 < 8 * (ns.length : Int) := by omega
      have hb2 : IntKind.i64.wrap ((n : Int) * 8) = (n : Int) * 8 := by rw [IntKind.wrap_i64]; omega
      have hb3 : ((n : Int) * 8).toNat = n * 8 := by omega
      have hb4 : ¬ (cc = n * 8) := by omega
      have hb5 : (n : Int) * 8 ≤ 8 * (ns.length : Int) := by omega
      go_wp2_with fail
      refine wp_region_still_tail 6 (by kernel_rfl) (by kernel_rfl) ?_
      simp only [List.take_succ_cons, List.take_zero, List.drop_succ_cons, List.drop_zero]
      change wpStill _ _ (World.drew _) _ _ _
      repeat still_step
      refine wpStill_nil ?_
      change wpList _ _ _ _ _ (World.drew _)
      go_wp2_with fail
      refine C.out.mono ?_
      rintro e w2 ⟨rfl, hw2⟩
      have hlen8 : (Lib.byteCells (Lib.leBytes 8 v)).length = 8 := by simp [Lib.byteCells, Lib.leBytes]
      have HB2 := Lib.hid (show Blk w2 g 5 (keyCells (ns.take (n + 1)) ++ r) ∧ Fr (fun q => q = g) w1 w2 from by
        rw [hw2, HK.out]
        have h := Blk.setCells (w := wr.drew.alloc (.cells #[] 198)) (vs := Lib.byteCells (Lib.leBytes 8 v)) (pre := keyCells (ns.take n)) (old := [x0, x1, x2, x3, x4, x5, x6, x7]) (post := r) (by rw [List.append_assoc]; exact H2.out.1.drew.alloc (.cells #[] 198)) (by rw [hlen8]; rfl)
        rw [HKL.out] at h
        exact ⟨h, Fr.setCells (O := fun q => q = g) g rfl _ _ _ (H2.out.2.drew.alloc _)⟩)
      have HR := Lib.hid hll
      clear hw2 hll hlen8 C
      go_wp2
      go_roundw
      case rel => exact ⟨n + 1, r, by omega, by go_num, by have := HR.out; simp at this; omega, HB2⟩
      case measure => simp [intOf]; omega
    · obtain rfl : n = ns.length := by omega
      have HE := Lib.hid (show wr.ownsRow N 5 1 (.slice (some ⟨g, 0, none⟩) (8 * ns.length) cc) (8 * ns.length) (keyCells ns) ∧ Fr (fun k => isAt ka k) w wr from by
        have hb := H2.out.1
        rw [List.take_length] at hb
        have hkl := keyCells_len ns
        refine ⟨row_mk H1.out.2.2.1 hb (by rw [List.length_append, hkl]; omega) hcc hcm ?_, H1.out.2.2.2.1.go H2.out.2 (fun k _ e => by rw [e]; exact H1.out.2.2.2.2)⟩
        rw [List.take_append_of_le_length (by omega), List.take_of_length_le (by omega)])
      go_wp2
      go_ret
      exact ⟨g, cc, rfl, HE.out.1, HE.out.2, H1.out.2.2.2.2⟩
end Go.Proofs.YtbkpgfccghombaaDoor.rx

/-! The builder of an automaton in memory. Conditions: as stated. -/
namespace Go.Proofs.YtbkpgfccghombaaDoor.rx
open Go.ChangeShapes Go.WideShapes Go.ChangeAt Go.RowKit
set_option linter.unusedVariables false
set_option linter.unusedSimpArgs false

/-! the bytes of a list of numbers -/
def kby (L : List Nat) : List UInt8 := L.flatMap (Lib.leBytes 8 ·)
theorem keyCells_kby : ∀ (L : List Nat), keyCells (ints L) = Lib.byteCells (kby L)
  | [] => rfl
  | k :: L => by
    have h := keyCells_kby L
    unfold keyCells ints kby le8 Lib.byteCells at h ⊢
    simp only [List.map_cons, List.flatMap_cons, List.map_append, h]
    rfl
theorem kby_len (L : List Nat) : (kby L).length = 8 * L.length := by
  have h := congrArg List.length (keyCells_kby L)
  rw [keyCells_len, ints_len] at h
  simp [Lib.byteCells] at h
  omega
theorem byteCells_inj : ∀ {a b : List UInt8}, Lib.byteCells a = Lib.byteCells b → a = b
  | [], [], _ => rfl
  | [], _ :: _, h => by simp [Lib.byteCells] at h
  | _ :: _, [], h => by simp [Lib.byteCells] at h
  | x :: a, y :: b, h => by
    simp only [Lib.byteCells, List.map_cons, List.cons.injEq, Value.int.injEq, true_and] at h
    have h1 : x.toNat = y.toNat := by have := h.1; omega
    rw [byteCells_inj (a := a) (b := b) h.2, UInt8.toNat_inj.1 h1]
theorem map_u8_inj : ∀ {a b : List Int}, a.map (Value.int .u8) = b.map (Value.int .u8) → a = b
  | [], [], _ => rfl
  | [], _ :: _, h => by simp at h
  | _ :: _, [], h => by simp at h
  | x :: a, y :: b, h => by
    simp only [List.map_cons, List.cons.injEq, Value.int.injEq, true_and] at h
    rw [map_u8_inj h.2, h.1]
theorem ints_inj : ∀ {a b : List Nat}, ints a = ints b → a = b
  | [], [], _ => rfl
  | [], _ :: _, h => by simp [ints] at h
  | _ :: _, [], h => by simp [ints] at h
  | x :: a, y :: b, h => by
    simp only [ints, List.map_cons, List.cons.injEq] at h
    rw [ints_inj (a := a) (b := b) h.2]
    congr 1
    omega
theorem kby_inj {a b : List Nat} (ha : ∀ z ∈ a, z ≤ 1000000000000) (hb : ∀ z ∈ b, z ≤ 1000000000000) (h : kby a = kby b) : a = b := by
  have hb' : ∀ {l : List Nat}, (∀ z ∈ l, z ≤ 1000000000000) → ∀ z ∈ ints l, 0 ≤ z ∧ z ≤ 18446744073709551615 := fun h z hz => by
    obtain ⟨k, hk, rfl⟩ := List.mem_map.1 hz
    have := h k hk
    omega
  refine ints_inj (keyL_inj _ _ (hb' ha) (hb' hb) (map_u8_inj ?_))
  rw [keyL_map, keyL_map, keyCells_kby, keyCells_kby, h]
theorem kstr_ok (L : List Nat) (h : L.length ≤ 1000000000000) : (⟨(kby L).toArray⟩ : ByteArray).size ≤ maxLen := by
  show (kby L).toArray.size ≤ maxLen
  rw [List.size_toArray, kby_len]
  unfold maxLen
  omega
theorem keyed_s : Maps.Keyed Tryd.prog 9 := Maps.string_keyed Tryd.underlying9
theorem key_of (L : List Nat) (h : L.length ≤ 1000000000000) : keyOf Tryd.prog 9 (.string ⟨(kby L).toArray⟩) = some (.string (kby L)) :=
  keyOf_of_mapKey (by
    unfold mapKey
    rw [Tryd.underlying9]
    simp only
    rw [if_pos (kstr_ok L h)])
theorem key_lit (L : List Nat) (h : L.length ≤ 1000000000000) : WideAt.IsKeyLit (.string (kby L)) := keyed_s.key (key_of L h)

/-- the map from the bytes of states' places to their numbers -/
structure MapOk (D : DataW Unit) (S : List (List Nat)) : Prop where
  has : ∀ L : List Nat, L.length ≤ 1000000000000 → (∀ z ∈ L, z ≤ 1000000000000) → L ≠ [] → Maps.has D (.string (kby L)) = decide (L ∈ S)
  at_ : ∀ L ∈ S, L ≠ [] → ∀ z, D.atKey (.string (kby L)) z = .lit (.int .i64 (S.idxOf L : Nat))
  small : ∀ L ∈ S, L.length ≤ 1000000000000 ∧ ∀ z ∈ L, z ≤ 1000000000000
theorem mapOk_new : MapOk (.map []) [[]] :=
  ⟨fun L h1 h2 h3 => by rw [decide_eq_false (by simpa using h3)]; rfl, fun L h h2 => absurd (by simpa using h) h2, fun L h => by
    simp only [List.mem_singleton] at h
    subst h
    simp⟩
theorem MapOk.put {D : DataW Unit} {S : List (List Nat)} (h : MapOk D S) (hD : Maps.IsMap D) {L : List Nat} (hn : L ∉ S) (h0 : L ≠ []) (h1 : L.length ≤ 1000000000000) (h2 : ∀ z ∈ L, z ≤ 1000000000000) :
    MapOk (D.put (.string (kby L)) (.lit (.int .i64 (S.length : Nat)))) (S ++ [L]) := by
  refine ⟨fun M g1 g2 g3 => ?_, fun M hM g3 z => ?_, fun M hM => ?_⟩
  · by_cases e : M = L
    · subst e
      rw [Maps.has_put_same hD (key_lit M h1), decide_eq_true (by simp)]
    · rw [Maps.has_put_other (fun g => e (by injection g with g; exact kby_inj g2 h2 g)), h.has M g1 g2 g3]
      congr 1
      simp [e]
  · rcases List.mem_append.1 hM with hM | hM
    · have hne : M ≠ L := fun e => hn (e ▸ hM)
      obtain ⟨g1, g2⟩ := h.small M hM
      rw [Maps.atKey_put_other (fun g => hne (by injection g with g; exact kby_inj g2 h2 g)), h.at_ M hM g3, List.idxOf_append, if_pos hM]
    · rw [List.mem_singleton] at hM
      subst hM
      rw [Maps.atKey_put_same hD (key_lit M h1), List.idxOf_append, if_neg hn, List.idxOf_cons_self, Nat.zero_add]
  · rcases List.mem_append.1 hM with hM | hM
    · exact h.small M hM
    · rw [List.mem_singleton] at hM
      subst hM
      exact ⟨h1, h2⟩

/-! the builder -/
structure SR where
  ia : Option Addr
  ic : Nat
  nb : Nat
structure DK where
  B : Nat
  F : Nat
  M : Nat
  va : Option Addr
  vc : Nat
  sa : Option Addr
  sc : Nat
  kb : Option Addr
  kn : Nat
  kc : Nat
  recs : List SR
def DK.O (K : DK) (k : Nat) : Prop := k = K.B ∨ k = K.F ∨ k = K.M ∨ isAt K.sa k ∨ isAt K.kb k ∨ ∃ r ∈ K.recs, r.nb = k ∨ isAt r.ia k
def mtD : Option Ins → Bool
  | some .mt => true
  | _ => false
def stC (P : List Ins) (x : SR × List Nat) : List Value := [.slice x.1.ia x.2.length x.1.ic, .slice (some ⟨x.1.nb, 0, none⟩) 256 256, .bool (x.2.any fun i => mtD P[i]?)]
theorem stC_len (P : List Ins) (x : SR × List Nat) : (stC P x).length = 3 := rfl
def tbl (tb : Nat → Nat → Nat) (v : Nat) : List Value := (List.range 256).map fun x => .int .i64 (tb v x : Nat)
/-- S: the states; Sm: those of them that the map has -/
structure DG (w : World) (N : Nat) (K : DK) (P : List Ins) (S Sm : List (List Nat)) (tb : Nat → Nat → Nat) : Prop where
  b : Blk w K.B 139 [.pointer (some ⟨K.F, 0, none⟩), .map (some K.M), .slice K.kb K.kn K.kc]
  f : Blk w K.F 136 [.slice K.va P.length K.vc, .slice K.sa S.length K.sc]
  rl : K.recs.length = S.length
  row : w.ownsRow N 142 3 (.slice K.sa S.length K.sc) S.length ((K.recs.zip S).flatMap (stC P))
  nx : ∀ v (h : v < K.recs.length), Blk w K.recs[v].nb 3 (tbl tb v)
  nd : (K.recs.map (·.nb)).Nodup
  nB : ∀ r ∈ K.recs, N ≤ r.nb
  ins : ∀ v (h : v < K.recs.length) (h2 : v < S.length), w.ownsRow N 33 1 (.slice K.recs[v].ia S[v].length K.recs[v].ic) S[v].length (natsU S[v])
  key : ∃ ks, w.ownsRow N 5 1 (.slice K.kb K.kn K.kc) K.kn ks
  map : ∃ D n, w.ownsMap Tryd.prog 9 (plainElem Tryd.prog 3) K.M n D ∧ MapOk D Sm ∧ n ≤ Sm.length
  pr : PrM w N K.va P
  tz : ∀ v x, S.length ≤ v → tb v x = 0
  bB : N ≤ K.B
  fB : N ≤ K.F
  mB : N ≤ K.M
  hN : N ≤ w.heap.size
abbrev DM (w : World) (N : Nat) (K : DK) (P : List Ins) (S : List (List Nat)) (tb : Nat → Nat → Nat) : Prop := DG w N K P S S tb
section
variable {w w' : World} {N : Nat} {K : DK} {P : List Ins} {S Sm : List (List Nat)} {tb : Nat → Nat → Nat}
theorem own_map_keep {H : Type} {k : TypeId} {R : Value → Option (DataW H × List MemPlace)} {b n : Nat} {D : DataW H} (h : w.ownsMap Tryd.prog k R b n D) (hb : w'.heap[b]? = w.heap[b]?) : w'.ownsMap Tryd.prog k R b n D := by
  obtain ⟨es, c, h1, h2⟩ := h
  exact ⟨es, c, hb.trans h1, h2⟩
theorem fr_map {O : Nat → Prop} {H : Type} {k : TypeId} {R : Value → Option (DataW H × List MemPlace)} {b n : Nat} {D : DataW H} (hf : Fr O w w') (h : w.ownsMap Tryd.prog k R b n D) (hO : ¬ O b) : w'.ownsMap Tryd.prog k R b n D := by
  have hl := h.lt
  exact own_map_keep h (hf.block b hl hO)
theorem fr_row {O : Nat → Prop} {base : Nat} {e : TypeId} {sz n c m : Nat} {a : Option Addr} {xs : List Value} (hf : Fr O w w') (h : w.ownsRow base e sz (.slice a n c) m xs) (hO : ∀ k, isAt a k → ¬ O k) : w'.ownsRow base e sz (.slice a n c) m xs :=
  hf.own h (fun k hk => hO k (own_isAt.1 hk))
theorem DG.keep {O : Nat → Prop} (h : DG w N K P S Sm tb) (hf : Fr O w w') (hO : ∀ k, K.O k → ¬ O k) (hN : ∀ k, k < N → ¬ O k) : DG w' N K P S Sm tb := by
  obtain ⟨ks, hk⟩ := h.key
  obtain ⟨D, n, hm, h1, h2⟩ := h.map
  exact { b := hf.blk h.b (hO _ (.inl rfl)), f := hf.blk h.f (hO _ (.inr (.inl rfl))), rl := h.rl, row := fr_row hf h.row (fun k e => hO k (.inr (.inr (.inr (.inl e))))),
          nx := fun v hv => hf.blk (h.nx v hv) (hO _ (.inr (.inr (.inr (.inr (.inr ⟨_, List.getElem_mem hv, .inl rfl⟩)))))), nd := h.nd, nB := h.nB,
          ins := fun v hv h2 => fr_row hf (h.ins v hv h2) (fun k e => hO k (.inr (.inr (.inr (.inr (.inr ⟨_, List.getElem_mem hv, .inr e⟩)))))),
          key := ⟨ks, fr_row hf hk (fun k e => hO k (.inr (.inr (.inr (.inr (.inl e))))))⟩, map := ⟨D, n, fr_map hf hm (hO _ (.inr (.inr (.inl rfl)))), h1, h2⟩,
          pr := h.pr.below (hf.below hN h.hN), tz := h.tz, bB := h.bB, fB := h.fB, mB := h.mB, hN := Nat.le_trans h.hN hf.size }
theorem DG.new (h : DG w N K P S Sm tb) (hb : Below w.heap.size w w') : DG w' N K P S Sm tb := h.keep (Fr.of_below hb) (fun _ _ e => e) (fun _ _ e => e)
theorem DG.O_lt (h : DG w N K P S Sm tb) : ∀ k, K.O k → N ≤ k ∧ k < w.heap.size := by
  obtain ⟨ks, hk⟩ := h.key
  obtain ⟨D, n, hm, -, -⟩ := h.map
  rintro k (rfl | rfl | rfl | e | e | ⟨r, hr, rfl | e⟩)
  · exact ⟨h.bB, h.b.lt⟩
  · exact ⟨h.fB, h.f.lt⟩
  · exact ⟨h.mB, hm.lt⟩
  · exact ⟨own_block_ge h.row k (own_isAt.2 e), own_block_lt h.row k (own_isAt.2 e)⟩
  · exact ⟨own_block_ge hk k (own_isAt.2 e), own_block_lt hk k (own_isAt.2 e)⟩
  · obtain ⟨v, hv, rfl⟩ := List.getElem_of_mem hr
    exact ⟨h.nB _ hr, (h.nx v hv).lt⟩
  · obtain ⟨v, hv, rfl⟩ := List.getElem_of_mem hr
    have h2 := h.ins v hv (by rw [← h.rl]; exact hv)
    exact ⟨own_block_ge h2 k (own_isAt.2 e), own_block_lt h2 k (own_isAt.2 e)⟩
/-- the automaton's program -/
theorem DG.env (h : DG w N K P S Sm tb) : DfE w N K.F K.va K.vc P := ⟨h.f.cell 0, h.f.lt, h.fB, h.pr⟩
theorem DG.cells (h : DG w N K P S Sm tb) : w.cell? ⟨K.B, 0, none⟩ = some (.pointer (some ⟨K.F, 0, none⟩)) ∧ w.cell? ⟨K.B, 1, none⟩ = some (.map (some K.M)) ∧ w.cell? ⟨K.B, 2, none⟩ = some (.slice K.kb K.kn K.kc) ∧
    w.cell? ⟨K.F, 0, none⟩ = some (.slice K.va P.length K.vc) ∧ w.cell? ⟨K.F, 1, none⟩ = some (.slice K.sa S.length K.sc) := ⟨h.b.cell 0, h.b.cell 1, h.b.cell 2, h.f.cell 0, h.f.cell 1⟩
/-- a block of another type is none of the row's -/
theorem row_ne {base : Nat} {e t : TypeId} {sz n c m g : Nat} {a : Option Addr} {xs l : List Value} (h : w.ownsRow base e sz (.slice a n c) m xs) (hb : Blk w g t l) (hne : e ≠ t) : ¬ isAt a g := fun he => row_blk h hb hne (own_isAt.2 he)
theorem rows_ne {b1 b2 : Nat} {e1 e2 : TypeId} {s1 s2 n1 n2 c1 c2 m1 m2 : Nat} {a1 a2 : Option Addr} {x1 x2 : List Value} (h1 : w.ownsRow b1 e1 s1 (.slice a1 n1 c1) m1 x1) (h2 : w.ownsRow b2 e2 s2 (.slice a2 n2 c2) m2 x2) (hne : e1 ≠ e2) (k : Nat) (h : isAt a1 k) : ¬ isAt a2 k := fun h' => rows_apart h1 h2 hne k (own_isAt.2 h) (own_isAt.2 h')
theorem map_ne {H : Type} {kt : TypeId} {R : Value → Option (DataW H × List MemPlace)} {b n g : Nat} {D : DataW H} {t : TypeId} {l : List Value} (h : w.ownsMap Tryd.prog kt R b n D) (hb : Blk w g t l) : b ≠ g := by
  rintro rfl
  obtain ⟨es, c, h1, -⟩ := h
  unfold Blk at hb
  rw [h1] at hb
  cases hb
theorem map_row_ne {H : Type} {kt : TypeId} {R : Value → Option (DataW H × List MemPlace)} {b n : Nat} {D : DataW H} {base : Nat} {e : TypeId} {sz m c m' : Nat} {a : Option Addr} {xs : List Value} (h : w.ownsMap Tryd.prog kt R b n D) (h2 : w.ownsRow base e sz (.slice a m c) m' xs) : ¬ isAt a b := by
  rintro ⟨ad, rfl, he⟩
  obtain ⟨es, cl, h1, -⟩ := h
  rcases h2.2 with ⟨h3, -⟩ | ⟨g, cap, cur, h3, -, hg, -⟩
  · simp at h3
  · injection h3 with h3 h4 h5
    injection h3 with h3
    subst h3
    simp only at he
    subst he
    rw [h1] at hg
    cases hg
/-- the bytes have been laid: where they lie now -/
theorem DG.rekey (h : DG w N K P S Sm tb) {w5 : World} {g n c : Nat} {ks : List Value} (hf : Fr (fun k => isAt K.kb k) w w5) (hk : w5.ownsRow N 5 1 (.slice (some ⟨g, 0, none⟩) n c) n ks) (hg : isAt K.kb g ∨ w.heap.size ≤ g) :
    DG (w5.setCell ⟨K.B, 2, none⟩ (.slice (some ⟨g, 0, none⟩) n c)) N { K with kb := some ⟨g, 0, none⟩, kn := n, kc := c } P S Sm tb := by
  obtain ⟨ks0, hk0⟩ := h.key
  obtain ⟨D, m, hm, h1, h2⟩ := h.map
  have fr : Fr (fun k => isAt K.kb k ∨ k = K.B) w (w5.setCell ⟨K.B, 2, none⟩ (.slice (some ⟨g, 0, none⟩) n c)) := (hf.mono (fun k _ e => .inl e)).set _ _ (.inr rfl)
  have bB := row_ne hk0 h.b (by decide)
  have hb5 := hf.blk h.b bB
  have far : ∀ {g' : Nat} {t : TypeId} {l : List Value}, Blk w g' t l → t ≠ 5 → t ≠ 139 → ¬ (isAt K.kb g' ∨ g' = K.B) := fun hb ht ht2 e => by
    rcases e with e | e
    · exact row_ne hk0 hb (fun e => ht e.symm) e
    · exact hb.ne_ h.b ht2 e
  have farR : ∀ {b2 : Nat} {e2 : TypeId} {s2 n2 c2 m2 : Nat} {a2 : Option Addr} {x2 : List Value}, w.ownsRow b2 e2 s2 (.slice a2 n2 c2) m2 x2 → e2 ≠ 5 → e2 ≠ 139 → ∀ k, isAt a2 k → ¬ (isAt K.kb k ∨ k = K.B) := fun hr ht ht2 k e e' => by
    rcases e' with e' | rfl
    · exact rows_ne hr hk0 ht k e e'
    · exact row_ne hr h.b ht2 e
  have hlow : ∀ k, k < N → ¬ (isAt K.kb k ∨ k = K.B) := fun k hk e => by
    rcases e with e | rfl
    · have := own_block_ge hk0 k (own_isAt.2 e); omega
    · have := h.bB; omega
  refine { b := hb5.set_ 2 _, f := fr.blk h.f (far h.f (by decide) (by decide)), rl := h.rl, row := fr_row fr h.row (farR h.row (by decide) (by decide)),
           nx := fun v hv => fr.blk (h.nx v hv) (far (h.nx v hv) (by decide) (by decide)), nd := h.nd, nB := h.nB,
           ins := fun v hv h2 => fr_row fr (h.ins v hv h2) (farR (h.ins v hv h2) (by decide) (by decide)),
           key := ⟨ks, own_far hk _ _ ?_⟩, map := ⟨D, m, fr_map fr hm (fun e => ?_), h1, h2⟩, pr := h.pr.below (fr.below hlow h.hN), tz := h.tz, bB := h.bB, fB := h.fB, mB := h.mB, hN := Nat.le_trans h.hN fr.size }
  · intro e
    exact row_blk hk hb5 (by decide) e
  · rcases e with e | e
    · exact map_row_ne hm hk0 e
    · exact map_ne hm h.b e
end
end Go.Proofs.YtbkpgfccghombaaDoor.rx

/-! The builder of an automaton: a state more. Conditions: as stated. -/
namespace Go.Proofs.YtbkpgfccghombaaDoor.rx
open Go.ChangeShapes Go.WideShapes Go.ChangeAt Go.RowKit
set_option linter.unusedVariables false
set_option linter.unusedSimpArgs false

section
variable {w w' : World} {N : Nat} {K : DK} {P : List Ins} {S Sm : List (List Nat)} {tb : Nat → Nat → Nat}
def next0 : List Value := List.replicate 256 (.int .i64 0)
theorem tbl_zero {v : Nat} (h : ∀ x, tb v x = 0) : tbl tb v = next0 := by
  unfold tbl next0
  rw [show (fun x : Nat => Value.int .i64 ((tb v x : Nat) : Int)) = fun _ => Value.int .i64 0 from funext fun x => by rw [h x]; rfl, List.map_const', List.length_range]
/-- a state more: its places, its steps, none of them known -/
theorem DG.push (h : DG w N K P S Sm tb) {L : List Nat} {a8 : Option Addr} {c8 g c : Nat} {w3 : World} (ho : w.ownsRow N 33 1 (.slice a8 L.length c8) L.length (natsU L))
    (h3 : w3.ownsRow N 142 3 (.slice (some ⟨g, 0, none⟩) (S.length + 1) c) (S.length + 1) ((K.recs.zip S).flatMap (stC P) ++ stC P (⟨a8, c8, w.heap.size⟩, L)))
    (hg : (w.alloc (.cells next0.toArray 3)).grownBy w3 (Value.slice K.sa S.length K.sc).ownBlock) :
    DG (w3.setCell ⟨K.F, 1, none⟩ (.slice (some ⟨g, 0, none⟩) (S.length + 1) c)) N { K with sa := some ⟨g, 0, none⟩, sc := c, recs := K.recs ++ [⟨a8, c8, w.heap.size⟩] } P (S ++ [L]) Sm tb ∧
    Fr (fun k => isAt K.sa k ∨ k = K.F) w (w3.setCell ⟨K.F, 1, none⟩ (.slice (some ⟨g, 0, none⟩) (S.length + 1) c)) := by
  obtain ⟨ks, hk⟩ := h.key
  obtain ⟨D, m, hm, h1, h2⟩ := h.map
  have f1 : Fr (fun k => isAt K.sa k) w (w.alloc (.cells next0.toArray 3)) := (Fr.refl _ _).alloc _
  have f3 : Fr (fun k => isAt K.sa k) w w3 := f1.trans (Fr.of_grown (O := fun k => isAt K.sa k) hg (fun k e => own_isAt.1 e)) (fun _ _ e => e)
  have fr : Fr (fun k => isAt K.sa k ∨ k = K.F) w (w3.setCell ⟨K.F, 1, none⟩ (.slice (some ⟨g, 0, none⟩) (S.length + 1) c)) := (f3.mono (fun k _ e => .inl e)).set _ _ (.inr rfl)
  have far : ∀ {g' : Nat} {t : TypeId} {l : List Value}, Blk w g' t l → t ≠ 142 → t ≠ 136 → ¬ (isAt K.sa g' ∨ g' = K.F) := fun hb ht ht2 e => by
    rcases e with e | e
    · exact row_ne h.row hb (fun e => ht e.symm) e
    · exact hb.ne_ h.f ht2 e
  have farR : ∀ {b2 : Nat} {e2 : TypeId} {s2 n2 c2 m2 : Nat} {a2 : Option Addr} {x2 : List Value}, w.ownsRow b2 e2 s2 (.slice a2 n2 c2) m2 x2 → e2 ≠ 142 → e2 ≠ 136 → ∀ k, isAt a2 k → ¬ (isAt K.sa k ∨ k = K.F) := fun hr ht ht2 k e e' => by
    rcases e' with e' | rfl
    · exact rows_ne hr h.row ht k e e'
    · exact row_ne hr h.f ht2 e
  have hlow : ∀ k, k < N → ¬ (isAt K.sa k ∨ k = K.F) := fun k hk e => by
    rcases e with e | rfl
    · have := own_block_ge h.row k (own_isAt.2 e); omega
    · have := h.fB; omega
  have hF3 := f3.blk h.f (row_ne h.row h.f (by decide))
  have nb1 : Blk (w.alloc (.cells next0.toArray 3)) w.heap.size 3 next0 := Blk.new w _ _
  have nb3 : Blk w3 w.heap.size 3 next0 := nb1.grown hg (fun e => Nat.lt_irrefl _ (own_block_lt h.row _ e.symm))
  have nb4 : Blk (w3.setCell ⟨K.F, 1, none⟩ (.slice (some ⟨g, 0, none⟩) (S.length + 1) c)) w.heap.size 3 next0 := nb3.far (fun e => by have := h.f.lt; simp only at e; omega) _
  have hlen : (S ++ [L]).length = S.length + 1 := by simp
  have hz : (K.recs ++ [(⟨a8, c8, w.heap.size⟩ : SR)]).zip (S ++ [L]) = K.recs.zip S ++ [(⟨a8, c8, w.heap.size⟩, L)] := by
    rw [List.zip_append h.rl]
    rfl
  refine ⟨{ b := fr.blk h.b (far h.b (by decide) (by decide)), f := ?_, rl := by simp [h.rl], row := ?_, nx := fun v hv => ?_, nd := ?_, nB := fun r hr => ?_, ins := fun v hv h2 => ?_,
            key := ⟨ks, fr_row fr hk (farR hk (by decide) (by decide))⟩, map := ⟨D, m, fr_map fr hm (fun e => ?_), h1, h2⟩, pr := h.pr.below (fr.below hlow h.hN), tz := fun v x hv => h.tz v x (by rw [hlen] at hv; omega),
            bB := h.bB, fB := h.fB, mB := h.mB, hN := Nat.le_trans h.hN fr.size }, fr⟩
  · rw [hlen]
    exact hF3.set_ 1 _
  · rw [hlen]
    show World.ownsRow _ _ _ _ _ _ (((K.recs ++ [(⟨a8, c8, w.heap.size⟩ : SR)]).zip (S ++ [L])).flatMap (stC P))
    rw [hz, List.flatMap_append]
    have e : [((⟨a8, c8, w.heap.size⟩ : SR), L)].flatMap (stC P) = stC P (⟨a8, c8, w.heap.size⟩, L) := by simp
    rw [e]
    exact own_far h3 _ _ (fun e => row_blk h3 hF3 (by decide) e)
  · by_cases hvl : v < K.recs.length
    · show Blk _ (K.recs ++ [(⟨a8, c8, w.heap.size⟩ : SR)])[v].nb _ _
      rw [List.getElem_append_left hvl]
      exact fr.blk (h.nx v hvl) (far (h.nx v hvl) (by decide) (by decide))
    · have hv2 : v = K.recs.length := by simp at hv; omega
      subst hv2
      show Blk _ (K.recs ++ [(⟨a8, c8, w.heap.size⟩ : SR)])[K.recs.length].nb _ _
      rw [List.getElem_append_right (Nat.le_refl _), tbl_zero (fun x => h.tz _ x (by rw [h.rl]; exact Nat.le_refl _))]
      simpa using nb4
  · show ((K.recs ++ [(⟨a8, c8, w.heap.size⟩ : SR)]).map (·.nb)).Nodup
    rw [List.map_append]
    refine List.nodup_append.2 ⟨h.nd, by simp, fun a ha b hb e => ?_⟩
    simp at hb
    obtain ⟨r, hr, rfl⟩ := List.mem_map.1 ha
    obtain ⟨v, hv, rfl⟩ := List.getElem_of_mem hr
    have := (h.nx v hv).lt
    omega
  · rcases List.mem_append.1 hr with hr | hr
    · exact h.nB r hr
    · simp at hr
      subst hr
      exact h.hN
  · by_cases hvl : v < K.recs.length
    · have hvs : v < S.length := by rw [← h.rl]; exact hvl
      have := fr_row fr (h.ins v hvl hvs) (farR (h.ins v hvl hvs) (by decide) (by decide))
      simp only [List.getElem_append_left hvl, List.getElem_append_left hvs]
      exact this
    · have hv2 : v = K.recs.length := by simp at hv; omega
      subst hv2
      have := fr_row fr ho (farR ho (by decide) (by decide))
      have e1 : (K.recs ++ [(⟨a8, c8, w.heap.size⟩ : SR)])[K.recs.length]'hv = ⟨a8, c8, w.heap.size⟩ := by
        rw [List.getElem_append_right (Nat.le_refl _)]
        simp
      have e2 : (S ++ [L])[K.recs.length]'h2 = L := by
        rw [List.getElem_append_right (by rw [h.rl]; exact Nat.le_refl _)]
        simp
      simp only [e1, e2]
      exact this
  · rcases e with e | e
    · exact map_row_ne hm h.row e
    · exact map_ne hm h.f e
/-- the map has it, too -/
theorem DG.mput (h : DG w N K P S Sm tb) {D2 : DataW Unit} {n : Nat} (hg : w.grownBy w' (some K.M)) (hm : w'.ownsMap Tryd.prog 9 (plainElem Tryd.prog 3) K.M (n + 1) D2) (hok : MapOk D2 S) (hn : n + 1 ≤ S.length) {m0 : Nat} {D0 : DataW Unit} (h0 : w.ownsMap Tryd.prog 9 (plainElem Tryd.prog 3) K.M m0 D0) :
    DG w' N K P S S tb ∧ Fr (fun k => k = K.M) w w' := by
  obtain ⟨ks, hk⟩ := h.key
  have fr : Fr (fun k => k = K.M) w w' := Fr.of_grown hg (fun k e => by injection e with e; exact e.symm)
  have far : ∀ {g' : Nat} {t : TypeId} {l : List Value}, Blk w g' t l → ¬ (g' = K.M) := fun hb e => map_ne h0 hb e.symm
  have farR : ∀ {b2 : Nat} {e2 : TypeId} {s2 n2 c2 m2 : Nat} {a2 : Option Addr} {x2 : List Value}, w.ownsRow b2 e2 s2 (.slice a2 n2 c2) m2 x2 → ∀ k, isAt a2 k → ¬ (k = K.M) := fun hr k e e' => by
    subst e'
    exact map_row_ne h0 hr e
  have hlow : ∀ k, k < N → ¬ (k = K.M) := fun k hk e => by
    have := h.mB
    omega
  exact ⟨{ b := fr.blk h.b (far h.b), f := fr.blk h.f (far h.f), rl := h.rl, row := fr_row fr h.row (farR h.row), nx := fun v hv => fr.blk (h.nx v hv) (far (h.nx v hv)), nd := h.nd, nB := h.nB,
           ins := fun v hv h2 => fr_row fr (h.ins v hv h2) (farR (h.ins v hv h2)), key := ⟨ks, fr_row fr hk (farR hk)⟩, map := ⟨D2, n + 1, hm, hok, hn⟩, pr := h.pr.below (fr.below hlow h.hN), tz := h.tz, bB := h.bB, fB := h.fB, mB := h.mB, hN := Nat.le_trans h.hN fr.size }, fr⟩
end
end Go.Proofs.YtbkpgfccghombaaDoor.rx
