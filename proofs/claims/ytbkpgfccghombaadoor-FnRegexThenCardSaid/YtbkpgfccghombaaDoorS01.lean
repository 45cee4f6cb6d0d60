/-
  Parts of the proof in one text: Pa, Pb, Pc, Pd. Conditions: as each states.
-/
import Derived.Test.YtbkpgfccghombaaDoorN03
import Derived.Test.YtbkpgfccghombaaDoorRwZz
import Derived.Test.YtbkpgfccghombaaDoorM10
import Derived.Deep.RegionHeld3
/-! An expression's automaton at work: its methods. Conditions: as stated. -/
namespace Go.Proofs.YtbkpgfccghombaaDoor.rx
open Go.ChangeShapes Go.WideShapes Go.ChangeAt Go.RowKit
set_option linter.unusedVariables false
set_option linter.unusedSimpArgs false

/-- an automaton in memory -/
structure Aut (w : World) (N : Nat) (K : DK) (P : List Ins) (S : List (List Nat)) (tb : Nat → Nat → Nat) (x : Nat) (s0 : ByteArray) : Prop where
  dm : DM w N K P S tb
  b : Blk w x 116 [.string s0, .pointer (some ⟨K.F, 0, none⟩)]
  full : Full P S tb
  sl : S.length ≤ 10000
section
variable {w w' : World} {N : Nat} {K : DK} {P : List Ins} {S : List (List Nat)} {tb : Nat → Nat → Nat} {x : Nat} {s0 : ByteArray}
theorem Aut.new (h : Aut w N K P S tb x s0) (hb : Below w.heap.size w w') : Aut w' N K P S tb x s0 := ⟨h.dm.new hb, h.b.below hb h.b.lt, h.full, h.sl⟩
set_option maxRecDepth 100000 in
theorem start_any (v : Value) : Calls Tryd.prog 116 #[v] w fun e w' => e = .returned (.int .i64 1) ∧ w = w' := by
  go_enter Tryd.func116, Tryd.ntmps116
  go_wp2
  go_ret
  exact ⟨rfl, rfl⟩
set_option maxRecDepth 100000 in
theorem always_any (v : Value) (i : Int) : Calls Tryd.prog 117 #[v, .int .i64 i] w fun e w' => e = .returned (.bool false) ∧ w = w' := by
  go_enter Tryd.func117, Tryd.ntmps117
  go_wp2
  go_ret
  exact ⟨rfl, rfl⟩
set_option maxRecDepth 100000 in
theorem ism_any (h : Aut w N K P S tb x s0) (v : Nat) (hv : v < S.length) : Calls Tryd.prog 115 #[.pointer (some ⟨x, 0, none⟩), .int .i64 v] w fun e w' => e = .returned (.bool (S[v].any fun i => mtD P[i]?)) ∧ w = w' := by
  obtain ⟨b0, b1, b2, f0, f1⟩ := h.dm.cells
  have x1 := h.b.cell 1
  simp only [List.getElem?_cons_zero, List.getElem?_cons_succ] at x1
  obtain ⟨ad, r, ha, -, c0, c1, c2, -, -, -⟩ := h.dm.at_ v hv
  rw [ha] at f1
  have hsl := h.sl
  have hi : (v : Int) < (S.length : Int) := by omega
  generalize S[v].any (fun i => mtD P[i]?) = bb at *
  clear b0 b1 b2 f0 c0 c1 h
  go_enter Tryd.func115, Tryd.ntmps115
  go_wp2
  go_ret
  exact ⟨rfl, rfl⟩
set_option maxRecDepth 100000 in
theorem can_any (h : Aut w N K P S tb x s0) (v : Nat) (hv : v < S.length) : Calls Tryd.prog 114 #[.pointer (some ⟨x, 0, none⟩), .int .i64 v] w fun e w' => e = .returned (.bool (decide (0 < v))) ∧ w = w' := by
  obtain ⟨b0, b1, b2, f0, f1⟩ := h.dm.cells
  have x1 := h.b.cell 1
  simp only [List.getElem?_cons_zero, List.getElem?_cons_succ] at x1
  have hsl := h.sl
  have hi : (v : Int) < (S.length : Int) := by omega
  by_cases h0 : 0 < v
  · rw [decide_eq_true h0]
    have h1 : (0 : Int) < (v : Int) := by omega
    clear b0 b1 b2 f0 h
    go_enter Tryd.func114, Tryd.ntmps114
    go_wp2
    go_ret
    exact ⟨rfl, rfl⟩
  · obtain rfl : v = 0 := by omega
    clear b0 b1 b2 f0 h
    go_enter Tryd.func114, Tryd.ntmps114
    go_wp2
    go_ret
    exact ⟨rfl, rfl⟩
set_option maxRecDepth 100000 in
theorem accept_any (h : Aut w N K P S tb x s0) (v c : Nat) (hv : v < S.length) (hc : c < 256) : Calls Tryd.prog 113 #[.pointer (some ⟨x, 0, none⟩), .int .i64 v, .int .u8 c] w fun e w' => e = .returned (.int .i64 (tb v c : Nat)) ∧ w = w' := by
  obtain ⟨b0, b1, b2, f0, f1⟩ := h.dm.cells
  have x1 := h.b.cell 1
  simp only [List.getElem?_cons_zero, List.getElem?_cons_succ] at x1
  obtain ⟨ad, r, ha, -, c0, c1, c2, hn, -, -⟩ := h.dm.at_ v hv
  rw [ha] at f1
  have n0 : w.cell? ⟨r.nb, c, none⟩ = some (.int .i64 (tb v c : Nat)) := by
    have := hn.cell c
    rw [this]
    unfold tbl
    rw [List.getElem?_map, List.getElem?_range hc]
    rfl
  have hsl := h.sl
  have hi : (v : Int) < (S.length : Int) := by omega
  have hi2 : (c : Int) < 256 := by omega
  clear b0 b1 b2 f0 c0 c2 h
  go_enter Tryd.func113, Tryd.ntmps113
  go_wp2
  go_ret
  exact ⟨rfl, rfl⟩
end
end Go.Proofs.YtbkpgfccghombaaDoor.rx

/-! An expression's automaton at work: what it says behind each beginning of a text. Conditions: as stated. -/
namespace Go.Proofs.YtbkpgfccghombaaDoor.rx
open Go.ChangeShapes Go.WideShapes Go.ChangeAt Go.RowKit
set_option linter.unusedVariables false
set_option linter.unusedSimpArgs false

def mtQ (P : List Ins) (u : List Int) : Bool := (pth P u).any fun i => mtD P[i]?
def cnQ (P : List Ins) (u : List Int) : Bool := decide (pth P u ≠ [])
/-- the state behind a text -/
def vs (tb : Nat → Nat → Nat) (u : List Int) : Nat := goT tb u 1
section
variable {P : List Ins} {S : List (List Nat)} {tb : Nat → Nat → Nat}
theorem Full.vs_lt (h : Full P S tb) {u : List Int} (hu : byt u) : vs tb u < S.length := by
  obtain ⟨h1, h2⟩ := h.path u hu
  unfold vs
  rw [h2]
  exact List.idxOf_lt_length_iff.2 h1
theorem Full.vs_at (h : Full P S tb) {u : List Int} (hu : byt u) (hl : vs tb u < S.length) : S[vs tb u] = pth P u := by
  obtain ⟨h1, h2⟩ := h.path u hu
  have h2 : vs tb u = S.idxOf (pth P u) := h2
  simp only [h2]
  exact List.getElem_idxOf _
theorem Full.vs_can (h : Full P S tb) {u : List Int} (hu : byt u) : decide (0 < vs tb u) = cnQ P u := by
  have hl := h.vs_lt hu
  have ha := h.vs_at hu hl
  have hz := h.sts.z
  unfold cnQ
  congr 1
  apply propext
  constructor
  · intro h0 e
    obtain ⟨g1, g2⟩ := List.getElem?_eq_some_iff.1 hz
    have h2 : vs tb u = S.idxOf (pth P u) := (h.path u hu).2
    rw [e, ← g2, List.Nodup.idxOf_getElem h.sts.nd 0 g1] at h2
    omega
  · intro hne
    rcases Nat.eq_zero_or_pos (vs tb u) with e | e
    · obtain ⟨g1, g2⟩ := List.getElem?_eq_some_iff.1 hz
      exfalso
      apply hne
      rw [← ha]
      simp only [e]
      exact g2
    · exact e
theorem vs_step (u : List Int) (c : Int) : vs tb (u ++ [c]) = tb (vs tb u) c.toNat := by
  unfold vs goT
  rw [List.foldl_append]
  rfl
end
theorem infoBp : (Tryd.prog.info? 4).map (fun i => (i.zero, i.size, i.bytes)) = some (some (.bool false), 1, 1) := by kernel_rfl
/-- what is told behind each beginning -/
def rowB (f : List Int → Bool) (t : List Int) (n : Nat) : List Value := (List.range n).map fun i => .bool (f (t.take i))
theorem rowB_succ (f : List Int → Bool) (t : List Int) (n : Nat) : rowB f t (n + 1) = rowB f t n ++ [.bool (f (t.take n))] := by simp [rowB, List.range_succ]
/-- three rows that are apart -/
structure R3 (w0 W : World) (B : Nat) (a1 a2 a3 : Option Addr) (n1 n2 n3 c1 c2 c3 : Nat) (l1 l2 l3 : List Value) : Prop where
  r1 : W.ownsRow B 4 1 (.slice a1 n1 c1) n1 l1
  r2 : W.ownsRow B 4 1 (.slice a2 n2 c2) n2 l2
  r3 : W.ownsRow B 4 1 (.slice a3 n3 c3) n3 l3
  ap12 : ∀ k, isAt a1 k → ¬ isAt a2 k
  ap23 : ∀ k, isAt a2 k → ¬ isAt a3 k
  ap31 : ∀ k, isAt a3 k → ¬ isAt a1 k
  low : Below B w0 W
  hB : B ≤ W.heap.size
section
variable {w0 W W' : World} {B : Nat} {a1 a2 a3 : Option Addr} {n1 n2 n3 c1 c2 c3 : Nat} {l1 l2 l3 : List Value}
theorem R3.rot (h : R3 w0 W B a1 a2 a3 n1 n2 n3 c1 c2 c3 l1 l2 l3) : R3 w0 W B a2 a3 a1 n2 n3 n1 c2 c3 c1 l2 l3 l1 := ⟨h.r2, h.r3, h.r1, h.ap23, h.ap31, h.ap12, h.low, h.hB⟩
theorem R3.new (h : R3 w0 W B a1 a2 a3 n1 n2 n3 c1 c2 c3 l1 l2 l3) (hb : Below W.heap.size W W') : R3 w0 W' B a1 a2 a3 n1 n2 n3 c1 c2 c3 l1 l2 l3 :=
  ⟨own_below h.r1 hb, own_below h.r2 hb, own_below h.r3 hb, h.ap12, h.ap23, h.ap31, h.low.trans (hb.mono h.hB), Nat.le_trans h.hB hb.size⟩
theorem R3.put (h : R3 w0 W B a1 a2 a3 n1 n2 n3 c1 c2 c3 l1 l2 l3) {a : Option Addr} {c : Nat} {l : List Value} (ho : W'.ownsRow B 4 1 (.slice a (n1 + 1) c) (n1 + 1) l) (hg : W.grownBy W' (Value.slice a1 n1 c1).ownBlock) (hat : ∀ k, (Value.slice a (n1 + 1) c).ownBlock = some k → (Value.slice a1 n1 c1).ownBlock = some k ∨ W.heap.size ≤ k) :
    R3 w0 W' B a a2 a3 (n1 + 1) n2 n3 c c2 c3 l l2 l3 := by
  have hf : Fr (fun k => isAt a1 k) W W' := Fr.of_grown (O := fun k => isAt a1 k) hg (fun k e => own_isAt.1 e)
  have hk : ∀ k, isAt a k → isAt a1 k ∨ W.heap.size ≤ k := fun k e => (hat k (own_isAt.2 e)).imp own_isAt.1 id
  refine ⟨ho, fr_row hf h.r2 (fun k e e2 => h.ap12 k e2 e), fr_row hf h.r3 (fun k e e2 => h.ap31 k e e2), fun k e e2 => ?_, h.ap23, fun k e e2 => ?_, h.low.trans (hf.below (fun k hk e => by have := own_block_ge h.r1 k (own_isAt.2 e); omega) h.hB), Nat.le_trans h.hB hf.size⟩
  · rcases hk k e with g | g
    · exact h.ap12 k g e2
    · have := own_block_lt h.r2 k (own_isAt.2 e2); omega
  · rcases hk k e2 with g | g
    · exact h.ap31 k e g
    · have := own_block_lt h.r3 k (own_isAt.2 e); omega
end
/-- behind each beginning: whether it matches, whether it can match -/
abbrev Pt (w0 W : World) (B : Nat) (P : List Ins) (t : List Int) (i : Nat) (a1 a2 a3 : Option Addr) (c1 c2 c3 : Nat) : Prop := R3 w0 W B a1 a2 a3 i i i c1 c2 c3 (rowB (mtQ P) t i) (rowB (cnQ P) t i) (rowB (fun _ => false) t i)
theorem take_byte (t : ByteArray) (i : Nat) (h : i < t.size) : (byL t).take (i + 1) = (byL t).take i ++ [(t[i].toNat : Int)] := by
  have h2 : i < (byL t).length := by rw [byL_len]; exact h
  rw [List.take_succ_eq_append_getElem h2]
  congr 2
  have := byL_at t i h
  rwa [List.getD_eq_getElem?_getD, List.getElem?_eq_getElem h2] at this
theorem byt_take (t : ByteArray) (i : Nat) : byt ((byL t).take i) := fun x hx => by
  have := byL_ok t x (List.mem_of_mem_take hx)
  omega
set_option maxRecDepth 100000 in
set_option maxHeartbeats 1600000 in
theorem path_any {w : World} {N : Nat} {K : DK} {P : List Ins} {S : List (List Nat)} {tb : Nat → Nat → Nat} {x : Nat} {s0 : ByteArray} (h : Aut w N K P S tb x s0) (t : ByteArray) (ht : t.size ≤ 100000) :
    Calls Tryd.prog 40 #[.iface 75 (.pointer (some ⟨x, 0, none⟩)), .string t] w fun e w' => ∃ a1 a2 a3 c1 c2 c3, e = .returned (.tuple #[.slice a1 (t.size + 1) c1, .slice a2 (t.size + 1) c2, .slice a3 (t.size + 1) c3]) ∧ Pt w w' w.heap.size P (byL t) (t.size + 1) a1 a2 a3 c1 c2 c3 := by
  obtain ⟨i0, hi0, hz0, hz1, hz2⟩ := info_parts infoBp
  have H := Lib.hid h
  have m1 : ∀ W : World, (method 118 75 (.pointer (some ⟨x, 0, none⟩)) "Start").run Tryd.prog W = .ok (116, .pointer (some ⟨x, 0, none⟩)) W := fun _ => by kernel_rfl
  have m2 : ∀ W : World, (method 118 75 (.pointer (some ⟨x, 0, none⟩)) "IsMatch").run Tryd.prog W = .ok (115, .pointer (some ⟨x, 0, none⟩)) W := fun _ => by kernel_rfl
  have m3 : ∀ W : World, (method 118 75 (.pointer (some ⟨x, 0, none⟩)) "CanMatch").run Tryd.prog W = .ok (114, .pointer (some ⟨x, 0, none⟩)) W := fun _ => by kernel_rfl
  have m4 : ∀ W : World, (method 118 75 (.pointer (some ⟨x, 0, none⟩)) "WillAlwaysMatch").run Tryd.prog W = .ok (117, .pointer (some ⟨x, 0, none⟩)) W := fun _ => by kernel_rfl
  have m5 : ∀ W : World, (method 118 75 (.pointer (some ⟨x, 0, none⟩)) "Accept").run Tryd.prog W = .ok (113, .pointer (some ⟨x, 0, none⟩)) W := fun _ => by kernel_rfl
  have m6 : ∀ W : World, (nilAhead 328 75 (.pointer (some ⟨x, 0, none⟩)) "Accept").run Tryd.prog W = .ok (some false) W := fun _ => by kernel_rfl
  have CI := Lib.hid (fun (u : List Int) (hu : byt u) (W : World) (hb : Below w.heap.size w W) => show Calls Tryd.prog 115 #[.pointer (some ⟨x, 0, none⟩), .int .i64 (vs tb u : Nat)] W (fun e w' => e = .returned (.bool (mtQ P u)) ∧ W = w') from by
    have := ism_any (h.new hb) (vs tb u) (h.full.vs_lt hu)
    rw [h.full.vs_at hu] at this
    exact this)
  have CC := Lib.hid (fun (u : List Int) (hu : byt u) (W : World) (hb : Below w.heap.size w W) => show Calls Tryd.prog 114 #[.pointer (some ⟨x, 0, none⟩), .int .i64 (vs tb u : Nat)] W (fun e w' => e = .returned (.bool (cnQ P u)) ∧ W = w') from by
    have := can_any (h.new hb) (vs tb u) (h.full.vs_lt hu)
    rw [h.full.vs_can hu] at this
    exact this)
  have CA := Lib.hid (fun (u : List Int) (hu : byt u) (c : Nat) (hc : c < 256) (W : World) (hb : Below w.heap.size w W) => accept_any (h.new hb) (vs tb u) c (h.full.vs_lt hu) hc)
  have hno : ∀ k, ¬ isAt none k := fun k ⟨ad, e, _⟩ => by cases e
  clear h
  go_enter Tryd.func40, Tryd.ntmps40
  go_upto_region 2 with (first | (go_at_call 116; refine (start_any _).mono ?_; rintro e w1 ⟨rfl, rfl⟩) | fail)
  go_wp2_with fail
  go_loopw [4, 5, 6, 7, 8] (fun v4 v5 v6 v7 v8 wr => ∃ (i : Nat) (a1 a2 a3 : Option Addr) (c1 c2 c3 : Nat), i ≤ t.size ∧ v4 = .slice a1 i c1 ∧ v5 = .slice a2 i c2 ∧ v6 = .slice a3 i c3 ∧ v7 = .int .i64 (vs tb ((byL t).take i) : Nat) ∧ v8 = .int .i64 i ∧ Hid (Pt w wr w.heap.size P (byL t) i a1 a2 a3 c1 c2 c3)) (fun _ _ _ _ v8 _ => t.size - (intOf v8).toNat)
  case atStart => exact ⟨0, none, none, none, 0, 0, 0, by omega, rfl, rfl, rfl, rfl, rfl, Lib.hid ⟨World.ownsRow_nil _ _ _ _, World.ownsRow_nil _ _ _ _, World.ownsRow_nil _ _ _ _, (fun k e => absurd e (hno k)), (fun k e => absurd e (hno k)), (fun k e => absurd e (hno k)), Below.refl _ _, Nat.le_refl _⟩⟩
  case round =>
    obtain ⟨i, a1, a2, a3, c1, c2, c3, hi, rfl, rfl, rfl, rfl, rfl, H1⟩ := hrel
    have HU := Lib.hid (byt_take t i)
    obtain ⟨u, hu⟩ : ∃ u, u = (byL t).take i := ⟨_, rfl⟩
    have HUE := Lib.hid hu
    rw [← hu] at HU ⊢
    clear hu
    have HR1 := Lib.hid (rowB_succ (mtQ P) (byL t) i)
    have HR2 := Lib.hid (rowB_succ (cnQ P) (byL t) i)
    have HR3 := Lib.hid (rowB_succ (fun _ => false) (byL t) i)
    rw [← HUE.out] at HR1 HR2
    have hB1 := H1.out.hB
    go_upto_region 5 with (first
      | (go_at_call 115; first | (refine (CI.out u HU.out _ H1.out.low).mono ?_; rintro e w2 ⟨rfl, rfl⟩) | fail)
      | (go_at_call 114; refine (CC.out u HU.out _ P1.out.low).mono ?_; rintro e w2 ⟨rfl, rfl⟩)
      | (go_at_call 117; refine (always_any _ _).mono ?_; rintro e w2 ⟨rfl, rfl⟩)
      | (at_builtin; refine append1_at _ #[.bool (mtQ P u)] rfl (.tmp 13) (.tmp 17) 35 rfl w.heap.size 4 i0 _ 1 1 Tryd.underlying35 hi0 hz0 hz1 hz2 rfl (by omega) rfl (.slice a1 i c1) i (rowB (mtQ P) (byL t) i) rfl H1.out.r1 _ rfl rfl (by simp [Value.oneCell']) (by unfold maxLen; omega) (by omega) H1.out.hB ?_; intro v4 w4 ho4 hg4 _ hat4; obtain ⟨a4, c4, rfl⟩ := own_value ho4; have P1 := Lib.hid (H1.out.put ho4 hg4 hat4); clear ho4 hg4 hat4)
      | (at_builtin; refine append1_at _ #[.bool (cnQ P u)] rfl (.tmp 19) (.tmp 23) 35 rfl w.heap.size 4 i0 _ 1 1 Tryd.underlying35 hi0 hz0 hz1 hz2 rfl (by omega) rfl (.slice a2 i c2) i (rowB (cnQ P) (byL t) i) rfl P1.out.r2 _ rfl rfl (by simp [Value.oneCell']) (by unfold maxLen; omega) (by omega) P1.out.hB ?_; intro v5 w5 ho5 hg5 _ hat5; obtain ⟨a5, c5, rfl⟩ := own_value ho5; have P2 := Lib.hid (P1.out.rot.put ho5 hg5 hat5); clear ho5 hg5 hat5)
      | (at_builtin; refine append1_at _ #[.bool false] rfl (.tmp 25) (.tmp 29) 35 rfl w.heap.size 4 i0 _ 1 1 Tryd.underlying35 hi0 hz0 hz1 hz2 rfl (by omega) rfl (.slice a3 i c3) i (rowB (fun _ => false) (byL t) i) rfl P2.out.r2 _ rfl rfl (by simp [Value.oneCell']) (by unfold maxLen; omega) (by omega) P2.out.hB ?_; intro v6 w6 ho6 hg6 _ hat6; obtain ⟨a6, c6, rfl⟩ := own_value ho6; have P3 := Lib.hid (P2.out.rot.put ho6 hg6 hat6).rot; clear ho6 hg6 hat6)
      | fail)
    have P4 := Lib.hid (show R3 w w6 w.heap.size a4 a5 a6 (i + 1) (i + 1) (i + 1) c4 c5 c6 (rowB (mtQ P) (byL t) (i + 1)) (rowB (cnQ P) (byL t) (i + 1)) (rowB (fun _ => false) (byL t) (i + 1)) from by
      rw [HR1.out, HR2.out, HR3.out]
      exact P3.out)
    clear P1 P2 P3 HR1 HR2 HR3
    by_cases he : i = t.size
    · subst he
      go_wp2
      go_returns
      exact ⟨a4, a5, a6, c4, c5, c6, rfl, P4.out⟩
    · have hlt : i < t.size := by omega
      have hne : ¬ (i : Int) = (t.size : Int) := by omega
      have hne2 : ((i : Int) == (t.size : Int)) = false := beq_eq_false_iff_ne.2 hne
      have hltI : (i : Int) < (t.size : Int) := by omega
      have CAc := Lib.hid (CA.out u HU.out t[i].toNat t[i].toNat_lt)
      have BW := Lib.hid (show Below w.heap.size w w6.drew from below_drewN P4.out.low 1)
      go_upto_region 7 with fail
      go_region_held3 (fun _ => True) (exact trivial) (first
        | (go_at_call 113; refine (CAc.out _ BW.out).mono ?_; rintro e w7 ⟨rfl, rfl⟩))
      all_goals have HST := Lib.hid (show tb (vs tb u) t[i].toNat = vs tb ((byL t).take (i + 1)) from by
        rw [take_byte t i hlt, vs_step, ← HUE.out]
        rfl)
      all_goals
        rw [HST.out]
        go_wp2
        go_roundw
        case rel => exact ⟨i + 1, a4, a5, a6, c4, c5, c6, by omega, rfl, rfl, rfl, rfl, by go_num, Lib.hid (P4.out.new (below_drewN (Below.refl _ _) 1))⟩
        case measure => simp [intOf]; omega
end Go.Proofs.YtbkpgfccghombaaDoor.rx

/-! RegexPath, and what the laws make of it. Conditions: as stated. -/
namespace Go.Proofs.YtbkpgfccghombaaDoor.rx
open Go.ChangeShapes Go.WideShapes Go.ChangeAt Go.RowKit
set_option linter.unusedVariables false
set_option linter.unusedSimpArgs false

/-- the automaton is not refused -/
def Fine (d : Nat) (r : Rx) : Prop := fits 10485760 d 0 r ∧ ¬ Many (prg d r)
/-- what is told of a text, or that the expression is refused -/
def RPath (w : World) (d : Nat) (r : Rx) (t : ByteArray) (e : Ending) (w' : World) : Prop :=
  Below w.heap.size w w' ∧
  ((Fine d r ∧ ∃ a1 a2 a3 c1 c2 c3, e = .returned (.tuple #[.slice a1 (t.size + 1) c1, .slice a2 (t.size + 1) c2, .slice a3 (t.size + 1) c3, .int .i64 0]) ∧ Sl w' w'.heap.size a1 (rowB (mtQ (prg d r)) (byL t) (t.size + 1)) ∧ Sl w' w'.heap.size a2 (rowB (cnQ (prg d r)) (byL t) (t.size + 1))) ∨
   (¬ Fine d r ∧ ∃ k : Int, (k = 4 ∨ k = 5) ∧ e = .returned (.tuple #[.slice none 0 0, .slice none 0 0, .slice none 0 0, .int .i64 k])))
set_option maxRecDepth 100000 in
set_option maxHeartbeats 1600000 in
theorem rpath_any {m d : Nat} (hm : m ≤ 1000) {a0 a1 a2 a3 a4 : Addr} (r : Rx) (cs : List Value) (t : ByteArray) (ht : t.size ≤ 100000) (w : World) (hR : RgC w w.heap.size d r cs) (hw : wf 3 d r) (hn : (comp d 0 r).length ≤ 900000000000) (hA : LaidAll w a0 a1 a2 a3 a4) :
    Calls Tryd.prog 26 #[.agg cs.toArray, .string t] w (RPath w d r t) := by
  obtain ⟨o1, m1, x1, r1, rn1, rc1, s1, sn1, sc1, rfl⟩ := hR.form
  unfold rxc at *
  have HA := Lib.hid hA
  have HBX := Lib.hid (Bx.new w [.int .i64 o1, .slice r1 rn1 rc1, .int .i64 m1, .int .i64 x1, .bool false, .bool false, .slice s1 sn1 sc1])
  have CT := Lib.hid (tree_ok d (w.alloc (.cells #[.int .i64 o1, .slice r1 rn1 rc1, .int .i64 m1, .int .i64 x1, .bool false, .bool false, .slice s1 sn1 sc1] 25)) r _ ((hR.below HBX.out.l).more (by simp)) hw)
  have HW := Lib.hid hw
  have HHN := Lib.hid hn
  unfold RPath Fine
  clear hR hA hw hn
  go_enter Tryd.func26, Tryd.ntmps26
  go_upto_region 2 with (first | (go_at_call 32; refine CT.out.mono ?_; rintro e w2 ⟨p, rfl, hN2, hb2⟩; have HB2 := Lib.hid (HBX.out.l.trans (hb2.mono (by simp))); have CZ := Lib.hid (parsed_any (m := 3) (by omega) 10485760 r p ⟨#[]⟩ w2 hN2 HW.out HHN.out (by omega) (HA.out.below HB2.out)); clear hN2 hb2 CT HBX) | (go_at_call 38; refine CZ.out.mono ?_; rintro e w3 ⟨hb3, ⟨hok, hmy, N3, K3, S3, tb3, xb3, hh, rfl, hx3, hd3, hf3, hs3⟩ | ⟨hok, hmy, rfl⟩ | ⟨hok, rfl⟩⟩) | fail)
  · have HB3 := Lib.hid (HB2.out.trans (hb3.mono HB2.out.size))
    have HOK := Lib.hid (And.intro hok hmy)
    have CP := Lib.hid (path_any ⟨hd3, hx3, hf3, hs3⟩ t ht)
    clear hb3 hok hmy hh hx3 hd3 hf3 hs3 CZ HHN HW
    go_wp2_with (first | (go_at_call 40; refine CP.out.mono ?_; rintro e w5 ⟨b1, b2, b3, c1, c2, c3, rfl, h5⟩; have H5 := Lib.hid h5; clear h5) | fail)
    go_returns
    exact ⟨HB3.out.trans (H5.out.low.mono HB3.out.size), .inl ⟨HOK.out, b1, b2, b3, c1, c2, c3, rfl, sl_of_own H5.out.r1, sl_of_own H5.out.r2⟩⟩
  · have HB3 := Lib.hid (HB2.out.trans (hb3.mono HB2.out.size))
    have HOK := Lib.hid (And.intro hok hmy)
    have CW := Lib.hid (wrong_many (HA.out.below HB3.out))
    clear hb3 hok hmy CZ HHN HW
    go_wp2_with (first | (go_at_call 33; refine CW.out.mono ?_; rintro e w5 ⟨rfl, rfl⟩) | fail)
    go_returns
    exact ⟨HB3.out, .inr ⟨fun h => h.2 HOK.out.2, 5, .inr rfl, rfl⟩⟩
  · have HB3 := Lib.hid (HB2.out.trans (hb3.mono HB2.out.size))
    have HOK := Lib.hid hok
    have CW := Lib.hid (wrong_big (HA.out.below HB3.out).errs)
    clear hb3 hok CZ HHN HW
    go_wp2_with (first | (go_at_call 33; refine CW.out.mono ?_; rintro e w5 ⟨rfl, rfl⟩) | fail)
    go_returns
    exact ⟨HB3.out, .inr ⟨fun h => HOK.out h.1, 4, .inl rfl, rfl⟩⟩
/-- whether the whole text is a word -/
def RWord (w : World) (d : Nat) (r : Rx) (t : ByteArray) (e : Ending) (w' : World) : Prop :=
  Below w.heap.size w w' ∧ ((Fine d r ∧ e = .returned (.tuple #[.bool (mtQ (prg d r) (byL t)), .bool true])) ∨ (¬ Fine d r ∧ e = .returned (.tuple #[.bool false, .bool false])))
set_option maxRecDepth 100000 in
set_option maxHeartbeats 1600000 in
theorem word_any {m d : Nat} (hm : m ≤ 1000) {a0 a1 a2 a3 a4 : Addr} (r : Rx) (cs : List Value) (t : ByteArray) (ht : t.size ≤ 100000) (w : World) (hR : RgC w w.heap.size d r cs) (hw : wf 3 d r) (hn : (comp d 0 r).length ≤ 900000000000) (hA : LaidAll w a0 a1 a2 a3 a4) :
    Calls Tryd.prog 22 #[.agg cs.toArray, .string t] w (RWord w d r t) := by
  obtain ⟨o1, m1, x1, r1, rn1, rc1, s1, sn1, sc1, rfl⟩ := hR.form
  unfold rxc at *
  have HBX := Lib.hid (Bx.new w [.int .i64 o1, .slice r1 rn1 rc1, .int .i64 m1, .int .i64 x1, .bool false, .bool false, .slice s1 sn1 sc1])
  have CT := Lib.hid (rpath_any hm r _ t ht (w.alloc (.cells #[.int .i64 o1, .slice r1 rn1 rc1, .int .i64 m1, .int .i64 x1, .bool false, .bool false, .slice s1 sn1 sc1] 25)) ((hR.below HBX.out.l).more (by simp)) hw hn (hA.below HBX.out.l))
  have ht2 : t.size ≤ 100000 := ht
  unfold RWord
  generalize hFI : Fine d r = FI at *
  clear hR hA hw hn
  go_enter Tryd.func22, Tryd.ntmps22
  go_upto_region 2 with (first | (go_at_call 26; refine CT.out.mono ?_; rintro e w2 ⟨hb2, ⟨hok, b1, b2, b3, c1, c2, c3, rfl, h1, h2⟩ | ⟨hok, k, hk, rfl⟩⟩) | fail)
  · have HB2 := Lib.hid (HBX.out.l.trans (hb2.mono (by simp)))
    have HOK := Lib.hid hok
    clear hb2 hok CT HBX
    obtain ⟨ad, rfl, -, hc⟩ := h1 t.size (.bool (mtQ (prg d r) (byL t))) (by
      unfold rowB
      rw [List.getElem?_map, List.getElem?_range (Nat.lt_succ_self _)]
      simp only [Option.map_some]
      rw [List.take_of_length_le (by rw [byL_len]; exact Nat.le_refl _)])
    clear h1 h2
    go_wp2
    go_ret2
    exact ⟨HB2.out, .inl ⟨by rw [hFI] at HOK; exact HOK.out, rfl⟩⟩
  · have HB2 := Lib.hid (HBX.out.l.trans (hb2.mono (by simp)))
    have HOK := Lib.hid hok
    clear hb2 hok CT HBX
    rcases hk with rfl | rfl
    · go_wp2
      go_ret2
      exact ⟨HB2.out, .inr ⟨by rw [hFI] at HOK; exact HOK.out, rfl⟩⟩
    · go_wp2
      go_ret2
      exact ⟨HB2.out, .inr ⟨by rw [hFI] at HOK; exact HOK.out, rfl⟩⟩
/-- what is told of a text -/
def LPath (w : World) (d : Nat) (r : Rx) (t : ByteArray) (e : Ending) (w' : World) : Prop :=
  Below w.heap.size w w' ∧
  ((Fine d r ∧ ∃ a1 a2 c1 c2, e = .returned (.tuple #[.slice a1 (t.size + 1) c1, .slice a2 (t.size + 1) c2, .bool true]) ∧ Sl w' w'.heap.size a1 (rowB (mtQ (prg d r)) (byL t) (t.size + 1)) ∧ Sl w' w'.heap.size a2 (rowB (cnQ (prg d r)) (byL t) (t.size + 1))) ∨
   (¬ Fine d r ∧ e = .returned (.tuple #[.slice none 0 0, .slice none 0 0, .bool false])))
set_option maxRecDepth 100000 in
set_option maxHeartbeats 1600000 in
theorem lpath_any {m d : Nat} (hm : m ≤ 1000) {a0 a1 a2 a3 a4 : Addr} (r : Rx) (cs : List Value) (t : ByteArray) (ht : t.size ≤ 100000) (w : World) (hR : RgC w w.heap.size d r cs) (hw : wf 3 d r) (hn : (comp d 0 r).length ≤ 900000000000) (hA : LaidAll w a0 a1 a2 a3 a4) :
    Calls Tryd.prog 24 #[.agg cs.toArray, .string t] w (LPath w d r t) := by
  obtain ⟨o1, m1, x1, r1, rn1, rc1, s1, sn1, sc1, rfl⟩ := hR.form
  unfold rxc at *
  have HBX := Lib.hid (Bx.new w [.int .i64 o1, .slice r1 rn1 rc1, .int .i64 m1, .int .i64 x1, .bool false, .bool false, .slice s1 sn1 sc1])
  have CT := Lib.hid (rpath_any hm r _ t ht (w.alloc (.cells #[.int .i64 o1, .slice r1 rn1 rc1, .int .i64 m1, .int .i64 x1, .bool false, .bool false, .slice s1 sn1 sc1] 25)) ((hR.below HBX.out.l).more (by simp)) hw hn (hA.below HBX.out.l))
  unfold LPath
  generalize hFI : Fine d r = FI at *
  clear hR hA hw hn
  go_enter Tryd.func24, Tryd.ntmps24
  go_upto_region 2 with (first | (go_at_call 26; refine CT.out.mono ?_; rintro e w2 ⟨hb2, ⟨hok, b1, b2, b3, c1, c2, c3, rfl, h1, h2⟩ | ⟨hok, k, hk, rfl⟩⟩) | fail)
  · have HB2 := Lib.hid (HBX.out.l.trans (hb2.mono (by simp)))
    have HOK := Lib.hid hok
    clear hb2 hok CT HBX
    have HS := Lib.hid (And.intro h1 h2)
    clear h1 h2
    go_wp2
    go_returns
    exact ⟨HB2.out, .inl ⟨by rw [hFI] at HOK; exact HOK.out, b1, b2, c1, c2, rfl, HS.out.1, HS.out.2⟩⟩
  · have HB2 := Lib.hid (HBX.out.l.trans (hb2.mono (by simp)))
    have HOK := Lib.hid hok
    clear hb2 hok CT HBX
    rcases hk with rfl | rfl
    · go_wp2
      go_returns
      exact ⟨HB2.out, .inr ⟨by rw [hFI] at HOK; exact HOK.out, rfl⟩⟩
    · go_wp2
      go_returns
      exact ⟨HB2.out, .inr ⟨by rw [hFI] at HOK; exact HOK.out, rfl⟩⟩
end Go.Proofs.YtbkpgfccghombaaDoor.rx

/-! One expression behind another one: the plain law; small expressions of any depth. Conditions: as stated. -/
namespace Go.Proofs.YtbkpgfccghombaaDoor.rx
open Go.ChangeShapes Go.WideShapes Go.ChangeAt Go.RowKit
set_option linter.unusedVariables false
set_option linter.unusedSimpArgs false

section
variable {m d : Nat} {r : Rx}
theorem mtD_iff (o : Option Ins) : mtD o = true ↔ o = some .mt := by
  unfold mtD
  split
  · simp
  · rename_i h
    constructor
    · intro e; cases e
    · intro e; exact absurd e h
/-- the automaton matches just the words -/
theorem mtQ_iff (hw : wf m d r) (u : List Int) : mtQ (prg d r) u = true ↔ lang d r u := by
  obtain ⟨F, h1, h2⟩ := prgw_frag hw
  have hp := (pth_mem (prgw_snd hw) prg_pos u).2
  unfold mtQ
  rw [List.any_eq_true, ← frag_match F h1 u]
  constructor
  · rintro ⟨k, hk, hm⟩
    have h3 := ((hp k).1 hk).1
    have h4 := (mtD_iff _).1 hm
    have hlt := (List.getElem?_eq_some_iff.1 h4).1
    by_cases he : k = (comp d 0 r).length
    · rw [← he]
      exact h3
    · exact absurd h4 (F.nmt k (Nat.zero_le _) (by omega))
  · intro h
    exact ⟨_, (hp _).2 ⟨h, by rw [h1]; rfl⟩, by rw [h1]; rfl⟩
/-- it can match just behind the beginnings of words -/
theorem cnQ_iff (hw : wf m d r) (u : List Int) : cnQ (prg d r) u = true ↔ ∃ v, lang d r (u ++ v) := by
  obtain ⟨F, h1, h2⟩ := prgw_frag hw
  have hp := (pth_mem (prgw_snd hw) prg_pos u).2
  unfold cnQ
  rw [decide_eq_true_eq, ← frag_can F h1 (lang_ne d r hw) u]
  constructor
  · intro hne
    obtain ⟨k, hk⟩ := List.exists_mem_of_ne_nil _ hne
    obtain ⟨h3, h4⟩ := (hp k).1 hk
    have hlt : k < (prg d r).length := by
      by_cases h : k < (prg d r).length
      · exact h
      · rw [List.getElem?_eq_none (by omega)] at h4
        cases h4
    exact ⟨k, h3, by omega, (rmB_iff _).1 h4⟩
  · rintro ⟨k, h3, -, h4⟩ e
    have := (hp k).2 ⟨h3, (rmB_iff _).2 h4⟩
    rw [e] at this
    cases this
/-- a small expression's automaton is not refused -/
theorem fine_small (hd : d ≤ 5) (h : wf 3 d r) (hp : plc d r ≤ 5) : Fine d r := by
  refine ⟨fits_of d r 0 ?_, ?_⟩
  · have h1 := comp_len (L := 16) (by omega) sm_le d r 0 h (plc_small d r h hp)
    have h2 : bnd 16 d ≤ 59372 := by
      rcases d with _ | _ | _ | _ | _ | _ | d
      · decide
      · decide
      · decide
      · decide
      · decide
      · decide
      · omega
    omega
  · refine few_states (prg_snd h) prg_pos ((List.range (prg d r).length).filter fun i => rmB (prg d r)[i]?) ?_ ?_
    · rw [rg_places _ _ rfl]
      unfold prg
      rw [rgN_app]
      have h1 := comp_rg d r 0 h hp
      have h2 : rgN [Ins.mt] = 1 := rfl
      omega
    · intro i hi hr
      rw [List.mem_filter, List.mem_range]
      exact ⟨hi, hr⟩
end
/-- one and another one behind it -/
def both (a b : Rx) : Rx := .nd 18 [] 0 0 [a, b]
section
variable {d : Nat} {a b : Rx}
theorem both_wf (ha : wf 3 d a) (hb : wf 3 d b) : wf 3 (d + 1) (both a b) :=
  .inr (.inr (.inr (.inl ⟨.inl rfl, rfl, by simp, by simp, fun s hs => by
    simp at hs
    rcases hs with rfl | rfl
    · exact ha
    · exact hb⟩)))
theorem both_plc : plc (d + 1) (both a b) = plc d a + plc d b := by simp [both, plc]
theorem both_lang (u : List Int) : lang (d + 1) (both a b) u ↔ ∃ u1 u2, u = u1 ++ u2 ∧ lang d a u1 ∧ lang d b u2 := by
  have e : lang (d + 1) (both a b) = catL [lang d a, lang d b] := by simp [both, lang]
  rw [e]
  simp only [catL, cat2, epsL]
  constructor
  · rintro ⟨u1, u2, rfl, h1, v1, v2, rfl, h2, rfl⟩
    exact ⟨u1, v1, by simp, h1, h2⟩
  · rintro ⟨u1, u2, rfl, h1, h2⟩
    exact ⟨u1, u2, rfl, h1, u2, [], by simp, h2, rfl⟩
/-- it matches just where a cut is -/
theorem both_cut (ha : wf 3 d a) (hb : wf 3 d b) (u : List Int) : mtQ (prg (d + 1) (both a b)) u = true ↔ ∃ i, i ≤ u.length ∧ mtQ (prg d a) (u.take i) = true ∧ mtQ (prg d b) (u.drop i) = true := by
  rw [mtQ_iff (both_wf ha hb), both_lang]
  constructor
  · rintro ⟨u1, u2, rfl, h1, h2⟩
    exact ⟨u1.length, by simp, by rw [mtQ_iff ha]; simpa using h1, by rw [mtQ_iff hb]; simpa using h2⟩
  · rintro ⟨i, hi, h1, h2⟩
    exact ⟨u.take i, u.drop i, (List.take_append_drop i u).symm, (mtQ_iff ha _).1 h1, (mtQ_iff hb _).1 h2⟩
end
set_option maxRecDepth 100000 in
theorem small_anyd {d : Nat} (hd : d ≤ 5) (w : World) (r : Rx) (cs : List Value) (hR : RgC w w.heap.size d r cs) (hw : wf 3 d r) :
    Calls Tryd.prog 25 #[.agg cs.toArray] w fun e w' => e = .returned (.bool (decide (plc d r ≤ 5))) ∧ Below w.heap.size w w' := by
  obtain ⟨v0, v1, v2, v3, v4, v5, v6, rfl⟩ := seven hR.len
  have HB := Lib.hid (Bx.new w [v0, v1, v2, v3, v4, v5, v6])
  have CP := Lib.hid (plc_ok d (by omega) (w.alloc (.cells #[v0, v1, v2, v3, v4, v5, v6] 25)) r _ ((hR.below HB.out.l).more HB.out.l.size) hw)
  have hp := plc_le d r hw
  have h2 : (124 : Nat) * 6 ^ d ≤ 964224 := by
    have : (6 : Nat) ^ d ≤ 6 ^ 5 := Nat.pow_le_pow_right (by omega) hd
    omega
  have hp2 : plc d r ≤ 964224 := Nat.le_trans hp h2
  clear hR h2 hp
  generalize plc d r = x at *
  have HD := Lib.hid (show decide ((x : Int) ≤ 5) = decide (x ≤ 5) by rw [Bool.eq_iff_iff, decide_eq_true_eq, decide_eq_true_eq]; omega)
  go_enter Tryd.func25, Tryd.ntmps25
  go_wp2_with (first | (go_at_call 30; refine CP.out.mono ?_; rintro e w2 ⟨rfl, h2⟩; have H2 := Lib.hid (HB.out.go h2); clear h2) | fail)
  go_ret
  rw [← HD.out]
  exact ⟨rfl, H2.out.l⟩
end Go.Proofs.YtbkpgfccghombaaDoor.rx
