/-
  Parts of the proof in one text: Tf, Th. Conditions: as each states.
-/
import Derived.Test.YtbkpgfccghombaaDoorWzZz
import Derived.Test.YtbkpgfccghombaaDoorRwZz
import Derived.Test.YtbkpgfccghombaaDoorS01
import Derived.Test.YtbkpgfccghombaaDoorM04
import Derived.Test.YtbkpgfccghombaaDoorM17
import Derived.OrdersHeld
import Derived.Deep.RegionHeld
/-! A region that draws its order: three calls, one behind the other, and two variables that are made anywhere between them; what has been read first. Conditions: as stated. -/
namespace Go.Proofs.YtbkpgfccghombaaDoor.rx
open Go.ChangeShapes Go.WideShapes Go.ChangeAt Go.RowKit
set_option linter.unusedVariables false
set_option linter.unusedSimpArgs false

/-- the cells of an expression that has been made just now -/
def zRx : List Value := [.int .i64 0, .slice none 0 0, .int .i64 0, .int .i64 0, .bool false, .bool false, .slice none 0 0]
/-- an expression, outside some blocks -/
def OkX (O : Nat → Prop) (v : Value) (w : World) : Prop := ∃ (r : Rx) (cs : List Value), v = .agg cs.toArray ∧ wf 3 4 r ∧ RgO w O 4 r cs
/-- the blocks of the two variables -/
def Two (p q : Bool) (v7 v8 : Value) (k : Nat) : Prop := (p = true ∧ v7 = .pointer (some ⟨k, 0, none⟩)) ∨ (q = true ∧ v8 = .pointer (some ⟨k, 0, none⟩))
/-- a new variable -/
def OkP (w0 : World) (v : Value) (w : World) : Prop := ∃ g, v = .pointer (some ⟨g, 0, none⟩) ∧ w0.heap.size ≤ g ∧ Blk w g 25 zRx
/-- a state of the region: n calls, the first variable, the second one -/
structure Rst (w0 : World) (O : Value → Prop) (n : Nat) (p q : Bool) (v7 v8 v42 v44 v46 : Value) (w : World) : Prop where
  low : Below w0.heap.size w0 w
  c1 : 1 ≤ n → OkX (Two p q v7 v8) v42 w
  c2 : 2 ≤ n → OkX (Two p q v7 v8) v44 w
  c3 : 3 ≤ n → O v46
  p7 : p = true → OkP w0 v7 w
  p8 : q = true → OkP w0 v8 w
  ne : p = true → q = true → v7 ≠ v8
theorem OkX.go {O O' : Nat → Prop} {v : Value} {w w' : World} (h : OkX O v w) (hf : Fr O w w') (ho : ∀ k, O' k → O k ∨ w.heap.size ≤ k) : OkX O' v w' := by
  obtain ⟨r, cs, h1, h2, h3⟩ := h
  exact ⟨r, cs, h1, h2, h3.go hf ho⟩
theorem OkP.go {w0 : World} {v : Value} {w w' : World} (h : OkP w0 v w) (hb : Below w.heap.size w w') : OkP w0 v w' := by
  obtain ⟨g, h1, h2, h3⟩ := h
  exact ⟨g, h1, h2, h3.below hb h3.lt⟩
section
variable {w0 : World} {O : Value → Prop} {n : Nat} {p q : Bool} {v7 v8 v42 v44 v46 : Value} {w w' : World}
theorem Rst.lt (h : Rst w0 O n p q v7 v8 v42 v44 v46 w) {k : Nat} (hk : Two p q v7 v8 k) : k < w.heap.size := by
  rcases hk with ⟨e, e2⟩ | ⟨e, e2⟩
  · obtain ⟨g, rfl, -, hg⟩ := h.p7 e
    injection e2 with e2
    injection e2 with e2
    injection e2 with e2
    exact e2 ▸ hg.lt
  · obtain ⟨g, rfl, -, hg⟩ := h.p8 e
    injection e2 with e2
    injection e2 with e2
    injection e2 with e2
    exact e2 ▸ hg.lt
theorem Rst.new7 (h : Rst w0 O n false q v7 v8 v42 v44 v46 w) : Rst w0 O n true q (.pointer (some ⟨w.heap.size, 0, none⟩)) v8 v42 v44 v46 (w.alloc (.cells zRx.toArray 25)) := by
  have hb : Below w.heap.size w (w.alloc (.cells zRx.toArray 25)) := (Below.refl _ _).alloc (Nat.le_refl _) _
  have ho : ∀ k, Two true q (.pointer (some ⟨w.heap.size, 0, none⟩)) v8 k → Two false q v7 v8 k ∨ w.heap.size ≤ k := fun k hk => by
    rcases hk with ⟨-, e2⟩ | e
    · injection e2 with e2
      injection e2 with e2
      injection e2 with e2
      exact .inr (Nat.le_of_eq e2)
    · exact .inl (.inr e)
  refine ⟨h.low.alloc h.low.size _, fun e => (h.c1 e).go (Fr.none_of_below hb) ho, fun e => (h.c2 e).go (Fr.none_of_below hb) ho, h.c3, fun _ => ⟨_, rfl, h.low.size, Blk.new w _ _⟩, fun e => (h.p8 e).go hb, fun _ e => ?_⟩
  obtain ⟨g, rfl, -, hg⟩ := h.p8 e
  intro e2
  injection e2 with e2
  injection e2 with e2
  injection e2 with e2
  have := hg.lt
  omega
theorem Rst.new8 (h : Rst w0 O n p false v7 v8 v42 v44 v46 w) : Rst w0 O n p true v7 (.pointer (some ⟨w.heap.size, 0, none⟩)) v42 v44 v46 (w.alloc (.cells zRx.toArray 25)) := by
  have hb : Below w.heap.size w (w.alloc (.cells zRx.toArray 25)) := (Below.refl _ _).alloc (Nat.le_refl _) _
  have ho : ∀ k, Two p true v7 (.pointer (some ⟨w.heap.size, 0, none⟩)) k → Two p false v7 v8 k ∨ w.heap.size ≤ k := fun k hk => by
    rcases hk with e | ⟨-, e2⟩
    · exact .inl (.inl e)
    · injection e2 with e2
      injection e2 with e2
      injection e2 with e2
      exact .inr (Nat.le_of_eq e2)
  refine ⟨h.low.alloc h.low.size _, fun e => (h.c1 e).go (Fr.none_of_below hb) ho, fun e => (h.c2 e).go (Fr.none_of_below hb) ho, h.c3, fun e => (h.p7 e).go hb, fun _ => ⟨_, rfl, h.low.size, Blk.new w _ _⟩, fun e _ => ?_⟩
  obtain ⟨g, rfl, -, hg⟩ := h.p7 e
  intro e2
  injection e2 with e2
  injection e2 with e2
  injection e2 with e2
  have := hg.lt
  omega
theorem Rst.call1 (h : Rst w0 O 0 p q v7 v8 v42 v44 v46 w) {v : Value} (hb : Below w.heap.size w w') (hv : OkX (fun k => k < w.heap.size) v w') : Rst w0 O 1 p q v7 v8 v v44 v46 w' :=
  ⟨h.low.trans (hb.mono h.low.size), fun _ => hv.go (Fr.refl _ _) (fun k hk => .inl (h.lt hk)), fun e => by omega, fun e => by omega, fun e => (h.p7 e).go hb, fun e => (h.p8 e).go hb, h.ne⟩
theorem Rst.call2 (h : Rst w0 O 1 p q v7 v8 v42 v44 v46 w) {v : Value} (hb : Below w.heap.size w w') (hv : OkX (fun k => k < w.heap.size) v w') : Rst w0 O 2 p q v7 v8 v42 v v46 w' :=
  ⟨h.low.trans (hb.mono h.low.size), fun _ => (h.c1 (by omega)).go (Fr.none_of_below hb) (fun k hk => .inl hk), fun _ => hv.go (Fr.refl _ _) (fun k hk => .inl (h.lt hk)), fun e => by omega, fun e => (h.p7 e).go hb, fun e => (h.p8 e).go hb, h.ne⟩
theorem Rst.call3 (h : Rst w0 O 2 p q v7 v8 v42 v44 v46 w) {v : Value} (hv : O v) : Rst w0 O 3 p q v7 v8 v42 v44 v w :=
  ⟨h.low, fun _ => h.c1 (by omega), fun _ => h.c2 (by omega), fun _ => hv, h.p7, h.p8, h.ne⟩
end
/-- a variable that is written whole -/
def st7 (w : World) (g : Nat) (v0 v1 v2 v3 v4 v5 v6 : Value) : World := ((((((w.setCell ⟨g, 0, none⟩ v0).setCell ⟨g, 1, none⟩ v1).setCell ⟨g, 2, none⟩ v2).setCell ⟨g, 3, none⟩ v3).setCell ⟨g, 4, none⟩ v4).setCell ⟨g, 5, none⟩ v5).setCell ⟨g, 6, none⟩ v6
section
variable {w w0 : World} {g : Nat} {t : TypeId} {v0 v1 v2 v3 v4 v5 v6 : Value}
theorem st7_blk (h : Blk w g t zRx) : Blk (st7 w g v0 v1 v2 v3 v4 v5 v6) g t [v0, v1, v2, v3, v4, v5, v6] :=
  ((((((h.set_ 0 v0).set_ 1 v1).set_ 2 v2).set_ 3 v3).set_ 4 v4).set_ 5 v5).set_ 6 v6
theorem st7_far {g' : Nat} {t' : TypeId} {l : List Value} (h : Blk w g' t' l) (hne : g' ≠ g) : Blk (st7 w g v0 v1 v2 v3 v4 v5 v6) g' t' l :=
  ((((((h.far hne v0).far hne v1).far hne v2).far hne v3).far hne v4).far hne v5).far hne v6
theorem st7_low (h : Below w0.heap.size w0 w) (hg : w0.heap.size ≤ g) : Below w0.heap.size w0 (st7 w g v0 v1 v2 v3 v4 v5 v6) :=
  ((((((h.setCell hg v0).setCell hg v1).setCell hg v2).setCell hg v3).setCell hg v4).setCell hg v5).setCell hg v6
theorem st7_fr {O : Nat → Prop} (hg : O g) : Fr O w (st7 w g v0 v1 v2 v3 v4 v5 v6) :=
  (((((((Fr.refl O w).set ⟨g, 0, none⟩ v0 hg).set ⟨g, 1, none⟩ v1 hg).set ⟨g, 2, none⟩ v2 hg).set ⟨g, 3, none⟩ v3 hg).set ⟨g, 4, none⟩ v4 hg).set ⟨g, 5, none⟩ v5 hg).set ⟨g, 6, none⟩ v6 hg
end
/-- the five slots -/
def pt5 (a : Act) (v7 v8 v42 v44 v46 : Value) : Act := ((((a.put (some 7) v7).put (some 8) v8).put (some 42) v42).put (some 44) v44).put (some 46) v46
/-- what has come up -/
def lst5 (n : Nat) (p q : Bool) : Array Bool := #[true, decide (1 ≤ n), true, decide (2 ≤ n), true, decide (3 ≤ n), p, q, false, false, false]
/-- what may come up -/
def rdy5 (n : Nat) (p q : Bool) : List Nat := (if n = 0 then [1] else if n = 1 then [3] else if n = 2 then [5] else []) ++ ((if p then [] else [6]) ++ (if q then [] else [7]))
section
variable {P : Program} {ops : Array Oper} {Q : Exit → Act → World → Prop} {S : World → Prop} {a : Act} {w0 : World} {O : Value → Prop}
theorem float5 (hS : ∀ w, Below w0.heap.size w0 w → S w)
    (hr : ∀ n p q, n ≤ 3 → ¬ (n = 3 ∧ p = true ∧ q = true) → Region.ready .any ops (lst5 n p q) = rdy5 n p q)
    (h6 : ∀ v7 v8 v42 v44 v46 w (K : Act → World → Prop), K (pt5 a (.pointer (some ⟨w.heap.size, 0, none⟩)) v8 v42 v44 v46) (w.alloc (.cells zRx.toArray 25)) → wpOp P ops Q 6 K (pt5 a v7 v8 v42 v44 v46) w)
    (h7 : ∀ v7 v8 v42 v44 v46 w (K : Act → World → Prop), K (pt5 a v7 (.pointer (some ⟨w.heap.size, 0, none⟩)) v42 v44 v46) (w.alloc (.cells zRx.toArray 25)) → wpOp P ops Q 7 K (pt5 a v7 v8 v42 v44 v46) w)
    (h1 : ∀ v7 v8 v42 v44 v46 w (K : Act → World → Prop), Below w0.heap.size w0 w → (∀ v w', OkX (fun k => k < w.heap.size) v w' → Below w.heap.size w w' → K (pt5 a v7 v8 v v44 v46) w') → wpOp P ops Q 1 K (pt5 a v7 v8 v42 v44 v46) w)
    (h3 : ∀ v7 v8 v42 v44 v46 w (K : Act → World → Prop), Below w0.heap.size w0 w → (∀ v w', OkX (fun k => k < w.heap.size) v w' → Below w.heap.size w w' → K (pt5 a v7 v8 v42 v v46) w') → wpOp P ops Q 3 K (pt5 a v7 v8 v42 v44 v46) w)
    (h5 : ∀ v7 v8 v42 v44 v46 w (K : Act → World → Prop), Below w0.heap.size w0 w → (∀ v, O v → K (pt5 a v7 v8 v42 v44 v) w) → wpOp P ops Q 5 K (pt5 a v7 v8 v42 v44 v46) w)
    (hf : ∀ v7 v8 v42 v44 v46 w, Rst w0 O 3 true true v7 v8 v42 v44 v46 w → wpAnyH P .any ops Q S 3 (lst5 3 true true) (pt5 a v7 v8 v42 v44 v46) w) :
    ∀ (m n : Nat) (p q : Bool) v7 v8 v42 v44 v46 w, n ≤ 3 → m = (3 - n) + (if p then 0 else 1) + (if q then 0 else 1) → Rst w0 O n p q v7 v8 v42 v44 v46 w → wpAnyH P .any ops Q S (m + 3) (lst5 n p q) (pt5 a v7 v8 v42 v44 v46) w := by
  intro m
  induction m with
  | zero =>
    intro n p q v7 v8 v42 v44 v46 w hn hm h
    cases p <;> cases q <;> simp at hm
    obtain rfl : n = 3 := by omega
    exact hf _ _ _ _ _ _ h
  | succ m ih =>
    intro n p q v7 v8 v42 v44 v46 w hn hm h
    have hnot : ¬ (n = 3 ∧ p = true ∧ q = true) := by
      rintro ⟨rfl, rfl, rfl⟩
      simp at hm
    have hrd := hr n p q hn hnot
    have hne : rdy5 n p q ≠ [] := by
      intro e
      unfold rdy5 at e
      rcases n with _ | _ | _ | _ | n
      · simp at e
      · simp at e
      · simp at e
      · cases p <;> cases q <;> simp at e
        simp at hm
      · omega
    have hstep : AllReadyH P .any ops Q S (m + 3) (lst5 n p q) (pt5 a v7 v8 v42 v44 v46) w (rdy5 n p q) := by
      intro i hi
      unfold rdy5 at hi
      rcases List.mem_append.1 hi with hi | hi
      · rcases n with _ | _ | _ | n
        · simp at hi
          subst hi
          refine h1 _ _ _ _ _ _ _ h.low fun v w' hv hb => ?_
          have h2 := h.call1 hb hv
          exact ⟨hS _ h2.low, ih 1 p q _ _ _ _ _ _ (by omega) (by omega) h2⟩
        · simp at hi
          subst hi
          refine h3 _ _ _ _ _ _ _ h.low fun v w' hv hb => ?_
          have h2 := h.call2 hb hv
          exact ⟨hS _ h2.low, ih 2 p q _ _ _ _ _ _ (by omega) (by omega) h2⟩
        · simp at hi
          subst hi
          refine h5 _ _ _ _ _ _ _ h.low fun v hv => ?_
          have h2 := h.call3 hv
          exact ⟨hS _ h2.low, ih 3 p q _ _ _ _ _ _ (by omega) (by omega) h2⟩
        · rw [if_neg (by omega), if_neg (by omega), if_neg (by omega)] at hi
          simp at hi
      · rcases List.mem_append.1 hi with hi | hi
        · cases p with
          | true => simp at hi
          | false =>
            simp at hi
            subst hi
            refine h6 _ _ _ _ _ _ _ ?_
            have h2 := h.new7
            exact ⟨hS _ h2.low, ih n true q _ _ _ _ _ _ hn (by simp at hm ⊢; omega) h2⟩
        · cases q with
          | true => simp at hi
          | false =>
            simp at hi
            subst hi
            refine h7 _ _ _ _ _ _ _ ?_
            have h2 := h.new8
            exact ⟨hS _ h2.low, ih n p true _ _ _ _ _ _ hn (by simp at hm ⊢; omega) h2⟩
    have := wpAnyH_ready (Q := Q) (S := S) (P := P) hrd hne hstep
    rwa [show m + 3 + 1 = m + 1 + 3 by omega] at this
theorem float5_go {listed : Array Bool} (hl : listed = lst5 0 false false) (hself : a = pt5 a undef undef undef undef undef) (hS : ∀ w, Below w0.heap.size w0 w → S w)
    (hr : ∀ n p q, n ≤ 3 → ¬ (n = 3 ∧ p = true ∧ q = true) → Region.ready .any ops (lst5 n p q) = rdy5 n p q)
    (h6 : ∀ v7 v8 v42 v44 v46 w (K : Act → World → Prop), K (pt5 a (.pointer (some ⟨w.heap.size, 0, none⟩)) v8 v42 v44 v46) (w.alloc (.cells zRx.toArray 25)) → wpOp P ops Q 6 K (pt5 a v7 v8 v42 v44 v46) w)
    (h7 : ∀ v7 v8 v42 v44 v46 w (K : Act → World → Prop), K (pt5 a v7 (.pointer (some ⟨w.heap.size, 0, none⟩)) v42 v44 v46) (w.alloc (.cells zRx.toArray 25)) → wpOp P ops Q 7 K (pt5 a v7 v8 v42 v44 v46) w)
    (h1 : ∀ v7 v8 v42 v44 v46 w (K : Act → World → Prop), Below w0.heap.size w0 w → (∀ v w', OkX (fun k => k < w.heap.size) v w' → Below w.heap.size w w' → K (pt5 a v7 v8 v v44 v46) w') → wpOp P ops Q 1 K (pt5 a v7 v8 v42 v44 v46) w)
    (h3 : ∀ v7 v8 v42 v44 v46 w (K : Act → World → Prop), Below w0.heap.size w0 w → (∀ v w', OkX (fun k => k < w.heap.size) v w' → Below w.heap.size w w' → K (pt5 a v7 v8 v42 v v46) w') → wpOp P ops Q 3 K (pt5 a v7 v8 v42 v44 v46) w)
    (h5 : ∀ v7 v8 v42 v44 v46 w (K : Act → World → Prop), Below w0.heap.size w0 w → (∀ v, O v → K (pt5 a v7 v8 v42 v44 v) w) → wpOp P ops Q 5 K (pt5 a v7 v8 v42 v44 v46) w)
    (hf : ∀ v7 v8 v42 v44 v46 w, Rst w0 O 3 true true v7 v8 v42 v44 v46 w → wpAnyH P .any ops Q S 3 (lst5 3 true true) (pt5 a v7 v8 v42 v44 v46) w) :
    wpAnyH P .any ops Q S 8 listed a w0 := by
  have := float5 hS hr h6 h7 h1 h3 h5 hf 5 0 false false undef undef undef undef undef w0 (by omega) rfl
    ⟨Below.refl _ _, fun e => by omega, fun e => by omega, fun e => by omega, fun e => (by cases e), fun e => (by cases e), fun e => (by cases e)⟩
  rw [← hself] at this
  rw [hl]
  exact this
end
end Go.Proofs.YtbkpgfccghombaaDoor.rx

/-! FnRegexThen: the law's walk (begun; does not build yet). Conditions: the listed variables. -/
namespace Go.Proofs.YtbkpgfccghombaaDoor.rx
open Go.ChangeShapes Go.WideShapes Go.ChangeAt Go.RowKit
set_option linter.unusedVariables false
set_option linter.unusedSimpArgs false

theorem sz_byLT {u : ByteArray} {l : List Int} (h : byL u = l) : u.size = l.length := by rw [← h, byL_len]
set_option maxRecDepth 100000 in
theorem few_bigT (t : ByteArray) (m : Nat) (w : World) (hm : m ≤ 1000) (ht : t.size ≤ 9223372036854775807) : Calls Tryd.prog 11 #[.string t, .int .i64 m] w fun e w' => ∃ u, e = .returned (.string u) ∧ byL u = (byL t).take m ∧ w = w' := by
  by_cases h : t.size ≤ m
  · have hmin : min (t.size : Int) (m : Int) = t.size := by omega
    go_enter Tryd.func11, Tryd.ntmps11
    go_wp2
    go_ret
    exact ⟨_, rfl, by rw [List.take_of_length_le (by rw [byL_len]; exact h)], rfl⟩
  · have hlt : m < t.size := by omega
    have hmin : min (t.size : Int) (m : Int) = m := by omega
    go_enter Tryd.func11, Tryd.ntmps11
    go_wp2
    go_ret
    exact ⟨_, rfl, by rw [byL_ext, List.drop_zero], rfl⟩
set_option maxRecDepth 100000 in
theorem node_any (w : World) (op : Int) (a : Option Addr) (n c : Nat) : Calls Tryd.prog 23 #[.int .i64 op, .slice a n c] w fun e w' => e = .returned (.agg #[.int .i64 op, .slice none 0 0, .int .i64 0, .int .i64 0, .bool false, .bool false, .slice a n c]) ∧ Below w.heap.size w w' := by
  have HB := Lib.hid (Bx.new w [.int .i64 op, .slice none 0 0, .int .i64 0, .int .i64 0, .bool false, .bool false, .slice a n c])
  go_enter Tryd.func23, Tryd.ntmps23
  go_wp2
  go_returns
  exact ⟨rfl, HB.out.l⟩
theorem both_mem {w : World} {B g : Nat} {r1 r2 : Rx} {c1 c2 : List Value} (hb : Blk w g 25 (c1 ++ c2)) (hg : g < B) (h1 : RgC w B 4 r1 c1) (h2 : RgC w B 4 r2 c2) :
    RgC w B 5 (both r1 r2) [.int .i64 18, .slice none 0 0, .int .i64 0, .int .i64 0, .bool false, .bool false, .slice (some ⟨g, 0, none⟩) 2 2] := by
  refine ⟨none, 0, some ⟨g, 0, none⟩, 2, [c1, c2], rfl, Sl.nil, rfl, fun x hx => ?_, ?_, fun x hx => ?_⟩
  · simp at hx
    rcases hx with rfl | rfl
    · exact h1.len
    · exact h2.len
  · have e : [c1, c2].flatMap id = c1 ++ c2 := by simp
    rw [e]
    exact hb.sl hg
  · simp at hx
    rcases hx with rfl | rfl
    · exact h1
    · exact h2
theorem comp_le4 (r : Rx) (h : wf 3 4 r) : (comp 4 0 r).length ≤ 900000000000 := by
  have := comp_len (L := 26738696) (by omega) cls_le 4 r 0 h (wf_cls 4 r h)
  have e : bnd 26738696 4 ≤ 900000000000 := by decide
  omega
/-- whether there is a cut ahead of a place -/
def cutB (r1 r2 : Rx) (u : List Int) (i : Nat) : Bool := (List.range i).any fun j => mtQ (prg 4 r1) (u.take j) && mtQ (prg 4 r2) (u.drop j)
theorem cutB_succ (r1 r2 : Rx) (u : List Int) (i : Nat) : cutB r1 r2 u (i + 1) = (cutB r1 r2 u i || mtQ (prg 4 r1) (u.take i) && mtQ (prg 4 r2) (u.drop i)) := by
  simp [cutB, List.range_succ]
theorem cutB_all {r1 r2 : Rx} (h1 : wf 3 4 r1) (h2 : wf 3 4 r2) (u : List Int) : mtQ (prg 5 (both r1 r2)) u = cutB r1 r2 u (u.length + 1) := by
  rw [Bool.eq_iff_iff, both_cut h1 h2]
  unfold cutB
  rw [List.any_eq_true]
  constructor
  · rintro ⟨j, hj, a, b⟩
    exact ⟨j, List.mem_range.2 (by omega), by rw [a, b]; rfl⟩
  · rintro ⟨j, hj, h⟩
    rw [Bool.and_eq_true] at h
    exact ⟨j, by have := List.mem_range.1 hj; omega, h.1, h.2⟩
set_option maxRecDepth 100000 in
set_option maxHeartbeats 3200000 in
theorem then_walk (cs1 cs2 : List Value) (t : ByteArray) (W : World) {a0 a1 a2 a3 a4 : Addr} (hR : ∀ n, RawC W W.heap.size n cs1) (hQ : ∀ n, RawC W W.heap.size n cs2) (hA : LaidAll W a0 a1 a2 a3 a4) (ht : t.size ≤ 9223372036854775807) :
    Calls Tryd.prog 6 #[.agg cs1.toArray, .agg cs2.toArray, .string t] W fun e w' => e = .returned (.bool true) ∧ Below W.heap.size W w' := by
  have hR5 := Lib.hid (hR 4)
  have hQ5 := Lib.hid (hQ 4)
  obtain ⟨op, mn, mx, lz, fo, ra, rc, sa, sc, rs, ls, rfl, -, -⟩ := hR 1
  obtain ⟨op', mn', mx', lz', fo', ra', rc', sa', sc', rs', ls', rfl, -, -⟩ := hQ 1
  have HA := Lib.hid hA
  clear hR hQ hA
  have CF := Lib.hid (fun w => fits_any op mn mx lz fo ra rs.length rc sa ls.length sc w)
  have CF' := Lib.hid (fun w => fits_any op' mn' mx' lz' fo' ra' rs'.length rc' sa' ls'.length sc' w)
  have CWD := Lib.hid (fun w => wide_any op mn mx lz fo ra rs.length rc sa ls.length sc w)
  have CWD' := Lib.hid (fun w => wide_any op' mn' mx' lz' fo' ra' rs'.length rc' sa' ls'.length sc' w)
  have HB := Lib.hid (Bx.new W (rwc op mn mx lz fo ra rs.length rc sa ls.length sc))
  have HB' := Lib.hid (Bx.new (W.alloc (.cells (rwc op mn mx lz fo ra rs.length rc sa ls.length sc).toArray 25)) (rwc op' mn' mx' lz' fo' ra' rs'.length rc' sa' ls'.length sc'))
  unfold rwc at *
  go_enter Tryd.func6, Tryd.ntmps6
  obtain ⟨bf, hbf⟩ : ∃ bf, bf = decide (rs.length ≤ 2147483647 ∧ ls.length ≤ 2147483647) := ⟨_, rfl⟩
  obtain ⟨bf', hbf'⟩ : ∃ bf, bf = decide (rs'.length ≤ 2147483647 ∧ ls'.length ≤ 2147483647) := ⟨_, rfl⟩
  rw [← hbf] at CF
  rw [← hbf'] at CF'
  clear hbf hbf'
  go_upto_region 1 with fail
  refine name_world ?_
  intro w1 hw1
  have HW1 := Lib.hid (show Below W.heap.size W w1 from by rw [hw1]; exact ((Below.refl _ _).alloc (Nat.le_refl _) _).alloc (by simp) _)
  have K1 := Lib.hid (fun (w : World) (hb : Below w1.heap.size w1 w) => show Blk w W.heap.size 25 [.int .i64 op, .slice ra rs.length rc, .int .i64 mn, .int .i64 mx, .bool lz, .bool fo, .slice sa ls.length sc] from by
    have h : Blk w1 W.heap.size 25 [.int .i64 op, .slice ra rs.length rc, .int .i64 mn, .int .i64 mx, .bool lz, .bool fo, .slice sa ls.length sc] := by rw [hw1]; exact (Blk.new W _ [.int .i64 op, .slice ra rs.length rc, .int .i64 mn, .int .i64 mx, .bool lz, .bool fo, .slice sa ls.length sc]).alloc _
    exact h.below hb h.lt)
  have K2 := Lib.hid (fun (w : World) (hb : Below w1.heap.size w1 w) => show Blk w (W.heap.size + 1) 25 [.int .i64 op', .slice ra' rs'.length rc', .int .i64 mn', .int .i64 mx', .bool lz', .bool fo', .slice sa' ls'.length sc'] from by
    have h : Blk w1 (W.heap.size + 1) 25 [.int .i64 op', .slice ra' rs'.length rc', .int .i64 mn', .int .i64 mx', .bool lz', .bool fo', .slice sa' ls'.length sc'] := by
      have := Blk.new (W.alloc (.cells #[.int .i64 op, .slice ra rs.length rc, .int .i64 mn, .int .i64 mx, .bool lz, .bool fo, .slice sa ls.length sc] 25)) 25 [.int .i64 op', .slice ra' rs'.length rc', .int .i64 mn', .int .i64 mx', .bool lz', .bool fo', .slice sa' ls'.length sc']
      rw [hw1]
      simpa using this
    exact h.below hb h.lt)
  clear hw1 HB HB'
  have e0 := (K1.out w1 (Below.refl _ _)).cell 0
  have e1 := (K1.out w1 (Below.refl _ _)).cell 1
  have e2 := (K1.out w1 (Below.refl _ _)).cell 2
  have e3 := (K1.out w1 (Below.refl _ _)).cell 3
  have e4 := (K1.out w1 (Below.refl _ _)).cell 4
  have e5 := (K1.out w1 (Below.refl _ _)).cell 5
  have e6 := (K1.out w1 (Below.refl _ _)).cell 6
  have d0 := (K2.out w1 (Below.refl _ _)).cell 0
  have d1 := (K2.out w1 (Below.refl _ _)).cell 1
  have d2 := (K2.out w1 (Below.refl _ _)).cell 2
  have d3 := (K2.out w1 (Below.refl _ _)).cell 3
  have d4 := (K2.out w1 (Below.refl _ _)).cell 4
  have d5 := (K2.out w1 (Below.refl _ _)).cell 5
  have d6 := (K2.out w1 (Below.refl _ _)).cell 6
  simp only [List.getElem?_cons_zero, List.getElem?_cons_succ] at e0 e1 e2 e3 e4 e5 e6 d0 d1 d2 d3 d4 d5 d6
  cases bf
  · go_wp2_with (first | (go_at_call 8; refine (CF.out _).mono ?_; rintro e w2 ⟨rfl, h2⟩; have HB2 := Lib.hid h2; clear h2) | fail)
    go_ret
    exact ⟨rfl, HW1.out.trans (HB2.out.mono HW1.out.size)⟩
  by_cases htl : (2147483647 : Int) < (t.size : Int)
  · cases bf'
    all_goals
      go_wp2_with (first | (go_at_call 8; refine (CF.out _).mono ?_; rintro e w2 ⟨rfl, h2⟩; have HB2 := Lib.hid h2; clear CF h2 e0 e1 e2 e3 e4 e5 e6 d0 d1 d2 d3 d4 d5 d6; (have d0 := (K2.out w2 HB2.out).cell 0); (have d1 := (K2.out w2 HB2.out).cell 1); (have d2 := (K2.out w2 HB2.out).cell 2); (have d3 := (K2.out w2 HB2.out).cell 3); (have d4 := (K2.out w2 HB2.out).cell 4); (have d5 := (K2.out w2 HB2.out).cell 5); (have d6 := (K2.out w2 HB2.out).cell 6); simp only [List.getElem?_cons_zero, List.getElem?_cons_succ] at d0 d1 d2 d3 d4 d5 d6) | (go_at_call 8; refine (CF'.out _).mono ?_; rintro e w3 ⟨rfl, h3⟩; have HB3 := Lib.hid (HB2.out.trans (h3.mono HB2.out.size)); clear h3) | fail)
      go_ret
      exact ⟨rfl, HW1.out.trans (HB3.out.mono HW1.out.size)⟩
  cases bf'
  · go_wp2_with (first | (go_at_call 8; refine (CF.out _).mono ?_; rintro e w2 ⟨rfl, h2⟩; have HB2 := Lib.hid h2; clear CF h2 e0 e1 e2 e3 e4 e5 e6 d0 d1 d2 d3 d4 d5 d6; (have d0 := (K2.out w2 HB2.out).cell 0); (have d1 := (K2.out w2 HB2.out).cell 1); (have d2 := (K2.out w2 HB2.out).cell 2); (have d3 := (K2.out w2 HB2.out).cell 3); (have d4 := (K2.out w2 HB2.out).cell 4); (have d5 := (K2.out w2 HB2.out).cell 5); (have d6 := (K2.out w2 HB2.out).cell 6); simp only [List.getElem?_cons_zero, List.getElem?_cons_succ] at d0 d1 d2 d3 d4 d5 d6) | (go_at_call 8; refine (CF'.out _).mono ?_; rintro e w3 ⟨rfl, h3⟩; have HB3 := Lib.hid (HB2.out.trans (h3.mono HB2.out.size)); clear h3) | fail)
    go_ret
    exact ⟨rfl, HW1.out.trans (HB3.out.mono HW1.out.size)⟩
  go_upto_region 3 with (first | (go_at_call 8; refine (CF.out _).mono ?_; rintro e w2 ⟨rfl, h2⟩; have HB2 := Lib.hid h2; clear CF h2 e0 e1 e2 e3 e4 e5 e6 d0 d1 d2 d3 d4 d5 d6; (have d0 := (K2.out w2 HB2.out).cell 0); (have d1 := (K2.out w2 HB2.out).cell 1); (have d2 := (K2.out w2 HB2.out).cell 2); (have d3 := (K2.out w2 HB2.out).cell 3); (have d4 := (K2.out w2 HB2.out).cell 4); (have d5 := (K2.out w2 HB2.out).cell 5); (have d6 := (K2.out w2 HB2.out).cell 6); simp only [List.getElem?_cons_zero, List.getElem?_cons_succ] at d0 d1 d2 d3 d4 d5 d6) | (go_at_call 8; refine (CF'.out _).mono ?_; rintro e w3 ⟨rfl, h3⟩; have HB3 := Lib.hid (HB2.out.trans (h3.mono HB2.out.size)); clear CF' h3 d0 d1 d2 d3 d4 d5 d6; (have e0 := (K1.out w3 HB3.out).cell 0); (have e1 := (K1.out w3 HB3.out).cell 1); (have e2 := (K1.out w3 HB3.out).cell 2); (have e3 := (K1.out w3 HB3.out).cell 3); (have e4 := (K1.out w3 HB3.out).cell 4); (have e5 := (K1.out w3 HB3.out).cell 5); (have e6 := (K1.out w3 HB3.out).cell 6); simp only [List.getElem?_cons_zero, List.getElem?_cons_succ] at e0 e1 e2 e3 e4 e5 e6) | fail)
  go_upto_region 5 with (first | (go_at_call 9; refine (CWD.out _).mono ?_; rintro e w4 ⟨b, rfl, h4⟩; have HB4 := Lib.hid (HB3.out.trans (h4.mono HB3.out.size)); clear CWD h4 e0 e1 e2 e3 e4 e5 e6; (have d0 := (K2.out w4 HB4.out).cell 0); (have d1 := (K2.out w4 HB4.out).cell 1); (have d2 := (K2.out w4 HB4.out).cell 2); (have d3 := (K2.out w4 HB4.out).cell 3); (have d4 := (K2.out w4 HB4.out).cell 4); (have d5 := (K2.out w4 HB4.out).cell 5); (have d6 := (K2.out w4 HB4.out).cell 6); simp only [List.getElem?_cons_zero, List.getElem?_cons_succ] at d0 d1 d2 d3 d4 d5 d6; cases b) | (go_at_call 9; refine (CWD'.out _).mono ?_; rintro e w5 ⟨b, rfl, h5⟩; have HB5 := Lib.hid (HB4.out.trans (h5.mono HB4.out.size)); clear CWD' h5; cases b) | fail)
  · go_wp2
    go_ret
    exact ⟨rfl, HW1.out.trans (HB4.out.mono HW1.out.size)⟩
  · go_wp2
    go_ret
    exact ⟨rfl, HW1.out.trans (HB5.out.mono HW1.out.size)⟩
  have CX1 := Lib.hid (fun w (hb : Below w1.heap.size w1 w) => exp_ok 4 (by omega) (by omega) w _ (RawC.keep (fun p hp => (HW1.out.trans (hb.mono HW1.out.size)).cell hp) (HW1.out.trans (hb.mono HW1.out.size)).size 4 _ hR5.out))
  have CX2 := Lib.hid (fun w (hb : Below w1.heap.size w1 w) => exp_ok 4 (by omega) (by omega) w _ (RawC.keep (fun p hp => (HW1.out.trans (hb.mono HW1.out.size)).cell hp) (HW1.out.trans (hb.mono HW1.out.size)).size 4 _ hQ5.out))
  have CFW := Lib.hid (fun w => few_bigT t 40 w (by omega) ht)
  clear d0 d1 d2 d3 d4 d5 d6
  go_cut [7, 8, 9] (fun v7 v8 v9 wx => ∃ (g7 g8 : Nat) (u : ByteArray) (r1 r2 : Rx) (c1 c2 : List Value), v7 = .pointer (some ⟨g7, 0, none⟩) ∧ v8 = .pointer (some ⟨g8, 0, none⟩) ∧ v9 = .string u ∧ Hid (wf 3 4 r1 ∧ wf 3 4 r2 ∧ byL u = (byL t).take 40 ∧ Blk wx g7 25 c1 ∧ Blk wx g8 25 c2 ∧ RgC wx wx.heap.size 4 r1 c1 ∧ RgC wx wx.heap.size 4 r2 c2 ∧ Below w1.heap.size w1 wx))
  case first =>
    have SF := Lib.hid (fun (w' : World) (hb : Below w1.heap.size w1 w') => And.intro hb (And.intro ((K1.out w' hb).cell 0) (And.intro ((K1.out w' hb).cell 1) (And.intro ((K1.out w' hb).cell 2) (And.intro ((K1.out w' hb).cell 3) (And.intro ((K1.out w' hb).cell 4) (And.intro ((K1.out w' hb).cell 5) (And.intro ((K1.out w' hb).cell 6) (And.intro ((K2.out w' hb).cell 0) (And.intro ((K2.out w' hb).cell 1) (And.intro ((K2.out w' hb).cell 2) (And.intro ((K2.out w' hb).cell 3) (And.intro ((K2.out w' hb).cell 4) (And.intro ((K2.out w' hb).cell 5) ((K2.out w' hb).cell 6)))))))))))))))
    simp only [List.getElem?_cons_zero, List.getElem?_cons_succ] at SF
    refine wp_region_noPanic ?_
    refine wp_region_held_drew (S := fun w' => Below w1.heap.size w1 w' ∧ w'.cell? ⟨W.heap.size, 0, none⟩ = some (.int .i64 op) ∧ w'.cell? ⟨W.heap.size, 1, none⟩ = some (.slice ra rs.length rc) ∧ w'.cell? ⟨W.heap.size, 2, none⟩ = some (.int .i64 mn) ∧ w'.cell? ⟨W.heap.size, 3, none⟩ = some (.int .i64 mx) ∧ w'.cell? ⟨W.heap.size, 4, none⟩ = some (.bool lz) ∧ w'.cell? ⟨W.heap.size, 5, none⟩ = some (.bool fo) ∧ w'.cell? ⟨W.heap.size, 6, none⟩ = some (.slice sa ls.length sc) ∧ w'.cell? ⟨W.heap.size + 1, 0, none⟩ = some (.int .i64 op') ∧ w'.cell? ⟨W.heap.size + 1, 1, none⟩ = some (.slice ra' rs'.length rc') ∧ w'.cell? ⟨W.heap.size + 1, 2, none⟩ = some (.int .i64 mn') ∧ w'.cell? ⟨W.heap.size + 1, 3, none⟩ = some (.int .i64 mx') ∧ w'.cell? ⟨W.heap.size + 1, 4, none⟩ = some (.bool lz') ∧ w'.cell? ⟨W.heap.size + 1, 5, none⟩ = some (.bool fo') ∧ w'.cell? ⟨W.heap.size + 1, 6, none⟩ = some (.slice sa' ls'.length sc')) (by kernel_rfl) (SF.out _ HB5.out.drew) (fun hHeld => ?_)
    simp only [List.size_toArray, List.length_cons, List.length_nil, Nat.reduceAdd]
    refine wpAnyH_take (i := 4) (oi := ?oi4) (v := ?v4) ?hi4 (by kernel_rfl) (by kernel_rfl) (by kernel_rfl) ?hQ4 ?hy4 (by assumption) ?rest4
    case hi4 =>
      simp only [List.getElem?_toArray, List.getElem?_cons_succ, List.getElem?_cons_zero]
      rfl
    case hQ4 => exact fun _ _ _ h => h
    case hy4 =>
      refine yields_if (by rfl) (fun Wz hW => ?_)
      obtain ⟨-, c0, c1, c2, c3, c4, c5, c6, c7, c8, c9, c10, c11, c12, c13⟩ := hW
      go_simp
      first | done | with_reducible rfl
    simp only [Act.put, List.setIfInBounds_toArray, List.set_cons_zero, List.set_cons_succ]
    refine wpAnyH_take (i := 0) (oi := ?oi0) (v := ?v0) ?hi0 (by kernel_rfl) (by kernel_rfl) (by kernel_rfl) ?hQ0 ?hy0 (by assumption) ?rest0
    case hi0 =>
      simp only [List.getElem?_toArray, List.getElem?_cons_zero]
      rfl
    case hQ0 => exact fun _ _ _ h => h
    case hy0 =>
      refine yields_if (by rfl) (fun Wz hW => ?_)
      obtain ⟨-, c0, c1, c2, c3, c4, c5, c6, c7, c8, c9, c10, c11, c12, c13⟩ := hW
      go_simp
      first | done | with_reducible rfl
    simp only [Act.put, List.setIfInBounds_toArray, List.set_cons_zero, List.set_cons_succ]
    refine wpAnyH_take (i := 2) (oi := ?oi2) (v := ?v2) ?hi2 (by kernel_rfl) (by kernel_rfl) (by kernel_rfl) ?hQ2 ?hy2 (by assumption) ?rest2
    case hi2 =>
      simp only [List.getElem?_toArray, List.getElem?_cons_succ, List.getElem?_cons_zero]
      rfl
    case hQ2 => exact fun _ _ _ h => h
    case hy2 =>
      refine yields_if (by rfl) (fun Wz hW => ?_)
      obtain ⟨-, c0, c1, c2, c3, c4, c5, c6, c7, c8, c9, c10, c11, c12, c13⟩ := hW
      go_simp
      first | done | with_reducible rfl
    simp only [Act.put, List.setIfInBounds_toArray, List.set_cons_zero, List.set_cons_succ]
    refine float5_go (O := fun v => ∃ u, v = .string u ∧ byL u = (byL t).take 40) (by rfl) (by rfl) (fun w hb => SF.out w (HB5.out.drew.trans (hb.mono HB5.out.drew.size))) ?hr ?h6 ?h7 ?h1 ?h3 ?h5 ?hf
    case hr =>
      intro n p q hn hnot
      have : n = 0 ∨ n = 1 ∨ n = 2 ∨ n = 3 := by omega
      rcases this with rfl | rfl | rfl | rfl <;> cases p <;> cases q
      all_goals first | exact absurd ⟨rfl, rfl, rfl⟩ hnot | (show _ = _; kernel_rfl)
    case h6 =>
      intro v7 v8 v42 v44 v46 w K hK
      refine wpOp_step (o := ?o6) ?ho6 (fun K' hK' => ?_)
      case ho6 =>
        simp only [List.getElem?_toArray, List.getElem?_cons_succ, List.getElem?_cons_zero]
        rfl
      unfold pt5
      simp only [Act.put, List.setIfInBounds_toArray, List.set_cons_zero, List.set_cons_succ]
      go_simp
      exact hK' _ _ hK
    case h7 =>
      intro v7 v8 v42 v44 v46 w K hK
      refine wpOp_step (o := ?o7) ?ho7 (fun K' hK' => ?_)
      case ho7 =>
        simp only [List.getElem?_toArray, List.getElem?_cons_succ, List.getElem?_cons_zero]
        rfl
      unfold pt5
      simp only [Act.put, List.setIfInBounds_toArray, List.set_cons_zero, List.set_cons_succ]
      go_simp
      exact hK' _ _ hK
    case h1 =>
      intro v7 v8 v42 v44 v46 w K hlow hK
      refine wpOp_step (o := ?o1) ?ho1 (fun K' hK' => ?_)
      case ho1 =>
        simp only [List.getElem?_toArray, List.getElem?_cons_succ, List.getElem?_cons_zero]
        rfl
      unfold pt5
      simp only [Act.put, List.setIfInBounds_toArray, List.set_cons_zero, List.set_cons_succ]
      go_simp
      refine (CX1.out w (HB5.out.drew.trans (hlow.mono HB5.out.drew.size))).mono ?_
      rintro e w' ⟨r, cs, rfl, hwf, hrg, hb⟩
      exact hK' _ _ (hK _ _ ⟨r, cs, rfl, hwf, hrg⟩ hb)
    case h3 =>
      intro v7 v8 v42 v44 v46 w K hlow hK
      refine wpOp_step (o := ?o3) ?ho3 (fun K' hK' => ?_)
      case ho3 =>
        simp only [List.getElem?_toArray, List.getElem?_cons_succ, List.getElem?_cons_zero]
        rfl
      unfold pt5
      simp only [Act.put, List.setIfInBounds_toArray, List.set_cons_zero, List.set_cons_succ]
      go_simp
      refine (CX2.out w (HB5.out.drew.trans (hlow.mono HB5.out.drew.size))).mono ?_
      rintro e w' ⟨r, cs, rfl, hwf, hrg, hb⟩
      exact hK' _ _ (hK _ _ ⟨r, cs, rfl, hwf, hrg⟩ hb)
    case h5 =>
      intro v7 v8 v42 v44 v46 w K hlow hK
      refine wpOp_step (o := ?o5) ?ho5 (fun K' hK' => ?_)
      case ho5 =>
        simp only [List.getElem?_toArray, List.getElem?_cons_succ, List.getElem?_cons_zero]
        rfl
      unfold pt5
      simp only [Act.put, List.setIfInBounds_toArray, List.set_cons_zero, List.set_cons_succ]
      go_simp
      refine (CFW.out w).mono ?_
      rintro e w' ⟨u, rfl, hu, rfl⟩
      exact hK' _ _ (hK _ ⟨u, rfl, hu⟩)
    case hf =>
      intro v7 v8 v42 v44 v46 w h
      obtain ⟨g7, rfl, hge7, hB7⟩ := h.p7 rfl
      obtain ⟨g8, rfl, hge8, hB8⟩ := h.p8 rfl
      obtain ⟨r1, cs1, rfl, hwf1, hR1⟩ := h.c1 (by omega)
      obtain ⟨r2, cs2, rfl, hwf2, hR2⟩ := h.c2 (by omega)
      obtain ⟨u, rfl, hu⟩ := h.c3 (by omega)
      have hne : g7 ≠ g8 := fun e => h.ne rfl rfl (by rw [e])
      obtain ⟨o1, m1, x1, ra1, rn1, rc1, sa1, sn1, sc1, rfl⟩ := hR1.form
      obtain ⟨o2, m2, x2, ra2, rn2, rc2, sa2, sn2, sc2, rfl⟩ := hR2.form
      unfold rxc at *
      have LO := Lib.hid h.low
      have HB7 := Lib.hid hB7
      have HB8 := Lib.hid hB8
      have HR1 := Lib.hid hR1
      have HR2 := Lib.hid hR2
      have HWF := Lib.hid (And.intro hwf1 (And.intro hwf2 hu))
      clear h hB7 hB8 hR1 hR2 hwf1 hwf2 hu
      unfold zRx at HB7 HB8
      unfold pt5
      have f0 := HB7.out.cell 0
      have f1 := HB7.out.cell 1
      have f2 := HB7.out.cell 2
      have f3 := HB7.out.cell 3
      have f4 := HB7.out.cell 4
      have f5 := HB7.out.cell 5
      have f6 := HB7.out.cell 6
      have zf := HB7.out.frozen
      simp only [List.getElem?_cons_zero, List.getElem?_cons_succ] at f0 f1 f2 f3 f4 f5 f6
      refine wpAnyH_ready (rs := [8]) (by show _ = _; kernel_rfl) (by simp) (AllReadyH.cons (o := ?o8) ?ho8 (fun K hK => ?_) AllReadyH.nil)
      case ho8 =>
        simp only [List.getElem?_toArray, List.getElem?_cons_succ, List.getElem?_cons_zero]
        rfl
      simp only [Act.put, List.setIfInBounds_toArray, List.set_cons_zero, List.set_cons_succ]
      go_simp
      change K _ (st7 w g7 (.int .i64 o1) (.slice ra1 rn1 rc1) (.int .i64 m1) (.int .i64 x1) (.bool false) (.bool false) (.slice sa1 sn1 sc1))
      have hB7n := st7_blk (v0 := .int .i64 o1) (v1 := .slice ra1 rn1 rc1) (v2 := .int .i64 m1) (v3 := .int .i64 x1) (v4 := .bool false) (v5 := .bool false) (v6 := .slice sa1 sn1 sc1) HB7.out
      have hB8n := st7_far (v0 := .int .i64 o1) (v1 := .slice ra1 rn1 rc1) (v2 := .int .i64 m1) (v3 := .int .i64 x1) (v4 := .bool false) (v5 := .bool false) (v6 := .slice sa1 sn1 sc1) HB8.out hne.symm
      have hLn := st7_low (v0 := .int .i64 o1) (v1 := .slice ra1 rn1 rc1) (v2 := .int .i64 m1) (v3 := .int .i64 x1) (v4 := .bool false) (v5 := .bool false) (v6 := .slice sa1 sn1 sc1) LO.out hge7
      have hF := st7_fr (w := w) (O := Two true true (.pointer (some ⟨g7, 0, none⟩)) (.pointer (some ⟨g8, 0, none⟩))) (v0 := .int .i64 o1) (v1 := .slice ra1 rn1 rc1) (v2 := .int .i64 m1) (v3 := .int .i64 x1) (v4 := .bool false) (v5 := .bool false) (v6 := .slice sa1 sn1 sc1) (g := g7) (.inl ⟨rfl, rfl⟩)
      generalize (st7 w g7 (.int .i64 o1) (.slice ra1 rn1 rc1) (.int .i64 m1) (.int .i64 x1) (.bool false) (.bool false) (.slice sa1 sn1 sc1)) = w8 at *
      have R1n := HR1.out.go hF (fun k hk => .inl hk)
      have R2n := HR2.out.go hF (fun k hk => .inl hk)
      clear LO HB7 HB8 HR1 HR2 f0 f1 f2 f3 f4 f5 f6 zf hF
      have LO := Lib.hid hLn
      have HB7 := Lib.hid hB7n
      have HB8 := Lib.hid hB8n
      have HR1 := Lib.hid R1n
      have HR2 := Lib.hid R2n
      clear hLn hB7n hB8n R1n R2n
      refine hK.out _ _ (SF.out _ (HB5.out.drew.trans (LO.out.mono HB5.out.drew.size))) (fun hSx => ?_)
      clear hSx
      clear hK K
      have f0 := HB8.out.cell 0
      have f1 := HB8.out.cell 1
      have f2 := HB8.out.cell 2
      have f3 := HB8.out.cell 3
      have f4 := HB8.out.cell 4
      have f5 := HB8.out.cell 5
      have f6 := HB8.out.cell 6
      have zf := HB8.out.frozen
      simp only [List.getElem?_cons_zero, List.getElem?_cons_succ] at f0 f1 f2 f3 f4 f5 f6
      refine wpAnyH_ready (rs := [9]) (by show _ = _; kernel_rfl) (by simp) (AllReadyH.cons (o := ?o9) ?ho9 (fun K hK => ?_) AllReadyH.nil)
      case ho9 =>
        simp only [List.getElem?_toArray, List.getElem?_cons_succ, List.getElem?_cons_zero]
        rfl
      simp only [Act.put, List.setIfInBounds_toArray, List.set_cons_zero, List.set_cons_succ]
      go_simp
      change K _ (st7 w8 g8 (.int .i64 o2) (.slice ra2 rn2 rc2) (.int .i64 m2) (.int .i64 x2) (.bool false) (.bool false) (.slice sa2 sn2 sc2))
      have hB8n := st7_blk (v0 := .int .i64 o2) (v1 := .slice ra2 rn2 rc2) (v2 := .int .i64 m2) (v3 := .int .i64 x2) (v4 := .bool false) (v5 := .bool false) (v6 := .slice sa2 sn2 sc2) HB8.out
      have hB7n := st7_far (v0 := .int .i64 o2) (v1 := .slice ra2 rn2 rc2) (v2 := .int .i64 m2) (v3 := .int .i64 x2) (v4 := .bool false) (v5 := .bool false) (v6 := .slice sa2 sn2 sc2) HB7.out hne
      have hLn := st7_low (v0 := .int .i64 o2) (v1 := .slice ra2 rn2 rc2) (v2 := .int .i64 m2) (v3 := .int .i64 x2) (v4 := .bool false) (v5 := .bool false) (v6 := .slice sa2 sn2 sc2) LO.out hge8
      have hF := st7_fr (w := w8) (O := Two true true (.pointer (some ⟨g7, 0, none⟩)) (.pointer (some ⟨g8, 0, none⟩))) (v0 := .int .i64 o2) (v1 := .slice ra2 rn2 rc2) (v2 := .int .i64 m2) (v3 := .int .i64 x2) (v4 := .bool false) (v5 := .bool false) (v6 := .slice sa2 sn2 sc2) (g := g8) (.inr ⟨rfl, rfl⟩)
      generalize (st7 w8 g8 (.int .i64 o2) (.slice ra2 rn2 rc2) (.int .i64 m2) (.int .i64 x2) (.bool false) (.bool false) (.slice sa2 sn2 sc2)) = w9 at *
      have R1n := HR1.out.go hF (fun k hk => .inl hk)
      have R2n := HR2.out.go hF (fun k hk => .inl hk)
      clear LO HB7 HB8 HR1 HR2 f0 f1 f2 f3 f4 f5 f6 zf hF
      have LO := Lib.hid hLn
      have HB7 := Lib.hid hB7n
      have HB8 := Lib.hid hB8n
      have HR1 := Lib.hid R1n
      have HR2 := Lib.hid R2n
      clear hLn hB7n hB8n R1n R2n
      refine hK.out _ _ (SF.out _ (HB5.out.drew.trans (LO.out.mono HB5.out.drew.size))) (fun hSx => ?_)
      clear hSx
      clear hK K
      refine wpAnyH_ready (rs := [10]) (by show _ = _; kernel_rfl) (by simp) (AllReadyH.cons (o := ?o10) ?ho10 (fun K hK => ?_) AllReadyH.nil)
      case ho10 =>
        simp only [List.getElem?_toArray, List.getElem?_cons_succ, List.getElem?_cons_zero]
        rfl
      simp only [Act.put, List.setIfInBounds_toArray, List.set_cons_zero, List.set_cons_succ]
      go_simp
      refine hK.out _ _ (SF.out _ (HB5.out.drew.trans (LO.out.mono HB5.out.drew.size))) (fun hSx => ?_)
      clear hSx
      clear hK K
      refine wpAnyH_done (by show _ = _; kernel_rfl) ?_ _
      refine NoPanic.normal ?_
      simp only [Exit.then]
      rename_i hK1
      refine hK1 _ _ ?_
      clear hK1
      go_meet
      case rel => exact ⟨g7, g8, u, r1, r2, _, _, rfl, rfl, rfl, Lib.hid ⟨HWF.out.1, HWF.out.2.1, HWF.out.2.2, HB7.out, HB8.out, RgO.toC 4 r1 _ HR1.out, RgO.toC 4 r2 _ HR2.out, HB5.out.drew.trans (LO.out.mono HB5.out.drew.size)⟩⟩
  case rest =>
    obtain ⟨g7, g8, u, r1, r2, c1, c2, rfl, rfl, rfl, HH⟩ := hcut
    obtain ⟨hw1, hw2, hu, hb7, hb8, hr1, hr2, hlo⟩ := HH.out
    obtain ⟨o1, m1, x1, ra1, rn1, rc1, sa1, sn1, sc1, rfl⟩ := hr1.form
    obtain ⟨o2, m2, x2, ra2, rn2, rc2, sa2, sn2, sc2, rfl⟩ := hr2.form
    unfold rxc at *
    have HWF := Lib.hid (And.intro hw1 hw2)
    have HU := Lib.hid hu
    have HRR := Lib.hid (And.intro hr1 hr2)
    have HLO := Lib.hid (HW1.out.trans (hlo.mono HW1.out.size))
    have J7 := Lib.hid (fun (w : World) (hb : Below wc.heap.size wc w) => hb7.below hb hb7.lt)
    have J8 := Lib.hid (fun (w : World) (hb : Below wc.heap.size wc w) => hb8.below hb hb8.lt)
    have husz : u.size ≤ 40 := by have := sz_byLT hu; rw [this, List.length_take]; omega
    clear hu hr1 hr2 hlo hw1 hw2 HH CX1 CX2 CFW K1 K2 HB5 HB4 HB3 HB2 hR5 hQ5 hb7 hb8
    have e0 := (J7.out wc (Below.refl _ _)).cell 0
    have e1 := (J7.out wc (Below.refl _ _)).cell 1
    have e2 := (J7.out wc (Below.refl _ _)).cell 2
    have e3 := (J7.out wc (Below.refl _ _)).cell 3
    have e4 := (J7.out wc (Below.refl _ _)).cell 4
    have e5 := (J7.out wc (Below.refl _ _)).cell 5
    have e6 := (J7.out wc (Below.refl _ _)).cell 6
    have d0 := (J8.out wc (Below.refl _ _)).cell 0
    have d1 := (J8.out wc (Below.refl _ _)).cell 1
    have d2 := (J8.out wc (Below.refl _ _)).cell 2
    have d3 := (J8.out wc (Below.refl _ _)).cell 3
    have d4 := (J8.out wc (Below.refl _ _)).cell 4
    have d5 := (J8.out wc (Below.refl _ _)).cell 5
    have d6 := (J8.out wc (Below.refl _ _)).cell 6
    simp only [List.getElem?_cons_zero, List.getElem?_cons_succ] at e0 e1 e2 e3 e4 e5 e6 d0 d1 d2 d3 d4 d5 d6
    go_upto_region 7 with (first | (go_at_call 23; refine (node_any _ _ _ _ _).mono ?_; rintro e w6 ⟨rfl, h6⟩; have HN6 := Lib.hid h6; clear h6) | fail)
    have HBS := Lib.hid (Blk.new wc 25 [.int .i64 o1, .slice ra1 rn1 rc1, .int .i64 m1, .int .i64 x1, .bool false, .bool false, .slice sa1 sn1 sc1, .int .i64 o2, .slice ra2 rn2 rc2, .int .i64 m2, .int .i64 x2, .bool false, .bool false, .slice sa2 sn2 sc2])
    have HLA := Lib.hid (show Below wc.heap.size wc (wc.alloc (.cells ([.int .i64 o1, .slice ra1 rn1 rc1, .int .i64 m1, .int .i64 x1, .bool false, .bool false, .slice sa1 sn1 sc1, .int .i64 o2, .slice ra2 rn2 rc2, .int .i64 m2, .int .i64 x2, .bool false, .bool false, .slice sa2 sn2 sc2] : List Value).toArray 25)) from (Below.refl _ _).alloc (Nat.le_refl _) _)
    refine name_world ?_
    intro w7 hw7
    have L6 := Lib.hid (show Below wc.heap.size wc w6 from HLA.out.trans (HN6.out.mono HLA.out.size))
    have B6 := Lib.hid (HBS.out.below HN6.out HBS.out.lt)
    have K10 := Lib.hid (show Blk w7 w6.heap.size 25 [.int .i64 18, .slice none 0 0, .int .i64 0, .int .i64 0, .bool false, .bool false, .slice (some ⟨wc.heap.size, 0, none⟩) 2 2] from by rw [hw7]; exact Blk.new w6 _ [.int .i64 18, .slice none 0 0, .int .i64 0, .int .i64 0, .bool false, .bool false, .slice (some ⟨wc.heap.size, 0, none⟩) 2 2])
    have L67 := Lib.hid (show Below w6.heap.size w6 w7 from by rw [hw7]; exact (Below.refl _ _).alloc (Nat.le_refl _) _)
    clear hw7 HN6 HBS HLA
    have L7 := Lib.hid (L6.out.trans (L67.out.mono L6.out.size))
    have B7 := Lib.hid (B6.out.below L67.out B6.out.lt)
    have RG7 := Lib.hid (both_mem (r1 := r1) (r2 := r2) (c1 := [.int .i64 o1, .slice ra1 rn1 rc1, .int .i64 m1, .int .i64 x1, .bool false, .bool false, .slice sa1 sn1 sc1]) (c2 := [.int .i64 o2, .slice ra2 rn2 rc2, .int .i64 m2, .int .i64 x2, .bool false, .bool false, .slice sa2 sn2 sc2]) B7.out B7.out.lt ((HRR.out.1.below L7.out).more L7.out.size) ((HRR.out.2.below L7.out).more L7.out.size))
    have HWB := Lib.hid (both_wf HWF.out.1 HWF.out.2)
    have CM := Lib.hid (modest_any w7 (both r1 r2) _ RG7.out HWB.out)
    have HL7 := Lib.hid (HLO.out.trans (L7.out.mono HLO.out.size))
    have KB := Lib.hid (fun (w : World) (hb : Below w7.heap.size w7 w) => K10.out.below hb K10.out.lt)
    have KA := Lib.hid (fun (w : World) (hb : Below w7.heap.size w7 w) => J7.out w (L7.out.trans (hb.mono L7.out.size)))
    have KC := Lib.hid (fun (w : World) (hb : Below w7.heap.size w7 w) => J8.out w (L7.out.trans (hb.mono L7.out.size)))
    have RA := Lib.hid (fun (w : World) (hb : Below w7.heap.size w7 w) => (HRR.out.1.below (L7.out.trans (hb.mono L7.out.size))).more (L7.out.trans (hb.mono L7.out.size)).size)
    have RB := Lib.hid (fun (w : World) (hb : Below w7.heap.size w7 w) => (HRR.out.2.below (L7.out.trans (hb.mono L7.out.size))).more (L7.out.trans (hb.mono L7.out.size)).size)
    have RC := Lib.hid (fun (w : World) (hb : Below w7.heap.size w7 w) => (RG7.out.below hb).more hb.size)
    have LA := Lib.hid (fun (w : World) (hb : Below w7.heap.size w7 w) => HA.out.below (HL7.out.trans (hb.mono HL7.out.size)))
    have LW := Lib.hid (fun (w : World) (hb : Below w7.heap.size w7 w) => HL7.out.trans (hb.mono HL7.out.size))
    clear HRR HLO J7 J8 L6 B6 L67 L7 B7 HL7 RG7 HA HW1 e0 e1 e2 e3 e4 e5 e6 d0 d1 d2 d3 d4 d5 d6
    generalize hmd : decide (plc 5 (both r1 r2) ≤ 160) = md at *
    clear hmd
    have e0 := (KB.out w7 (Below.refl _ _)).cell 0
    have e1 := (KB.out w7 (Below.refl _ _)).cell 1
    have e2 := (KB.out w7 (Below.refl _ _)).cell 2
    have e3 := (KB.out w7 (Below.refl _ _)).cell 3
    have e4 := (KB.out w7 (Below.refl _ _)).cell 4
    have e5 := (KB.out w7 (Below.refl _ _)).cell 5
    have e6 := (KB.out w7 (Below.refl _ _)).cell 6
    simp only [List.getElem?_cons_zero, List.getElem?_cons_succ] at e0 e1 e2 e3 e4 e5 e6
    go_upto_region 9 with (first | (go_at_call 12; refine CM.out.mono ?_; rintro e w8 ⟨rfl, h8⟩; have H8 := Lib.hid h8; clear h8 e0 e1 e2 e3 e4 e5 e6 CM; cases md) | fail)
    · go_wp2
      go_ret
      exact ⟨rfl, LW.out w8 H8.out⟩
    have CW := Lib.hid (word_any (m := 3) (by omega) (both r1 r2) _ u (by omega) w8 (RC.out w8 H8.out) HWB.out (Nat.le_trans (comp_le (both r1 r2) 0 HWB.out) (by omega)) (LA.out w8 H8.out))
    unfold RWord at CW
    have HSB := Lib.hid (show ¬ Fine 5 (both r1 r2) → decide (plc 5 (both r1 r2) ≤ 5) = false from fun h => decide_eq_false (fun e => h (fine_small (Nat.le_refl _) HWB.out e)))
    have HSA := Lib.hid (show ¬ Fine 4 r1 → decide (plc 5 (both r1 r2) ≤ 5) = false from fun h => decide_eq_false (fun e => h (fine_small (by omega) HWF.out.1 (by have : plc 5 (both r1 r2) = plc 4 r1 + plc 4 r2 := both_plc; omega))))
    have HSC := Lib.hid (show ¬ Fine 4 r2 → decide (plc 4 r2 ≤ 5) = false from fun h => decide_eq_false (fun e => h (fine_small (by omega) HWF.out.2 e)))
    have e0 := (KB.out w8 H8.out).cell 0
    have e1 := (KB.out w8 H8.out).cell 1
    have e2 := (KB.out w8 H8.out).cell 2
    have e3 := (KB.out w8 H8.out).cell 3
    have e4 := (KB.out w8 H8.out).cell 4
    have e5 := (KB.out w8 H8.out).cell 5
    have e6 := (KB.out w8 H8.out).cell 6
    simp only [List.getElem?_cons_zero, List.getElem?_cons_succ] at e0 e1 e2 e3 e4 e5 e6
    go_upto_region 10 with (first | (go_at_call 22; refine CW.out.mono ?_; rintro e w9 ⟨h9, ⟨hf, rfl⟩ | ⟨hf, rfl⟩⟩) | fail)
    rotate_left
    · have H9 := Lib.hid (H8.out.trans (h9.mono H8.out.size))
      have HS := HSB.out hf
      have CS := Lib.hid (fun (w : World) (hb : Below w7.heap.size w7 w) => small_anyd (d := 5) (by omega) w (both r1 r2) _ (RC.out w hb) HWB.out)
      rw [HS] at CS
      have CL := Lib.hid (lpath_any (m := 3) (by omega) r1 _ u (by omega) w9 (RA.out w9 H9.out) HWF.out.1 (comp_le4 r1 HWF.out.1) (LA.out w9 H9.out))
      unfold LPath at CL
      clear hf h9 HS e0 e1 e2 e3 e4 e5 e6
      have e0 := (KA.out w9 H9.out).cell 0
      have e1 := (KA.out w9 H9.out).cell 1
      have e2 := (KA.out w9 H9.out).cell 2
      have e3 := (KA.out w9 H9.out).cell 3
      have e4 := (KA.out w9 H9.out).cell 4
      have e5 := (KA.out w9 H9.out).cell 5
      have e6 := (KA.out w9 H9.out).cell 6
      simp only [List.getElem?_cons_zero, List.getElem?_cons_succ] at e0 e1 e2 e3 e4 e5 e6
      go_upto_region 11 with (first | (go_at_call 24; refine CL.out.mono ?_; rintro e w10 ⟨h10, ⟨hf, b1, b2, k1, k2, rfl, r1x, r2x⟩ | ⟨hf, rfl⟩⟩) | fail)
      all_goals
        have H10 := Lib.hid (H9.out.trans (h10.mono H9.out.size))
        have CSS := Lib.hid (CS.out w10 H10.out)
        clear h10 hf e0 e1 e2 e3 e4 e5 e6
        have e0 := (KB.out w10 H10.out).cell 0
        have e1 := (KB.out w10 H10.out).cell 1
        have e2 := (KB.out w10 H10.out).cell 2
        have e3 := (KB.out w10 H10.out).cell 3
        have e4 := (KB.out w10 H10.out).cell 4
        have e5 := (KB.out w10 H10.out).cell 5
        have e6 := (KB.out w10 H10.out).cell 6
        simp only [List.getElem?_cons_zero, List.getElem?_cons_succ] at e0 e1 e2 e3 e4 e5 e6
        go_wp2_with (first | (go_at_call 25; refine CSS.out.mono ?_; rintro e w11 ⟨rfl, h11⟩; have H11 := Lib.hid (H10.out.trans (h11.mono H10.out.size)); clear h11) | fail)
        go_ret
        exact ⟨rfl, LW.out w11 H11.out⟩
    have H9 := Lib.hid (H8.out.trans (h9.mono H8.out.size))
    have HFB := Lib.hid hf
    have CL := Lib.hid (lpath_any (m := 3) (by omega) r1 _ u (by omega) w9 (RA.out w9 H9.out) HWF.out.1 (comp_le4 r1 HWF.out.1) (LA.out w9 H9.out))
    unfold LPath at CL
    clear hf h9 CW e0 e1 e2 e3 e4 e5 e6
    have e0 := (KA.out w9 H9.out).cell 0
    have e1 := (KA.out w9 H9.out).cell 1
    have e2 := (KA.out w9 H9.out).cell 2
    have e3 := (KA.out w9 H9.out).cell 3
    have e4 := (KA.out w9 H9.out).cell 4
    have e5 := (KA.out w9 H9.out).cell 5
    have e6 := (KA.out w9 H9.out).cell 6
    simp only [List.getElem?_cons_zero, List.getElem?_cons_succ] at e0 e1 e2 e3 e4 e5 e6
    go_upto_region 11 with (first | (go_at_call 24; refine CL.out.mono ?_; rintro e w10 ⟨h10, ⟨hf, b1, b2, k1, k2, rfl, r1x, r2x⟩ | ⟨hf, rfl⟩⟩) | fail)
    rotate_left
    · have H10 := Lib.hid (H9.out.trans (h10.mono H9.out.size))
      have HS := HSA.out hf
      have CSS := small_anyd (d := 5) (by omega) w10 (both r1 r2) _ (RC.out w10 H10.out) HWB.out
      rw [HS] at CSS
      have CS := Lib.hid CSS
      clear h10 hf CSS HS e0 e1 e2 e3 e4 e5 e6
      have e0 := (KB.out w10 H10.out).cell 0
      have e1 := (KB.out w10 H10.out).cell 1
      have e2 := (KB.out w10 H10.out).cell 2
      have e3 := (KB.out w10 H10.out).cell 3
      have e4 := (KB.out w10 H10.out).cell 4
      have e5 := (KB.out w10 H10.out).cell 5
      have e6 := (KB.out w10 H10.out).cell 6
      simp only [List.getElem?_cons_zero, List.getElem?_cons_succ] at e0 e1 e2 e3 e4 e5 e6
      go_wp2_with (first | (go_at_call 25; refine CS.out.mono ?_; rintro e w11 ⟨rfl, h11⟩; have H11 := Lib.hid (H10.out.trans (h11.mono H10.out.size)); clear h11) | fail)
      go_ret
      exact ⟨rfl, LW.out w11 H11.out⟩
    have H10 := Lib.hid (H9.out.trans (h10.mono H9.out.size))
    have HR1 := Lib.hid r1x
    have HBC := Lib.hid (cutB_all HWF.out.1 HWF.out.2 (byL u))
    generalize hmb : mtQ (prg 5 (both r1 r2)) (byL u) = mb at *
    have HMB := Lib.hid hmb
    clear h10 r1x r2x hf CL hmb e0 e1 e2 e3 e4 e5 e6
    have hsz1 : ((u.size + 1 : Nat) : Int) = (u.size : Int) + 1 := by omega
    go_wp2_with fail
    go_loopw [16, 17, 18, 19] (fun v16 v17 _ _ wr => ∃ (i : Nat) (B : Bool), v17 = .int .i64 i ∧ i ≤ u.size + 1 ∧ v16 = .bool B ∧ Hid (B = cutB r1 r2 (byL u) i ∧ Below w10.heap.size w10 wr)) (fun _ v17 _ _ _ => u.size + 1 - (intOf v17).toNat)
    case atStart => exact ⟨0, false, rfl, by omega, rfl, Lib.hid ⟨rfl, Below.refl _ _⟩⟩
    case round =>
      obtain ⟨i, B, rfl, hi, rfl, HH⟩ := hrel
      by_cases hlt : i ≤ u.size
      · have hi2 : (i : Int) ≤ (u.size : Int) := by omega
        have HB2 := Lib.hid (HH.out.2)
        have HWr := Lib.hid (H10.out.trans (HB2.out.mono H10.out.size))
        have hexs : (u.extract i u.size).size ≤ 40 := by have := HH; simp; omega
        have CWR := word_any (m := 3) (by omega) r2 _ (u.extract i u.size) (by omega) wr.drew (RB.out wr.drew HWr.out.drew) HWF.out.2 (comp_le4 r2 HWF.out.2) (LA.out wr.drew HWr.out.drew)
        unfold RWord at CWR
        have SK := Lib.hid (fun (w' : World) (hb : Below w7.heap.size w7 w') => And.intro ((KC.out w' hb).cell 0) (And.intro ((KC.out w' hb).cell 1) (And.intro ((KC.out w' hb).cell 2) (And.intro ((KC.out w' hb).cell 3) (And.intro ((KC.out w' hb).cell 4) (And.intro ((KC.out w' hb).cell 5)  ((KC.out w' hb).cell 6)))))))
        simp only [List.getElem?_cons_zero, List.getElem?_cons_succ] at SK
        by_cases hfc : Fine 4 r2
        · have CWW := Lib.hid (CWR.mono (fun e w' h => show e = .returned (.tuple #[.bool (mtQ (prg 4 r2) ((byL u).drop i)), .bool true]) ∧ Below wr.drew.heap.size wr.drew w' from by
            obtain ⟨h1, ⟨-, h2⟩ | ⟨h2, -⟩⟩ := h
            · refine ⟨?_, h1⟩
              rw [h2, byL_ext, List.take_of_length_le (by rw [byL_len]; exact Nat.le_refl _)]
            · exact absurd hfc h2))
          clear CWR hfc
          have HCS := Lib.hid (cutB_succ r1 r2 (byL u) i)
          have hlow : (rowB (mtQ (prg 4 r1)) (byL u) (u.size + 1))[i]? = some (.bool (mtQ (prg 4 r1) ((byL u).take i))) := by
            unfold rowB
            rw [List.getElem?_map, List.getElem?_range (by omega)]
            rfl
          have HAT := Lib.hid (fun (w : World) (hb : Below w10.heap.size w10 w) => (HR1.out.below hb) i _ hlow)
          clear hlow
          generalize mtQ (prg 4 r1) ((byL u).take i) = X at *
          generalize mtQ (prg 4 r2) ((byL u).drop i) = Y at *
          go_upto_region 19 with fail
          go_region_held3 (fun w' => w'.cell? ⟨g8, 0, none⟩ = some (.int .i64 o2) ∧ w'.cell? ⟨g8, 1, none⟩ = some (.slice ra2 rn2 rc2) ∧ w'.cell? ⟨g8, 2, none⟩ = some (.int .i64 m2) ∧ w'.cell? ⟨g8, 3, none⟩ = some (.int .i64 x2) ∧ w'.cell? ⟨g8, 4, none⟩ = some (.bool false) ∧ w'.cell? ⟨g8, 5, none⟩ = some (.bool false) ∧ w'.cell? ⟨g8, 6, none⟩ = some (.slice sa2 sn2 sc2)) (first | exact SK.out _ HWr.out.drew | exact SK.out _ H12.out) (first | (go_at_call 22; refine CWW.out.mono ?_; rintro e w12 ⟨rfl, h12⟩; have H12 := Lib.hid (HWr.out.drew.trans (h12.mono HWr.out.drew.size)); have H12b := Lib.hid (HB2.out.drew.trans (h12.mono HB2.out.drew.size)); clear h12 CWW) | fail)
          obtain ⟨ad, rfl, -, hcl⟩ := HAT.out w12 H12b.out
          have hi1 : (i : Int) < (u.size : Int) + 1 := by omega
          clear HAT
          cases B
          · cases X
            · go_wp2
              go_roundw
              case rel => exact ⟨i + 1, false, by go_num, by omega, rfl, Lib.hid ⟨by rw [HCS.out, ← HH.out.1]; rfl, H12b.out⟩⟩
              case measure => simp [intOf]; omega
            · go_wp2
              go_roundw
              case rel => exact ⟨i + 1, Y, by go_num, by omega, rfl, Lib.hid ⟨by rw [HCS.out, ← HH.out.1]; simp, H12b.out⟩⟩
              case measure => simp [intOf]; omega
          · go_wp2
            go_roundw
            case rel => exact ⟨i + 1, true, by go_num, by omega, rfl, Lib.hid ⟨by rw [HCS.out, ← HH.out.1]; simp, H12b.out⟩⟩
            case measure => simp [intOf]; omega
        · have CWW := Lib.hid (CWR.mono (fun e w' h => show e = .returned (.tuple #[.bool false, .bool false]) ∧ Below wr.drew.heap.size wr.drew w' from by
            obtain ⟨h1, ⟨h2, -⟩ | ⟨-, h2⟩⟩ := h
            · exact absurd h2 hfc
            · exact ⟨h2, h1⟩))
          have HS := HSC.out hfc
          have CSS := Lib.hid (fun (w : World) (hb : Below w7.heap.size w7 w) => small_anyd (d := 4) (by omega) w r2 _ (RB.out w hb) HWF.out.2)
          rw [HS] at CSS
          clear CWR hfc HS
          go_upto_region 19 with fail
          go_region_held3 (fun w' => w'.cell? ⟨g8, 0, none⟩ = some (.int .i64 o2) ∧ w'.cell? ⟨g8, 1, none⟩ = some (.slice ra2 rn2 rc2) ∧ w'.cell? ⟨g8, 2, none⟩ = some (.int .i64 m2) ∧ w'.cell? ⟨g8, 3, none⟩ = some (.int .i64 x2) ∧ w'.cell? ⟨g8, 4, none⟩ = some (.bool false) ∧ w'.cell? ⟨g8, 5, none⟩ = some (.bool false) ∧ w'.cell? ⟨g8, 6, none⟩ = some (.slice sa2 sn2 sc2)) (first | exact SK.out _ HWr.out.drew | exact SK.out _ H12.out) (first | (go_at_call 22; refine CWW.out.mono ?_; rintro e w12 ⟨rfl, h12⟩; have H12 := Lib.hid (HWr.out.drew.trans (h12.mono HWr.out.drew.size)); clear h12 CWW) | fail)
          have CS4 := Lib.hid (CSS.out w12 H12.out)
          clear CSS
          have e0 := (KC.out w12 H12.out).cell 0
          have e1 := (KC.out w12 H12.out).cell 1
          have e2 := (KC.out w12 H12.out).cell 2
          have e3 := (KC.out w12 H12.out).cell 3
          have e4 := (KC.out w12 H12.out).cell 4
          have e5 := (KC.out w12 H12.out).cell 5
          have e6 := (KC.out w12 H12.out).cell 6
          simp only [List.getElem?_cons_zero, List.getElem?_cons_succ] at e0 e1 e2 e3 e4 e5 e6
          go_wp2_with (first | (go_at_call 25; refine CS4.out.mono ?_; rintro e w13 ⟨rfl, h13⟩; have H13 := Lib.hid (H12.out.trans (h13.mono H12.out.size)); clear h13) | fail)
          go_ret
          exact ⟨rfl, LW.out w13 H13.out⟩
      · obtain rfl : i = u.size + 1 := by omega
        have HWr := Lib.hid (H10.out.trans (HH.out.2.mono H10.out.size))
        have hmB : mb = B := by
          have h1 := HBC.out
          have h2 := HH.out.1
          rw [byL_len] at h1
          rw [h1, h2]
        subst hmB
        clear HH HBC HMB
        go_wp2
        go_ret
        exact ⟨rfl, LW.out wr HWr.out⟩
end Go.Proofs.YtbkpgfccghombaaDoor.rx
