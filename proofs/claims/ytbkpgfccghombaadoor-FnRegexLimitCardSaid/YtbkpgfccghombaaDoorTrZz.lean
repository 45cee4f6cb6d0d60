/-
  An expression as the package syntax has it: parts of any number. Printed by mktree.py, turned. Conditions: as stated.
-/
import Derived.Test.YtbkpgfccghombaaDoorM10
import Derived.Test.YtbkpgfccghombaaDoorM04
import Derived.Test.YtbkpgfccghombaaDoorM01
namespace Go.Proofs.YtbkpgfccghombaaDoor.rx.wide
open Go.ChangeShapes Go.WideShapes Go.ChangeAt Go.RowKit
set_option linter.unusedVariables false

theorem grown_below {w w' : World} {B : Nat} {row : Option Nat} (h : w.grownBy w' row) (hr : ∀ k, row = some k → B ≤ k) (hB : B ≤ w.heap.size) : Below B w w' :=
  ⟨h.os, h.tape, h.output, h.size, fun k hk => h.block k (by omega) (fun e => by have := hr k e.symm; omega)⟩
/-- a node of Go's package -/
def snc (op : Nat) (mn mx : Int) (v v6 : Value) : List Value := [.int .u8 op, .int .u16 0, v, .pointer none, v6, .int .i32 0, .int .i32 0, .int .i64 mn, .int .i64 mx, .int .i64 0, .string ⟨#[]⟩]
/-- what must not be a part's -/
def Out (B N : Nat) (v : Value) (k : Nat) : Prop := k < B ∨ k = N ∨ v.ownBlock = some k
/-- how far the parts are laid -/
structure Ti (w wr : World) (N d op : Nat) (rs : List Int) (mn mx : Int) (subs : List Rx) (v v6 : Value) (qs : List Addr) (cs : List Value) : Prop where
  node : Blk wr N 88 (snc op mn mx v v6)
  row : wr.ownsRow w.heap.size 64 1 v qs.length (pvs qs)
  run : wr.ownsRow w.heap.size 21 1 v6 rs.length (rs.map (.int .i32))
  box : Blk wr w.heap.size 25 cs
  low : Below w.heap.size w wr
  hN : w.heap.size < N
  kids : ∀ x ∈ (subs.take qs.length).zip qs, Nd wr (Out w.heap.size N v) d x.1 x.2
theorem Ti.alloc {w wr : World} {N d op : Nat} {rs : List Int} {mn mx : Int} {subs : List Rx} {v v6 : Value} {qs : List Addr} {cs : List Value} (h : Ti w wr N d op rs mn mx subs v v6 qs cs) (o : Obj) : Ti w (wr.alloc o) N d op rs mn mx subs v v6 qs cs := by
  have hb : Below wr.heap.size wr (wr.alloc o) := (Below.refl _ _).alloc (Nat.le_refl _) _
  exact ⟨h.node.below hb h.node.lt, own_below h.row hb, own_below h.run hb, h.box.below hb h.box.lt, h.low.trans (hb.mono h.low.size), h.hN, fun x hx => Nd.go (Fr.none_of_below hb) (fun _ e => .inl e) d x.1 x.2 (h.kids x hx)⟩
theorem Ti.drew {w wr : World} {N d op : Nat} {rs : List Int} {mn mx : Int} {subs : List Rx} {v v6 : Value} {qs : List Addr} {cs : List Value} (h : Ti w wr N d op rs mn mx subs v v6 qs cs) : Ti w wr.drew N d op rs mn mx subs v v6 qs cs := by
  have hb : Below wr.heap.size wr wr.drew := (Below.refl _ _).drew
  exact ⟨h.node.below hb h.node.lt, own_below h.row hb, own_below h.run hb, h.box.below hb h.box.lt, h.low.trans (hb.mono h.low.size), h.hN, fun x hx => Nd.go (Fr.none_of_below hb) (fun _ e => .inl e) d x.1 x.2 (h.kids x hx)⟩
theorem Ti.next {w wq w5 w7 : World} {N d op : Nat} {rs : List Int} {mn mx : Int} {subs : List Rx} {v v6 : Value} {qs : List Addr} {cs : List Value} {q : Addr} {g7 c7 i : Nat} (hqi : qs.length = i) (h : Ti w wq N d op rs mn mx subs v v6 qs cs) (hlt : i < subs.length) (hq : Nd w5 (fun k => k < wq.heap.size) d subs[i] q) (hb : Below wq.heap.size wq w5)
    (ho : w7.ownsRow w.heap.size 64 1 (.slice (some ⟨g7, 0, none⟩) (i + 1) c7) (i + 1) (pvs qs ++ (#[.pointer (some q)] : Array Value).toList)) (hg : w5.grownBy w7 v.ownBlock) (hat : ∀ k, (Value.slice (some ⟨g7, 0, none⟩) (i + 1) c7).ownBlock = some k → v.ownBlock = some k ∨ w5.heap.size ≤ k) :
    w7.frozen? ⟨N, 2, none⟩ = false ∧ w7.cell? ⟨N, 2, none⟩ = some v ∧ Ti w (w7.setCell ⟨N, 2, none⟩ (.slice (some ⟨g7, 0, none⟩) (i + 1) c7)) N d op rs mn mx subs (.slice (some ⟨g7, 0, none⟩) (i + 1) c7) v6 (qs ++ [q]) cs := by
  subst hqi
  have hvN : v.ownBlock ≠ some N := row_blk h.row h.node (by decide)
  have h5 : Blk w5 N 88 (snc op mn mx v v6) := h.node.below hb h.node.lt
  have r5 : w5.ownsRow w.heap.size 21 1 v6 rs.length (rs.map (.int .i32)) := own_below h.run hb
  have x5 := own_below h.row hb
  have h7 : Blk w7 N 88 (snc op mn mx v v6) := h5.grown hg (fun e => hvN e.symm)
  have r7 : w7.ownsRow w.heap.size 21 1 v6 rs.length (rs.map (.int .i32)) := r5.kept hg (rows_apart r5 x5 (by decide)).kept
  have b5 : Blk w5 w.heap.size 25 cs := h.box.below hb h.box.lt
  have b7 : Blk w7 w.heap.size 25 cs := b5.grown hg (fun e => row_blk x5 b5 (by decide) e.symm)
  have lo5 : w.heap.size ≤ w5.heap.size := Nat.le_trans h.low.size hb.size
  have l7 : Below w.heap.size w w7 := (h.low.trans (hb.mono h.low.size)).trans (grown_below hg (own_block_ge x5) lo5)
  refine ⟨h7.frozen 2, h7.cell 2, ?_⟩
  have hset : (snc op mn mx v v6).set 2 (.slice (some ⟨g7, 0, none⟩) (qs.length + 1) c7) = snc op mn mx (.slice (some ⟨g7, 0, none⟩) (qs.length + 1) c7) v6 := rfl
  have hv7 : (Value.slice (some ⟨g7, 0, none⟩) (qs.length + 1) c7).ownBlock ≠ some N := row_blk ho h7 (by decide)
  have fr : Fr (Out w.heap.size N v) w5 (w7.setCell ⟨N, 2, none⟩ (.slice (some ⟨g7, 0, none⟩) (qs.length + 1) c7)) := (Fr.of_grown hg (fun k e => .inr (.inr e))).set _ _ (.inr (.inl rfl))
  have hO : ∀ k, Out w.heap.size N (.slice (some ⟨g7, 0, none⟩) (qs.length + 1) c7) k → Out w.heap.size N v k ∨ w5.heap.size ≤ k := by
    rintro k (e | e | e)
    · exact .inl (.inl e)
    · exact .inl (.inr (.inl e))
    · rcases hat k e with e | e
      · exact .inl (.inr (.inr e))
      · exact .inr e
  refine ⟨hset ▸ h7.set_ 2 _, ?_, own_far r7 _ _ (row_blk r7 h7 (by decide)), b7.far (p := ⟨N, 2, none⟩) (by have := h.hN; simp; omega) _, l7.setCell (p := ⟨N, 2, none⟩) (Nat.le_of_lt h.hN) _, h.hN, fun x hx => ?_⟩
  · have e1 : (qs ++ [q]).length = qs.length + 1 := by simp
    have e2 : pvs (qs ++ [q]) = pvs qs ++ (#[Value.pointer (some q)] : Array Value).toList := by simp [pvs]
    rw [e1, e2]
    exact own_far ho _ _ hv7
  · rw [List.length_append, List.length_cons, List.length_nil, Nat.zero_add, List.take_succ_eq_append_getElem hlt, List.zip_append (by rw [List.length_take]; omega)] at hx
    rcases List.mem_append.1 hx with hx | hx
    · exact Nd.go fr hO d x.1 x.2 (Nd.go (Fr.none_of_below hb) (fun _ e => .inl e) d x.1 x.2 (h.kids x hx))
    · simp at hx
      subst hx
      refine Nd.go fr hO d _ _ (Nd.go (Fr.refl _ _) ?_ d _ _ hq)
      rintro k (e | e | e)
      · exact .inl (Nat.lt_of_lt_of_le e h.low.size)
      · exact .inl (e ▸ h.node.lt)
      · exact .inl (own_block_lt h.row k e)

theorem wf_bd {m d op : Nat} (hm : m ≤ 1000) {rs : List Int} {mn mx : Int} {subs : List Rx} (h : wf m (d + 1) (.nd op rs mn mx subs)) : op ≤ 19 ∧ rs.length ≤ 8 ∧ subs.length ≤ 1000 ∧ ∀ s ∈ subs, wf m d s := by
  rcases h with ⟨rfl, rfl, rfl⟩ | ⟨rfl, rfl, h1, h2, h3⟩ | ⟨h1, rfl⟩ | ⟨h1, rfl, h2, h3, h4⟩ | ⟨h1, rfl, h2, s, rfl, h3⟩
  · simp
  · simp; omega
  · rcases h1 with ⟨rfl, h1, -⟩ | ⟨rfl | rfl, rfl⟩ <;> simp <;> omega
  · exact ⟨by omega, by simp, Nat.le_trans h3 hm, h4⟩
  · exact ⟨by omega, by simp, by simp, fun t ht => by simp at ht; subst ht; exact h3⟩
/-- all parts are laid -/
theorem Ti.done_ {w wr : World} {N d op : Nat} {rs : List Int} {mn mx : Int} {subs : List Rx} {a a6 : Option Addr} {c c6 : Nat} {qs : List Addr} {cs : List Value} (h : Ti w wr N d op rs mn mx subs (.slice a subs.length c) (.slice a6 rs.length c6) qs cs) (hq : qs.length = subs.length) : Nd wr (fun k => k < w.heap.size) (d + 1) (.nd op rs mn mx subs) ⟨N, 0, none⟩ := by
  have hr := h.row
  rw [hq] at hr
  refine ⟨a6, c6, a, c, .int .i64 0, .int .i64 0, .int .i64 0, qs, ?_, slo_of_own hr, hq, fun x hx => ?_⟩
  · have e := fun i => h.node.cell i
    exact { bl := h.node.lt, no := fun (g : N < w.heap.size) => by have := h.hN; omega, c0 := e 0, c1 := e 1, c2 := e 2, c3 := e 3, c4 := e 4, c5 := e 5, c6 := e 6, c7 := e 7, c8 := e 8, rs := slo_of_own h.run }
  · refine Nd.go (Fr.refl _ _) (fun k e => .inl (.inl e)) d x.1 x.2 (h.kids x ?_)
    rw [hq, List.take_length]
    exact hx
theorem infoT : (Tryd.prog.info? 64).map (fun i => (i.zero, i.size, i.bytes)) = some (some (.pointer none), 1, 8) := by kernel_rfl
def TreeOk (m d : Nat) : Prop := ∀ (w : World) (r : Rx) (cs : List Value), RgC w w.heap.size d r cs → wf m d r → Calls Tryd.prog 32 #[.agg cs.toArray] w fun e w' => ∃ p, e = .returned (.pointer (some p)) ∧ Nd w' (fun k => k < w.heap.size) d r p ∧ Below w.heap.size w w'
set_option maxRecDepth 100000 in
set_option maxHeartbeats 3200000 in
theorem tree_step {m d : Nat} (IH : TreeOk m d) (op : Nat) (rs : List Int) (mn mx : Int) (subs : List Rx) (ra : Option Addr) (rc : Nat) (sa : Option Addr) (sc : Nat) (ls : List (List Value)) (w : World) (hop : op ≤ 19) (hrs : rs.length ≤ 8) (hsl : subs.length ≤ 1000) (hw : ∀ s ∈ subs, wf m d s)
    (h2 : Sl w w.heap.size ra (rs.map (.int .i32))) (h3 : ls.length = subs.length) (h4 : ∀ x ∈ ls, x.length = 7) (h5 : Sl w w.heap.size sa (ls.flatMap id)) (h6 : ∀ x ∈ subs.zip ls, RgC w w.heap.size d x.1 x.2) :
    Calls Tryd.prog 32 #[.agg (rxc op mn mx ra rs.length rc sa subs.length sc).toArray] w fun e w' => ∃ p, e = .returned (.pointer (some p)) ∧ Nd w' (fun k => k < w.heap.size) (d + 1) (.nd op rs mn mx subs) p ∧ Below w.heap.size w w' := by
  obtain ⟨i0, hi0, hz0, hz1, hz2⟩ := info_parts infoR
  obtain ⟨j0, ji0, jz0, jz1, jz2⟩ := info_parts infoT
  have HB := Lib.hid (Bx.new w (rxc op mn mx ra rs.length rc sa subs.length sc))
  unfold rxc at *
  have HS := Lib.hid (And.intro h3 (And.intro h4 (And.intro h5 h6)))
  have HR := Lib.hid h2
  have HW := Lib.hid hw
  have IH := Lib.hid IH
  have e8 : IntKind.u8.wrap (op : Int) = op := by rw [IntKind.wrap_u8]; omega
  clear h2 h3 h4 h5 h6 hw
  go_enter Tryd.func32, Tryd.ntmps32
  go_wp2_with fail
  refine name_world ?_
  intro w1 hw1
  have HB := Lib.hid (show Bx w w1 _ from by rw [hw1]; exact HB.out)
  clear hw1
  have c0 := HB.out.b.cell 0
  have c1 := HB.out.b.cell 1
  have c2 := HB.out.b.cell 2
  have c3 := HB.out.b.cell 3
  simp only [List.getElem?_cons_zero, List.getElem?_cons_succ] at c0 c1 c2 c3
  have HSK := Lib.hid (show ∀ W W' : World, Below (w.heap.size + 1) W W' → (W.cell? ⟨w.heap.size, 0, none⟩ = some (.int .i64 op) ∧ W.cell? ⟨w.heap.size, 1, none⟩ = some (.slice ra rs.length rc) ∧ W.cell? ⟨w.heap.size, 2, none⟩ = some (.int .i64 mn) ∧ W.cell? ⟨w.heap.size, 3, none⟩ = some (.int .i64 mx)) →
    (W'.cell? ⟨w.heap.size, 0, none⟩ = some (.int .i64 op) ∧ W'.cell? ⟨w.heap.size, 1, none⟩ = some (.slice ra rs.length rc) ∧ W'.cell? ⟨w.heap.size, 2, none⟩ = some (.int .i64 mn) ∧ W'.cell? ⟨w.heap.size, 3, none⟩ = some (.int .i64 mx)) from fun W W' hb h =>
      ⟨(hb.cell (p := ⟨w.heap.size, 0, none⟩) (Nat.lt_succ_self _)).trans h.1, (hb.cell (p := ⟨w.heap.size, 1, none⟩) (Nat.lt_succ_self _)).trans h.2.1, (hb.cell (p := ⟨w.heap.size, 2, none⟩) (Nat.lt_succ_self _)).trans h.2.2.1, (hb.cell (p := ⟨w.heap.size, 3, none⟩) (Nat.lt_succ_self _)).trans h.2.2.2⟩)
  have OWN0 := Lib.hid (show (w1.drew.alloc (.cells #[] 21)).ownsRow w.heap.size 21 1 (.slice (some ⟨w1.heap.size, 0, none⟩) 0 0) 0 [] from World.ownsRow_lit w1.drew #[] 0 HB.out.l.size (by simp [maxLen]) rfl)
  have SZ0 := Lib.hid (show w.heap.size ≤ (w1.drew.alloc (.cells #[] 21)).heap.size from by have := HB.out.s; simp; omega)
  have SRC := Lib.hid (show Sl (w1.drew.alloc (.cells #[] 21)) w.heap.size ra (rs.map (.int .i32)) from HR.out.below (HB.out.l.drew.alloc (by simpa using HB.out.l.size) _))
  refine wp_region_ks (fun W => W.cell? ⟨w.heap.size, 0, none⟩ = some (.int .i64 op) ∧ W.cell? ⟨w.heap.size, 1, none⟩ = some (.slice ra rs.length rc) ∧ W.cell? ⟨w.heap.size, 2, none⟩ = some (.int .i64 mn) ∧ W.cell? ⟨w.heap.size, 3, none⟩ = some (.int .i64 mx)) [12] (by kernel_rfl) ?_
  simp only [List.size_toArray, List.length_cons, List.length_nil, Nat.reduceAdd]
  refine ks_pure (i := 0) (oi := ?oi0a) (v := ?v0a) ?hi0a (by kernel_rfl) (by kernel_rfl) (by kernel_rfl) ?hQ0a ?hy0a ?rest0a
  case hi0a =>
    simp only [List.getElem?_toArray, List.getElem?_cons_zero]
    rfl
  case hQ0a => exact fun _ _ _ h => h
  case hy0a =>
    refine yields_if (by rfl) (fun W hW => ?_)
    try dsimp only at hW
    go_simp
    first | done | with_reducible rfl
  simp only [Act.put, List.setIfInBounds_toArray, List.set_cons_zero, List.set_cons_succ]
  refine ks_via [2, 11] (i := 1) (oi := ?oi1a) (v := ?v1a) ?hi1a (by kernel_rfl) (by kernel_rfl) (by kernel_rfl) (by kernel_rfl) (by kernel_rfl) ?hQ1a ?hS1a ?hy1a ?rest1a
  case hi1a =>
    simp only [List.getElem?_toArray, List.getElem?_cons_succ, List.getElem?_cons_zero]
    rfl
  case hQ1a => exact fun _ _ _ h => h
  case hS1a => exact ⟨c0, c1, c2, c3⟩
  case hy1a =>
    refine yields_if (by rfl) (fun W hW => ?_)
    obtain ⟨hW0, hW1, hW2, hW3⟩ := hW
    go_simp
    first | done | with_reducible rfl
  simp only [Act.put, List.setIfInBounds_toArray, List.set_cons_zero, List.set_cons_succ]
  refine ks_pure (i := 2) (oi := ?oi2a) (v := ?v2a) ?hi2a (by kernel_rfl) (by kernel_rfl) (by kernel_rfl) ?hQ2a ?hy2a ?rest2a
  case hi2a =>
    simp only [List.getElem?_toArray, List.getElem?_cons_succ, List.getElem?_cons_zero]
    rfl
  case hQ2a => exact fun _ _ _ h => h
  case hy2a =>
    refine yields_if (by rfl) (fun W hW => ?_)
    try dsimp only at hW
    go_simp
    first | done | with_reducible rfl
  simp only [Act.put, List.setIfInBounds_toArray, List.set_cons_zero, List.set_cons_succ]
  refine ks_pure (i := 4) (oi := ?oi4a) (v := ?v4a) ?hi4a (by kernel_rfl) (by kernel_rfl) (by kernel_rfl) ?hQ4a ?hy4a ?rest4a
  case hi4a =>
    simp only [List.getElem?_toArray, List.getElem?_cons_succ, List.getElem?_cons_zero]
    rfl
  case hQ4a => exact fun _ _ _ h => h
  case hy4a =>
    refine yields_if (by rfl) (fun W hW => ?_)
    try dsimp only at hW
    go_simp
    first | done | with_reducible rfl
  simp only [Act.put, List.setIfInBounds_toArray, List.set_cons_zero, List.set_cons_succ]
  refine ks_via [6, 11] (i := 5) (oi := ?oi5a) (v := ?v5a) ?hi5a (by kernel_rfl) (by kernel_rfl) (by kernel_rfl) (by kernel_rfl) (by kernel_rfl) ?hQ5a ?hS5a ?hy5a ?rest5a
  case hi5a =>
    simp only [List.getElem?_toArray, List.getElem?_cons_succ, List.getElem?_cons_zero]
    rfl
  case hQ5a => exact fun _ _ _ h => h
  case hS5a => exact ⟨c0, c1, c2, c3⟩
  case hy5a =>
    refine yields_if (by rfl) (fun W hW => ?_)
    obtain ⟨hW0, hW1, hW2, hW3⟩ := hW
    go_simp
    first | done | with_reducible rfl
  simp only [Act.put, List.setIfInBounds_toArray, List.set_cons_zero, List.set_cons_succ]
  refine ks_pure (i := 7) (oi := ?oi7a) (v := ?v7a) ?hi7a (by kernel_rfl) (by kernel_rfl) (by kernel_rfl) ?hQ7a ?hy7a ?rest7a
  case hi7a =>
    simp only [List.getElem?_toArray, List.getElem?_cons_succ, List.getElem?_cons_zero]
    rfl
  case hQ7a => exact fun _ _ _ h => h
  case hy7a =>
    refine yields_if (by rfl) (fun W hW => ?_)
    try dsimp only at hW
    go_simp
    first | done | with_reducible rfl
  simp only [Act.put, List.setIfInBounds_toArray, List.set_cons_zero, List.set_cons_succ]
  refine ks_via [11] (i := 8) (oi := ?oi8a) (v := ?v8a) ?hi8a (by kernel_rfl) (by kernel_rfl) (by kernel_rfl) (by kernel_rfl) (by kernel_rfl) ?hQ8a ?hS8a ?hy8a ?rest8a
  case hi8a =>
    simp only [List.getElem?_toArray, List.getElem?_cons_succ, List.getElem?_cons_zero]
    rfl
  case hQ8a => exact fun _ _ _ h => h
  case hS8a => exact ⟨c0, c1, c2, c3⟩
  case hy8a =>
    refine yields_if (by rfl) (fun W hW => ?_)
    obtain ⟨hW0, hW1, hW2, hW3⟩ := hW
    go_simp
    first | done | with_reducible rfl
  simp only [Act.put, List.setIfInBounds_toArray, List.set_cons_zero, List.set_cons_succ]
  refine ks_pure (i := 9) (oi := ?oi9a) (v := ?v9a) ?hi9a (by kernel_rfl) (by kernel_rfl) (by kernel_rfl) ?hQ9a ?hy9a ?rest9a
  case hi9a =>
    simp only [List.getElem?_toArray, List.getElem?_cons_succ, List.getElem?_cons_zero]
    rfl
  case hQ9a => exact fun _ _ _ h => h
  case hy9a =>
    refine yields_if (by rfl) (fun W hW => ?_)
    try dsimp only at hW
    go_simp
    first | done | with_reducible rfl
  simp only [Act.put, List.setIfInBounds_toArray, List.set_cons_zero, List.set_cons_succ]
  refine ks_via [11] (i := 10) (oi := ?oi10a) (v := ?v10a) ?hi10a (by kernel_rfl) (by kernel_rfl) (by kernel_rfl) (by kernel_rfl) (by kernel_rfl) ?hQ10a ?hS10a ?hy10a ?rest10a
  case hi10a =>
    simp only [List.getElem?_toArray, List.getElem?_cons_succ, List.getElem?_cons_zero]
    rfl
  case hQ10a => exact fun _ _ _ h => h
  case hS10a => exact ⟨c0, c1, c2, c3⟩
  case hy10a =>
    refine yields_if (by rfl) (fun W hW => ?_)
    obtain ⟨hW0, hW1, hW2, hW3⟩ := hW
    go_simp
    first | done | with_reducible rfl
  simp only [Act.put, List.setIfInBounds_toArray, List.set_cons_zero, List.set_cons_succ]
  refine ks_one (i := 3) (o := ?o3a) ?ho3a (by kernel_rfl) (fun K9 hK => ?_)
  case ho3a =>
    simp only [List.getElem?_toArray, List.getElem?_cons_succ, List.getElem?_cons_zero]
    rfl
  go_simp
  refine hK _ _ (fun _ hS => HSK.out _ _ (((Below.refl _ _).drew).alloc (by have := HB.out.s; simpa using this) _) hS) ?_
  clear hK K9
  try simp only [Act.put, List.setIfInBounds_toArray, List.set_cons_zero, List.set_cons_succ]
  refine ks_one (i := 6) (o := ?o6a) ?ho6a (by kernel_rfl) (fun K9 hK => ?_)
  case ho6a =>
    simp only [List.getElem?_toArray, List.getElem?_cons_succ, List.getElem?_cons_zero]
    rfl
  refine step_spread rfl (.tmp 9) (.tmp 11) 22 rfl w.heap.size w.heap.size 21 i0 _ 1 4 Tryd.underlying22 hi0 hz0 hz1 hz2 rfl (by omega) (.slice (some ⟨w1.heap.size, 0, none⟩) 0 0) 0 [] rfl OWN0.out ra rs.length rc (rs.map (.int .i32)) rfl (by simp) SRC.out (fun u hu => by obtain ⟨x, -, rfl⟩ := List.mem_map.1 hu; rfl) (by unfold maxLen; omega) (by omega) SZ0.out ?_
  intro v6 w6 ho6 hg6 hat6
  simp only [Nat.zero_add, List.nil_append] at ho6
  obtain ⟨a6, c6, rfl⟩ := own_value ho6
  refine hK _ _ (fun _ hS => HSK.out _ _ (hg6.below_ (fun k hk => by simp [Value.ownBlock] at hk; have := HB.out.s; omega) (by have := HB.out.s; simp; omega)) hS) ?_
  clear hK K9
  try simp only [Act.put, List.setIfInBounds_toArray, List.set_cons_zero, List.set_cons_succ]
  refine ks_pure (i := 11) (oi := ?oi11a) (v := ?v11a) ?hi11a (by kernel_rfl) (by kernel_rfl) (by kernel_rfl) ?hQ11a ?hy11a ?rest11a
  case hi11a =>
    simp only [List.getElem?_toArray, List.getElem?_cons_succ, List.getElem?_cons_zero]
    rfl
  case hQ11a => exact fun _ _ _ h => h
  case hy11a =>
    refine yields_if (by rfl) (fun W hW => ?_)
    try dsimp only at hW
    go_simp
    first | done | with_reducible rfl
  simp only [Act.put, List.setIfInBounds_toArray, List.set_cons_zero, List.set_cons_succ]
  refine ks_one (i := 12) (o := ?o12a) ?ho12a (by kernel_rfl) (fun K9 hK => ?_)
  case ho12a =>
    simp only [List.getElem?_toArray, List.getElem?_cons_succ, List.getElem?_cons_zero]
    rfl
  go_simp
  refine hK _ _ (by simp) ?_
  clear hK K9
  try simp only [Act.put, List.setIfInBounds_toArray, List.set_cons_zero, List.set_cons_succ]
  refine ks_pure (i := 13) (oi := ?oi13a) (v := ?v13a) ?hi13a (by kernel_rfl) (by kernel_rfl) (by kernel_rfl) ?hQ13a ?hy13a ?rest13a
  case hi13a =>
    simp only [List.getElem?_toArray, List.getElem?_cons_succ, List.getElem?_cons_zero]
    rfl
  case hQ13a => exact fun _ _ _ h => h
  case hy13a =>
    refine yields_if (by rfl) (fun W hW => ?_)
    try dsimp only at hW
    go_simp
    first | done | with_reducible rfl
  simp only [Act.put, List.setIfInBounds_toArray, List.set_cons_zero, List.set_cons_succ]
  refine ks_done (by kernel_rfl) ?_ _
  try simp only [Exit.then]
  rename_i hK1
  refine hK1 _ _ ?_
  clear hK1
  clear c0 c1 c2 c3 HSK OWN0 SZ0 SRC
  refine name_world ?_
  intro w2 hw2
  have BA := HB.out.b.alloc (.cells #[] 21)
  have LA : Below w.heap.size w (w1.alloc (.cells #[] 21)).drew := (HB.out.l.alloc HB.out.l.size _).drew
  have T2 := Lib.hid (show Ti w w2 w6.heap.size d op rs mn mx subs (.slice none 0 0) (.slice a6 rs.length c6) [] [.int .i64 op, .slice ra rs.length rc, .int .i64 mn, .int .i64 mx, .bool false, .bool false, .slice sa subs.length sc] from by
    rw [hw2]
    have g6 : Below w.heap.size (w1.alloc (.cells #[] 21)).drew w6 := grown_below hg6 (fun k hk => by simp [Value.ownBlock] at hk; have := HB.out.s; omega) LA.size
    have b6 : Blk w6 w.heap.size 25 _ := BA.drew.grown hg6 (fun e => by simp [Value.ownBlock] at e; have := HB.out.s; omega)
    have l6 := LA.trans (g6.mono (Nat.le_refl _))
    refine ⟨Blk.new w6 _ _, World.ownsRow_nil _ _ _ _, own_below ho6 ((Below.refl _ _).alloc (Nat.le_refl _) _), b6.alloc _, l6.alloc l6.size _, ?_, by simp⟩
    exact b6.lt)
  clear hw2 BA LA ho6 hg6 hat6 HB
  generalize w6.heap.size = N at *
  have b4 := T2.out.box.cell 4
  have b5 := T2.out.box.cell 5
  have b6 := T2.out.box.cell 6
  simp only [List.getElem?_cons_zero, List.getElem?_cons_succ] at b4 b5 b6
  go_wp2_with fail
  clear b4 b5 b6
  go_loopw [5, 40] (fun _ v40 wr => ∃ (i c : Nat) (a : Option Addr) (qs : List Addr), i ≤ subs.length ∧ v40 = .int .i64 i ∧ Hid (qs.length = i ∧ Ti w wr N d op rs mn mx subs (.slice a i c) (.slice a6 rs.length c6) qs [.int .i64 op, .slice ra rs.length rc, .int .i64 mn, .int .i64 mx, .bool false, .bool false, .slice sa subs.length sc])) (fun _ v40 _ => subs.length - (intOf v40).toNat)
  case atStart => exact ⟨0, 0, none, [], by omega, rfl, Lib.hid ⟨rfl, T2.out⟩⟩
  case round =>
    obtain ⟨i, c, a, qs, hi, rfl, H1⟩ := hrel
    by_cases hlt : i < subs.length
    · obtain ⟨ad, v0, v1, v2, v3, v4, v5, v6, rfl, -, hR, e0, e1, e2, e3, e4, e5, e6⟩ := sub_at HS.out.1 HS.out.2.1 (HS.out.2.2.1.below H1.out.2.low) (fun x hx => (HS.out.2.2.2 x hx).below H1.out.2.low) i hlt
      obtain ⟨o1, m1, x1, r1, rn1, rc1, s1, sn1, sc1, hf⟩ := hR.form
      unfold rxc at hf
      simp only [List.cons.injEq, and_true] at hf
      obtain ⟨rfl, rfl, rfl, rfl, rfl, rfl, rfl⟩ := hf
      have HRS := Lib.hid (hR.more H1.out.2.low.size)
      clear hR
      go_upto_region 9 with fail
      clear e0 e1 e2 e3 e4 e5 e6
      have HK := Lib.hid (Blk.new wr 25 [.int .i64 o1, .slice r1 rn1 rc1, .int .i64 m1, .int .i64 x1, .bool false, .bool false, .slice s1 sn1 sc1])
      have H2 := Lib.hid (show Ti w (wr.alloc (.cells #[.int .i64 o1, .slice r1 rn1 rc1, .int .i64 m1, .int .i64 x1, .bool false, .bool false, .slice s1 sn1 sc1] 25)).drew N d op rs mn mx subs (.slice a i c) (.slice a6 rs.length c6) qs _ from (H1.out.2.alloc _).drew)
      have hqi : Hid (qs.length = i) := Lib.hid H1.out.1
      have HSZ := Lib.hid (show (wr.alloc (.cells #[.int .i64 o1, .slice r1 rn1 rc1, .int .i64 m1, .int .i64 x1, .bool false, .bool false, .slice s1 sn1 sc1] 25)).drew.heap.size = wr.heap.size + 1 from by simp)
      have HNL := Lib.hid (show N < wr.heap.size from H1.out.2.node.lt)
      have CT := Lib.hid (IH.out (wr.alloc (.cells #[.int .i64 o1, .slice r1 rn1 rc1, .int .i64 m1, .int .i64 x1, .bool false, .bool false, .slice s1 sn1 sc1] 25)).drew subs[i] [.int .i64 o1, .slice r1 rn1 rc1, .int .i64 m1, .int .i64 x1, .bool false, .bool false, .slice s1 sn1 sc1] ((HRS.out.below ((Below.refl _ _).alloc (Nat.le_refl _) _).drew).more (by rw [HSZ.out]; omega)) (HW.out _ (List.getElem_mem hlt)))
      have n2 : (wr.alloc (.cells #[.int .i64 o1, .slice r1 rn1 rc1, .int .i64 m1, .int .i64 x1, .bool false, .bool false, .slice s1 sn1 sc1] 25)).cell? ⟨N, 2, none⟩ = some (.slice a i c) := ((H1.out.2.alloc _).node.cell 2)
      have k0 := HK.out.cell 0
      have k1 := HK.out.cell 1
      have k2 := HK.out.cell 2
      have k3 := HK.out.cell 3
      have k4 := HK.out.cell 4
      have k5 := HK.out.cell 5
      have k6 := HK.out.cell 6
      simp only [List.getElem?_cons_zero, List.getElem?_cons_succ] at k0 k1 k2 k3 k4 k5 k6
      have HSK2 := Lib.hid (show ∀ W W' : World, Below (wr.heap.size + 1) W W' → (W.cell? ⟨N, 2, none⟩ = some (.slice a i c) ∧ W.cell? ⟨wr.heap.size, 0, none⟩ = some (.int .i64 o1) ∧ W.cell? ⟨wr.heap.size, 1, none⟩ = some (.slice r1 rn1 rc1) ∧ W.cell? ⟨wr.heap.size, 2, none⟩ = some (.int .i64 m1) ∧ W.cell? ⟨wr.heap.size, 3, none⟩ = some (.int .i64 x1) ∧ W.cell? ⟨wr.heap.size, 4, none⟩ = some (.bool false) ∧ W.cell? ⟨wr.heap.size, 5, none⟩ = some (.bool false) ∧ W.cell? ⟨wr.heap.size, 6, none⟩ = some (.slice s1 sn1 sc1)) →
        (W'.cell? ⟨N, 2, none⟩ = some (.slice a i c) ∧ W'.cell? ⟨wr.heap.size, 0, none⟩ = some (.int .i64 o1) ∧ W'.cell? ⟨wr.heap.size, 1, none⟩ = some (.slice r1 rn1 rc1) ∧ W'.cell? ⟨wr.heap.size, 2, none⟩ = some (.int .i64 m1) ∧ W'.cell? ⟨wr.heap.size, 3, none⟩ = some (.int .i64 x1) ∧ W'.cell? ⟨wr.heap.size, 4, none⟩ = some (.bool false) ∧ W'.cell? ⟨wr.heap.size, 5, none⟩ = some (.bool false) ∧ W'.cell? ⟨wr.heap.size, 6, none⟩ = some (.slice s1 sn1 sc1)) from fun W W' hb h =>
          ⟨(hb.cell (p := ⟨N, 2, none⟩) (Nat.lt_succ_of_lt HNL.out)).trans h.1, (hb.cell (p := ⟨wr.heap.size, 0, none⟩) (Nat.lt_succ_self _)).trans h.2.1, (hb.cell (p := ⟨wr.heap.size, 1, none⟩) (Nat.lt_succ_self _)).trans h.2.2.1, (hb.cell (p := ⟨wr.heap.size, 2, none⟩) (Nat.lt_succ_self _)).trans h.2.2.2.1, (hb.cell (p := ⟨wr.heap.size, 3, none⟩) (Nat.lt_succ_self _)).trans h.2.2.2.2.1,
            (hb.cell (p := ⟨wr.heap.size, 4, none⟩) (Nat.lt_succ_self _)).trans h.2.2.2.2.2.1, (hb.cell (p := ⟨wr.heap.size, 5, none⟩) (Nat.lt_succ_self _)).trans h.2.2.2.2.2.2.1, (hb.cell (p := ⟨wr.heap.size, 6, none⟩) (Nat.lt_succ_self _)).trans h.2.2.2.2.2.2.2⟩)
      refine wp_region_ks (fun W => W.cell? ⟨N, 2, none⟩ = some (.slice a i c) ∧ W.cell? ⟨wr.heap.size, 0, none⟩ = some (.int .i64 o1) ∧ W.cell? ⟨wr.heap.size, 1, none⟩ = some (.slice r1 rn1 rc1) ∧ W.cell? ⟨wr.heap.size, 2, none⟩ = some (.int .i64 m1) ∧ W.cell? ⟨wr.heap.size, 3, none⟩ = some (.int .i64 x1) ∧ W.cell? ⟨wr.heap.size, 4, none⟩ = some (.bool false) ∧ W.cell? ⟨wr.heap.size, 5, none⟩ = some (.bool false) ∧ W.cell? ⟨wr.heap.size, 6, none⟩ = some (.slice s1 sn1 sc1)) [8, 11] (by kernel_rfl) ?_
      simp only [List.size_toArray, List.length_cons, List.length_nil, Nat.reduceAdd]
      refine ks_pure (i := 0) (oi := ?oi0b) (v := ?v0b) ?hi0b (by kernel_rfl) (by kernel_rfl) (by kernel_rfl) ?hQ0b ?hy0b ?rest0b
      case hi0b =>
        simp only [List.getElem?_toArray, List.getElem?_cons_zero]
        rfl
      case hQ0b => exact fun _ _ _ h => h
      case hy0b =>
        refine yields_if (by rfl) (fun W hW => ?_)
        try dsimp only at hW
        go_simp
        first | done | with_reducible rfl
      simp only [Act.put, List.setIfInBounds_toArray, List.set_cons_zero, List.set_cons_succ]
      refine ks_pure (i := 1) (oi := ?oi1b) (v := ?v1b) ?hi1b (by kernel_rfl) (by kernel_rfl) (by kernel_rfl) ?hQ1b ?hy1b ?rest1b
      case hi1b =>
        simp only [List.getElem?_toArray, List.getElem?_cons_succ, List.getElem?_cons_zero]
        rfl
      case hQ1b => exact fun _ _ _ h => h
      case hy1b =>
        refine yields_if (by rfl) (fun W hW => ?_)
        try dsimp only at hW
        go_simp
        first | done | with_reducible rfl
      simp only [Act.put, List.setIfInBounds_toArray, List.set_cons_zero, List.set_cons_succ]
      refine ks_pure (i := 2) (oi := ?oi2b) (v := ?v2b) ?hi2b (by kernel_rfl) (by kernel_rfl) (by kernel_rfl) ?hQ2b ?hy2b ?rest2b
      case hi2b =>
        simp only [List.getElem?_toArray, List.getElem?_cons_succ, List.getElem?_cons_zero]
        rfl
      case hQ2b => exact fun _ _ _ h => h
      case hy2b =>
        refine yields_if (by rfl) (fun W hW => ?_)
        try dsimp only at hW
        go_simp
        first | done | with_reducible rfl
      simp only [Act.put, List.setIfInBounds_toArray, List.set_cons_zero, List.set_cons_succ]
      refine ks_pure (i := 3) (oi := ?oi3b) (v := ?v3b) ?hi3b (by kernel_rfl) (by kernel_rfl) (by kernel_rfl) ?hQ3b ?hy3b ?rest3b
      case hi3b =>
        simp only [List.getElem?_toArray, List.getElem?_cons_succ, List.getElem?_cons_zero]
        rfl
      case hQ3b => exact fun _ _ _ h => h
      case hy3b =>
        refine yields_if (by rfl) (fun W hW => ?_)
        try dsimp only at hW
        go_simp
        first | done | with_reducible rfl
      simp only [Act.put, List.setIfInBounds_toArray, List.set_cons_zero, List.set_cons_succ]
      refine ks_via [8] (i := 4) (oi := ?oi4b) (v := ?v4b) ?hi4b (by kernel_rfl) (by kernel_rfl) (by kernel_rfl) (by kernel_rfl) (by kernel_rfl) ?hQ4b ?hS4b ?hy4b ?rest4b
      case hi4b =>
        simp only [List.getElem?_toArray, List.getElem?_cons_succ, List.getElem?_cons_zero]
        rfl
      case hQ4b => exact fun _ _ _ h => h
      case hS4b => exact ⟨n2, k0, k1, k2, k3, k4, k5, k6⟩
      case hy4b =>
        refine yields_if (by rfl) (fun W hW => ?_)
        obtain ⟨hN, h0, h1, h2, h3, h4, h5, h6⟩ := hW
        go_simp
        first | done | with_reducible rfl
      simp only [Act.put, List.setIfInBounds_toArray, List.set_cons_zero, List.set_cons_succ]
      refine ks_via [6, 7, 8] (i := 5) (oi := ?oi5b) (v := ?v5b) ?hi5b (by kernel_rfl) (by kernel_rfl) (by kernel_rfl) (by kernel_rfl) (by kernel_rfl) ?hQ5b ?hS5b ?hy5b ?rest5b
      case hi5b =>
        simp only [List.getElem?_toArray, List.getElem?_cons_succ, List.getElem?_cons_zero]
        rfl
      case hQ5b => exact fun _ _ _ h => h
      case hS5b => exact ⟨n2, k0, k1, k2, k3, k4, k5, k6⟩
      case hy5b =>
        refine yields_if (by rfl) (fun W hW => ?_)
        obtain ⟨hN, h0, h1, h2, h3, h4, h5, h6⟩ := hW
        go_simp
        first | done | with_reducible rfl
      simp only [Act.put, List.setIfInBounds_toArray, List.set_cons_zero, List.set_cons_succ]
      refine ks_one (i := 6) (o := ?o6b) ?ho6b (by kernel_rfl) (fun K9 hK => ?_)
      case ho6b =>
        simp only [List.getElem?_toArray, List.getElem?_cons_succ, List.getElem?_cons_zero]
        rfl
      go_simp
      refine CT.out.mono ?_
      rintro e w5 ⟨q, rfl, hq5, hb5⟩
      refine hK _ _ (fun _ hS => HSK2.out _ _ (by rw [← HSZ.out]; exact hb5) hS) ?_
      clear hK K9
      try simp only [Act.put, List.setIfInBounds_toArray, List.set_cons_zero, List.set_cons_succ]
      refine ks_one (i := 7) (o := ?o7b) ?ho7b (by kernel_rfl) (fun K9 hK => ?_)
      case ho7b =>
        simp only [List.getElem?_toArray, List.getElem?_cons_succ, List.getElem?_cons_zero]
        rfl
      go_simp
      refine hK _ _ (fun _ hS => HSK2.out _ _ ((Below.refl _ _).alloc (by rw [← HSZ.out]; exact hb5.size) _) hS) ?_
      clear hK K9
      try simp only [Act.put, List.setIfInBounds_toArray, List.set_cons_zero, List.set_cons_succ]
      refine ks_one (i := 8) (o := ?o8b) ?ho8b (by kernel_rfl) (fun K9 hK => ?_)
      case ho8b =>
        simp only [List.getElem?_toArray, List.getElem?_cons_succ, List.getElem?_cons_zero]
        rfl
      refine step_append1 w5 #[.pointer (some q)] rfl (.tmp 48) (.tmp 51) 84 rfl w.heap.size 64 j0 _ 1 8 Tryd.underlying84 ji0 jz0 jz1 jz2 rfl (by omega) rfl (.slice a i c) i (pvs qs) rfl (by have := own_below H2.out.row hb5; rw [hqi.out] at this; exact this) w5.heap.size rfl rfl (by simp [Value.oneCell']) (by unfold maxLen; omega) (by omega) (Nat.le_trans H2.out.low.size hb5.size) ?_
      intro g7 c7 w7 ho7 hg7 hat7
      have H7 := Lib.hid (H2.out.next hqi.out hlt hq5 hb5 ho7 hg7 hat7)
      have f7 := H7.out.1
      have n7 := H7.out.2.1
      refine hK _ _ (by simp) ?_
      clear hK K9
      try simp only [Act.put, List.setIfInBounds_toArray, List.set_cons_zero, List.set_cons_succ]
      refine ks_pure (i := 9) (oi := ?oi9b) (v := ?v9b) ?hi9b (by kernel_rfl) (by kernel_rfl) (by kernel_rfl) ?hQ9b ?hy9b ?rest9b
      case hi9b =>
        simp only [List.getElem?_toArray, List.getElem?_cons_succ, List.getElem?_cons_zero]
        rfl
      case hQ9b => exact fun _ _ _ h => h
      case hy9b =>
        refine yields_if (by rfl) (fun W hW => ?_)
        try dsimp only at hW
        go_simp
        first | done | with_reducible rfl
      simp only [Act.put, List.setIfInBounds_toArray, List.set_cons_zero, List.set_cons_succ]
      refine ks_pure (i := 10) (oi := ?oi10b) (v := ?v10b) ?hi10b (by kernel_rfl) (by kernel_rfl) (by kernel_rfl) ?hQ10b ?hy10b ?rest10b
      case hi10b =>
        simp only [List.getElem?_toArray, List.getElem?_cons_succ, List.getElem?_cons_zero]
        rfl
      case hQ10b => exact fun _ _ _ h => h
      case hy10b =>
        refine yields_if (by rfl) (fun W hW => ?_)
        try dsimp only at hW
        go_simp
        first | done | with_reducible rfl
      simp only [Act.put, List.setIfInBounds_toArray, List.set_cons_zero, List.set_cons_succ]
      refine ks_one (i := 11) (o := ?o11b) ?ho11b (by kernel_rfl) (fun K9 hK => ?_)
      case ho11b =>
        simp only [List.getElem?_toArray, List.getElem?_cons_succ, List.getElem?_cons_zero]
        rfl
      go_simp
      refine hK _ _ (by simp) ?_
      clear hK K9
      try simp only [Act.put, List.setIfInBounds_toArray, List.set_cons_zero, List.set_cons_succ]
      refine ks_done (by kernel_rfl) ?_ _
      try simp only [Exit.then]
      rename_i hK1
      refine hK1 _ _ ?_
      clear hK1
      refine name_world ?_
      intro w8 hw8
      have H8 := Lib.hid (show (qs ++ [q]).length = i + 1 ∧ Ti w w8 N d op rs mn mx subs (.slice (some ⟨g7, 0, none⟩) (i + 1) c7) (.slice a6 rs.length c6) (qs ++ [q]) _ from ⟨by simp [hqi.out], by rw [hw8]; exact H7.out.2.2⟩)
      clear hw8 H7 f7 n7
      go_wp2
      go_roundw
      case rel => exact ⟨i + 1, c7, _, qs ++ [q], by omega, by go_num, H8⟩
      case measure => simp [intOf]; omega
    · obtain rfl : i = subs.length := by omega
      have HF := Lib.hid H1.out.2.done_
      go_wp2
      go_ret
      exact ⟨_, rfl, HF.out H1.out.1, H1.out.2.low⟩
/-- an expression as Go's package has it -/
theorem tree_ok {m : Nat} (hm : m ≤ 1000) : ∀ d, TreeOk m d
  | 0 => fun _ _ _ h => h.elim
  | d + 1 => by
    have IH := tree_ok hm d
    intro w r cs h hw
    obtain ⟨op, rs, mn, mx, subs⟩ := r
    obtain ⟨ra, rc, sa, sc, ls, rfl, h2, h3, h4, h5, h6⟩ := h
    obtain ⟨g1, g2, g3, g4⟩ := wf_bd hm hw
    exact tree_step IH op rs mn mx subs ra rc sa sc ls w g1 g2 g3 g4 h2 h3 h4 h5 h6
end Go.Proofs.YtbkpgfccghombaaDoor.rx.wide
