/-
  FnStateFor: where a state goes by a byte: TransitionFor. Conditions: as stated.
-/
import Derived.Test.YtjonmfaeonldcaaDoorStX
import Derived.Test.YtjonmfaeonldcaaDoorStW0
import Derived.StillTailTactics
namespace Go.Proofs.YtjonmfaeonldcaaDoor.fnStateFor
open Go.ChangeShapes Go.WideShapes Go.ChangeAt Go.RowKit
set_option linter.unusedVariables false

theorem At.flat {D : List Int} {k : Nat} (g : Arc → Int) : ∀ (l : List Arc) (i p : Nat) (h : p < l.length), At D i (l.flatMap (fun x => pk (g x) k)) → At D (i + p * k) (pk (g l[p]) k)
  | x :: l, i, 0, h, hA => by
    rw [List.flatMap_cons] at hA
    simpa using hA.fst
  | x :: l, i, p + 1, h, hA => by
    rw [List.flatMap_cons] at hA
    have := At.flat g l _ p (by simpa using h) (hA.snd' (by rw [pk_len]))
    rw [show i + (p + 1) * k = i + k + p * k by rw [Nat.succ_mul]; omega]
    exact this

theorem drewN_drewN (W : World) (a b : Nat) : (W.drewN a).drewN b = W.drewN (a + b) := by
  simp [World.drewN, Nat.add_assoc]

set_option maxRecDepth 100000 in
theorem ies_any {W : World} {N g n cap t : Nat} {D : List Int} {hd : Int} {b : Bool} (h0 : W.cell? ⟨N, 0, none⟩ = some (.slice (some ⟨g, 0, none⟩) n cap)) (h1 : W.cell? ⟨N, 1, none⟩ = some (.int .i64 t)) (hD : Dt W g D) (hn : n = D.length) (ht : At D t [hd])
    (hb : hd / 128 = if b then 1 else 0) (hd0 : 0 ≤ hd) (hd1 : hd ≤ 255) (hmax : n ≤ 100000000) : Calls Tryd.prog 36 #[.pointer (some ⟨N, 0, none⟩)] W fun e w' => e = .returned (.bool b) ∧ ∃ k, w' = W.drewN k := by
  have hby := hD.byte ht
  have htn : (t : Int) < (n : Int) := by have := ht.len; simp at this; omega
  have mixed : Tryd.prog.follows .mixedOrders = true := by kernel_rfl
  clear hD ht hn
  cases b
  · have hb : hd / 128 = 0 := hb
    have hb2 : hd / 2 ^ 7 = 0 := hb
    go_enter Tryd.func36, Tryd.ntmps36
    go_wp2
    go_quiet (fail)
    go_wp2
    go_returns
    exact ⟨rfl, _, rfl⟩
  · have hb : hd / 128 = 1 := hb
    have hb2 : hd / 2 ^ 7 = 1 := hb
    go_enter Tryd.func36, Tryd.ntmps36
    go_wp2
    go_quiet (fail)
    go_wp2
    go_returns
    exact ⟨rfl, _, rfl⟩

set_option maxRecDepth 100000 in
set_option maxHeartbeats 800000 in
theorem tf_one {W : World} {N g n cap t : Nat} {D : List Int} {bot hd ch addr out : Int} {x3 x5 x8 x9 : Value} (hB : Blk W N 78 (stL g n cap t bot x3 (.int .u8 ch) x5 (.int .u64 addr) (.int .u64 out) x8 x9))
    (hD : Dt W g D) (hn : n = D.length) (ht : At D t [hd]) (hb : hd / 128 = 1) (hd0 : 0 ≤ hd) (hd1 : hd ≤ 255) (hmax : n ≤ 100000000) (ha0 : 0 ≤ addr) (ha1 : addr ≤ 1000000000) (b : Int) :
    Calls Tryd.prog 87 #[.pointer (some ⟨N, 0, none⟩), .int .u8 b] W fun e w' => e = .returned (if ch = b then .tuple #[.int .i64 0, .int .i64 addr, .int .u64 out] else .tuple #[.int .i64 (-1), .int .i64 1, .int .u64 0]) ∧ ∃ k, w' = W.drewN k := by
  obtain ⟨c0, c1, c2, c3, c4, c5, c6, c7, c8, c9, f⟩ := stC hB
  have CI := Lib.hid (ies_any (b := true) c0 c1 hD hn ht hb hd0 hd1 hmax)
  clear hD ht hn hB
  by_cases hc : ch = b
  · rw [if_pos hc]
    subst hc
    go_enter Tryd.func87, Tryd.ntmps87
    go_wp2_with (go_at_call 36; refine CI.out.mono ?_; rintro e w1 ⟨rfl, k1, rfl⟩)
    go_quiet (fail)
    go_wp2
    go_returns
    exact ⟨rfl, _, drewN_drewN _ _ _⟩
  · rw [if_neg hc]
    go_enter Tryd.func87, Tryd.ntmps87
    go_wp2_with (go_at_call 36; refine CI.out.mono ?_; rintro e w1 ⟨rfl, k1, rfl⟩)
    go_returns
    exact ⟨rfl, _, rfl⟩

/-- a state with any number of arcs, read, and the bytes that it names -/
structure Mt (W : World) (N g n cap t s0 m zs os : Nat) (f : Bool) (s5 s4 s3 oT oB : Nat) (oF : Int) (D : List Int) (S hd : Int) (l : List Arc) : Prop where
  b : Blk W N 78 (mulL g n cap t s0 m zs os f s5 s4 s4 s3 oT oB oF)
  d : Dt W g D
  nl : n = D.length
  cp : n ≤ cap
  mx : n ≤ 100000000
  lt : s5 < n
  sb : s0 ≤ 100000000
  ml : m = l.length
  m2 : m ≤ 256
  ht : At D t [hd]
  hb : hd / 128 = 0
  h0 : 0 ≤ hd
  h1 : hd ≤ 255
  keys : At D s4 (l.reverse.map (·.1))
  dests : At D s3 (l.reverse.flatMap (fun x => pk (dlt S x.2.2) zs))
  outs : 0 < os → At D oB (l.reverse.flatMap (fun x => pk x.2.1 os))
  e1 : s5 = s4 + m
  e2 : s4 = s3 + m * zs
  e3 : 0 < os → oT = oB + m * os
  e4 : os = 0 → oT = 0 ∧ oB = 0
  zl : zs ≤ 8
  ol : os ≤ 8
  kb : ∀ x ∈ l, 0 ≤ x.1 ∧ x.1 ≤ 255
  db : ∀ x ∈ l, 0 ≤ dlt S x.2.2 ∧ dlt S x.2.2 < 256 ^ zs ∧ dlt S x.2.2 ≤ s0
  ob : 0 < os → ∀ x ∈ l, 0 ≤ x.2.1 ∧ x.2.1 < 256 ^ os
  on : os = 0 → ∀ x ∈ l, x.2.1 = 0

section
variable {W : World} {N g n cap t s0 m zs os : Nat} {f : Bool} {s5 s4 s3 oT oB : Nat} {oF : Int} {D : List Int} {S hd : Int} {l : List Arc}
theorem Mt.ix_none (h : Mt W N g n cap t s0 m zs os f s5 s4 s3 oT oB oF D S hd l) (b : Int) (hb0 : 0 ≤ b) (hb1 : b ≤ 255) (hn : ∀ x ∈ l, x.1 ≠ b) (w : World) (hw : ∀ p : Addr, p.block = g → w.cell? p = W.cell? p) :
    Calls Tryd.prog 88 #[.slice (some ⟨g, s4, none⟩) m (cap - s4), .int .u8 b] w fun e w' => e = .returned (.int .i64 (-1)) ∧ w = w' := by
  have C := ib_any (n := m) (c := cap - s4) (y := b) h.d h.keys (by rw [List.length_map, List.length_reverse]; exact h.ml) w hw
  rw [fnStateFor.ix_none _ b (fun z hz => by
    obtain ⟨x, hx, rfl⟩ := List.mem_map.1 hz
    exact h.kb x (List.mem_reverse.1 hx)) hb0 hb1 (fun z hz => by
    obtain ⟨x, hx, rfl⟩ := List.mem_map.1 hz
    exact hn x (List.mem_reverse.1 hx))] at C
  exact C
theorem rev_get (l : List Arc) (p k : Nat) (hk : k < l.length) (hp : p + k + 1 = l.length) : l.reverse[p]'(by rw [List.length_reverse]; omega) = l[k] := by
  rw [List.getElem_reverse]
  congr 1
  omega
theorem Mt.ix_hit (h : Mt W N g n cap t s0 m zs os f s5 s4 s3 oT oB oF D S hd l) (p k : Nat) (hk : k < l.length) (hp : p + k + 1 = l.length) (hlt : ∀ j (hj : j < l.length), k < j → l[j].1 ≠ l[k].1) (w : World) (hw : ∀ q : Addr, q.block = g → w.cell? q = W.cell? q) :
    Calls Tryd.prog 88 #[.slice (some ⟨g, s4, none⟩) m (cap - s4), .int .u8 l[k].1] w fun e w' => e = .returned (.int .i64 p) ∧ w = w' := by
  have C := ib_any (n := m) (c := cap - s4) (y := l[k].1) h.d h.keys (by rw [List.length_map, List.length_reverse]; exact h.ml) w hw
  have hg : ∀ j, j < l.length → (l.reverse.map (·.1)).getD j 0 = (l[l.length - 1 - j]!).1 := fun j hj => by
    rw [List.getD_eq_getElem?_getD, List.getElem?_map, List.getElem?_eq_getElem (by rw [List.length_reverse]; exact hj), List.getElem_reverse, getElem!_pos l (l.length - 1 - j) (by omega)]
    rfl
  have hkb := h.kb _ (List.getElem_mem hk)
  rw [ix_some _ _ p (fun z hz => by
    obtain ⟨x, hx, rfl⟩ := List.mem_map.1 hz
    exact h.kb x (List.mem_reverse.1 hx)) hkb.1 hkb.2 (by rw [List.length_map, List.length_reverse]; omega) (by
      rw [hg p (by omega), getElem!_pos l _ (by omega)]
      congr 2
      omega) (fun j hj => by
      rw [hg j (by omega), getElem!_pos l _ (by omega)]
      exact hlt _ _ (by omega))] at C
  exact C

set_option maxRecDepth 100000 in
set_option maxHeartbeats 1600000 in
theorem tf_none (h : Mt W N g n cap t s0 m zs os f s5 s4 s3 oT oB oF D S hd l) (b : Int) (hb0 : 0 ≤ b) (hb1 : b ≤ 255) (hn : ∀ x ∈ l, x.1 ≠ b) :
    Calls Tryd.prog 87 #[.pointer (some ⟨N, 0, none⟩), .int .u8 b] W fun e w' => e = .returned (.tuple #[.int .i64 (-1), .int .i64 1, .int .u64 0]) ∧ ∃ k, w' = W.drewN k := by
  obtain ⟨c0, c1, c2, c3, c8, c9, c10, c11, c12, c13, c14, c15, c16, c17, fz⟩ := muC h.b
  have CI := Lib.hid (ies_any (b := false) c0 c1 h.d h.nl h.ht h.hb h.h0 h.h1 h.mx)
  have CX := Lib.hid (fun w hw => h.ix_none b hb0 hb1 hn w hw)
  have hk := h.keys.len
  rw [List.length_map, List.length_reverse, ← h.ml, ← h.nl] at hk
  have e1 := h.e1
  have hc := h.cp
  have hltn := h.lt
  have a1 : (s4 : Int) ≤ (s5 : Int) := by omega
  have a2 : (s5 : Int) ≤ (cap : Int) := by omega
  have a3 : ¬ cap = s4 := by omega
  have a4 : s5 - s4 = m := by omega
  have mixed : Tryd.prog.follows .mixedOrders = true := by kernel_rfl
  clear h hk e1 hc hltn
  go_enter Tryd.func87, Tryd.ntmps87
  go_wp2_with (go_at_call 36; refine CI.out.mono ?_; rintro e w1 ⟨rfl, k1, rfl⟩)
  go_quiet (fail)
  go_wp2_with (go_at_call 88; refine (CX.out (W.drewN _) (fun _ _ => rfl)).mono ?_; rintro e w2 ⟨rfl, rfl⟩)
  go_returns
  exact ⟨rfl, _, rfl⟩

theorem drews (W : World) (k : Nat) : ∃ n, W.drewN k = W.drewN n := ⟨k, rfl⟩

theorem pk_at {D : List Int} {k i j : Nat} {v : Int} (g : Arc → Int) (l : List Arc) (p : Nat) (h : p < l.length) (hA : At D i (l.flatMap (fun x => pk (g x) k))) (hj : j = i + p * k) (hv : v = g l[p]) : At D j (pk v k) := by
  subst hj hv
  exact At.flat g l i p h hA

set_option maxRecDepth 100000 in
set_option maxHeartbeats 6400000 in
theorem tf_hit (h : Mt W N g n cap t s0 m zs os f s5 s4 s3 oT oB oF D S hd l) (k : Nat) (hk : k < l.length) (hlt : ∀ j (hj : j < l.length), k < j → l[j].1 ≠ l[k].1) :
    Calls Tryd.prog 87 #[.pointer (some ⟨N, 0, none⟩), .int .u8 l[k].1] W fun e w' => e = .returned (.tuple #[.int .i64 k, .int .i64 (if dlt S l[k].2.2 = 0 then 0 else s0 - dlt S l[k].2.2), .int .u64 l[k].2.1]) ∧ ∃ k, w' = W.drewN k := by
  obtain ⟨c0, c1, c2, c3, c8, c9, c10, c11, c12, c13, c14, c15, c16, c17, fz⟩ := muC h.b
  have CI := Lib.hid (ies_any (b := false) c0 c1 h.d h.nl h.ht h.hb h.h0 h.h1 h.mx)
  obtain ⟨p, hp⟩ : ∃ p, p + k + 1 = l.length := ⟨l.length - 1 - k, by omega⟩
  have CX := Lib.hid (fun w hw => h.ix_hit p k hk hp hlt w hw)
  have hkl := h.keys.len
  rw [List.length_map, List.length_reverse, ← h.ml, ← h.nl] at hkl
  have hpl : p < l.reverse.length := by rw [List.length_reverse]; omega
  have hrg := rev_get l p k hk hp
  obtain ⟨d1, d2, d3⟩ := h.db _ (List.getElem_mem hk)
  have hml := h.ml
  have e1 := h.e1
  have e2 := h.e2
  have hc := h.cp
  have hltn := h.lt
  have hmx := h.mx
  have hm2 := h.m2
  have hzl := h.zl
  have hol := h.ol
  obtain ⟨a, ha⟩ : ∃ a, a = p * zs := ⟨_, rfl⟩
  have ham : a + zs ≤ m * zs := by rw [ha, ← Nat.succ_mul]; exact Nat.mul_le_mul_right zs (by omega)
  have hmz : m * zs ≤ 2048 := Nat.mul_le_mul hm2 hzl
  have CD := Lib.hid (fun c w hw => rpu_any (i := s3 + a) (n := zs) (c := c) h.d (pk_at (fun x => dlt S x.2.2) l.reverse p hpl h.dests (by rw [ha]) (by rw [hrg])) hzl d1 d2 w hw)
  obtain ⟨b, hb⟩ : ∃ b, b = p * os := ⟨_, rfl⟩
  have hbm : b + os ≤ m * os := by rw [hb, ← Nat.succ_mul]; exact Nat.mul_le_mul_right os (by omega)
  have hmo : m * os ≤ 2048 := Nat.mul_le_mul hm2 hol
  have CO := Lib.hid (fun (ho : 0 < os) c w hw => rpu_any (i := oB + b) (n := os) (c := c) h.d (pk_at (fun x => x.2.1) l.reverse p hpl (h.outs ho) (by rw [hb]) (by rw [hrg])) hol (h.ob ho _ (List.getElem_mem hk)).1 (h.ob ho _ (List.getElem_mem hk)).2 w hw)
  have HO0 := Lib.hid (fun ho => h.on ho _ (List.getElem_mem hk))
  have HE3 := Lib.hid (fun ho => h.e3 ho)
  have HE4 := Lib.hid (fun ho => h.e4 ho)
  have HOL := Lib.hid (fun ho => (h.outs ho).len)
  have hfl : (l.reverse.flatMap (fun x => pk x.2.1 os)).length = m * os := by rw [flat_pk_len, List.length_reverse, hml]
  rw [hfl] at HOL
  rw [← h.nl] at HOL
  generalize dlt S l[k].2.2 = dl at *
  generalize l[k].2.1 = ou at *
  generalize l[k].1 = by_ at *
  have a1 : (s4 : Int) ≤ (s5 : Int) := by omega
  have a2 : (s5 : Int) ≤ (cap : Int) := by omega
  have a3 : ¬ cap = s4 := by omega
  have a4 : s5 - s4 = m := by omega
  have b1 : (s3 : Int) ≤ (s4 : Int) := by omega
  have b2 : (s4 : Int) ≤ (cap : Int) := by omega
  have b3 : (p : Int) * (zs : Int) = (a : Int) := by rw [ha, Int.natCast_mul]
  obtain ⟨c2_, hc2⟩ : ∃ c2_, c2_ = a + zs := ⟨_, rfl⟩
  have b4 : (a : Int) + (zs : Int) = (c2_ : Int) := by omega
  have b5 : (a : Int) ≤ (c2_ : Int) := by omega
  have b6 : (c2_ : Int) ≤ ((cap - s3 : Nat) : Int) := by omega
  have b7 : c2_ - a = zs := by omega
  have b8 : ¬ cap = s3 := by omega
  have b9 : ¬ cap - s3 = a := by omega
  have wa : IntKind.i64.wrap (a : Int) = (a : Int) := by rw [IntKind.wrap_i64]; omega
  have wa2 : IntKind.i64.wrap (c2_ : Int) = (c2_ : Int) := by rw [IntKind.wrap_i64]; omega
  have mixed : Tryd.prog.follows .mixedOrders = true := by kernel_rfl
  have r1 : (m : Int) - (p : Int) - 1 = (k : Int) := by omega
  have hs0 := h.sb
  have hc0 : ¬ cap = 0 := by omega
  clear h hkl e1 e2 hltn hrg hpl hlt ha hml hc2
  by_cases ho : os = 0
  · have hou := HO0.out ho
    obtain ⟨hoT, hoB⟩ := HE4.out ho
    clear HO0 HE4 HE3 HOL CO hb hfl hbm hmo
    subst hou hoT hoB ho
    by_cases hd0 : dl = 0
    · rw [if_pos hd0]
      subst hd0
      go_enter Tryd.func87, Tryd.ntmps87
      go_wp2_with (go_at_call 36; refine CI.out.mono ?_; rintro e w1 ⟨rfl, k1, rfl⟩)
      go_quiet (fail)
      go_wp2_with (go_at_call 88; refine (CX.out (W.drewN _) (fun _ _ => rfl)).mono ?_; rintro e w2 ⟨rfl, rfl⟩)
      go_quiet (fail)
      go_upto_region 10 with (fail)
      refine wp_region_still_tail 18 (by kernel_rfl) (by kernel_rfl) ?_
      simp only [List.take_succ_cons, List.take_zero, List.drop_succ_cons, List.drop_zero]
      change wpStill _ _ (World.drew _) _ _ _
      repeat still_step
      refine wpStill_nil ?_
      change wpList _ _ _ _ _ (World.drew _)
      go_wp2_with (go_at_call 51; refine (CD.out _ (W.drewN _) (fun _ _ => rfl)).mono ?_; rintro e w3 ⟨rfl, rfl⟩)
      go_quiet (fail)
      go_wp2
      go_returns
      exact ⟨rfl, drews _ _⟩
    · rw [if_neg hd0]
      have hdp : (0 : Int) < dl := by omega
      have wd : IntKind.i64.wrap dl = dl := by rw [IntKind.wrap_i64]; omega
      go_enter Tryd.func87, Tryd.ntmps87
      go_wp2_with (go_at_call 36; refine CI.out.mono ?_; rintro e w1 ⟨rfl, k1, rfl⟩)
      go_quiet (fail)
      go_wp2_with (go_at_call 88; refine (CX.out (W.drewN _) (fun _ _ => rfl)).mono ?_; rintro e w2 ⟨rfl, rfl⟩)
      go_quiet (fail)
      go_upto_region 10 with (fail)
      refine wp_region_still_tail 18 (by kernel_rfl) (by kernel_rfl) ?_
      simp only [List.take_succ_cons, List.take_zero, List.drop_succ_cons, List.drop_zero]
      change wpStill _ _ (World.drew _) _ _ _
      repeat still_step
      refine wpStill_nil ?_
      change wpList _ _ _ _ _ (World.drew _)
      go_wp2_with (go_at_call 51; refine (CD.out _ (W.drewN _) (fun _ _ => rfl)).mono ?_; rintro e w3 ⟨rfl, rfl⟩)
      go_quiet (fail)
      go_wp2
      go_returns
      exact ⟨rfl, drews _ _⟩
  · have hos : 0 < os := by omega
    have hos2 : (0 : Int) < (os : Int) := by omega
    have CO2 := Lib.hid (CO.out hos)
    have f1 := HE3.out hos
    have f2 := HOL.out hos
    have g1 : (oB : Int) ≤ (oT : Int) := by omega
    have g2 : (oT : Int) ≤ (cap : Int) := by omega
    have g3 : (p : Int) * (os : Int) = (b : Int) := by rw [hb, Int.natCast_mul]
    obtain ⟨d2_, hd2⟩ : ∃ d2_, d2_ = b + os := ⟨_, rfl⟩
    have g4 : (b : Int) + (os : Int) = (d2_ : Int) := by omega
    have g5 : (b : Int) ≤ (d2_ : Int) := by omega
    have g6 : (d2_ : Int) ≤ ((cap - oB : Nat) : Int) := by omega
    have g7 : d2_ - b = os := by omega
    have g8 : ¬ cap = oB := by omega
    have g9 : ¬ cap - oB = b := by omega
    have wb : IntKind.i64.wrap (b : Int) = (b : Int) := by rw [IntKind.wrap_i64]; omega
    have wb2 : IntKind.i64.wrap (d2_ : Int) = (d2_ : Int) := by rw [IntKind.wrap_i64]; omega
    clear HO0 HE4 HE3 HOL CO hb hfl hbm hmo f1 f2 hd2 ho hos
    by_cases hd0 : dl = 0
    · rw [if_pos hd0]
      subst hd0
      go_enter Tryd.func87, Tryd.ntmps87
      go_wp2_with (go_at_call 36; refine CI.out.mono ?_; rintro e w1 ⟨rfl, k1, rfl⟩)
      go_quiet (fail)
      go_wp2_with (go_at_call 88; refine (CX.out (W.drewN _) (fun _ _ => rfl)).mono ?_; rintro e w2 ⟨rfl, rfl⟩)
      go_quiet (fail)
      go_upto_region 10 with (fail)
      refine wp_region_still_tail 18 (by kernel_rfl) (by kernel_rfl) ?_
      simp only [List.take_succ_cons, List.take_zero, List.drop_succ_cons, List.drop_zero]
      change wpStill _ _ (World.drew _) _ _ _
      repeat still_step
      refine wpStill_nil ?_
      change wpList _ _ _ _ _ (World.drew _)
      go_wp2_with (go_at_call 51; refine (CD.out _ (W.drewN _) (fun _ _ => rfl)).mono ?_; rintro e w3 ⟨rfl, rfl⟩)
      go_quiet (fail)
      go_upto_region 16 with (fail)
      refine wp_region_still_tail 18 (by kernel_rfl) (by kernel_rfl) ?_
      simp only [List.take_succ_cons, List.take_zero, List.drop_succ_cons, List.drop_zero]
      change wpStill _ _ (World.drew _) _ _ _
      repeat still_step
      refine wpStill_nil ?_
      change wpList _ _ _ _ _ (World.drew _)
      go_wp2_with (go_at_call 51; refine (CO2.out _ (W.drewN _) (fun _ _ => rfl)).mono ?_; rintro e w4 ⟨rfl, rfl⟩)
      go_returns
      exact ⟨rfl, drews _ _⟩
    · rw [if_neg hd0]
      have hdp : (0 : Int) < dl := by omega
      have wd : IntKind.i64.wrap dl = dl := by rw [IntKind.wrap_i64]; omega
      go_enter Tryd.func87, Tryd.ntmps87
      go_wp2_with (go_at_call 36; refine CI.out.mono ?_; rintro e w1 ⟨rfl, k1, rfl⟩)
      go_quiet (fail)
      go_wp2_with (go_at_call 88; refine (CX.out (W.drewN _) (fun _ _ => rfl)).mono ?_; rintro e w2 ⟨rfl, rfl⟩)
      go_quiet (fail)
      go_upto_region 10 with (fail)
      refine wp_region_still_tail 18 (by kernel_rfl) (by kernel_rfl) ?_
      simp only [List.take_succ_cons, List.take_zero, List.drop_succ_cons, List.drop_zero]
      change wpStill _ _ (World.drew _) _ _ _
      repeat still_step
      refine wpStill_nil ?_
      change wpList _ _ _ _ _ (World.drew _)
      go_wp2_with (go_at_call 51; refine (CD.out _ (W.drewN _) (fun _ _ => rfl)).mono ?_; rintro e w3 ⟨rfl, rfl⟩)
      go_quiet (fail)
      go_upto_region 16 with (fail)
      refine wp_region_still_tail 18 (by kernel_rfl) (by kernel_rfl) ?_
      simp only [List.take_succ_cons, List.take_zero, List.drop_succ_cons, List.drop_zero]
      change wpStill _ _ (World.drew _) _ _ _
      repeat still_step
      refine wpStill_nil ?_
      change wpList _ _ _ _ _ (World.drew _)
      go_wp2_with (go_at_call 51; refine (CO2.out _ (W.drewN _) (fun _ _ => rfl)).mono ?_; rintro e w4 ⟨rfl, rfl⟩)
      go_returns
      exact ⟨rfl, drews _ _⟩
end

end Go.Proofs.YtjonmfaeonldcaaDoor.fnStateFor
