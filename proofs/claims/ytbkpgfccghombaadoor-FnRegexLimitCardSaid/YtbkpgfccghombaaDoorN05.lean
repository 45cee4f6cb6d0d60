/-
  Parts of the proof in one text: La, Lm. Conditions: as each states.
-/
import Derived.Test.YtbkpgfccghombaaDoorDqZz
import Derived.Test.YtbkpgfccghombaaDoorWzZz
import Derived.Test.YtbkpgfccghombaaDoorM17
/-! So many letters, one behind the other, in memory. Conditions: as stated. -/
namespace Go.Proofs.YtbkpgfccghombaaDoor.rx
open Go.ChangeShapes Go.WideShapes Go.ChangeAt Go.RowKit
set_option linter.unusedVariables false
set_option linter.unusedSimpArgs false

def letC (g : Nat) : List Value := rxc 3 0 0 (some ⟨g, 0, none⟩) 1 1 none 0 0
/-- the letters that are laid so far -/
structure LB (N : Nat) (w0 wr : World) (a : Option Addr) (c : Nat) (gs : List Nat) : Prop where
  b : Blk wr N 25 [.int .i64 18, .slice none 0 0, .int .i64 0, .int .i64 0, .bool false, .bool false, .slice a gs.length c]
  row : wr.ownsRow (N + 1) 25 7 (.slice a gs.length c) gs.length (gs.flatMap letC)
  rs : ∀ g ∈ gs, Blk wr g 21 [.int .i32 97]
  low : Below N w0 wr
theorem LB.new {N : Nat} {w0 w : World} (hN : N = w.heap.size) (hb : Below N w0 w) : LB N w0 (w.alloc (.cells #[.int .i64 18, .slice none 0 0, .int .i64 0, .int .i64 0, .bool false, .bool false, .slice none 0 0] 25)) none 0 [] := by
  subst hN
  exact ⟨Blk.new w _ [.int .i64 18, .slice none 0 0, .int .i64 0, .int .i64 0, .bool false, .bool false, .slice none 0 0], World.ownsRow_nil _ _ _ _, (fun g hg => absurd hg List.not_mem_nil), hb.alloc (Nat.le_refl _) _⟩
section
variable {N : Nat} {w0 wr : World} {a : Option Addr} {c : Nat} {gs : List Nat}
theorem LB.go (h : LB N w0 wr a c gs) {w' : World} (hb : Below wr.heap.size wr w') : LB N w0 w' a c gs :=
  ⟨h.b.below hb h.b.lt, own_below h.row hb, fun g hg => (h.rs g hg).below hb (h.rs g hg).lt, h.low.trans (hb.mono (Nat.le_of_lt h.b.lt))⟩
theorem LB.put (h : LB N w0 wr a c gs) {w9 : World} {a9 : Option Addr} {c9 : Nat} (ho : w9.ownsRow (N + 1) 25 7 (.slice a9 (gs.length + 1) c9) (gs.length + 1) (gs.flatMap letC ++ letC wr.heap.size)) (hg : (wr.alloc (.cells #[.int .i32 97] 21)).grownBy w9 (Value.slice a gs.length c).ownBlock) :
    LB N w0 (w9.setCell ⟨N, 6, none⟩ (.slice a9 (gs.length + 1) c9)) a9 c9 (gs ++ [wr.heap.size]) := by
  have hne : some N ≠ (Value.slice a gs.length c).ownBlock := fun e => by have := own_block_ge h.row _ e.symm; omega
  have hb9 : Blk w9 N 25 _ := (h.b.alloc _).grown hg hne
  have hr : ∀ g ∈ gs ++ [wr.heap.size], Blk w9 g 21 [.int .i32 97] := fun g hm => by
    rcases List.mem_append.1 hm with hm | hm
    · exact ((h.rs g hm).alloc _).grown hg (fun e => row_blk h.row (h.rs g hm) (by decide) e.symm)
    · rw [List.mem_singleton] at hm
      subst hm
      exact (Blk.new wr _ [.int .i32 97]).grown hg (fun e => Nat.lt_irrefl _ (own_block_lt h.row _ e.symm))
  have e1 : (gs ++ [wr.heap.size]).length = gs.length + 1 := by simp
  have e2 : (gs ++ [wr.heap.size]).flatMap letC = gs.flatMap letC ++ letC wr.heap.size := by simp
  refine ⟨?_, ?_, fun g hm => (hr g hm).far (fun e => (hr g hm).ne_ hb9 (by decide) e) _, ?_⟩
  · rw [e1]
    exact hb9.set_ 6 _
  · rw [e1, e2]
    exact own_far ho _ _ (fun e => by have := own_block_ge ho _ e; simp only at this; omega)
  · have hl := h.low.alloc (Nat.le_of_lt h.b.lt) (.cells #[.int .i32 97] 21)
    exact (hl.grown hg (by have := h.b.lt; rw [show (wr.alloc (.cells #[.int .i32 97] 21)).heap.size = wr.heap.size + 1 from Array.size_push _]; omega) (fun k e => Nat.le_of_succ_le (own_block_ge h.row k e))).setCell (p := ⟨N, 6, none⟩) (Nat.le_refl _) _
theorem flat_map_id (l : List Nat) : (l.map letC).flatMap id = l.flatMap letC := by simp [List.flatMap_map]
theorem LB.rg (h : LB N w0 wr a c gs) : RgC wr wr.heap.size 2 (lets gs.length) [.int .i64 18, .slice none 0 0, .int .i64 0, .int .i64 0, .bool false, .bool false, .slice a gs.length c] := by
  refine ⟨none, 0, a, c, gs.map letC, by simp [rxc], Sl.nil, by simp, fun x hx => ?_, ?_, fun x hx => ?_⟩
  · obtain ⟨g, -, rfl⟩ := List.mem_map.1 hx
    rfl
  · rw [flat_map_id]
    exact sl_of_own h.row
  · obtain ⟨h1, h2⟩ := List.of_mem_zip (show (x.1, x.2) ∈ _ from hx)
    obtain ⟨g, hg, e⟩ := List.mem_map.1 h2
    rw [(List.mem_replicate.1 h1).2, ← e]
    refine ⟨some ⟨g, 0, none⟩, 1, none, 0, [], rfl, fun j v hv => ?_, rfl, by simp, Sl.nil, by simp⟩
    rcases j with _ | j
    · simp only [List.map_cons, List.map_nil, List.getElem?_cons_zero] at hv
      obtain rfl := Option.some.inj hv
      exact ⟨_, rfl, (h.rs g hg).lt, (h.rs g hg).cell 0⟩
    · simp at hv
end
theorem lets_wf (n : Nat) (h0 : 0 < n) (hn : n ≤ 1000) : wf 1000 2 (lets n) := by
  refine .inr (.inr (.inr (.inl ⟨.inl rfl, rfl, ?_, by simpa using hn, fun s hs => ?_⟩)))
  · intro e
    have := congrArg List.length e
    simp at this
    omega
  · rw [(List.mem_replicate.1 hs).2]
    exact .inr (.inl ⟨rfl, rfl, by simp, by simp, fun c hc => by simp at hc; subst hc; decide⟩)
theorem lets_len (n : Nat) : (comp 2 0 (lets n)).length = n := by
  have e : comp 2 0 (lets n) = catC (comp 1) 0 (List.replicate n letr) := by simp [lets, comp]
  rw [e]
  have : ∀ (n b : Nat), (catC (comp 1) b (List.replicate n letr)).length = n := by
    intro n
    induction n with
    | zero => intro b; rfl
    | succ n ih =>
      intro b
      rw [List.replicate_succ]
      simp only [catC, List.length_append, letr_comp, ih]
      simp
      omega
  exact this n 0
end Go.Proofs.YtbkpgfccghombaaDoor.rx

/-! FnRegexLimit: the law's walk. Conditions: the listed variables. -/
namespace Go.Proofs.YtbkpgfccghombaaDoor.rx
open Go.ChangeShapes Go.WideShapes Go.ChangeAt Go.RowKit
set_option linter.unusedVariables false
set_option linter.unusedSimpArgs false

set_option maxRecDepth 100000 in
set_option maxHeartbeats 1600000 in
theorem limit_walk (cs : List Value) (lim more : Nat) (W : World) {a0 a1 a2 a3 a4 : Addr} (hR : ∀ n, RawC W W.heap.size n cs) (hA : LaidAll W a0 a1 a2 a3 a4) (hlim : lim ≤ 65535) (hmore : more ≤ 65535) :
    Calls Tryd.prog 4 #[.agg cs.toArray, .int .u16 lim, .int .u16 more] W fun e w' => e = .returned (.bool true) ∧ Below W.heap.size W w' := by
  obtain ⟨i0, hi0, hz0, hz1, hz2⟩ := info_parts infoX
  have hR5 := Lib.hid (hR 5)
  obtain ⟨op, mn, mx, lz, fo, ra, rc, sa, sc, rs, ls, rfl, -, -⟩ := hR 1
  have HA := Lib.hid hA
  clear hR hA
  have HB := Lib.hid (Bx.new W (rwc op mn mx lz fo ra rs.length rc sa ls.length sc))
  have CF := Lib.hid (fun w => fits_any op mn mx lz fo ra rs.length rc sa ls.length sc w)
  have CWD := Lib.hid (fun w => wide_any op mn mx lz fo ra rs.length rc sa ls.length sc w)
  have CX := Lib.hid (fun w (hb : Below W.heap.size W w) => exp_ok 5 (by omega) (by omega) w _ (RawC.keep (fun p hp => hb.cell hp) hb.size 5 _ hR5.out))
  clear hR5
  generalize hbf : decide (rs.length ≤ 2147483647 ∧ ls.length ≤ 2147483647) = bf at *
  clear hbf
  unfold rwc at *
  cases bf with
  | false =>
    go_enter Tryd.func4, Tryd.ntmps4
    go_wp2_with (first | (go_at_call 8; refine (CF.out _).mono ?_; rintro e w2 ⟨rfl, h2⟩; have HB2 := Lib.hid (HB.out.go h2); clear h2) | fail)
    all_goals
      go_ret
      exact ⟨rfl, HB2.out.l⟩
  | true =>
  go_enter Tryd.func4, Tryd.ntmps4
  go_upto_region 3 with (first | (go_at_call 8; refine (CF.out _).mono ?_; rintro e w2 ⟨rfl, h2⟩; have HB2 := Lib.hid (HB.out.go h2); clear h2) | fail)
  have e0 := HB2.out.b.cell 0
  have e1 := HB2.out.b.cell 1
  have e2 := HB2.out.b.cell 2
  have e3 := HB2.out.b.cell 3
  have e4 := HB2.out.b.cell 4
  have e5 := HB2.out.b.cell 5
  have e6 := HB2.out.b.cell 6
  simp only [List.getElem?_cons_zero, List.getElem?_cons_succ] at e0 e1 e2 e3 e4 e5 e6
  go_upto_region 5 with (first | (go_at_call 9; refine (CWD.out _).mono ?_; rintro e w3 ⟨b, rfl, h3⟩; have HB3 := Lib.hid (HB2.out.go h3); clear h3 e0 e1 e2 e3 e4 e5 e6; cases b) | fail)
  · go_wp2
    go_ret
    exact ⟨rfl, HB3.out.l⟩
  have e0 := HB3.out.b.cell 0
  have e1 := HB3.out.b.cell 1
  have e2 := HB3.out.b.cell 2
  have e3 := HB3.out.b.cell 3
  have e4 := HB3.out.b.cell 4
  have e5 := HB3.out.b.cell 5
  have e6 := HB3.out.b.cell 6
  simp only [List.getElem?_cons_zero, List.getElem?_cons_succ] at e0 e1 e2 e3 e4 e5 e6
  go_upto_region 6 with (first | (go_at_call 10; refine (CX.out w3 HB3.out.l).mono ?_; rintro e w4 ⟨r, cs4, rfl, hwf, hrg, hb4⟩; have HWF := Lib.hid hwf; have HRG := Lib.hid (RgO.toC 5 r cs4 hrg); have HB4 := Lib.hid (HB3.out.l.trans (hb4.mono HB3.out.l.size)); obtain ⟨o4, m4, x4, ra4, rn4, rc4, sa4, sn4, sc4, rfl⟩ := hrg.form; unfold rxc at *; clear hwf hrg hb4 e0 e1 e2 e3 e4 e5 e6 CX CF CWD) | fail)
  refine name_world ?_
  intro w6 hw6
  have K6 := Lib.hid (show Blk w6 w4.heap.size 25 [.int .i64 o4, .slice ra4 rn4 rc4, .int .i64 m4, .int .i64 x4, .bool false, .bool false, .slice sa4 sn4 sc4] from by rw [hw6]; exact Blk.new w4 _ [.int .i64 o4, .slice ra4 rn4 rc4, .int .i64 m4, .int .i64 x4, .bool false, .bool false, .slice sa4 sn4 sc4])
  have L6 := Lib.hid (show Below w4.heap.size w4 w6 from by rw [hw6]; exact (Below.refl _ _).alloc (Nat.le_refl _) _)
  clear hw6
  have HW6 := Lib.hid (HB4.out.trans (L6.out.mono HB4.out.size))
  have RG6 := Lib.hid ((HRG.out.below L6.out).more L6.out.size)
  have CM := Lib.hid (modest_any w6 r _ RG6.out HWF.out)
  have KK := Lib.hid (fun (w : World) (hb : Below w6.heap.size w6 w) => show Blk w w4.heap.size 25 [.int .i64 o4, .slice ra4 rn4 rc4, .int .i64 m4, .int .i64 x4, .bool false, .bool false, .slice sa4 sn4 sc4] from K6.out.below hb K6.out.lt)
  clear HB3 HB2 HB HRG L6
  generalize hmd : decide (plc 5 r ≤ 160) = md at *
  clear hmd
  have e0 := K6.out.cell 0
  have e1 := K6.out.cell 1
  have e2 := K6.out.cell 2
  have e3 := K6.out.cell 3
  have e4 := K6.out.cell 4
  have e5 := K6.out.cell 5
  have e6 := K6.out.cell 6
  simp only [List.getElem?_cons_zero, List.getElem?_cons_succ] at e0 e1 e2 e3 e4 e5 e6
  go_upto_region 8 with (first | (go_at_call 12; refine CM.out.mono ?_; rintro e w7 ⟨rfl, h7⟩; have H7 := Lib.hid h7; clear h7 e0 e1 e2 e3 e4 e5 e6 CM; cases md) | fail)
  · go_wp2
    go_ret
    exact ⟨rfl, HW6.out.trans (H7.out.mono HW6.out.size)⟩
  obtain ⟨n, hn⟩ : ∃ n, n = 1 + more % 40 := ⟨_, rfl⟩
  have hn1 : 1 ≤ n ∧ n ≤ 40 := by omega
  have hni : (1 : Int) + (more : Int) % 40 = n := by omega
  have hni2 : (1 : Int) + Int.tmod (more : Int) 40 = n := by rw [Int.tmod_eq_emod_of_nonneg (by omega)]; omega
  clear hn
  go_upto_region 10 with fail
  refine name_world ?_
  intro w8 hw8
  have LB8 := Lib.hid (show LB w7.heap.size w7 w8 none 0 [] from by rw [hw8]; exact LB.new rfl (Below.refl _ _))
  clear hw8
  go_wp2_with fail
  go_loopw [10] (fun v10 wr => ∃ (i : Nat) (a : Option Addr) (c : Nat) (gs : List Nat), v10 = .int .i64 i ∧ i ≤ n ∧ gs.length = i ∧ Hid (LB w7.heap.size w7 wr a c gs)) (fun v10 _ => n - (intOf v10).toNat)
  case atStart => exact ⟨0, none, 0, [], rfl, by omega, rfl, LB8⟩
  case round =>
    obtain ⟨i, a, c, gs, rfl, hi, hgs, H1⟩ := hrel
    by_cases hlt : i < n
    · subst hgs
      have e6 := H1.out.b.cell 6
      simp only [List.getElem?_cons_zero, List.getElem?_cons_succ] at e6
      have f6 := H1.out.b.frozen 6
      have hc6 := fun (w9 : World) (hg : (wr.alloc (.cells #[.int .i32 97] 21)).grownBy w9 (Value.slice a gs.length c).ownBlock) => ((H1.out.b.alloc (.cells #[.int .i32 97] 21)).grown hg (fun e => by have := own_block_ge H1.out.row _ e.symm; omega))
      have HC := Lib.hid hc6
      clear hc6
      have SZ := Lib.hid (show ∀ (W : World) (o : Obj), (W.alloc o).heap.size = W.heap.size + 1 from fun W o => Array.size_push _)
      have OWN := Lib.hid (H1.out.row.alloc (.cells #[.int .i32 97] 21))
      have hN9 : w7.heap.size + 1 ≤ (wr.alloc (.cells #[.int .i32 97] 21)).heap.size := by rw [SZ.out]; have := H1.out.b.lt; omega
      go_wp2_with (first | (at_builtin; refine append1_at (wr.alloc (.cells #[.int .i32 97] 21)) #[.int .i64 3, .slice (some ⟨wr.heap.size, 0, none⟩) 1 1, .int .i64 0, .int .i64 0, .bool false, .bool false, .slice none 0 0] rfl (.tmp 36) (.tmp 39) 23 rfl (w7.heap.size + 1) 25 i0 _ 7 80 Tryd.underlying23 hi0 hz0 hz1 hz2 rfl (by omega) rfl (.slice a gs.length c) gs.length (gs.flatMap letC) rfl OWN.out (wr.heap.size + 1) (SZ.out _ _) rfl (by simp [Value.oneCell']) (by unfold maxLen; omega) (by omega) hN9 ?_; intro v9 w9 ho9 hg9 _ hat9; obtain ⟨a9, c9, rfl⟩ := own_value ho9; have B9 := Lib.hid (HC.out w9 hg9); have P9 := Lib.hid (H1.out.put (a9 := a9) (c9 := c9) ho9 hg9); have d6 := B9.out.cell 6; have g6 := B9.out.frozen 6; clear ho9 hg9 hat9 e6 f6) | fail)
      go_roundw
      case rel => exact ⟨gs.length + 1, a9, c9, gs ++ [wr.heap.size], by go_num, by omega, by simp, Lib.hid P9.out⟩
      case measure => simp [intOf]; omega
    · rename World => wq
      obtain rfl : i = n := by omega
      subst hgs
      have LBn := Lib.hid (show Below w6.heap.size w6 wq from H7.out.trans (H1.out.low.mono H7.out.size))
      clear hlt hi
      go_wp2_with fail
      go_loopw [11] (fun v11 wr => ∃ d : Int, v11 = .int .i64 d ∧ -1 ≤ d ∧ d ≤ 2 ∧ Hid (Below wq.heap.size wq wr)) (fun v11 _ => (2 - intOf v11).toNat)
      case atStart => exact ⟨-1, rfl, by omega, by omega, Lib.hid (Below.refl _ _)⟩
      case round =>
        obtain ⟨d, rfl, hd1, hd2, H2⟩ := hrel
        have HW2 := Lib.hid (show Below w6.heap.size w6 wr from LBn.out.trans (H2.out.mono LBn.out.size))
        by_cases hlt2 : d ≤ 1
        · obtain ⟨L, hL⟩ : ∃ L : Nat, (L : Int) = 40 * (gs.length : Int) + d := ⟨(40 * (gs.length : Int) + d).toNat, by omega⟩
          have LB2 := Lib.hid (H1.out.go H2.out)
          have CL0 := rlim_any (m := 1000) (by omega) L (lets gs.length) _ wr LB2.out.rg (lets_wf gs.length hn1.1 (by omega)) (by rw [lets_len]; omega) (by omega) (HA.out.below (HW6.out.trans (HW2.out.mono HW6.out.size)))
          rw [hL] at CL0
          have CL := Lib.hid CL0
          have HK := Lib.hid (show ∀ k, Kind L 2 (lets gs.length) k → (k = 4 ↔ d < 0) from fun k hk => by
            have h := lets_fits L 0 gs.length hn1.1
            rcases hk with ⟨g1, -, rfl⟩ | ⟨g1, -, rfl⟩ | ⟨g1, rfl⟩
            · have := h.1 g1; omega
            · have := h.1 g1; omega
            · have : ¬ gs.length * 40 ≤ L := fun e => g1 (h.2 e)
              omega)
          have e0 := LB2.out.b.cell 0
          have e1 := LB2.out.b.cell 1
          have e2 := LB2.out.b.cell 2
          have e3 := LB2.out.b.cell 3
          have e4 := LB2.out.b.cell 4
          have e5 := LB2.out.b.cell 5
          have e6 := LB2.out.b.cell 6
          simp only [List.getElem?_cons_zero, List.getElem?_cons_succ] at e0 e1 e2 e3 e4 e5 e6
          have hwr : (40 * (gs.length : Int) + d) % 18446744073709551616 = 40 * (gs.length : Int) + d := by omega
          clear CL0
          by_cases hd0 : d < 0
          · have hd0' : decide (d < 0) = true := decide_eq_true hd0
            go_wp2_with (first | (go_at_call 19; refine CL.out.mono ?_; rintro e w10 ⟨h10, k, rfl, hk⟩; have H10 := Lib.hid h10; have hk4 : (k == 4) = true := beq_iff_eq.2 ((HK.out k hk).2 hd0); have hk5 : k = 4 := ((HK.out k hk).2 hd0); clear h10 hk) | fail)
            go_roundw
            case rel => exact ⟨d + 1, rfl, by omega, by omega, Lib.hid (H2.out.trans (H10.out.mono H2.out.size))⟩
            case measure => simp [intOf]; omega
          · have hd0' : decide (d < 0) = false := decide_eq_false hd0
            go_wp2_with (first | (go_at_call 19; refine CL.out.mono ?_; rintro e w10 ⟨h10, k, rfl, hk⟩; have H10 := Lib.hid h10; have hk4 : (k == 4) = false := beq_eq_false_iff_ne.2 (fun e => hd0 ((HK.out k hk).1 e)); have hk5 : ¬ k = 4 := (fun e => hd0 ((HK.out k hk).1 e)); clear h10 hk) | fail)
            go_roundw
            case rel => exact ⟨d + 1, rfl, by omega, by omega, Lib.hid (H2.out.trans (H10.out.mono H2.out.size))⟩
            case measure => simp [intOf]; omega
        · have hd : d = 2 := by omega
          subst hd
          have RGr := Lib.hid ((RG6.out.below HW2.out).more HW2.out.size)
          have C1 := Lib.hid (rlim_any (m := 3) (by omega) lim r _ wr RGr.out HWF.out (Nat.le_trans (comp_le r 0 HWF.out) (by omega)) (by omega) (HA.out.below (HW6.out.trans (HW2.out.mono HW6.out.size))))
          have hw1 : (lim : Int) % 18446744073709551616 = lim := by omega
          have hw2 : (more : Int) % 18446744073709551616 = more := by omega
          have hw3 : ((lim : Int) + (more : Int)) % 18446744073709551616 = (lim : Int) + (more : Int) := by omega
          have e0 := (KK.out wr HW2.out).cell 0
          have e1 := (KK.out wr HW2.out).cell 1
          have e2 := (KK.out wr HW2.out).cell 2
          have e3 := (KK.out wr HW2.out).cell 3
          have e4 := (KK.out wr HW2.out).cell 4
          have e5 := (KK.out wr HW2.out).cell 5
          have e6 := (KK.out wr HW2.out).cell 6
          simp only [List.getElem?_cons_zero, List.getElem?_cons_succ] at e0 e1 e2 e3 e4 e5 e6
          go_upto_region 20 with (first | (go_at_call 19; refine C1.out.mono ?_; rintro e w10 ⟨h10, k1, rfl, hk1⟩; have H10 := Lib.hid (HW2.out.trans (h10.mono HW2.out.size)); have HK1 := Lib.hid hk1; clear h10 hk1 C1 e0 e1 e2 e3 e4 e5 e6) | fail)
          have RG10 := Lib.hid ((RG6.out.below H10.out).more H10.out.size)
          have C20 := rlim_any (m := 3) (by omega) (lim + more) r _ w10 RG10.out HWF.out (Nat.le_trans (comp_le r 0 HWF.out) (by omega)) (by omega) (HA.out.below (HW6.out.trans (H10.out.mono HW6.out.size)))
          rw [Int.natCast_add] at C20
          have C2 := Lib.hid C20
          clear C20
          have e0 := (KK.out w10 H10.out).cell 0
          have e1 := (KK.out w10 H10.out).cell 1
          have e2 := (KK.out w10 H10.out).cell 2
          have e3 := (KK.out w10 H10.out).cell 3
          have e4 := (KK.out w10 H10.out).cell 4
          have e5 := (KK.out w10 H10.out).cell 5
          have e6 := (KK.out w10 H10.out).cell 6
          simp only [List.getElem?_cons_zero, List.getElem?_cons_succ] at e0 e1 e2 e3 e4 e5 e6
          go_upto_region 21 with (first | (go_at_call 19; refine C2.out.mono ?_; rintro e w11 ⟨h11, k2, rfl, hk2⟩; have H11 := Lib.hid (H10.out.trans (h11.mono H10.out.size)); have HK2 := Lib.hid hk2; clear h11 hk2 C2 e0 e1 e2 e3 e4 e5 e6) | fail)
          have RG11 := Lib.hid ((RG6.out.below H11.out).more H11.out.size)
          have HW11 := Lib.hid (HW6.out.trans (H11.out.mono HW6.out.size))
          have CR := Lib.hid (fun (k : Int) (hk : k = 4 ∨ k = 5) => refused_any w11 r _ k RG11.out HWF.out hk)
          have HSF := Lib.hid (show Many (prg 5 r) → decide (plc 5 r ≤ 5) = false from fun hm => decide_eq_false (fun e => few_small r HWF.out e hm))
          have e0 := (KK.out w11 H11.out).cell 0
          have e1 := (KK.out w11 H11.out).cell 1
          have e2 := (KK.out w11 H11.out).cell 2
          have e3 := (KK.out w11 H11.out).cell 3
          have e4 := (KK.out w11 H11.out).cell 4
          have e5 := (KK.out w11 H11.out).cell 5
          have e6 := (KK.out w11 H11.out).cell 6
          simp only [List.getElem?_cons_zero, List.getElem?_cons_succ] at e0 e1 e2 e3 e4 e5 e6
          rcases HK1.out with ⟨f1, m1, rfl⟩ | ⟨f1, m1, rfl⟩ | ⟨f1, rfl⟩
          · rcases HK2.out with ⟨f2, m2, rfl⟩ | ⟨f2, m2, rfl⟩ | ⟨f2, rfl⟩
            · clear HK1 HK2 f1 f2 m1 m2
              go_wp2
              go_ret
              exact ⟨rfl, HW11.out⟩
            · exact absurd m2 m1
            · exact absurd (fits_mono (by omega) 5 r 0 f1) f2
          · rcases HK2.out with ⟨f2, m2, rfl⟩ | ⟨f2, m2, rfl⟩ | ⟨f2, rfl⟩
            · exact absurd m1 m2
            · have hs := HSF.out m1
              rw [hs] at CR
              clear HK1 HK2 f1 f2 m1 m2 hs HSF
              go_wp2_with (first | (go_at_call 14; refine (CR.out 5 (.inr rfl)).mono ?_; rintro e w12 ⟨rfl, h12⟩; have H12 := Lib.hid h12; clear h12) | fail)
              go_ret
              exact ⟨rfl, HW11.out.trans (H12.out.mono HW11.out.size)⟩
            · exact absurd (fits_mono (by omega) 5 r 0 f1) f2
          · rcases HK2.out with ⟨f2, m2, rfl⟩ | ⟨f2, m2, rfl⟩ | ⟨f2, rfl⟩
            · clear HK1 HK2 f1 f2 m2
              go_wp2
              go_ret
              exact ⟨rfl, HW11.out⟩
            · have hs := HSF.out m2
              rw [hs] at CR
              clear HK1 HK2 f1 f2 m2 hs HSF
              go_wp2_with (first | (go_at_call 14; refine (CR.out 5 (.inr rfl)).mono ?_; rintro e w12 ⟨rfl, h12⟩; have H12 := Lib.hid h12; clear h12) | fail)
              go_ret
              exact ⟨rfl, HW11.out.trans (H12.out.mono HW11.out.size)⟩
            · clear HK1 HK2 f1 f2
              go_wp2
              go_ret
              exact ⟨rfl, HW11.out⟩
end Go.Proofs.YtbkpgfccghombaaDoor.rx
