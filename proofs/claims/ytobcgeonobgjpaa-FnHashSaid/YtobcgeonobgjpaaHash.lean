/-
  FnHash: the row of a state in a registry: the walk. Conditions: none.
-/
import Derived.Test.YtobcgeonobgjpaaHashB
namespace Go.Proofs.Ytobcgeonobgjpaa.fnHash
open Go.ChangeShapes Go.WideShapes Go.ChangeAt Go.RowKit
set_option linter.unusedVariables false

/-! the law -/
theorem sml {x : Int} {rows : Nat} (h1 : 1 ≤ rows) : 0 ≤ x % rows ∧ x % rows < rows := ⟨Int.emod_nonneg _ (by omega), Int.emod_lt_of_pos _ (by omega)⟩

/-- how the law's two states lie in its own blocks -/
def Lie (w0 W : World) (N : Nat) (f f2 : Bool) (o o2 : Int) (a b : Option Addr) (n m c d : Nat) : Prop :=
  Below (N + 2) w0 W ∧ W.cell? ⟨N, 0, none⟩ = some (.bool f) ∧ W.cell? ⟨N, 1, none⟩ = some (.int .u64 o) ∧ W.cell? ⟨N, 2, none⟩ = some (.slice a n c) ∧
    W.cell? ⟨N + 1, 0, none⟩ = some (.bool f2) ∧ W.cell? ⟨N + 1, 1, none⟩ = some (.int .u64 o2) ∧ W.cell? ⟨N + 1, 2, none⟩ = some (.slice b m d)
theorem Lie.go {w0 W W' : World} {N : Nat} {f f2 : Bool} {o o2 : Int} {a b : Option Addr} {n m c d : Nat} (h : Lie w0 W N f f2 o o2 a b n m c d) (h0 : N + 2 ≤ w0.heap.size) (hb : Below W.heap.size W W') : Lie w0 W' N f f2 o o2 a b n m c d := by
  obtain ⟨hB, h1, h2, h3, h4, h5, h6⟩ := h
  have hs : N + 2 ≤ W.heap.size := Nat.le_trans h0 hB.size
  exact ⟨hB.trans (hb.mono hs), (hb.cell (show N < _ by omega)).trans h1, (hb.cell (show N < _ by omega)).trans h2, (hb.cell (show N < _ by omega)).trans h3,
    (hb.cell (show N + 1 < _ by omega)).trans h4, (hb.cell (show N + 1 < _ by omega)).trans h5, (hb.cell (show N + 1 < _ by omega)).trans h6⟩

theorem Lie.drew {w0 W : World} {N : Nat} {f f2 : Bool} {o o2 : Int} {a b : Option Addr} {n m c d : Nat} (h : Lie w0 W N f f2 o o2 a b n m c d) : Lie w0 W.drew N f f2 o o2 a b n m c d := ⟨h.1.drew, h.2⟩
theorem Lie.drewN {w0 W : World} {N : Nat} {f f2 : Bool} {o o2 : Int} {a b : Option Addr} {n m c d : Nat} (h : Lie w0 W N f f2 o o2 a b n m c d) (q : Nat) : Lie w0 (W.drewN q) N f f2 o o2 a b n m c d := ⟨below_drewN h.1 q, h.2⟩

/-- a contract whose call leaves what was there, said of the law's states -/
theorem keeps {P : Program} {F : FuncId} {args : Array Value} {v : Value} {w0 : World} {N : Nat} {f f2 : Bool} {o o2 : Int} {a b : Option Addr} {n m c d : Nat} (h0 : N + 2 ≤ w0.heap.size)
    (h : ∀ W, Below (N + 2) w0 W → Calls P F args W fun e w' => e = .returned v ∧ Below W.heap.size W w') (W : World) (hl : Lie w0 W N f f2 o o2 a b n m c d) :
    Calls P F args W fun e w' => e = .returned v ∧ Lie w0 w' N f f2 o o2 a b n m c d :=
  (h W hl.1).mono fun e w' hh => ⟨hh.1, hl.go h0 hh.2⟩

set_option maxHeartbeats 1600000 in
theorem walk (f f2 : Bool) (o o2 : Int) (a b : Option Addr) (c d : Nat) (l m : List Arc) (rows : Int) (w : World) (hs : Sl w w.heap.size a (l.flatMap ac)) (hm : Sl w w.heap.size b (m.flatMap ac))
    (hr : -9223372036854775808 ≤ rows ∧ rows ≤ 9223372036854775807) (hl : l.length ≤ maxLen) (hl2 : m.length ≤ maxLen) (hg : ∀ x ∈ l, goodArc x) (hg2 : ∀ x ∈ m, goodArc x) :
    Calls Try.prog 3 #[.agg #[.bool f, .int .u64 o, .slice a l.length c], .agg #[.bool f2, .int .u64 o2, .slice b m.length d], .int .i64 rows] w fun e w' => e = .returned (.bool true) ∧ Below w.heap.size w w' := by
  obtain ⟨w0, hw0⟩ : ∃ w0, w0 = ((w.alloc (.cells #[.bool f, .int .u64 o, .slice a l.length c] 25)).alloc (.cells #[.bool f2, .int .u64 o2, .slice b m.length d] 25)) := ⟨_, rfl⟩
  have BB : Below w.heap.size w w0 := by subst hw0; exact ((Below.refl _ _).alloc (Nat.le_refl _) _).alloc (by simp) _
  have hN : w.heap.size + 2 ≤ w0.heap.size := by subst hw0; simp
  have L0 : Lie w0 w0 w.heap.size f f2 o o2 a b l.length m.length c d := by
    have q0 : Blk w0 w.heap.size 25 [.bool f, .int .u64 o, .slice a l.length c] := by subst hw0; exact (Blk.new w _ _).alloc _
    have q1 : Blk w0 (w.heap.size + 1) 25 [.bool f2, .int .u64 o2, .slice b m.length d] := by subst hw0; exact blk_new_at _ _ _ _ (by simp)
    exact ⟨Below.refl _ _, q0.cell 0, q0.cell 1, q0.cell 2, q1.cell 0, q1.cell 1, q1.cell 2⟩
  have out : ∀ {W : World}, Lie w0 W w.heap.size f f2 o o2 a b l.length m.length c d → Below w.heap.size w W := fun h => BB.trans (h.1.mono (by omega))
  have kp : ∀ {F : FuncId} {args : Array Value} {v : Value}, (∀ W, Below (w.heap.size + 2) w0 W → Calls Try.prog F args W fun e w' => e = .returned v ∧ Below W.heap.size W w') →
      ∀ W, Lie w0 W w.heap.size f f2 o o2 a b l.length m.length c d → Calls Try.prog F args W fun e w' => e = .returned v ∧ Lie w0 w' w.heap.size f f2 o o2 a b l.length m.length c d := fun h W hl => keeps hN h W hl
  have C1 := Lib.hid (kp (fun W _ => fits_any a l.length c f o W hl))
  have C2 := Lib.hid (kp (fun W _ => fits_any b m.length d f2 o2 W hl2))
  have se : ∀ {W : World} {x : Option Addr} {xs : List Value}, Sl w w.heap.size x xs → Below (w.heap.size + 2) w0 W → Sl W W.heap.size x xs := fun h hb => (h.below (BB.trans (hb.mono (by omega)))).more (BB.trans (hb.mono (by omega))).size
  obtain ⟨-, k0, k1, k2, k3, k4, k5⟩ := id L0
  by_cases h1 : l.length ≤ 2147483647
  · rw [decide_eq_true h1] at C1
    by_cases h2 : m.length ≤ 2147483647
    · rw [decide_eq_true h2] at C2
      have S1 := Lib.hid (kp (fun W hb => rising_any f o a c l W (se hs hb) h1 hg))
      have S2 := Lib.hid (kp (fun W hb => rising_any f2 o2 b d m W (se hm hb) h2 hg2))
      have H1 := Lib.hid (fun (n : Nat) (q1 : 1 ≤ n) (q2 : n ≤ 1000) => kp (fun W hb => ihash_any f o a c l n W (se hs hb) q1 q2 h1 hg))
      have H2 := Lib.hid (fun (n : Nat) (q1 : 1 ≤ n) (q2 : n ≤ 1000) => kp (fun W hb => ihash_any f2 o2 b d m n W (se hm hb) q1 q2 h2 hg2))
      have CS := Lib.hid (kp (fun W hb => same_any f f2 o o2 a b c d l m W (se hs hb) (se hm hb) h1 h2))
      have H7 := Lib.hid (kp (fun W hb => ihash_any true 7 none 0 [] 97 W Sl.nil (by omega) (by omega) (by simp) (by simp)))
      have H8 := Lib.hid (kp (fun W hb => ihash_any true 8 none 0 [] 97 W Sl.nil (by omega) (by omega) (by simp) (by simp)))
      have H9 := Lib.hid (kp (fun W hb => ihash_any true 9 none 0 [] 97 W Sl.nil (by omega) (by omega) (by simp) (by simp)))
      rw [show hall true 7 [] % ((97 : Nat) : Int) = 42 by decide +kernel] at H7
      rw [show hall true 8 [] % ((97 : Nat) : Int) = 43 by decide +kernel] at H8
      rw [show hall true 9 [] % ((97 : Nat) : Int) = 29 by decide +kernel] at H9
      have KO : Hid (∀ W, Lie w0 W w.heap.size f f2 o o2 a b l.length m.length c d → Below w.heap.size w W) := Lib.hid (fun W h => out h)
      clear hs hm hg hg2 kp se BB hN out
      subst hw0
      by_cases r1 : rows < 1
      · go_enter Try.func3, Try.ntmps3
        go_wp2_with (first | (go_at_call 6; refine (C2.out _ l1).mono ?_; rintro e w2 ⟨rfl, l2⟩; obtain ⟨-, k0, k1, k2, k3, k4, k5⟩ := id l2) | (go_at_call 6; refine (C1.out _ L0).mono ?_; rintro e w1 ⟨rfl, l1⟩; obtain ⟨-, k0, k1, k2, k3, k4, k5⟩ := id l1))
        go_returns
        exact ⟨rfl, KO.out _ (by assumption)⟩
      · by_cases r2 : 1000 < rows
        · go_enter Try.func3, Try.ntmps3
          go_wp2_with (first | (go_at_call 6; refine (C2.out _ l1).mono ?_; rintro e w2 ⟨rfl, l2⟩; obtain ⟨-, k0, k1, k2, k3, k4, k5⟩ := id l2) | (go_at_call 6; refine (C1.out _ L0).mono ?_; rintro e w1 ⟨rfl, l1⟩; obtain ⟨-, k0, k1, k2, k3, k4, k5⟩ := id l1))
          go_returns
          exact ⟨rfl, KO.out _ (by assumption)⟩
        · obtain ⟨n, rfl⟩ : ∃ n : Nat, rows = n := ⟨rows.toNat, by omega⟩
          have hn1 : 1 ≤ n := by omega
          have hn2 : n ≤ 1000 := by omega
          have A1 := Lib.hid (H1.out n hn1 hn2)
          have A2 := Lib.hid (H2.out n hn1 hn2)
          clear H1 H2
          cases e1 : ris l with
          | false =>
            rw [e1] at S1
            clear e1
            go_enter Try.func3, Try.ntmps3
            go_wp2_with (first | (go_at_call 6; refine (C2.out _ l1).mono ?_; rintro e w2 ⟨rfl, l2⟩; obtain ⟨-, k0, k1, k2, k3, k4, k5⟩ := id l2) | (go_at_call 6; refine (C1.out _ L0).mono ?_; rintro e w1 ⟨rfl, l1⟩; obtain ⟨-, k0, k1, k2, k3, k4, k5⟩ := id l1) | (go_at_call 7; refine (S2.out _ l3).mono ?_; rintro e w4 ⟨rfl, l4⟩; obtain ⟨-, k0, k1, k2, k3, k4, k5⟩ := id l4) | (go_at_call 7; refine (S1.out _ l2).mono ?_; rintro e w3 ⟨rfl, l3⟩; obtain ⟨-, k0, k1, k2, k3, k4, k5⟩ := id l3))
            go_returns
            exact ⟨rfl, KO.out _ (by assumption)⟩
          | true =>
            rw [e1] at S1
            clear e1
            cases e2 : ris m with
            | false =>
              rw [e2] at S2
              clear e2
              go_enter Try.func3, Try.ntmps3
              go_wp2_with (first | (go_at_call 6; refine (C2.out _ l1).mono ?_; rintro e w2 ⟨rfl, l2⟩; obtain ⟨-, k0, k1, k2, k3, k4, k5⟩ := id l2) | (go_at_call 6; refine (C1.out _ L0).mono ?_; rintro e w1 ⟨rfl, l1⟩; obtain ⟨-, k0, k1, k2, k3, k4, k5⟩ := id l1) | (go_at_call 7; refine (S2.out _ l3).mono ?_; rintro e w4 ⟨rfl, l4⟩; obtain ⟨-, k0, k1, k2, k3, k4, k5⟩ := id l4) | (go_at_call 7; refine (S1.out _ l2).mono ?_; rintro e w3 ⟨rfl, l3⟩; obtain ⟨-, k0, k1, k2, k3, k4, k5⟩ := id l3))
              go_returns
              exact ⟨rfl, KO.out _ (by assumption)⟩
            | true =>
              rw [e2] at S2
              clear e2
              have Q : sameS f f2 o o2 l m = false ∨ hall f o l % (n : Int) = hall f2 o2 m % (n : Int) := by
                cases hq : sameS f f2 o o2 l m with
                | false => exact Or.inl rfl
                | true =>
                  obtain ⟨rfl, rfl, rfl⟩ := of_decide_eq_true hq
                  exact Or.inr rfl
              obtain ⟨x0, x1⟩ := sml (x := hall f o l) hn1
              obtain ⟨y0, y1⟩ := sml (x := hall f2 o2 m) hn1
              generalize hall f o l % (n : Int) = x at *
              generalize hall f2 o2 m % (n : Int) = y at *
              by_cases hxy : x = y
              · subst hxy
                clear Q
                go_enter Try.func3, Try.ntmps3
                go_wp2_with (first | (go_at_call 6; refine (C2.out _ l1).mono ?_; rintro e w2 ⟨rfl, l2⟩; obtain ⟨-, k0, k1, k2, k3, k4, k5⟩ := id l2) | (go_at_call 6; refine (C1.out _ L0).mono ?_; rintro e w1 ⟨rfl, l1⟩; obtain ⟨-, k0, k1, k2, k3, k4, k5⟩ := id l1) | (go_at_call 7; refine (S2.out _ l3).mono ?_; rintro e w4 ⟨rfl, l4⟩; obtain ⟨-, k0, k1, k2, k3, k4, k5⟩ := id l4) | (go_at_call 7; refine (S1.out _ l2).mono ?_; rintro e w3 ⟨rfl, l3⟩; obtain ⟨-, k0, k1, k2, k3, k4, k5⟩ := id l3))
                go_region_held3 (fun W => W.cell? ⟨w.heap.size, 0, none⟩ = some (.bool f) ∧ W.cell? ⟨w.heap.size, 1, none⟩ = some (.int .u64 o) ∧ W.cell? ⟨w.heap.size, 2, none⟩ = some (.slice a l.length c) ∧ W.cell? ⟨w.heap.size + 1, 0, none⟩ = some (.bool f2) ∧ W.cell? ⟨w.heap.size + 1, 1, none⟩ = some (.int .u64 o2) ∧ W.cell? ⟨w.heap.size + 1, 2, none⟩ = some (.slice b m.length d)) (go_keep)
                  (first | (go_at_call 8; refine (A2.out _ l5).mono ?_; rintro e w6 ⟨rfl, l6⟩; obtain ⟨-, k0, k1, k2, k3, k4, k5⟩ := id l6) | (go_at_call 8; refine (A1.out _ l4.drew).mono ?_; rintro e w5 ⟨rfl, l5⟩; obtain ⟨-, k0, k1, k2, k3, k4, k5⟩ := id l5))
                go_wp2_with (first | (go_at_call 8; refine (H9.out _ l8).mono ?_; rintro e w9 ⟨rfl, l9⟩; obtain ⟨-, k0, k1, k2, k3, k4, k5⟩ := id l9) | (go_at_call 8; refine (H8.out _ l7).mono ?_; rintro e w8 ⟨rfl, l8⟩; obtain ⟨-, k0, k1, k2, k3, k4, k5⟩ := id l8) | (go_at_call 8; refine (H7.out _ (by assumption)).mono ?_; rintro e w7 ⟨rfl, l7⟩; obtain ⟨-, k0, k1, k2, k3, k4, k5⟩ := id l7))
                go_returns
                exact ⟨rfl, KO.out _ (by assumption)⟩
              · have hs0 : sameS f f2 o o2 l m = false := Q.resolve_right hxy
                rw [hs0] at CS
                clear Q hs0
                have hxy1 : (x == y) = false := by rw [beq_eq_false_iff_ne]; exact hxy
                go_enter Try.func3, Try.ntmps3
                go_wp2_with (first | (go_at_call 6; refine (C2.out _ l1).mono ?_; rintro e w2 ⟨rfl, l2⟩; obtain ⟨-, k0, k1, k2, k3, k4, k5⟩ := id l2) | (go_at_call 6; refine (C1.out _ L0).mono ?_; rintro e w1 ⟨rfl, l1⟩; obtain ⟨-, k0, k1, k2, k3, k4, k5⟩ := id l1) | (go_at_call 7; refine (S2.out _ l3).mono ?_; rintro e w4 ⟨rfl, l4⟩; obtain ⟨-, k0, k1, k2, k3, k4, k5⟩ := id l4) | (go_at_call 7; refine (S1.out _ l2).mono ?_; rintro e w3 ⟨rfl, l3⟩; obtain ⟨-, k0, k1, k2, k3, k4, k5⟩ := id l3))
                go_region_held3 (fun W => W.cell? ⟨w.heap.size, 0, none⟩ = some (.bool f) ∧ W.cell? ⟨w.heap.size, 1, none⟩ = some (.int .u64 o) ∧ W.cell? ⟨w.heap.size, 2, none⟩ = some (.slice a l.length c) ∧ W.cell? ⟨w.heap.size + 1, 0, none⟩ = some (.bool f2) ∧ W.cell? ⟨w.heap.size + 1, 1, none⟩ = some (.int .u64 o2) ∧ W.cell? ⟨w.heap.size + 1, 2, none⟩ = some (.slice b m.length d)) (go_keep)
                  (first | (go_at_call 8; refine (A2.out _ l5).mono ?_; rintro e w6 ⟨rfl, l6⟩; obtain ⟨-, k0, k1, k2, k3, k4, k5⟩ := id l6) | (go_at_call 8; refine (A1.out _ l4.drew).mono ?_; rintro e w5 ⟨rfl, l5⟩; obtain ⟨-, k0, k1, k2, k3, k4, k5⟩ := id l5))
                go_wp2_with (first | (go_at_call 9; refine (CS.out _ (by assumption)).mono ?_; rintro e w10 ⟨rfl, l10⟩; obtain ⟨-, k0, k1, k2, k3, k4, k5⟩ := id l10) | (go_at_call 8; refine (H9.out _ l8).mono ?_; rintro e w9 ⟨rfl, l9⟩; obtain ⟨-, k0, k1, k2, k3, k4, k5⟩ := id l9) | (go_at_call 8; refine (H8.out _ l7).mono ?_; rintro e w8 ⟨rfl, l8⟩; obtain ⟨-, k0, k1, k2, k3, k4, k5⟩ := id l8) | (go_at_call 8; refine (H7.out _ (by assumption)).mono ?_; rintro e w7 ⟨rfl, l7⟩; obtain ⟨-, k0, k1, k2, k3, k4, k5⟩ := id l7))
                go_returns
                exact ⟨rfl, KO.out _ (by assumption)⟩
    · rw [decide_eq_false h2] at C2
      have KO : Hid (∀ W, Lie w0 W w.heap.size f f2 o o2 a b l.length m.length c d → Below w.heap.size w W) := Lib.hid (fun W h => out h)
      clear hs hm hg hg2 kp se BB hN out
      subst hw0
      go_enter Try.func3, Try.ntmps3
      go_wp2_with (first | (go_at_call 6; refine (C2.out _ l1).mono ?_; rintro e w2 ⟨rfl, l2⟩; obtain ⟨-, k0, k1, k2, k3, k4, k5⟩ := id l2) | (go_at_call 6; refine (C1.out _ L0).mono ?_; rintro e w1 ⟨rfl, l1⟩; obtain ⟨-, k0, k1, k2, k3, k4, k5⟩ := id l1))
      go_returns
      exact ⟨rfl, KO.out _ (by assumption)⟩
  · rw [decide_eq_false h1] at C1
    have KO : Hid (∀ W, Lie w0 W w.heap.size f f2 o o2 a b l.length m.length c d → Below w.heap.size w W) := Lib.hid (fun W h => out h)
    clear hs hm hg hg2 kp se BB hN out
    subst hw0
    go_enter Try.func3, Try.ntmps3
    go_wp2_with (go_at_call 6; refine (C1.out _ (by assumption)).mono ?_; rintro e w1 ⟨rfl, l1⟩; obtain ⟨-, k0, k1, k2, k3, k4, k5⟩ := id l1)
    go_returns
    exact ⟨rfl, KO.out _ (by assumption)⟩

end Go.Proofs.Ytobcgeonobgjpaa.fnHash
