/-
  FnTablePath: the way of a table along a text. Conditions: as stated.
-/
import Derived.Test.YtobcgeonobgjpaaTabA
import Derived.Test.YtobcgeonobgjpaaAppend
namespace Go.Proofs.Ytobcgeonobgjpaa.fnTablePath
open Go.ChangeShapes Go.WideShapes Go.ChangeAt Go.RowKit
set_option linter.unusedVariables false

theorem infoB : (Try.prog.info? 4).map (fun i => (i.zero, i.size, i.bytes)) = some (some (.bool false), 1, 1) := by kernel_rfl

def rng (f : Nat → Bool) (n : Nat) : List Value := (List.range n).map fun i => .bool (f i)
theorem rng_succ (f : Nat → Bool) (n : Nat) : rng f (n + 1) = rng f n ++ [.bool (f n)] := by unfold rng; rw [List.range_succ, List.map_append]; rfl

theorem nil_ahead (A : Value) (w : World) : (nilAhead 206 60 A "Accept").run Try.prog w = .ok (some false) w := by kernel_rfl
theorem method_accept (A : Value) (w : World) : (method 206 60 A "Accept").run Try.prog w = .ok (49, A) w := by kernel_rfl

set_option maxHeartbeats 800000 in
theorem path_any (A : Value) (t : ByteArray) (sq : Nat → Nat) (fm fc fa : Nat → Bool) (w : World) (ht : t.size ≤ 4096) (hsq : ∀ i, sq i ≤ 1000)
    (h0 : ∀ W, Below w.heap.size w W → Calls Try.prog 52 #[A] W fun e w' => e = .returned (.int .i64 ((sq 0 : Int) + 2)) ∧ Below W.heap.size W w')
    (hm : ∀ i, i ≤ t.size → ∀ W, Below w.heap.size w W → Calls Try.prog 51 #[A, .int .i64 ((sq i : Int) + 2)] W fun e w' => e = .returned (.bool (fm i)) ∧ Below W.heap.size W w')
    (hc : ∀ i, i ≤ t.size → ∀ W, Below w.heap.size w W → Calls Try.prog 50 #[A, .int .i64 ((sq i : Int) + 2)] W fun e w' => e = .returned (.bool (fc i)) ∧ Below W.heap.size W w')
    (ha : ∀ i, i ≤ t.size → ∀ W, Below w.heap.size w W → Calls Try.prog 53 #[A, .int .i64 ((sq i : Int) + 2)] W fun e w' => e = .returned (.bool (fa i)) ∧ Below W.heap.size W w')
    (hn : ∀ i (hi : i < t.size), ∀ W, Below w.heap.size w W → Calls Try.prog 49 #[A, .int .i64 ((sq i : Int) + 2), .int .u8 (t[i].toNat : Int)] W fun e w' => e = .returned (.int .i64 ((sq (i + 1) : Int) + 2)) ∧ Below W.heap.size W w') :
    Calls Try.prog 26 #[.iface 60 A, .string t] w fun e w' => ∃ b1 d1 b2 d2 b3 d3, e = .returned (.tuple #[.slice b1 (t.size + 1) d1, .slice b2 (t.size + 1) d2, .slice b3 (t.size + 1) d3]) ∧
      Sl w' w'.heap.size b1 (rng fm (t.size + 1)) ∧ Sl w' w'.heap.size b2 (rng fc (t.size + 1)) ∧ Sl w' w'.heap.size b3 (rng fa (t.size + 1)) ∧ Below w.heap.size w w' := by
  obtain ⟨i0, hi, hz0, hz1, hz2⟩ := info_parts infoB
  have H0 := Lib.hid h0
  have HM := Lib.hid hm
  have HC := Lib.hid hc
  have HA := Lib.hid ha
  have HSQ := Lib.hid hsq
  have HN := Lib.hid hn
  have NA := nil_ahead A
  have MA := method_accept A
  clear h0 hm hc ha hsq hn
  go_enter Try.func26, Try.ntmps26
  go_wp2_with (go_at_call 52; refine (H0.out _ (Below.refl _ _)).mono ?_; rintro e w1 ⟨rfl, hb1⟩)
  go_loopw [4, 5, 6, 7, 8] (fun v1 v2 v3 s k wr => ∃ n : Nat, n ≤ t.size ∧ k = .int .i64 n ∧ s = .int .i64 ((sq n : Int) + 2) ∧
    R3 wr w.heap.size 4 v1 v2 v3 n n n (rng fm n) (rng fc n) (rng fa n) ∧ Below w.heap.size w wr) (fun _ _ _ _ k _ => t.size - (intOf k).toNat)
  case atStart => exact ⟨0, by omega, rfl, rfl, ⟨⟨by simp [rng], .inl ⟨rfl, rfl⟩⟩, ⟨by simp [rng], .inl ⟨rfl, rfl⟩⟩, ⟨by simp [rng], .inl ⟨rfl, rfl⟩⟩, Apart.none_, Apart.none_, Apart.none_⟩, hb1⟩
  case round =>
    obtain ⟨n, hnn, rfl, rfl, q0, l0⟩ := hrel
    obtain ⟨aa1, cc1, rfl⟩ := own_value q0.o1
    obtain ⟨aa2, cc2, rfl⟩ := own_value q0.o2
    obtain ⟨aa3, cc3, rfl⟩ := own_value q0.o3
    rcases Nat.lt_or_ge n t.size with hlt | hge
    · have hne : ((n : Int) == (t.size : Int)) = false := by rw [beq_eq_false_iff_ne]; omega
      go_wp2_with (first | (go_at_call 51; refine (HM.out n hnn _ l0).mono ?_; rintro e w1 ⟨rfl, hb⟩; have q1 := q0.below hb; have l1 := l0.trans (hb.mono l0.size); clear hb) | (at_builtin; (refine append1_at _ _ rfl (.tmp 13) (.tmp 17) 39 rfl w.heap.size 4 i0 _ 1 1 Try.underlying39 hi hz0 hz1 hz2 rfl (by omega) rfl (.slice aa1 n cc1) n _ rfl (q1.o1) _ rfl rfl (by simp [Value.oneCell']) (by unfold maxLen; omega) (by omega) (l1.size) ?_); intro u1 w2 ho hg _ hat; have q2 := q1.app1 ho hg hat; have l2 := l1.grown hg l1.size (own_block_ge q1.o1); clear ho hg hat) | (go_at_call 50; refine (HC.out n hnn _ l2).mono ?_; rintro e w3 ⟨rfl, hb⟩; have q3 := q2.below hb; have l3 := l2.trans (hb.mono l2.size); clear hb) | (at_builtin; (refine append1_at _ _ rfl (.tmp 19) (.tmp 23) 39 rfl w.heap.size 4 i0 _ 1 1 Try.underlying39 hi hz0 hz1 hz2 rfl (by omega) rfl (.slice aa2 n cc2) n _ rfl (q3.o2) _ rfl rfl (by simp [Value.oneCell']) (by unfold maxLen; omega) (by omega) (l3.size) ?_); intro u2 w4 ho hg _ hat; have q4 := q3.app2 ho hg hat; have l4 := l3.grown hg l3.size (own_block_ge q3.o2); clear ho hg hat) | (go_at_call 53; refine (HA.out n hnn _ l4).mono ?_; rintro e w5 ⟨rfl, hb⟩; have q5 := q4.below hb; have l5 := l4.trans (hb.mono l4.size); clear hb) | (at_builtin; (refine append1_at _ _ rfl (.tmp 25) (.tmp 29) 39 rfl w.heap.size 4 i0 _ 1 1 Try.underlying39 hi hz0 hz1 hz2 rfl (by omega) rfl (.slice aa3 n cc3) n _ rfl (q5.o3) _ rfl rfl (by simp [Value.oneCell']) (by unfold maxLen; omega) (by omega) (l5.size) ?_); intro u3 w6 ho hg _ hat; have q6 := q5.app3 ho hg hat; have l6 := l5.grown hg l5.size (own_block_ge q5.o3); clear ho hg hat))
      go_region_held3 (fun _ => True) (trivial)
        (first | (go_at_call 49; refine (HN.out n hlt _ l6.drew).mono ?_; rintro e w7 ⟨rfl, hb⟩; have q7 := (q6.below (below_drewN (Below.refl _ _) 1)).below hb; have l7 := l6.drew.trans (hb.mono l6.size); clear hb))
      all_goals
        (try go_wp2)
        refine ⟨⟨n + 1, by omega, by go_num, rfl, by rw [rng_succ, rng_succ, rng_succ]; exact q7, l7⟩, ?_⟩
        simp [intOf]
        omega
    · obtain rfl : n = t.size := by omega
      go_wp2_with (first | (go_at_call 51; refine (HM.out t.size (Nat.le_refl _) _ l0).mono ?_; rintro e w1 ⟨rfl, hb⟩; have q1 := q0.below hb; have l1 := l0.trans (hb.mono l0.size); clear hb) | (at_builtin; (refine append1_at _ _ rfl (.tmp 13) (.tmp 17) 39 rfl w.heap.size 4 i0 _ 1 1 Try.underlying39 hi hz0 hz1 hz2 rfl (by omega) rfl (.slice aa1 t.size cc1) t.size _ rfl (q1.o1) _ rfl rfl (by simp [Value.oneCell']) (by unfold maxLen; omega) (by omega) (l1.size) ?_); intro u1 w2 ho hg _ hat; have q2 := q1.app1 ho hg hat; have l2 := l1.grown hg l1.size (own_block_ge q1.o1); clear ho hg hat) | (go_at_call 50; refine (HC.out t.size (Nat.le_refl _) _ l2).mono ?_; rintro e w3 ⟨rfl, hb⟩; have q3 := q2.below hb; have l3 := l2.trans (hb.mono l2.size); clear hb) | (at_builtin; (refine append1_at _ _ rfl (.tmp 19) (.tmp 23) 39 rfl w.heap.size 4 i0 _ 1 1 Try.underlying39 hi hz0 hz1 hz2 rfl (by omega) rfl (.slice aa2 t.size cc2) t.size _ rfl (q3.o2) _ rfl rfl (by simp [Value.oneCell']) (by unfold maxLen; omega) (by omega) (l3.size) ?_); intro u2 w4 ho hg _ hat; have q4 := q3.app2 ho hg hat; have l4 := l3.grown hg l3.size (own_block_ge q3.o2); clear ho hg hat) | (go_at_call 53; refine (HA.out t.size (Nat.le_refl _) _ l4).mono ?_; rintro e w5 ⟨rfl, hb⟩; have q5 := q4.below hb; have l5 := l4.trans (hb.mono l4.size); clear hb) | (at_builtin; (refine append1_at _ _ rfl (.tmp 25) (.tmp 29) 39 rfl w.heap.size 4 i0 _ 1 1 Try.underlying39 hi hz0 hz1 hz2 rfl (by omega) rfl (.slice aa3 t.size cc3) t.size _ rfl (q5.o3) _ rfl rfl (by simp [Value.oneCell']) (by unfold maxLen; omega) (by omega) (l5.size) ?_); intro u3 w6 ho hg _ hat; have q6 := q5.app3 ho hg hat; have l6 := l5.grown hg l5.size (own_block_ge q5.o3); clear ho hg hat))
      go_returns
      rw [← rng_succ, ← rng_succ, ← rng_succ] at q6
      obtain ⟨x1, y1, rfl⟩ := own_value q6.o1
      obtain ⟨x2, y2, rfl⟩ := own_value q6.o2
      obtain ⟨x3, y3, rfl⟩ := own_value q6.o3
      exact ⟨_, _, _, _, _, ⟨_, rfl⟩, sl_of_own q6.o1, sl_of_own q6.o2, sl_of_own q6.o3, l6⟩

end Go.Proofs.Ytobcgeonobgjpaa.fnTablePath
