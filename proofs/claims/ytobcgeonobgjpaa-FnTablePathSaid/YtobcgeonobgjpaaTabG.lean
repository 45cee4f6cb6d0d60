/-
  FnTablePath: the law's walk. Conditions: none.
-/
import Derived.Test.YtobcgeonobgjpaaTabF
namespace Go.Proofs.Ytobcgeonobgjpaa.fnTablePath
open Go.ChangeShapes Go.WideShapes Go.ChangeAt Go.RowKit
set_option linter.unusedVariables false

theorem rowv_range (rs : List (Option Addr × Nat × List Int)) :
    rs.map rowv = (List.range rs.length).map fun i => .slice (rs.getD i (none, 0, [])).1 (rs.getD i (none, 0, [])).2.2.length (rs.getD i (none, 0, [])).2.1 := by
  apply List.ext_getElem
  · simp
  · intro i h1 h2
    simp at h1
    simp [rowv, List.getD_eq_getElem?_getD, List.getElem?_eq_getElem h1]

theorem rng_at {w : World} {B : Nat} {a : Option Addr} {f : Nat → Bool} {n : Nat} (h : Sl w B a (rng f n)) (i : Nat) (hi : i < n) : ∃ ad, a = some ad ∧ ad.block < B ∧ w.cell? (ad.add i) = some (.bool (f i)) := rows_at h i hi

theorem cells6 {w : World} {g : Nat} {t : TypeId} {v0 v1 v2 v3 v4 v5 : Value} (h : Blk w g t [v0, v1, v2, v3, v4, v5]) : w.cell? ⟨g, 0, none⟩ = some v0 ∧ w.cell? ⟨g, 1, none⟩ = some v1 ∧ w.cell? ⟨g, 2, none⟩ = some v2 ∧ w.cell? ⟨g, 3, none⟩ = some v3 ∧ w.cell? ⟨g, 4, none⟩ = some v4 ∧ w.cell? ⟨g, 5, none⟩ = some v5 :=
  ⟨h.cell 0, h.cell 1, h.cell 2, h.cell 3, h.cell 4, h.cell 5⟩

set_option maxRecDepth 20000 in
set_option maxHeartbeats 1600000 in
theorem walk (st : Int) (a0 a1 a2 a3 a4 : Option Addr) (n3 n4 c0 c1 c2 c3 c4 : Nat) (cl : List Int) (rws : List (Option Addr × Nat × List Int)) (mt : List Bool) (t : ByteArray) (w : World)
    (hn0 : cl.length ≤ maxLen) (hr : rws.length ≤ maxLen) (hn2 : mt.length ≤ maxLen) (hn3 : n3 ≤ maxLen) (hn4 : n4 ≤ maxLen) (ht : t.size ≤ maxLen)
    (hx : ∀ r ∈ rws, r.2.2.length ≤ maxLen ∧ Sl w w.heap.size r.1 (r.2.2.map (.int .i64))) (h0 : Sl w w.heap.size a0 (cl.map (.int .i64))) (h1 : Sl w w.heap.size a1 (rws.map rowv)) (h2 : Sl w w.heap.size a2 (mt.map .bool)) :
    Calls Try.prog 5 #[.agg #[.int .i64 st, .slice a0 cl.length c0, .slice a1 rws.length c1, .slice a2 mt.length c2, .slice a3 n3 c3, .slice a4 n4 c4], .string t] w fun e w' => e = .returned (.bool true) ∧ Below w.heap.size w w' := by
  have ht' := ht
  unfold maxLen at ht'
  obtain ⟨w0, hw0⟩ : ∃ w0, w0 = w.alloc (.cells #[.int .i64 st, .slice a0 cl.length c0, .slice a1 rws.length c1, .slice a2 mt.length c2, .slice a3 n3 c3, .slice a4 n4 c4] 41) := ⟨_, rfl⟩
  have BW : Below w.heap.size w w0 := by rw [hw0]; exact (Below.refl _ _).alloc (Nat.le_refl _) _
  have B0 : Hid (Blk w0 w.heap.size 41 [.int .i64 st, .slice a0 cl.length c0, .slice a1 rws.length c1, .slice a2 mt.length c2, .slice a3 n3 c3, .slice a4 n4 c4]) := Lib.hid (by rw [hw0]; exact Blk.new w 41 [_, _, _, _, _, _])
  have C1 := Lib.hid (fits11_any st a0 a1 a2 a3 a4 cl.length rws.length mt.length n3 n4 c0 c1 c2 c3 c4 _ w0 hn0 hn2 hn3 hn4 (fun W0 hW0 => fits12_any a1 c1 rws.length (fun i => (rws.getD i (none, 0, [])).1) (fun i => (rws.getD i (none, 0, [])).2.2.length) (fun i => (rws.getD i (none, 0, [])).2.1) W0 hr
    (fun i hi => (hx _ (getD_mem hi)).1) (by rw [← rowv_range]; exact (h1.below (BW.trans (hW0.mono BW.size))).more (BW.trans (hW0.mono BW.size)).size)))
  have C2 := Lib.hid (fun W => small_any st a0 a1 a2 a3 a4 cl.length rws.length mt.length n3 n4 c0 c1 c2 c3 c4 W hn0 hr)
  cases F : fits11F cl.length rws.length mt.length n3 n4 (decide (rws.length ≤ 2147483647) && rowsFit (fun i => (rws.getD i (none, 0, [])).2.2.length) rws.length) with
  | false =>
    rw [F] at C1
    clear F hx h0 h1 h2
    go_enter Try.func5, Try.ntmps5
    subst hw0
    go_wp2_with (first
      | (go_at_call 14; refine C1.out.mono ?_; rintro e w1 ⟨rfl, hb1⟩; have B1 := Lib.hid (B0.out.below hb1 B0.out.lt); have hb := BW.trans (hb1.mono BW.size); obtain ⟨k0, k1, k2, k3, k4, k5⟩ := cells6 B1.out))
    go_returns
    exact ⟨rfl, hb⟩
  | true =>
    rw [F] at C1
    obtain ⟨f2, f3⟩ : mt.length ≤ 2147483647 ∧ ∀ r ∈ rws, r.2.2.length ≤ 2147483647 := by
      unfold fits11F at F
      simp only [Bool.and_eq_true, decide_eq_true_eq] at F
      refine ⟨F.2.2.1, fun r hr' => ?_⟩
      have h := of_decide_eq_true F.2.1.2
      obtain ⟨i, hi, rfl⟩ := List.getElem_of_mem hr'
      have := h i hi
      dsimp only at this
      rwa [getD_in hi] at this
    clear F
    by_cases t1 : t.size ≤ 4096
    · cases G : (decide (rws.length ≤ 65536) && decide (cl.length ≤ 65536)) with
      | false =>
        rw [G] at C2
        clear G hx h0 h1 h2
        go_enter Try.func5, Try.ntmps5
        subst hw0
        go_wp2_with (first
          | (go_at_call 14; refine C1.out.mono ?_; rintro e w1 ⟨rfl, hb1⟩; have B1 := Lib.hid (B0.out.below hb1 B0.out.lt); have hb := BW.trans (hb1.mono BW.size); obtain ⟨k0, k1, k2, k3, k4, k5⟩ := cells6 B1.out)
          | (go_at_call 15; refine (C2.out _).mono ?_; rintro e w2 ⟨rfl, hb2⟩; have hb' := hb.trans (hb2.mono hb.size)))
        go_returns
        exact ⟨rfl, hb'⟩
      | true =>
        rw [G] at C2
        simp only [Bool.and_eq_true, decide_eq_true_eq] at G
        have C3 := Lib.hid (fun W (hW : Below w.heap.size w W) => auto_any st a0 a1 a2 a3 a4 n3 n4 c0 c1 c2 c3 c4 cl mt rws W G.2 G.1 f2 ((h0.below hW).more hW.size) ((h1.below hW).more hW.size) (fun r hr' => ⟨f3 r hr', ((hx r hr').2.below hW).more hW.size⟩) ((h2.below hW).more hW.size))
        clear G hx h0 h1 h2 f2 f3
        go_enter Try.func5, Try.ntmps5
        subst hw0
        go_wp2_with (first
          | (go_at_call 14; refine C1.out.mono ?_; rintro e w1 ⟨rfl, hb1⟩; have B1 := Lib.hid (B0.out.below hb1 B0.out.lt); have hb := BW.trans (hb1.mono BW.size); obtain ⟨k0, k1, k2, k3, k4, k5⟩ := cells6 B1.out)
          | (go_at_call 15; refine (C2.out _).mono ?_; rintro e w2 ⟨rfl, hb2⟩; have hb' := hb.trans (hb2.mono hb.size); have B2 := Lib.hid (B1.out.below hb2 B1.out.lt); obtain ⟨m0, m1, m2, m3, m4, m5⟩ := cells6 B2.out)
          | (go_at_call 16; refine (C3.out _ hb').mono ?_; rintro e w3 ⟨⟨st', b0, b1, b2, b3, b4, d0, d1, d2, d3, d4, n, cls, rs, ms, cn, al, rfl, T⟩, hb3⟩
             have T3 := Lib.hid T
             clear T
             have BA := Lib.hid (Blk.new w3 41 [.int .i64 st', .slice b0 256 d0, .slice b1 n d1, .slice b2 n d2, .slice b3 n d3, .slice b4 n d4])
             have HB3 := Lib.hid ((hb'.trans (hb3.mono hb'.size)).alloc ((hb'.trans (hb3.mono hb'.size)).size) (.cells #[.int .i64 st', .slice b0 256 d0, .slice b1 n d1, .slice b2 n d2, .slice b3 n d3, .slice b4 n d4] 41)))
          | (go_at_call 17; refine (tpath_any st' b0 b1 b2 b3 b4 d0 d1 d2 d3 d4 n cls rs ms cn al t _ t1 (T3.out.below ((Below.refl _ _).alloc (Nat.le_refl _) _))).mono ?_
             rintro e w4 ⟨x1, y1, x2, y2, x3, y3, rfl, s1, s2, s3, hb4⟩
             have T4 := Lib.hid ((T3.out.below ((Below.refl _ _).alloc (Nat.le_refl _) _)).below hb4)
             have BA4 := Lib.hid (BA.out.below hb4 BA.out.lt)
             have HB4 := Lib.hid (HB3.out.trans (hb4.mono HB3.out.size))
             have S1 := Lib.hid s1
             have S2 := Lib.hid s2
             have S3 := Lib.hid s3
             clear s1 s2 s3 hb4 T3 BA HB3 B0 B1 B2 k0 k1 k2 k3 k4 k5 m0 m1 m2 m3 m4 m5))
        clear C1 C2 C3
        go_loopw [9, 10, 11] (fun k _ _ wr => ∃ i : Nat, i ≤ t.size + 1 ∧ k = .int .i64 i ∧ Hid (Below w4.heap.size w4 wr)) (fun k _ _ _ => t.size + 1 - (intOf k).toNat)
        case atStart => exact ⟨0, by omega, rfl, Lib.hid (Below.refl _ _)⟩
        case round =>
          obtain ⟨i, hi, rfl, hq⟩ := hrel
          by_cases hlt : i ≤ t.size
          · obtain ⟨g0, g1, g2, g3, g4, g5⟩ := cells6 (BA4.out.below hq.out BA4.out.lt)
            have es : Hid (st' = ((sqF st' cls rs t 0 : Nat) : Int)) := Lib.hid (by have := T4.out.hst.1; unfold sqF; omega)
            go_wp2_with fail
            obtain ⟨wo, hwo⟩ : ∃ wo : World, wo = wr := ⟨_, rfl⟩
            subst hwo
            go_loopw [10, 11] (fun v k wr => ∃ j : Nat, j ≤ i ∧ k = .int .i64 j ∧ v = .int .i64 (sqF st' cls rs t j : Nat) ∧ Hid (Below w4.heap.size w4 wr)) (fun _ k _ => i - (intOf k).toNat)
            case atStart => exact ⟨0, by omega, rfl, congrArg (Value.int .i64) es.out, hq⟩
            case round =>
              obtain ⟨j, hj, rfl, rfl, hq2⟩ := hrel
              clear g0 g1 g2 g3 g4 g5
              obtain ⟨g0, g1, g2, g3, g4, g5⟩ := cells6 (BA4.out.below hq2.out BA4.out.lt)
              have TW := T4.out.below hq2.out
              have hk := sq_bd TW t j
              by_cases hji : j < i
              · have hjt : j < t.size := by omega
                have hb8 : (t.data.getD j 0).toNat ≤ 255 := by have := UInt8.toNat_lt (t.data.getD j 0); omega
                obtain ⟨p0, rfl, -, q0, l0, u0⟩ := TW.cls_ _ hb8
                obtain ⟨p1, rfl, -, q1⟩ := TW.row_ _ hk
                obtain ⟨p2, hp2, -, q2, l2, u2⟩ := TW.to_ (sqF st' cls rs t j) (cls.getD (t.data.getD j 0).toNat 0).toNat hk (by omega)
                have e2 : ((rs.getD (sqF st' cls rs t j) (none, 0, [])).2.2.getD (cls.getD (t.data.getD j 0).toNat 0).toNat 0) = ((sqF st' cls rs t (j + 1) : Nat) : Int) := by
                  rw [sqF]
                  omega
                rw [e2] at q2
                rw [hp2] at q1
                have hn300 := TW.hn
                clear e2 TW hp2 es l2 u2
                rw [byte_at t j hjt] at *
                obtain ⟨sj1, hs⟩ : ∃ x, x = sqF st' cls rs t (j + 1) := ⟨_, rfl⟩
                rw [← hs] at q2
                have HS := Lib.hid hs
                clear hs
                generalize sqF st' cls rs t j = sj at *
                generalize (rs.getD sj (none, 0, [])).2.1 = rc at *
                generalize hcc : cls.getD (t[j]).toNat 0 = cc at *
                go_wp2_with fail
                go_quiet (fail)
                go_wp2_with fail
                refine ⟨⟨j + 1, by omega, by go_num, congrArg (fun x : Nat => Value.int .i64 (x : Int)) HS.out, Lib.hid (below_drewN hq2.out _)⟩, ?_⟩
                change i - ((j : Int) + 1).toNat < i - (j : Int).toNat
                omega
              · obtain rfl : j = i := by omega
                obtain ⟨z1, rfl, -, r1⟩ := rng_at (S1.out.below hq2.out) j (by omega)
                obtain ⟨z2, rfl, -, r2⟩ := rng_at (S2.out.below hq2.out) j (by omega)
                obtain ⟨z3, rfl, -, r3⟩ := rng_at (S3.out.below hq2.out) j (by omega)
                obtain ⟨y1', rfl, -, v1⟩ := Sl.bool TW.s2 (sqF st' cls rs t j) (by rw [TW.hm]; exact hk)
                obtain ⟨y2', rfl, -, v2⟩ := Sl.bool TW.s3 (sqF st' cls rs t j) (by rw [TW.hcn]; exact hk)
                obtain ⟨y3', rfl, -, v3⟩ := Sl.bool TW.s4 (sqF st' cls rs t j) (by rw [TW.hal]; exact hk)
                rw [← getD_in (d := false)] at v1 v2 v3
                have hn300 := TW.hn
                clear TW es
                generalize sqF st' cls rs t j = sj at *
                generalize ms.getD sj false = m1 at *
                generalize cn.getD sj false = m2 at *
                generalize al.getD sj false = m3 at *
                go_wp2_with fail
                go_quiet (fail)
                go_wp2_with fail
                refine ⟨⟨j + 1, by omega, by go_num, Lib.hid (below_drewN hq2.out _)⟩, ?_⟩
                change t.size + 1 - ((j : Int) + 1).toNat < t.size + 1 - (j : Int).toNat
                omega
          · obtain rfl : i = t.size + 1 := by omega
            go_wp2_with fail
            go_returns
            exact ⟨rfl, HB4.out.trans (hq.out.mono HB4.out.size)⟩
    · clear hx h0 h1 h2 f2 f3
      by_cases t2 : t.size ≤ 2147483647
      · cases G : (decide (rws.length ≤ 65536) && decide (cl.length ≤ 65536)) with
        | false =>
          rw [G] at C2
          clear G
          go_enter Try.func5, Try.ntmps5
          subst hw0
          go_wp2_with (first
            | (go_at_call 14; refine C1.out.mono ?_; rintro e w1 ⟨rfl, hb1⟩; have B1 := Lib.hid (B0.out.below hb1 B0.out.lt); have hb := BW.trans (hb1.mono BW.size); obtain ⟨k0, k1, k2, k3, k4, k5⟩ := cells6 B1.out)
            | (go_at_call 15; refine (C2.out _).mono ?_; rintro e w2 ⟨rfl, hb2⟩; have hb' := hb.trans (hb2.mono hb.size)))
          go_returns
          exact ⟨rfl, hb'⟩
        | true =>
          rw [G] at C2
          clear G
          go_enter Try.func5, Try.ntmps5
          subst hw0
          go_wp2_with (first
            | (go_at_call 14; refine C1.out.mono ?_; rintro e w1 ⟨rfl, hb1⟩; have B1 := Lib.hid (B0.out.below hb1 B0.out.lt); have hb := BW.trans (hb1.mono BW.size); obtain ⟨k0, k1, k2, k3, k4, k5⟩ := cells6 B1.out)
            | (go_at_call 15; refine (C2.out _).mono ?_; rintro e w2 ⟨rfl, hb2⟩; have hb' := hb.trans (hb2.mono hb.size)))
          go_returns
          exact ⟨rfl, hb'⟩
      · go_enter Try.func5, Try.ntmps5
        subst hw0
        go_wp2_with (first
          | (go_at_call 14; refine C1.out.mono ?_; rintro e w1 ⟨rfl, hb1⟩; have B1 := Lib.hid (B0.out.below hb1 B0.out.lt); have hb := BW.trans (hb1.mono BW.size); obtain ⟨k0, k1, k2, k3, k4, k5⟩ := cells6 B1.out))
        go_returns
        exact ⟨rfl, hb⟩

end Go.Proofs.Ytobcgeonobgjpaa.fnTablePath
