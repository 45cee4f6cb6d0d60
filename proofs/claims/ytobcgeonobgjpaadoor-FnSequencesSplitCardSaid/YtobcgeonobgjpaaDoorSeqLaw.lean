/-
  FnSequencesOnly, FnSequencesSplit: the laws' walks. Conditions: the listed variables (no range), which the cards tie.
-/
import Derived.Test.YtobcgeonobgjpaaDoorSeqWI
import Derived.Test.YtobcgeonobgjpaaDoorLaid
namespace Go.Proofs.YtobcgeonobgjpaaDoor
open Go.ChangeShapes Go.WideShapes Go.ChangeAt Go.RowKit
set_option linter.unusedVariables false

/-- a listed variable that is a struct of two integers -/
theorem laid_pair {P : Program} {W : World} {name : String} {k : IntKind} {x y : Int} {rest : List (String × DataW Unit)} {ps : List MemPlace} {g : Nat} {t : TypeId} {f0 f1 : Field}
    (hg : P.globalNamed name = some g) (hty : (P.globals[g]?).map (·.type) = some t) (ht : P.underlying t = some (.struct #[f0, f1])) (h0 : P.underlying f0.type = some (.int k)) (h1 : P.underlying f1.type = some (.int k))
    (o0 : f0.offset = 0) (o1 : f1.offset = 1) (k0 : P.cellsOf f0.type = 1) (k1 : P.cellsOf f1.type = 1) (hC : P.cellsOf t = 2)
    (h : DataW.LaidVars P W ((name, .agg [.lit (.int k x), .lit (.int k y)]) :: rest) ps) :
    (W.cell? ⟨g, 0, none⟩ = some (.int k x) ∧ W.cell? ⟨g, 1, none⟩ = some (.int k y)) ∧ ∃ q, DataW.LaidVars P W rest q := by
  obtain ⟨g', t', cs, fuel, p, q, hg', ht', hvar, hd, hr, _⟩ := h
  obtain rfl := Option.some.inj (hg.symm.trans hg')
  obtain rfl := Option.some.inj (hty.symm.trans ht')
  refine ⟨?_, q, hr⟩
  obtain ⟨y0, y1, n, hx, hl, r0, r1⟩ := trod_struct2 ht hd
  obtain ⟨n0, e0, rfl, _⟩ := DataW.trod_int h0 r0
  obtain ⟨n1, e1, rfl, _⟩ := DataW.trod_int h1 r1
  simp only [Prod.mk.injEq, DataW.agg.injEq, List.cons.injEq, DataW.lit.injEq, Lit.int.injEq, true_and, and_true] at hx
  obtain ⟨⟨rfl, rfl⟩, _⟩ := hx
  rw [o0, k0] at e0
  rw [o1, k1] at e1
  rw [hC] at hl
  have hv0 := World.var?_cell hg hvar 0
  have hv1 := World.var?_cell hg hvar 1
  rw [← Array.getElem?_toList] at hv0 hv1
  match hcl : cs.toList, hl with
  | [c0, c1], _ =>
    rw [hcl] at e0 e1 hv0 hv1
    simp at e0 e1 hv0 hv1
    subst e0 e1
    exact ⟨hv0, hv1⟩

theorem nils_of {W : World} (h : laidMetH Tryd.prog Rows.fnSequencesOnlyRow.laid W) : Nils W := by
  obtain ⟨ps, h1, _⟩ := (show laidMet Tryd.prog Rows.fnSequencesOnlyRow.laid W from h)
  have h2 : DataW.LaidVars Tryd.prog W [("pub-traverser/pub/vellum/utf8.nilRange", .agg [.lit (.int .u8 255), .lit (.int .u8 0)]), ("pub-traverser/pub/vellum/utf8.nilScalarRange", .agg [.lit (.int .i32 65535), .lit (.int .i32 0)])] ps := h1
  obtain ⟨⟨r0, r1⟩, q, h3⟩ := laid_pair (g := 1) (by kernel_rfl) (by kernel_rfl) Tryd.underlying52 Tryd.underlying5 Tryd.underlying5 rfl rfl (by kernel_rfl) (by kernel_rfl) (by kernel_rfl) h2
  obtain ⟨⟨s0, s1⟩, _⟩ := laid_pair (g := 0) (by kernel_rfl) (by kernel_rfl) Tryd.underlying56 Tryd.underlying21 Tryd.underlying21 rfl rfl (by kernel_rfl) (by kernel_rfl) (by kernel_rfl) h3
  exact ⟨s0, s1, r0, r1⟩

theorem cov_yes {a z : Int} {b : List Int} (h : InR a z b) : cov a z b = 1 := if_pos h
theorem cov_no {a z : Int} {b : List Int} (h : ¬ InR a z b) : cov a z b = 0 := if_neg h

set_option maxHeartbeats 1600000 in
theorem only_any (a z : Int) (b : Option Addr) (zs : List Int) (d : Nat) (w : World) (ha : -2147483648 ≤ a ∧ a ≤ 2147483647) (hz : -2147483648 ≤ z ∧ z ≤ 2147483647) (hm : zs.length ≤ maxLen)
    (hzb : ∀ x ∈ zs, 0 ≤ x ∧ x ≤ 255) (hs : Sl w w.heap.size b (zs.map (.int .u8))) (hN : Nils w) :
    Calls Tryd.prog 3 #[.int .i32 a, .int .i32 z, .slice b zs.length d] w fun e w' => e = .returned (.bool true) ∧ Below w.heap.size w w' := by
  unfold maxLen at hm
  have HS := Lib.hid hs
  have HZB := Lib.hid hzb
  have HN := Lib.hid hN
  have CR := Lib.hid (ranged_any a z w ha hz)
  clear hs hzb hN
  by_cases hlen : zs.length ≤ 2147483647
  · by_cases hr : 0 ≤ a ∧ a ≤ 1114111 ∧ 0 ≤ z ∧ z ≤ 1114111
    · have HR := Lib.hid (decide_eq_true hr)
      obtain ⟨r0, r1, r2, r3⟩ := hr
      by_cases hlt : z < a
      · clear HN HS HZB
        go_enter Tryd.func3, Tryd.ntmps3
        go_wp2_with fail
        refine CR.out.mono ?_
        rw [HR.out]
        rintro e w1 ⟨rfl, rfl⟩
        go_wp2
        go_ret
        exact ⟨rfl, Below.refl _ _⟩
      · have CS := Lib.hid (seqs_any a z w r0 (by omega) r3 HN.out)
        go_enter Tryd.func3, Tryd.ntmps3
        go_wp2_with fail
        refine CR.out.mono ?_
        rw [HR.out]
        rintro e w1 ⟨rfl, rfl⟩
        go_wp2_with fail
        refine CS.out.mono ?_
        rintro e w1 ⟨v, Ls, rfl, hL, hn, h4, hcnt, hb1⟩
        have hc := hcnt zs
        have CC := Lib.hid (covered_any v Ls b zs d _ w1 (by omega) hlen h4 hL ((HS.out.below hb1).more hb1.size))
        have HB1 := Lib.hid hb1
        clear hcnt hL hn h4 CS CR HN hb1
        by_cases hi : InR a z zs
        · have HC := Lib.hid (show ((cntL (Ls.map (·.2)) zs : Nat) : Int) = 1 by rw [hc, cov_yes hi]; rfl)
          clear hc
          go_wp2_with fail
          refine CC.out.mono ?_
          rw [HC.out]
          rintro e w2 ⟨rfl, hb2⟩
          have HB2 := Lib.hid (HB1.out.trans (hb2.mono HB1.out.size))
          have CL := Lib.hid (letter_any b zs d w2 hlen HZB.out ((HS.out.below HB2.out).more HB2.out.size))
          clear hb2 CC
          go_wp2_with fail
          refine CL.out.mono ?_
          rintro e w3 ⟨r, k, rfl, hl, hb3⟩
          obtain ⟨k0, rfl, k1, k2⟩ := (hl a z).2 hi
          have HB3 := Lib.hid (HB2.out.trans (hb3.mono HB2.out.size))
          clear hb3 CL hl hi
          go_wp2
          go_ret
          exact ⟨rfl, HB3.out⟩
        · have HC := Lib.hid (show ((cntL (Ls.map (·.2)) zs : Nat) : Int) = 0 by rw [hc, cov_no hi]; rfl)
          clear hc
          go_wp2_with fail
          refine CC.out.mono ?_
          rw [HC.out]
          rintro e w2 ⟨rfl, hb2⟩
          have HB2 := Lib.hid (HB1.out.trans (hb2.mono HB1.out.size))
          have CL := Lib.hid (letter_any b zs d w2 hlen HZB.out ((HS.out.below HB2.out).more HB2.out.size))
          clear hb2 CC
          go_wp2_with fail
          refine CL.out.mono ?_
          rintro e w3 ⟨r, k, rfl, hl, hb3⟩
          have hno := fun h => hi ((hl a z).1 h)
          have HB3 := Lib.hid (HB2.out.trans (hb3.mono HB2.out.size))
          clear hb3 CL hl hi
          by_cases k0 : 0 < k
          · by_cases k1 : k = (zs.length : Int)
            · subst k1
              by_cases k2 : a ≤ r
              · by_cases k3 : r ≤ z
                · exact absurd ⟨k0, rfl, k2, k3⟩ hno
                · have hd : decide (r ≤ z) = false := decide_eq_false k3
                  clear hno
                  go_wp2
                  go_ret
                  exact ⟨rfl, HB3.out⟩
              · clear hno
                go_wp2
                go_ret
                exact ⟨rfl, HB3.out⟩
            · have hbk : (k == (zs.length : Int)) = false := by rw [beq_eq_false_iff_ne]; exact k1
              clear hno k1
              go_wp2
              go_ret
              exact ⟨rfl, HB3.out⟩
          · clear hno
            go_wp2
            go_ret
            exact ⟨rfl, HB3.out⟩
    · have HR := Lib.hid (decide_eq_false hr)
      clear hr HN HS HZB
      go_enter Tryd.func3, Tryd.ntmps3
      go_wp2_with fail
      refine CR.out.mono ?_
      rw [HR.out]
      rintro e w1 ⟨rfl, rfl⟩
      go_wp2
      go_ret
      exact ⟨rfl, Below.refl _ _⟩
  · clear CR HN HS HZB
    go_enter Tryd.func3, Tryd.ntmps3
    go_wp2
    go_ret
    exact ⟨rfl, Below.refl _ _⟩

set_option maxHeartbeats 1600000 in
theorem split_any (a y z : Int) (b : Option Addr) (zs : List Int) (d : Nat) (w : World) (ha : -2147483648 ≤ a ∧ a ≤ 2147483647) (hy : -2147483648 ≤ y ∧ y ≤ 2147483647) (hz : -2147483648 ≤ z ∧ z ≤ 2147483647) (hm : zs.length ≤ maxLen)
    (hs : Sl w w.heap.size b (zs.map (.int .u8))) (hN : Nils w) :
    Calls Tryd.prog 4 #[.int .i32 a, .int .i32 y, .int .i32 z, .slice b zs.length d] w fun e w' => e = .returned (.bool true) ∧ Below w.heap.size w w' := by
  unfold maxLen at hm
  have HS := Lib.hid hs
  have HN := Lib.hid hN
  have CR := Lib.hid (ranged_any a z w ha hz)
  clear hs hN
  by_cases hlen : zs.length ≤ 2147483647
  · by_cases hr : 0 ≤ a ∧ a ≤ 1114111 ∧ 0 ≤ z ∧ z ≤ 1114111
    · have HR := Lib.hid (decide_eq_true hr)
      obtain ⟨r0, r1, r2, r3⟩ := hr
      by_cases hlt : y < a
      · clear HN HS
        go_enter Tryd.func4, Tryd.ntmps4
        go_wp2_with fail
        refine CR.out.mono ?_
        rw [HR.out]
        rintro e w1 ⟨rfl, rfl⟩
        go_wp2
        go_ret
        exact ⟨rfl, Below.refl _ _⟩
      · by_cases hlz : z ≤ y
        · clear HN HS
          go_enter Tryd.func4, Tryd.ntmps4
          go_wp2_with fail
          refine CR.out.mono ?_
          rw [HR.out]
          rintro e w1 ⟨rfl, rfl⟩
          go_wp2
          go_ret
          exact ⟨rfl, Below.refl _ _⟩
        · have CS := Lib.hid (seqs_any a z w r0 (by omega) r3 HN.out)
          have HX := Lib.hid (cov_cut a y z zs (by omega) (by omega))
          go_enter Tryd.func4, Tryd.ntmps4
          go_wp2_with fail
          refine CR.out.mono ?_
          rw [HR.out]
          rintro e w1 ⟨rfl, rfl⟩
          go_wp2_with fail
          refine CS.out.mono ?_
          rintro e w1 ⟨v1, L1, rfl, hL1, hn1, h41, hcnt1, hb1⟩
          have HC1 := Lib.hid (hcnt1 zs)
          have HL1 := Lib.hid hL1
          have HB1 := Lib.hid hb1
          have HN1 := Lib.hid hn1
          have H41 := Lib.hid h41
          have CS2 := Lib.hid (seqs_any a y w1 r0 (by omega) (by omega) (HN.out.below hb1 HN.out.lt))
          clear hcnt1 hL1 hn1 h41 hb1 CS CR
          go_wp2_with fail
          refine CS2.out.mono ?_
          rintro e w2 ⟨v2, L2, rfl, hL2, hn2, h42, hcnt2, hb2⟩
          have HC2 := Lib.hid (hcnt2 zs)
          have HL2 := Lib.hid hL2
          have HB2 := Lib.hid (HB1.out.trans (hb2.mono HB1.out.size))
          have HL12 := Lib.hid (HL1.out.below hb2)
          have HN2 := Lib.hid hn2
          have H42 := Lib.hid h42
          have CS3 := Lib.hid (seqs_any (y + 1) z w2 (by omega) (by omega) r3 (HN.out.below HB2.out HN.out.lt))
          clear hcnt2 hL2 hn2 h42 hb2 CS2 HL1
          go_wp2_with fail
          refine CS3.out.mono ?_
          rintro e w3 ⟨v3, L3, rfl, hL3, hn3, h43, hcnt3, hb3⟩
          have HC3 := Lib.hid (hcnt3 zs)
          have HL3 := Lib.hid hL3
          have HB3 := Lib.hid (HB2.out.trans (hb3.mono HB2.out.size))
          have HL13 := Lib.hid (HL12.out.below hb3)
          have HL23 := Lib.hid (HL2.out.below hb3)
          have HN3 := Lib.hid hn3
          have H43 := Lib.hid h43
          clear hcnt3 hL3 hn3 h43 hb3 CS3 HL2 HL12
          have CC1 := Lib.hid (covered_any v1 L1 b zs d _ w3 (by have := HN1.out; omega) hlen H41.out HL13.out ((HS.out.below HB3.out).more HB3.out.size))
          have HSUM := Lib.hid (show cntL (L1.map (·.2)) zs = cntL (L2.map (·.2)) zs + cntL (L3.map (·.2)) zs by rw [HC1.out, HC2.out, HC3.out]; exact HX.out)
          have B1 := cntL_le (L1.map (·.2)) zs
          have B2 := cntL_le (L2.map (·.2)) zs
          have B3 := cntL_le (L3.map (·.2)) zs
          rw [List.length_map] at B1 B2 B3
          have D1 : cntL (L1.map (·.2)) zs ≤ 8912895 := Nat.le_trans B1 HN1.out
          have D2 : cntL (L2.map (·.2)) zs ≤ 8912895 := Nat.le_trans B2 HN2.out
          have D3 : cntL (L3.map (·.2)) zs ≤ 8912895 := Nat.le_trans B3 HN3.out
          clear B1 B2 B3 HC1 HC2 HC3
          have CC2 := Lib.hid (fun (W : World) (hb : Below w3.heap.size w3 W) => covered_any v2 L2 b zs d _ W (by have := HN2.out; omega) hlen H42.out (HL23.out.below hb) ((HS.out.below (HB3.out.trans (hb.mono HB3.out.size))).more (Nat.le_trans HB3.out.size hb.size)))
          have CC3 := Lib.hid (fun (W : World) (hb : Below w3.heap.size w3 W) => covered_any v3 L3 b zs d _ W (by have := HN3.out; omega) hlen H43.out (HL3.out.below hb) ((HS.out.below (HB3.out.trans (hb.mono HB3.out.size))).more (Nat.le_trans HB3.out.size hb.size)))
          generalize cntL (L1.map (·.2)) zs = m1 at *
          generalize cntL (L2.map (·.2)) zs = m2 at *
          generalize cntL (L3.map (·.2)) zs = m3 at *
          have hs1 := HSUM.out
          by_cases h1 : (0 : Int) < (m1 : Int)
          · have h2 : (0 : Int) < (m2 : Int) + (m3 : Int) := by omega
            clear hs1
            go_wp2_with fail
            refine CC1.out.mono ?_
            rintro e w4 ⟨rfl, hb4⟩
            have HB4 := Lib.hid hb4
            clear hb4
            go_wp2_with fail
            refine (CC2.out w4 HB4.out).mono ?_
            rintro e w5 ⟨rfl, hb5⟩
            have HB5 := Lib.hid (HB4.out.trans (hb5.mono HB4.out.size))
            clear hb5
            go_wp2_with fail
            refine (CC3.out w5 HB5.out).mono ?_
            rintro e w6 ⟨rfl, hb6⟩
            have HB6 := Lib.hid (HB5.out.trans (hb6.mono HB5.out.size))
            clear hb6
            go_wp2_with fail
            go_ret
            exact ⟨ret_bool (decide_eq_true (by omega)), HB3.out.trans (HB6.out.mono HB3.out.size)⟩
          · have h2 : ¬ (0 : Int) < (m2 : Int) + (m3 : Int) := by omega
            have d1 := decide_eq_false h1
            have d2 := decide_eq_false h2
            clear hs1
            go_wp2_with fail
            refine CC1.out.mono ?_
            rintro e w4 ⟨rfl, hb4⟩
            have HB4 := Lib.hid hb4
            clear hb4
            go_wp2_with fail
            refine (CC2.out w4 HB4.out).mono ?_
            rintro e w5 ⟨rfl, hb5⟩
            have HB5 := Lib.hid (HB4.out.trans (hb5.mono HB4.out.size))
            clear hb5
            go_wp2_with fail
            refine (CC3.out w5 HB5.out).mono ?_
            rintro e w6 ⟨rfl, hb6⟩
            have HB6 := Lib.hid (HB5.out.trans (hb6.mono HB5.out.size))
            clear hb6
            go_wp2_with fail
            go_ret
            exact ⟨ret_bool (by rw [decide_eq_false (show ¬ 0 < m1 by omega)]; rfl), HB3.out.trans (HB6.out.mono HB3.out.size)⟩
    · have HR := Lib.hid (decide_eq_false hr)
      clear hr HN HS
      go_enter Tryd.func4, Tryd.ntmps4
      go_wp2_with fail
      refine CR.out.mono ?_
      rw [HR.out]
      rintro e w1 ⟨rfl, rfl⟩
      go_wp2
      go_ret
      exact ⟨rfl, Below.refl _ _⟩
  · clear CR HN HS
    go_enter Tryd.func4, Tryd.ntmps4
    go_wp2
    go_ret
    exact ⟨rfl, Below.refl _ _⟩

end Go.Proofs.YtobcgeonobgjpaaDoor
