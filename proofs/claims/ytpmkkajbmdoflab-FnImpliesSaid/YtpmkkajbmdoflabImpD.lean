/-
  FnImplies: the law's walk. Conditions: none.
-/
import Derived.Test.YtpmkkajbmdoflabImpC
import Derived.Test.YtpmkkajbmdoflabImpA
import Derived.Test.YtpmkkajbmdoflabDist
namespace Go.Proofs.Ytpmkkajbmdoflab.fnImplies
open Go.ChangeShapes Go.WideShapes Go.ChangeAt Go.RowKit
set_option linter.unusedVariables false

/-- a place's cells, whatever it is -/
def plc (o d : Nat) (t : Bool) : Array Value := #[.int .u32 o, .int .u8 d, .bool t]

/-- the part of a slice from o on -/
theorem Sl.from_ {w : World} {B : Nat} {a : Addr} {xs : List Value} (h : Sl w B (some a) xs) (o : Nat) : Sl w B (some (a.add o)) (xs.drop o) := by
  intro j v hv
  rw [List.getElem?_drop] at hv
  obtain ⟨ad, e, hb, hc⟩ := h (o + j) v hv
  injection e with e
  subst e
  exact ⟨_, rfl, by simpa [block_add] using hb, by rw [Deep.add_add]; exact hc⟩

/-- the plain law: who implies another one is not worse -/
theorem plain (q l : List Int) (o1 o2 d1 d2 : Nat) (h1 : o1 ≤ q.length) (h2 : o2 ≤ q.length) (h : d1 + gapN o1 o2 ≤ d2) : d1 + rest_ q l o1 ≤ d2 + rest_ q l o2 := by
  unfold gapN at h
  rcases Nat.le_total o1 o2 with hc | hc
  · have := rest_far q l o1 (o2 - o1) (by omega)
    rw [show o1 + (o2 - o1) = o2 by omega] at this
    omega
  · have := rest_far q l o2 (o1 - o2) (by omega)
    rw [show o2 + (o1 - o2) = o1 by omega] at this
    omega

theorem rest_le (zq zt : List Int) (o : Nat) (h1 : zq.length ≤ 40) (h2 : zt.length ≤ 40) : rest_ zq zt o ≤ 80 := by
  have := ed_le (zq.drop o) zt _ (zq.length - o) zt.length (Nat.le_refl _)
  unfold rest_
  omega

theorem dist_rest (ad : Addr) (cq c d o : Nat) (b : Option Addr) (zq zt : List Int) (W : World) (hc : zq.length ≤ cq) (h1 : zq.length ≤ 40) (h2 : zt.length ≤ 40) (S1 : Sl W W.heap.size (some ad) (zq.map (.int .i64))) (S2 : Sl W W.heap.size b (zt.map (.int .i64))) :
    Calls Try.prog 19 #[.slice (if cq = o then some ad else some (ad.add o)) (zq.length - o) c, .slice b zt.length d, .bool false] W fun e w' => e = .returned (.int .i64 (rest_ zq zt o : Nat)) ∧ Below W.heap.size W w' := by
  have h := dist_any (if cq = o then some ad else some (ad.add o)) b (zq.drop o) zt c d W (by rw [List.length_drop]; omega) (by omega) (by
    split
    · exact Sl.of_len0 (by simp; omega)
    · rw [List.map_drop]; exact Sl.from_ S1 o) S2
  rw [List.length_drop] at h
  exact h

theorem dist_none (d : Nat) (b : Option Addr) (zq zt : List Int) (W : World) (o : Nat) (hz : zq = []) (h2 : zt.length ≤ 40) (S2 : Sl W W.heap.size b (zt.map (.int .i64))) :
    Calls Try.prog 19 #[.slice none 0 0, .slice b zt.length d, .bool false] W fun e w' => e = .returned (.int .i64 (rest_ zq zt o : Nat)) ∧ Below W.heap.size W w' := by
  subst hz
  have h := dist_any none b [] zt 0 d W (by simp) (by omega) Sl.nil S2
  have e : rest_ [] zt o = ed [] zt 0 zt.length := by unfold rest_; simp
  rw [e]
  exact h

theorem cells3 {w : World} {g : Nat} {t : TypeId} {v0 v1 v2 : Value} (h : Blk w g t [v0, v1, v2]) : w.cell? ⟨g, 0, none⟩ = some v0 ∧ w.cell? ⟨g, 1, none⟩ = some v1 ∧ w.cell? ⟨g, 2, none⟩ = some v2 := ⟨h.cell 0, h.cell 1, h.cell 2⟩

set_option maxRecDepth 20000 in
set_option maxHeartbeats 6400000 in
theorem walk (o1 o2 d1 d2 : Nat) (t1 t2 : Bool) (s2 s3 : Option Addr) (c2 c3 : Nat) (zq zt : List Int) (w : World) (ho1 : o1 ≤ 4294967295) (ho2 : o2 ≤ 4294967295) (hd1 : d1 ≤ 255) (hd2 : d2 ≤ 255)
    (hq : zq.length ≤ maxLen) (hl : zt.length ≤ maxLen) (hs2 : Sl w w.heap.size s2 (zq.map (.int .i32))) (hs3 : Sl w w.heap.size s3 (zt.map (.int .i32))) (hw2 : ∀ z ∈ zq, -2147483648 ≤ z ∧ z ≤ 2147483647) (hw3 : ∀ z ∈ zt, -2147483648 ≤ z ∧ z ≤ 2147483647) :
    Calls Try.prog 7 #[.agg #[.int .u32 o1, .int .u8 d1, .bool t1], .agg #[.int .u32 o2, .int .u8 d2, .bool t2], .slice s2 zq.length c2, .slice s3 zt.length c3] w fun e w' => e = .returned (.bool true) ∧ Below w.heap.size w w' := by
  obtain ⟨w0, hw0⟩ : ∃ w0, w0 = (w.alloc (.cells #[.int .u32 o1, .int .u8 d1, .bool t1] 38)).alloc (.cells #[.int .u32 o2, .int .u8 d2, .bool t2] 38) := ⟨_, rfl⟩
  have HW : Hid (Below w.heap.size w w0) := Lib.hid (by rw [hw0]; exact ((Below.refl _ _).alloc (Nat.le_refl _) _).alloc (by simp) _)
  have B0 : Hid (Blk w0 w.heap.size 38 [.int .u32 o1, .int .u8 d1, .bool t1]) := Lib.hid (by rw [hw0]; exact (Blk.new w 38 [_, _, _]).alloc _)
  have B1 : Hid (Blk w0 (w.heap.size + 1) 38 [.int .u32 o2, .int .u8 d2, .bool t2]) := Lib.hid (by rw [hw0]; exact blk_new_at _ 38 [_, _, _] _ (by simp))
  have CQ := Lib.hid (numbers_any s2 c2 zq w0 hq ((hs2.below HW.out).more HW.out.size) hw2)
  have CT := Lib.hid (fun W (hW : Below w0.heap.size w0 W) => numbers_any s3 c3 zt W hl ((hs3.below (HW.out.trans (hW.mono HW.out.size))).more (HW.out.trans (hW.mono HW.out.size)).size) hw3)
  clear hs2 hs3 hw2 hw3
  unfold maxLen at hq hl
  have eo1 : IntKind.i64.wrap (o1 : Int) = o1 := by rw [IntKind.wrap_i64]; omega
  have eo2 : IntKind.i64.wrap (o2 : Int) = o2 := by rw [IntKind.wrap_i64]; omega
  have ed1 : IntKind.i64.wrap (d1 : Int) = d1 := by rw [IntKind.wrap_i64]; omega
  have ed2 : IntKind.i64.wrap (d2 : Int) = d2 := by rw [IntKind.wrap_i64]; omega
  have out0 : Hid (Below w.heap.size w w0) := HW
  by_cases q1 : zq.length ≤ 2147483647
  · by_cases q2 : zt.length ≤ 2147483647
    · cases okq : numOk zq with
      | false =>
        rw [okq] at CQ
        cases okt : numOk zt with
        | false =>
          rw [okt] at CT
          go_enter Try.func7, Try.ntmps7
          subst hw0
          go_wp2_with (first
            | (go_at_call 17; with_reducible show Calls _ _ #[.slice s2 _ _, _] _ _; refine CQ.out.mono ?_
               rintro e w1 ⟨g1, hb1⟩
               obtain rfl : e = .returned (.tuple #[.slice none 0 0, .bool false]) := g1)
            | (go_at_call 17; with_reducible show Calls _ _ #[.slice s3 _ _, _] _ _; refine (CT.out _ hb1).mono ?_
               rintro e w2 ⟨g2, hb2⟩
               obtain rfl : e = .returned (.tuple #[.slice none 0 0, .bool false]) := g2
               have hb := hb1.trans (hb2.mono hb1.size)
               obtain ⟨k0, k1, k2⟩ := cells3 (B0.out.below hb B0.out.lt)
               obtain ⟨k3, k4, k5⟩ := cells3 (B1.out.below hb B1.out.lt)
               have BB0 := Lib.hid (B0.out.below hb B0.out.lt)
               have BB1 := Lib.hid (B1.out.below hb B1.out.lt)
               have HB2 : Hid (Below w.heap.size w w2) := Lib.hid (HW.out.trans (hb.mono HW.out.size))
               clear hb hb1 hb2))
          go_returns
          exact ⟨rfl, HB2.out⟩
        | true =>
          rw [okt] at CT
          go_enter Try.func7, Try.ntmps7
          subst hw0
          go_wp2_with (first
            | (go_at_call 17; with_reducible show Calls _ _ #[.slice s2 _ _, _] _ _; refine CQ.out.mono ?_
               rintro e w1 ⟨g1, hb1⟩
               obtain rfl : e = .returned (.tuple #[.slice none 0 0, .bool false]) := g1)
            | (go_at_call 17; with_reducible show Calls _ _ #[.slice s3 _ _, _] _ _; refine (CT.out _ hb1).mono ?_
               rintro e w2 ⟨g2, hb2⟩
               obtain ⟨at_, ct, rfl, st, -⟩ : ∃ a c, e = .returned (.tuple #[.slice a zt.length c, .bool true]) ∧ Sl w2 w2.heap.size a (zt.map (.int .i64)) ∧ zt.length ≤ c ∧ (a = none → zt.length = 0 ∧ c = 0) := g2
               have hb := hb1.trans (hb2.mono hb1.size)
               obtain ⟨k0, k1, k2⟩ := cells3 (B0.out.below hb B0.out.lt)
               obtain ⟨k3, k4, k5⟩ := cells3 (B1.out.below hb B1.out.lt)
               have BB0 := Lib.hid (B0.out.below hb B0.out.lt)
               have BB1 := Lib.hid (B1.out.below hb B1.out.lt)
               have HB2 : Hid (Below w.heap.size w w2) := Lib.hid (HW.out.trans (hb.mono HW.out.size))
               have ST := Lib.hid st
               clear hb hb1 hb2))
          go_returns
          exact ⟨rfl, HB2.out⟩
      | true =>
        rw [okq] at CQ
        have l1 : zq.length ≤ 40 := by unfold numOk at okq; simp only [Bool.and_eq_true, decide_eq_true_eq] at okq; exact okq.1
        cases okt : numOk zt with
        | false =>
          rw [okt] at CT
          go_enter Try.func7, Try.ntmps7
          subst hw0
          go_wp2_with (first
            | (go_at_call 17; with_reducible show Calls _ _ #[.slice s2 _ _, _] _ _; refine CQ.out.mono ?_
               rintro e w1 ⟨g1, hb1⟩
               obtain ⟨aq, cq, rfl, sq, sc, sn⟩ : ∃ a c, e = .returned (.tuple #[.slice a zq.length c, .bool true]) ∧ Sl w1 w1.heap.size a (zq.map (.int .i64)) ∧ zq.length ≤ c ∧ (a = none → zq.length = 0 ∧ c = 0) := g1
               have SN := Lib.hid sn
               clear sn)
            | (go_at_call 17; with_reducible show Calls _ _ #[.slice s3 _ _, _] _ _; refine (CT.out _ hb1).mono ?_
               rintro e w2 ⟨g2, hb2⟩
               obtain rfl : e = .returned (.tuple #[.slice none 0 0, .bool false]) := g2
               have hb := hb1.trans (hb2.mono hb1.size)
               obtain ⟨k0, k1, k2⟩ := cells3 (B0.out.below hb B0.out.lt)
               obtain ⟨k3, k4, k5⟩ := cells3 (B1.out.below hb B1.out.lt)
               have BB0 := Lib.hid (B0.out.below hb B0.out.lt)
               have BB1 := Lib.hid (B1.out.below hb B1.out.lt)
               have HB2 : Hid (Below w.heap.size w w2) := Lib.hid (HW.out.trans (hb.mono HW.out.size))
               have SQ := Lib.hid ((sq.below hb2).more hb2.size)
               clear hb hb1 hb2))
          go_returns
          exact ⟨rfl, HB2.out⟩
        | true =>
          rw [okt] at CT
          have l2 : zt.length ≤ 40 := by unfold numOk at okt; simp only [Bool.and_eq_true, decide_eq_true_eq] at okt; exact okt.1
          clear okq okt
          by_cases r1 : o1 ≤ zq.length
          · have r1i : ¬ ((zq.length : Int) < (o1 : Int)) := by omega
            by_cases r2 : o2 ≤ zq.length
            · have r2i : ¬ ((zq.length : Int) < (o2 : Int)) := by omega
              cases t1 with
              | true =>
                go_enter Try.func7, Try.ntmps7
                subst hw0
                go_wp2_with (first
                  | (go_at_call 17; with_reducible show Calls _ _ #[.slice s2 _ _, _] _ _; refine CQ.out.mono ?_
                     rintro e w1 ⟨g1, hb1⟩
                     obtain ⟨aq, cq, rfl, sq, sc, sn⟩ : ∃ a c, e = .returned (.tuple #[.slice a zq.length c, .bool true]) ∧ Sl w1 w1.heap.size a (zq.map (.int .i64)) ∧ zq.length ≤ c ∧ (a = none → zq.length = 0 ∧ c = 0) := g1
                     have SN := Lib.hid sn
                     clear sn)
                  | (go_at_call 17; with_reducible show Calls _ _ #[.slice s3 _ _, _] _ _; refine (CT.out _ hb1).mono ?_
                     rintro e w2 ⟨g2, hb2⟩
                     obtain ⟨at_, ct, rfl, st, -⟩ : ∃ a c, e = .returned (.tuple #[.slice a zt.length c, .bool true]) ∧ Sl w2 w2.heap.size a (zt.map (.int .i64)) ∧ zt.length ≤ c ∧ (a = none → zt.length = 0 ∧ c = 0) := g2
                     have hb := hb1.trans (hb2.mono hb1.size)
                     obtain ⟨k0, k1, k2⟩ := cells3 (B0.out.below hb B0.out.lt)
                     obtain ⟨k3, k4, k5⟩ := cells3 (B1.out.below hb B1.out.lt)
                     have BB0 := Lib.hid (B0.out.below hb B0.out.lt)
                     have BB1 := Lib.hid (B1.out.below hb B1.out.lt)
                     have HB2 : Hid (Below w.heap.size w w2) := Lib.hid (HW.out.trans (hb.mono HW.out.size))
                     have SQ := Lib.hid ((sq.below hb2).more hb2.size)
                     have ST := Lib.hid st
                     clear hb hb1 hb2))
                go_returns
                exact ⟨rfl, HB2.out⟩
              | false =>
                cases t2 with
                | true =>
                  go_enter Try.func7, Try.ntmps7
                  subst hw0
                  go_wp2_with (first
                    | (go_at_call 17; with_reducible show Calls _ _ #[.slice s2 _ _, _] _ _; refine CQ.out.mono ?_
                       rintro e w1 ⟨g1, hb1⟩
                       obtain ⟨aq, cq, rfl, sq, sc, sn⟩ : ∃ a c, e = .returned (.tuple #[.slice a zq.length c, .bool true]) ∧ Sl w1 w1.heap.size a (zq.map (.int .i64)) ∧ zq.length ≤ c ∧ (a = none → zq.length = 0 ∧ c = 0) := g1
                       have SN := Lib.hid sn
                       clear sn)
                    | (go_at_call 17; with_reducible show Calls _ _ #[.slice s3 _ _, _] _ _; refine (CT.out _ hb1).mono ?_
                       rintro e w2 ⟨g2, hb2⟩
                       obtain ⟨at_, ct, rfl, st, -⟩ : ∃ a c, e = .returned (.tuple #[.slice a zt.length c, .bool true]) ∧ Sl w2 w2.heap.size a (zt.map (.int .i64)) ∧ zt.length ≤ c ∧ (a = none → zt.length = 0 ∧ c = 0) := g2
                       have hb := hb1.trans (hb2.mono hb1.size)
                       obtain ⟨k0, k1, k2⟩ := cells3 (B0.out.below hb B0.out.lt)
                       obtain ⟨k3, k4, k5⟩ := cells3 (B1.out.below hb B1.out.lt)
                       have BB0 := Lib.hid (B0.out.below hb B0.out.lt)
                       have BB1 := Lib.hid (B1.out.below hb B1.out.lt)
                       have HB2 : Hid (Below w.heap.size w w2) := Lib.hid (HW.out.trans (hb.mono HW.out.size))
                       have SQ := Lib.hid ((sq.below hb2).more hb2.size)
                       have ST := Lib.hid st
                       clear hb hb1 hb2))
                  go_returns
                  exact ⟨rfl, HB2.out⟩
                | false =>
                  by_cases r3 : d1 ≤ 100
                  · have r3i : ¬ ((100 : Int) < (d1 : Int)) := by omega
                    by_cases r4 : d2 ≤ 100
                    · have r4i : ¬ ((100 : Int) < (d2 : Int)) := by omega
                      obtain ⟨mx, hmx⟩ : ∃ mx : Nat, mx = max o1 o2 := ⟨_, rfl⟩
                      obtain ⟨mn, hmn⟩ : ∃ mn : Nat, mn = min o1 o2 := ⟨_, rfl⟩
                      obtain ⟨G, hG⟩ : ∃ G : Nat, G = gapN o1 o2 := ⟨_, rfl⟩
                      have HMX : Builtin.max_ #[3, 3] 3 #[.int .i64 (o1 : Int), .int .i64 (o2 : Int)] = pure (.int .i64 (mx : Int)) := by
                        have e : (if (o2 : Int) > (o1 : Int) then (o2 : Int) else (o1 : Int)) = (mx : Int) := by split <;> omega
                        rw [← e]; rfl
                      have HMN : Builtin.min_ #[3, 3] 3 #[.int .i64 (o1 : Int), .int .i64 (o2 : Int)] = pure (.int .i64 (mn : Int)) := by
                        have e : (if (o2 : Int) < (o1 : Int) then (o2 : Int) else (o1 : Int)) = (mn : Int) := by split <;> omega
                        rw [← e]; rfl
                      have hsub : (mx : Int) - (mn : Int) = (G : Int) := by unfold gapN at hG; omega
                      have hG40 : G ≤ 40 := by unfold gapN at hG; omega
                      have CI := Lib.hid (fun W => implies_any o1 o2 d1 d2 W (by omega) (by omega) hd1 hd2)
                      have PL := Lib.hid (plain zq zt o1 o2 d1 d2 r1 r2)
                      rw [← hG] at CI PL
                      clear hG hmx hmn
                      by_cases I : d1 + G ≤ d2
                      · rw [decide_eq_true I] at CI
                        have PP := Lib.hid (PL.out I)
                        have Ii : (d1 : Int) + (G : Int) ≤ (d2 : Int) := by omega
                        have HR1 := rest_le zq zt o1 l1 l2
                        have HR2 := rest_le zq zt o2 l1 l2
                        have DA := Lib.hid (fun (ad : Addr) (cq : Nat) (hc : zq.length ≤ cq) (c d : Nat) (b : Option Addr) (W : World) S1 S2 => dist_rest ad cq c d o1 b zq zt W hc l1 l2 S1 S2)
                        have DB := Lib.hid (fun (ad : Addr) (cq : Nat) (hc : zq.length ≤ cq) (c d : Nat) (b : Option Addr) (W : World) S1 S2 => dist_rest ad cq c d o2 b zq zt W hc l1 l2 S1 S2)
                        have DN1 := Lib.hid (fun (h : zq = []) (d : Nat) (b : Option Addr) (W : World) S2 => dist_none d b zq zt W o1 h l2 S2)
                        have DN2 := Lib.hid (fun (h : zq = []) (d : Nat) (b : Option Addr) (W : World) S2 => dist_none d b zq zt W o2 h l2 S2)
                        generalize rest_ zq zt o1 = R1 at *
                        generalize rest_ zq zt o2 = R2 at *
                        have eR1 : IntKind.i64.wrap ((d1 : Int) + (R1 : Int)) = (d1 : Int) + (R1 : Int) := by rw [IntKind.wrap_i64]; omega
                        have eR2 : IntKind.i64.wrap ((d2 : Int) + (R2 : Int)) = (d2 : Int) + (R2 : Int) := by rw [IntKind.wrap_i64]; omega
                        have PI : (d1 : Int) + (R1 : Int) ≤ (d2 : Int) + (R2 : Int) := by have := PP.out; omega
                        go_enter Try.func7, Try.ntmps7
                        subst hw0
                        go_wp2_with (first
                          | (go_at_call 17; with_reducible show Calls _ _ #[.slice s2 _ _, _] _ _; refine CQ.out.mono ?_
                             rintro e w1 ⟨g1, hb1⟩
                             obtain ⟨aq, cq, rfl, sq, sc, sn⟩ : ∃ a c, e = .returned (.tuple #[.slice a zq.length c, .bool true]) ∧ Sl w1 w1.heap.size a (zq.map (.int .i64)) ∧ zq.length ≤ c ∧ (a = none → zq.length = 0 ∧ c = 0) := g1
                             have SN := Lib.hid sn
                             clear sn)
                          | (go_at_call 17; with_reducible show Calls _ _ #[.slice s3 _ _, _] _ _; refine (CT.out _ hb1).mono ?_
                             rintro e w2 ⟨g2, hb2⟩
                             obtain ⟨at_, ct, rfl, st, -⟩ : ∃ a c, e = .returned (.tuple #[.slice a zt.length c, .bool true]) ∧ Sl w2 w2.heap.size a (zt.map (.int .i64)) ∧ zt.length ≤ c ∧ (a = none → zt.length = 0 ∧ c = 0) := g2
                             have hb := hb1.trans (hb2.mono hb1.size)
                             obtain ⟨k0, k1, k2⟩ := cells3 (B0.out.below hb B0.out.lt)
                             obtain ⟨k3, k4, k5⟩ := cells3 (B1.out.below hb B1.out.lt)
                             have BB0 := Lib.hid (B0.out.below hb B0.out.lt)
                             have BB1 := Lib.hid (B1.out.below hb B1.out.lt)
                             have HB2 : Hid (Below w.heap.size w w2) := Lib.hid (HW.out.trans (hb.mono HW.out.size))
                             have SQ := Lib.hid ((sq.below hb2).more hb2.size)
                             have ST := Lib.hid st
                             clear hb hb1 hb2)
                          | (go_at_call 18; refine (CI.out _).mono ?_
                             rintro e w3 ⟨rfl, hb3⟩
                             obtain ⟨n0, n1, n2⟩ := cells3 (BB0.out.below hb3 BB0.out.lt)
                             obtain ⟨n3, n4, n5⟩ := cells3 (BB1.out.below hb3 BB1.out.lt)
                             have HB3 : Hid (Below w.heap.size w w3) := Lib.hid (HB2.out.trans (hb3.mono HB2.out.size))
                             have BC0 := Lib.hid (BB0.out.below hb3 BB0.out.lt)
                             have BC1 := Lib.hid (BB1.out.below hb3 BB1.out.lt)
                             have SQ3 := Lib.hid ((SQ.out.below hb3).more hb3.size)
                             have ST3 := Lib.hid ((ST.out.below hb3).more hb3.size)
                             clear hb3))
                        cases aq with
                        | some ad =>
                          obtain ⟨P1, hP1⟩ : ∃ P, (if cq = o1 then some ad else some (ad.add o1)) = P := ⟨_, rfl⟩
                          obtain ⟨P2, hP2⟩ : ∃ P, (if cq = o2 then some ad else some (ad.add o2)) = P := ⟨_, rfl⟩
                          have DA' := Lib.hid (DA.out ad cq sc)
                          have DB' := Lib.hid (DB.out ad cq sc)
                          rw [hP1] at DA'
                          rw [hP2] at DB'
                          go_region_held3 (fun W => W.cell? ⟨w.heap.size, 0, none⟩ = some (.int .u32 o1) ∧ W.cell? ⟨w.heap.size, 1, none⟩ = some (.int .u8 d1) ∧ W.cell? ⟨w.heap.size + 1, 0, none⟩ = some (.int .u32 o2) ∧ W.cell? ⟨w.heap.size + 1, 1, none⟩ = some (.int .u8 d2)) (first | (refine ⟨?_, ?_, ?_, ?_⟩ <;> assumption) | go_keep)
                            (first
                              | (go_at_call 19; (with_reducible show Calls _ _ _ (World.drew w3) _); refine (DA'.out _ _ at_ w3.drew (SQ3.out.below (Below.refl _ _).drew) (ST3.out.below (Below.refl _ _).drew)).mono ?_
                                 rintro e w4 ⟨rfl, hb4⟩
                                 obtain ⟨m0, m1, m2⟩ := cells3 (BC0.out.drew.below hb4 BC0.out.lt)
                                 obtain ⟨m3, m4, m5⟩ := cells3 (BC1.out.drew.below hb4 BC1.out.lt)
                                 have HB4 : Hid (Below w.heap.size w w4) := Lib.hid (HB3.out.drew.trans (hb4.mono HB3.out.size))
                                 have SQ4 := Lib.hid ((SQ3.out.below (Below.refl _ _).drew).below hb4 |>.more hb4.size)
                                 have ST4 := Lib.hid ((ST3.out.below (Below.refl _ _).drew).below hb4 |>.more hb4.size)
                                 have BE0 := Lib.hid (BC0.out.drew.below hb4 BC0.out.lt)
                                 have BE1 := Lib.hid (BC1.out.drew.below hb4 BC1.out.lt))
                              | (go_at_call 19; (with_reducible show Calls _ _ _ w4 _); refine (DB'.out _ _ at_ w4 SQ4.out ST4.out).mono ?_
                                 rintro e w5 ⟨rfl, hb5⟩
                                 obtain ⟨y0, y1, y2⟩ := cells3 (BE0.out.below hb5 BE0.out.lt)
                                 obtain ⟨y3, y4, y5⟩ := cells3 (BE1.out.below hb5 BE1.out.lt)
                                 have HB5 : Hid (Below w.heap.size w w5) := Lib.hid (HB4.out.trans (hb5.mono HB4.out.size))))
                          go_wp2_with fail
                          go_returns
                          exact ⟨rfl, HB5.out⟩
                        | none =>
                          obtain ⟨z0, z1⟩ := SN.out rfl
                          have hz : zq = [] := List.eq_nil_of_length_eq_zero z0
                          have DC1 := Lib.hid (DN1.out hz)
                          have DC2 := Lib.hid (DN2.out hz)
                          clear DA DB DN1 DN2 SN SQ SQ3 CQ HR1 HR2 hz
                          subst z1
                          generalize zq.length = nq at *
                          subst z0
                          obtain rfl : o1 = 0 := by omega
                          obtain rfl : o2 = 0 := by omega
                          go_region_held3 (fun W => W.cell? ⟨w.heap.size, 0, none⟩ = some (.int .u32 ((0 : Nat) : Int)) ∧ W.cell? ⟨w.heap.size, 1, none⟩ = some (.int .u8 d1) ∧ W.cell? ⟨w.heap.size + 1, 0, none⟩ = some (.int .u32 ((0 : Nat) : Int)) ∧ W.cell? ⟨w.heap.size + 1, 1, none⟩ = some (.int .u8 d2)) (first | (refine ⟨?_, ?_, ?_, ?_⟩ <;> assumption) | go_keep)
                            (first
                              | (go_at_call 19; (with_reducible show Calls _ _ _ (World.drew w3) _); refine (DC1.out _ at_ w3.drew (ST3.out.below (Below.refl _ _).drew)).mono ?_
                                 rintro e w4 ⟨rfl, hb4⟩
                                 obtain ⟨m0, m1, m2⟩ := cells3 (BC0.out.drew.below hb4 BC0.out.lt)
                                 obtain ⟨m3, m4, m5⟩ := cells3 (BC1.out.drew.below hb4 BC1.out.lt)
                                 have HB4 : Hid (Below w.heap.size w w4) := Lib.hid (HB3.out.drew.trans (hb4.mono HB3.out.size))
                                 have ST4 := Lib.hid ((ST3.out.below (Below.refl _ _).drew).below hb4 |>.more hb4.size)
                                 have BE0 := Lib.hid (BC0.out.drew.below hb4 BC0.out.lt)
                                 have BE1 := Lib.hid (BC1.out.drew.below hb4 BC1.out.lt))
                              | (go_at_call 19; (with_reducible show Calls _ _ _ w4 _); refine (DC2.out _ at_ w4 ST4.out).mono ?_
                                 rintro e w5 ⟨rfl, hb5⟩
                                 obtain ⟨y0, y1, y2⟩ := cells3 (BE0.out.below hb5 BE0.out.lt)
                                 obtain ⟨y3, y4, y5⟩ := cells3 (BE1.out.below hb5 BE1.out.lt)
                                 have HB5 : Hid (Below w.heap.size w w5) := Lib.hid (HB4.out.trans (hb5.mono HB4.out.size))))
                          go_wp2_with fail
                          go_returns
                          exact ⟨rfl, HB5.out⟩
                      · rw [decide_eq_false I] at CI
                        have Ii : ¬ (d1 : Int) + (G : Int) ≤ (d2 : Int) := by omega
                        go_enter Try.func7, Try.ntmps7
                        subst hw0
                        go_wp2_with (first
                          | (go_at_call 17; with_reducible show Calls _ _ #[.slice s2 _ _, _] _ _; refine CQ.out.mono ?_
                             rintro e w1 ⟨g1, hb1⟩
                             obtain ⟨aq, cq, rfl, sq, sc, sn⟩ : ∃ a c, e = .returned (.tuple #[.slice a zq.length c, .bool true]) ∧ Sl w1 w1.heap.size a (zq.map (.int .i64)) ∧ zq.length ≤ c ∧ (a = none → zq.length = 0 ∧ c = 0) := g1
                             have SN := Lib.hid sn
                             clear sn)
                          | (go_at_call 17; with_reducible show Calls _ _ #[.slice s3 _ _, _] _ _; refine (CT.out _ hb1).mono ?_
                             rintro e w2 ⟨g2, hb2⟩
                             obtain ⟨at_, ct, rfl, st, -⟩ : ∃ a c, e = .returned (.tuple #[.slice a zt.length c, .bool true]) ∧ Sl w2 w2.heap.size a (zt.map (.int .i64)) ∧ zt.length ≤ c ∧ (a = none → zt.length = 0 ∧ c = 0) := g2
                             have hb := hb1.trans (hb2.mono hb1.size)
                             obtain ⟨k0, k1, k2⟩ := cells3 (B0.out.below hb B0.out.lt)
                             obtain ⟨k3, k4, k5⟩ := cells3 (B1.out.below hb B1.out.lt)
                             have BB0 := Lib.hid (B0.out.below hb B0.out.lt)
                             have BB1 := Lib.hid (B1.out.below hb B1.out.lt)
                             have HB2 : Hid (Below w.heap.size w w2) := Lib.hid (HW.out.trans (hb.mono HW.out.size))
                             have SQ := Lib.hid ((sq.below hb2).more hb2.size)
                             have ST := Lib.hid st
                             clear hb hb1 hb2)
                          | (go_at_call 18; refine (CI.out _).mono ?_
                             rintro e w3 ⟨rfl, hb3⟩
                             obtain ⟨n0, n1, n2⟩ := cells3 (BB0.out.below hb3 BB0.out.lt)
                             obtain ⟨n3, n4, n5⟩ := cells3 (BB1.out.below hb3 BB1.out.lt)
                             have HB3 : Hid (Below w.heap.size w w3) := Lib.hid (HB2.out.trans (hb3.mono HB2.out.size))
                             have BC0 := Lib.hid (BB0.out.below hb3 BB0.out.lt)
                             have BC1 := Lib.hid (BB1.out.below hb3 BB1.out.lt)
                             have SQ3 := Lib.hid ((SQ.out.below hb3).more hb3.size)
                             have ST3 := Lib.hid ((ST.out.below hb3).more hb3.size)
                             clear hb3))
                        go_quiet (fail)
                        go_wp2_with fail
                        go_returns
                        exact ⟨rfl, below_drewN HB3.out _⟩
                    · have r4i : ((100 : Int) < (d2 : Int)) := by omega
                      go_enter Try.func7, Try.ntmps7
                      subst hw0
                      go_wp2_with (first
                        | (go_at_call 17; with_reducible show Calls _ _ #[.slice s2 _ _, _] _ _; refine CQ.out.mono ?_
                           rintro e w1 ⟨g1, hb1⟩
                           obtain ⟨aq, cq, rfl, sq, sc, sn⟩ : ∃ a c, e = .returned (.tuple #[.slice a zq.length c, .bool true]) ∧ Sl w1 w1.heap.size a (zq.map (.int .i64)) ∧ zq.length ≤ c ∧ (a = none → zq.length = 0 ∧ c = 0) := g1
                           have SN := Lib.hid sn
                           clear sn)
                        | (go_at_call 17; with_reducible show Calls _ _ #[.slice s3 _ _, _] _ _; refine (CT.out _ hb1).mono ?_
                           rintro e w2 ⟨g2, hb2⟩
                           obtain ⟨at_, ct, rfl, st, -⟩ : ∃ a c, e = .returned (.tuple #[.slice a zt.length c, .bool true]) ∧ Sl w2 w2.heap.size a (zt.map (.int .i64)) ∧ zt.length ≤ c ∧ (a = none → zt.length = 0 ∧ c = 0) := g2
                           have hb := hb1.trans (hb2.mono hb1.size)
                           obtain ⟨k0, k1, k2⟩ := cells3 (B0.out.below hb B0.out.lt)
                           obtain ⟨k3, k4, k5⟩ := cells3 (B1.out.below hb B1.out.lt)
                           have BB0 := Lib.hid (B0.out.below hb B0.out.lt)
                           have BB1 := Lib.hid (B1.out.below hb B1.out.lt)
                           have HB2 : Hid (Below w.heap.size w w2) := Lib.hid (HW.out.trans (hb.mono HW.out.size))
                           have SQ := Lib.hid ((sq.below hb2).more hb2.size)
                           have ST := Lib.hid st
                           clear hb hb1 hb2))
                      go_returns
                      exact ⟨rfl, HB2.out⟩
                  · have r3i : ((100 : Int) < (d1 : Int)) := by omega
                    go_enter Try.func7, Try.ntmps7
                    subst hw0
                    go_wp2_with (first
                      | (go_at_call 17; with_reducible show Calls _ _ #[.slice s2 _ _, _] _ _; refine CQ.out.mono ?_
                         rintro e w1 ⟨g1, hb1⟩
                         obtain ⟨aq, cq, rfl, sq, sc, sn⟩ : ∃ a c, e = .returned (.tuple #[.slice a zq.length c, .bool true]) ∧ Sl w1 w1.heap.size a (zq.map (.int .i64)) ∧ zq.length ≤ c ∧ (a = none → zq.length = 0 ∧ c = 0) := g1
                         have SN := Lib.hid sn
                         clear sn)
                      | (go_at_call 17; with_reducible show Calls _ _ #[.slice s3 _ _, _] _ _; refine (CT.out _ hb1).mono ?_
                         rintro e w2 ⟨g2, hb2⟩
                         obtain ⟨at_, ct, rfl, st, -⟩ : ∃ a c, e = .returned (.tuple #[.slice a zt.length c, .bool true]) ∧ Sl w2 w2.heap.size a (zt.map (.int .i64)) ∧ zt.length ≤ c ∧ (a = none → zt.length = 0 ∧ c = 0) := g2
                         have hb := hb1.trans (hb2.mono hb1.size)
                         obtain ⟨k0, k1, k2⟩ := cells3 (B0.out.below hb B0.out.lt)
                         obtain ⟨k3, k4, k5⟩ := cells3 (B1.out.below hb B1.out.lt)
                         have BB0 := Lib.hid (B0.out.below hb B0.out.lt)
                         have BB1 := Lib.hid (B1.out.below hb B1.out.lt)
                         have HB2 : Hid (Below w.heap.size w w2) := Lib.hid (HW.out.trans (hb.mono HW.out.size))
                         have SQ := Lib.hid ((sq.below hb2).more hb2.size)
                         have ST := Lib.hid st
                         clear hb hb1 hb2))
                    go_returns
                    exact ⟨rfl, HB2.out⟩
            · have r2i : ((zq.length : Int) < (o2 : Int)) := by omega
              go_enter Try.func7, Try.ntmps7
              subst hw0
              go_wp2_with (first
                | (go_at_call 17; with_reducible show Calls _ _ #[.slice s2 _ _, _] _ _; refine CQ.out.mono ?_
                   rintro e w1 ⟨g1, hb1⟩
                   obtain ⟨aq, cq, rfl, sq, sc, sn⟩ : ∃ a c, e = .returned (.tuple #[.slice a zq.length c, .bool true]) ∧ Sl w1 w1.heap.size a (zq.map (.int .i64)) ∧ zq.length ≤ c ∧ (a = none → zq.length = 0 ∧ c = 0) := g1
                   have SN := Lib.hid sn
                   clear sn)
                | (go_at_call 17; with_reducible show Calls _ _ #[.slice s3 _ _, _] _ _; refine (CT.out _ hb1).mono ?_
                   rintro e w2 ⟨g2, hb2⟩
                   obtain ⟨at_, ct, rfl, st, -⟩ : ∃ a c, e = .returned (.tuple #[.slice a zt.length c, .bool true]) ∧ Sl w2 w2.heap.size a (zt.map (.int .i64)) ∧ zt.length ≤ c ∧ (a = none → zt.length = 0 ∧ c = 0) := g2
                   have hb := hb1.trans (hb2.mono hb1.size)
                   obtain ⟨k0, k1, k2⟩ := cells3 (B0.out.below hb B0.out.lt)
                   obtain ⟨k3, k4, k5⟩ := cells3 (B1.out.below hb B1.out.lt)
                   have BB0 := Lib.hid (B0.out.below hb B0.out.lt)
                   have BB1 := Lib.hid (B1.out.below hb B1.out.lt)
                   have HB2 : Hid (Below w.heap.size w w2) := Lib.hid (HW.out.trans (hb.mono HW.out.size))
                   have SQ := Lib.hid ((sq.below hb2).more hb2.size)
                   have ST := Lib.hid st
                   clear hb hb1 hb2))
              go_returns
              exact ⟨rfl, HB2.out⟩
          · have r1i : ((zq.length : Int) < (o1 : Int)) := by omega
            go_enter Try.func7, Try.ntmps7
            subst hw0
            go_wp2_with (first
              | (go_at_call 17; with_reducible show Calls _ _ #[.slice s2 _ _, _] _ _; refine CQ.out.mono ?_
                 rintro e w1 ⟨g1, hb1⟩
                 obtain ⟨aq, cq, rfl, sq, sc, sn⟩ : ∃ a c, e = .returned (.tuple #[.slice a zq.length c, .bool true]) ∧ Sl w1 w1.heap.size a (zq.map (.int .i64)) ∧ zq.length ≤ c ∧ (a = none → zq.length = 0 ∧ c = 0) := g1
                 have SN := Lib.hid sn
                 clear sn)
              | (go_at_call 17; with_reducible show Calls _ _ #[.slice s3 _ _, _] _ _; refine (CT.out _ hb1).mono ?_
                 rintro e w2 ⟨g2, hb2⟩
                 obtain ⟨at_, ct, rfl, st, -⟩ : ∃ a c, e = .returned (.tuple #[.slice a zt.length c, .bool true]) ∧ Sl w2 w2.heap.size a (zt.map (.int .i64)) ∧ zt.length ≤ c ∧ (a = none → zt.length = 0 ∧ c = 0) := g2
                 have hb := hb1.trans (hb2.mono hb1.size)
                 obtain ⟨k0, k1, k2⟩ := cells3 (B0.out.below hb B0.out.lt)
                 obtain ⟨k3, k4, k5⟩ := cells3 (B1.out.below hb B1.out.lt)
                 have BB0 := Lib.hid (B0.out.below hb B0.out.lt)
                 have BB1 := Lib.hid (B1.out.below hb B1.out.lt)
                 have HB2 : Hid (Below w.heap.size w w2) := Lib.hid (HW.out.trans (hb.mono HW.out.size))
                 have SQ := Lib.hid ((sq.below hb2).more hb2.size)
                 have ST := Lib.hid st
                 clear hb hb1 hb2))
            go_returns
            exact ⟨rfl, HB2.out⟩
    · go_enter Try.func7, Try.ntmps7
      subst hw0
      go_wp2
      go_returns
      exact ⟨rfl, HW.out⟩
  · go_enter Try.func7, Try.ntmps7
    subst hw0
    go_wp2
    go_returns
    exact ⟨rfl, HW.out⟩

end Go.Proofs.Ytpmkkajbmdoflab.fnImplies
