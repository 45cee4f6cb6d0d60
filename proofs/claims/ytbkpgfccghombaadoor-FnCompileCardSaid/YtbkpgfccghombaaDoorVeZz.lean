/-
  FnCompile: the law's walk. Conditions: the listed variables.
-/
import Derived.Test.YtbkpgfccghombaaDoorM22
import Derived.Test.YtbkpgfccghombaaDoorM10
import Derived.Test.YtbkpgfccghombaaDoorWzZz
import Derived.Test.YtbkpgfccghombaaDoorM23
import Derived.Deep.RegionHeld3
namespace Go.Proofs.YtbkpgfccghombaaDoor.rx
open Go.ChangeShapes Go.WideShapes Go.ChangeAt Go.RowKit
set_option linter.unusedVariables false
set_option linter.unusedSimpArgs false

theorem box_at {w w1 : World} {N : Nat} {v0 v1 v2 v3 v4 v5 v6 : Value} {t : TypeId} {l : List Value} (hl : l.length = 7) (h : Blk w N t l) : Blk (((((((w.setCell ⟨N, 0, none⟩ v0).setCell ⟨N, 1, none⟩ v1).setCell ⟨N, 2, none⟩ v2).setCell ⟨N, 3, none⟩ v3).setCell ⟨N, 4, none⟩ v4).setCell ⟨N, 5, none⟩ v5).setCell ⟨N, 6, none⟩ v6) N t [v0, v1, v2, v3, v4, v5, v6] := by
  match l, hl with
  | [a, b, c, d, e, f, g], _ => exact ((((((h.set_ 0 v0).set_ 1 v1).set_ 2 v2).set_ 3 v3).set_ 4 v4).set_ 5 v5).set_ 6 v6
theorem below_set7 {w w0 : World} {B N : Nat} {v0 v1 v2 v3 v4 v5 v6 : Value} (h : Below B w0 w) (hN : B ≤ N) : Below B w0 (((((((w.setCell ⟨N, 0, none⟩ v0).setCell ⟨N, 1, none⟩ v1).setCell ⟨N, 2, none⟩ v2).setCell ⟨N, 3, none⟩ v3).setCell ⟨N, 4, none⟩ v4).setCell ⟨N, 5, none⟩ v5).setCell ⟨N, 6, none⟩ v6) :=
  ((((((h.setCell (p := ⟨N, 0, none⟩) hN v0).setCell (p := ⟨N, 1, none⟩) hN v1).setCell (p := ⟨N, 2, none⟩) hN v2).setCell (p := ⟨N, 3, none⟩) hN v3).setCell (p := ⟨N, 4, none⟩) hN v4).setCell (p := ⟨N, 5, none⟩) hN v5).setCell (p := ⟨N, 6, none⟩) hN v6
theorem byL_pre (u : ByteArray) (i : Nat) : byL (u.extract 0 i) = (byL u).take i := by rw [byL_ext, List.drop_zero]
theorem sz_byL {u : ByteArray} {l : List Int} (h : byL u = l) : u.size = l.length := by rw [← h, byL_len]
set_option maxRecDepth 100000 in
theorem few_big (t : ByteArray) (m : Nat) (w : World) (hm : m ≤ 1000) (ht : t.size ≤ 9223372036854775807) : Calls Tryd.prog 11 #[.string t, .int .i64 m] w fun e w' => ∃ u, e = .returned (.string u) ∧ byL u = (byL t).take m ∧ w = w' := by
  by_cases h : t.size ≤ m
  · go_enter Tryd.func11, Tryd.ntmps11
    go_wp2
    go_ret
    exact ⟨t, rfl, by rw [List.take_of_length_le (by rw [byL_len]; exact h)], rfl⟩
  · have hlt : m < t.size := by omega
    go_enter Tryd.func11, Tryd.ntmps11
    go_wp2
    go_ret
    exact ⟨_, rfl, by rw [byL_ext]; rfl, rfl⟩
set_option maxRecDepth 100000 in
set_option maxHeartbeats 1600000 in
theorem compile_walk (cs : List Value) (t : ByteArray) (W : World) {a0 a1 a2 a3 : Addr} (hR : ∀ n, RawC W W.heap.size n cs) (hNs : Nils W) (hE : Errs W a0 a1 a2 a3) (ht : t.size ≤ 9223372036854775807) :
    Calls Tryd.prog 3 #[.agg cs.toArray, .string t] W fun e w' => e = .returned (.bool true) ∧ Below W.heap.size W w' := by
  have hR5 := Lib.hid (hR 5)
  obtain ⟨op, mn, mx, lz, fo, ra, rc, sa, sc, rs, ls, rfl, -, -⟩ := hR 1
  have HNS := Lib.hid hNs
  have HE := Lib.hid hE
  clear hR hNs hE
  have HB := Lib.hid (Bx.new W (rwc op mn mx lz fo ra rs.length rc sa ls.length sc))
  have CF := Lib.hid (fun w => fits_any op mn mx lz fo ra rs.length rc sa ls.length sc w)
  have CWD := Lib.hid (fun w => wide_any op mn mx lz fo ra rs.length rc sa ls.length sc w)
  have CX := Lib.hid (fun w (hb : Below W.heap.size W w) => exp_ok 5 (by omega) (by omega) w _ (RawC.keep (fun p hp => hb.cell hp) hb.size 5 _ hR5.out))
  have CFW := Lib.hid (fun w => few_big t 40 w (by omega) ht)
  clear hR5
  generalize hbf : decide (rs.length ≤ 2147483647 ∧ ls.length ≤ 2147483647) = bf at *
  clear hbf
  unfold rwc at *
  by_cases htl : (2147483647 : Int) < (t.size : Int)
  · go_enter Tryd.func3, Tryd.ntmps3
    go_wp2_with (first | (go_at_call 8; refine (CF.out _).mono ?_; rintro e w2 ⟨rfl, h2⟩; have HB2 := Lib.hid (HB.out.go h2); clear h2; cases bf) | fail)
    all_goals
      go_ret
      exact ⟨rfl, HB2.out.l⟩
  cases bf with
  | false =>
    go_enter Tryd.func3, Tryd.ntmps3
    go_wp2_with (first | (go_at_call 8; refine (CF.out _).mono ?_; rintro e w2 ⟨rfl, h2⟩; have HB2 := Lib.hid (HB.out.go h2); clear h2) | fail)
    all_goals
      go_ret
      exact ⟨rfl, HB2.out.l⟩
  | true =>
  go_enter Tryd.func3, Tryd.ntmps3
  go_upto_region 3 with (first | (go_at_call 8; refine (CF.out _).mono ?_; rintro e w2 ⟨rfl, h2⟩; have HB2 := Lib.hid (HB.out.go h2); clear h2) | fail)
  have e0 := HB2.out.b.cell 0
  have e1 := HB2.out.b.cell 1
  have e2 := HB2.out.b.cell 2
  have e3 := HB2.out.b.cell 3
  have e4 := HB2.out.b.cell 4
  have e5 := HB2.out.b.cell 5
  have e6 := HB2.out.b.cell 6
  simp only [List.getElem?_cons_zero, List.getElem?_cons_succ] at e0 e1 e2 e3 e4 e5 e6
  go_upto_region 5 with (first | (go_at_call 9; refine (CWD.out _).mono ?_; rintro e w3 ⟨b, rfl, h3⟩; have HB3 := Lib.hid (HB2.out.go h3); clear h3 e0 e1 e2 e3 e4 e5 e6; cases b) | fail)
  · go_wp2
    go_ret
    exact ⟨rfl, HB3.out.l⟩
  have e0 := HB3.out.b.cell 0
  have e1 := HB3.out.b.cell 1
  have e2 := HB3.out.b.cell 2
  have e3 := HB3.out.b.cell 3
  have e4 := HB3.out.b.cell 4
  have e5 := HB3.out.b.cell 5
  have e6 := HB3.out.b.cell 6
  simp only [List.getElem?_cons_zero, List.getElem?_cons_succ] at e0 e1 e2 e3 e4 e5 e6
  go_upto_region 6 with (first | (go_at_call 10; refine (CX.out w3 HB3.out.l).mono ?_; rintro e w4 ⟨r, cs4, rfl, hwf, hrg, hb4⟩; have HWF := Lib.hid hwf; have HRG := Lib.hid (RgO.toC 5 r cs4 hrg); have HB4 := Lib.hid (HB3.out.l.trans (hb4.mono HB3.out.l.size)); obtain ⟨o4, m4, x4, ra4, rn4, rc4, sa4, sn4, sc4, rfl⟩ := hrg.form; unfold rxc at *; clear hwf hrg hb4 e0 e1 e2 e3 e4 e5 e6 CX CF CWD) | (go_at_call 11; refine (CFW.out _).mono ?_; rintro e w5 ⟨u, rfl, hu, rfl⟩; have HU := Lib.hid hu; clear hu CFW) | fail)
  refine name_world ?_
  intro w6 hw6
  have K6 := Lib.hid (show Blk w6 w4.heap.size 25 [.int .i64 o4, .slice ra4 rn4 rc4, .int .i64 m4, .int .i64 x4, .bool false, .bool false, .slice sa4 sn4 sc4] from by rw [hw6]; exact Blk.new w4 _ [.int .i64 o4, .slice ra4 rn4 rc4, .int .i64 m4, .int .i64 x4, .bool false, .bool false, .slice sa4 sn4 sc4])
  have L6 := Lib.hid (show Below w4.heap.size w4 w6 from by rw [hw6]; exact (Below.refl _ _).alloc (Nat.le_refl _) _)
  clear hw6
  have HW6 := Lib.hid (HB4.out.trans (L6.out.mono HB4.out.size))
  have RG6 := Lib.hid ((HRG.out.below L6.out).more L6.out.size)
  have husz : u.size ≤ 40 := by have := sz_byL HU.out; rw [this, List.length_take]; omega
  have CM := Lib.hid (modest_any w6 r _ RG6.out HWF.out)
  have KK := Lib.hid (fun (w : World) (hb : Below w6.heap.size w6 w) => show Blk w w4.heap.size 25 [.int .i64 o4, .slice ra4 rn4 rc4, .int .i64 m4, .int .i64 x4, .bool false, .bool false, .slice sa4 sn4 sc4] from K6.out.below hb K6.out.lt)
  clear HB3 HB2 HB HRG L6
  generalize hmd : decide (plc 5 r ≤ 160) = md at *
  clear hmd
  have e0 := K6.out.cell 0
  have e1 := K6.out.cell 1
  have e2 := K6.out.cell 2
  have e3 := K6.out.cell 3
  have e4 := K6.out.cell 4
  have e5 := K6.out.cell 5
  have e6 := K6.out.cell 6
  simp only [List.getElem?_cons_zero, List.getElem?_cons_succ] at e0 e1 e2 e3 e4 e5 e6
  go_upto_region 8 with (first | (go_at_call 12; refine CM.out.mono ?_; rintro e w7 ⟨rfl, h7⟩; have H7 := Lib.hid h7; clear h7 e0 e1 e2 e3 e4 e5 e6 CM; cases md) | fail)
  · go_wp2
    go_ret
    exact ⟨rfl, HW6.out.trans (H7.out.mono HW6.out.size)⟩
  have HW7 := Lib.hid (HW6.out.trans (H7.out.mono HW6.out.size))
  have RG7 := Lib.hid ((RG6.out.below H7.out).more H7.out.size)
  have CP0 := prog_any 10485760 r _ w7 RG7.out HWF.out (Nat.le_trans (comp_le r 0 HWF.out) (by omega)) (by omega) (HNS.out.below HW7.out HE.out.big) (HE.out.below HW7.out)
  unfold Told at CP0
  obtain ⟨P, hP⟩ : ∃ P, P = comp 5 0 r ++ [Ins.mt] := ⟨_, rfl⟩
  rw [← hP] at CP0
  have CP := Lib.hid CP0
  have HP := Lib.hid hP
  have hPl : P.length ≤ 1000000000000 := by
    have := comp_le r 0 HWF.out
    rw [hP, List.length_append]
    simp
    omega
  have hP0 : 0 < P.length := by rw [hP]; simp
  clear CP0 hP
  have e0 := (KK.out w7 H7.out).cell 0
  have e1 := (KK.out w7 H7.out).cell 1
  have e2 := (KK.out w7 H7.out).cell 2
  have e3 := (KK.out w7 H7.out).cell 3
  have e4 := (KK.out w7 H7.out).cell 4
  have e5 := (KK.out w7 H7.out).cell 5
  have e6 := (KK.out w7 H7.out).cell 6
  simp only [List.getElem?_cons_zero, List.getElem?_cons_succ] at e0 e1 e2 e3 e4 e5 e6
  go_upto_region 9 with (first | (go_at_call 13; refine CP.out.mono ?_; rintro e w8 ⟨hb8, ⟨hok, a8, c8, rfl, h8⟩ | ⟨hok, rfl⟩⟩) | fail)
  rotate_left
  · have H8 := Lib.hid (H7.out.trans (hb8.mono H7.out.size))
    have HOK := Lib.hid hok
    clear hb8 hok CP e0 e1 e2 e3 e4 e5 e6
    have HS5 := Lib.hid (show ¬ plc 5 r ≤ 5 from fun h => HOK.out (small_fits r HWF.out h))
    have CR0 := refused_any w8 r _ 4 ((RG6.out.below H8.out).more H8.out.size) HWF.out (.inl rfl)
    rw [decide_eq_false HS5.out] at CR0
    have CR := Lib.hid CR0
    clear CR0
    have e0 := (KK.out w8 H8.out).cell 0
    have e1 := (KK.out w8 H8.out).cell 1
    have e2 := (KK.out w8 H8.out).cell 2
    have e3 := (KK.out w8 H8.out).cell 3
    have e4 := (KK.out w8 H8.out).cell 4
    have e5 := (KK.out w8 H8.out).cell 5
    have e6 := (KK.out w8 H8.out).cell 6
    simp only [List.getElem?_cons_zero, List.getElem?_cons_succ] at e0 e1 e2 e3 e4 e5 e6
    go_wp2_with (first | (go_at_call 14; refine CR.out.mono ?_; rintro e w9 ⟨rfl, h9⟩; have H9 := Lib.hid h9; clear h9) | fail)
    go_ret
    exact ⟨rfl, HW6.out.trans ((H8.out.trans (H9.out.mono H8.out.size)).mono HW6.out.size)⟩
  · have H8 := Lib.hid (H7.out.trans (hb8.mono H7.out.size))
    have S8 := Lib.hid h8
    clear hb8 hok CP h8 e0 e1 e2 e3 e4 e5 e6
    have HSN := Lib.hid (show Snd P from by rw [HP.out]; exact prg_snd HWF.out)
    have CS := Lib.hid (sound_any P (some a8) c8 w8 S8.out HSN.out hP0 hPl)
    have CRN := Lib.hid (run_any P (some a8) c8 u w8 S8.out HSN.out hP0 hPl (by omega))
    have HMT := Lib.hid (show ∀ v, mtAt P v = true ↔ lang 5 r v from by rw [HP.out]; exact prg_match HWF.out)
    have HCN := Lib.hid (show ∀ v, cnAt P v = true ↔ ∃ v2, lang 5 r (v ++ v2) from by rw [HP.out]; exact prg_can HWF.out)
    have HL1 := Lib.hid (show (mtL P (byL u)).length = u.size + 1 from by simp [mtL, byL_len])
    have HL2 := Lib.hid (show (cnL P (byL u)).length = u.size + 1 from by simp [cnL, byL_len])
    go_upto_region 14 with (first | (go_at_call 15; refine CS.out.mono ?_; rintro e w9 ⟨rfl, rfl⟩) | (go_at_call 16; refine CRN.out.mono ?_; rintro e w9 ⟨v1, v2, rfl, ⟨g1, c1, rest1, rfl, -, k1⟩, ⟨g2, c2, rest2, rfl, -, k2⟩, hb9⟩; have K1 := Lib.hid k1; have K2 := Lib.hid k2; have HB9 := Lib.hid (H8.out.trans (hb9.mono H8.out.size)); clear k1 k2 hb9 CS CRN) | fail)
    rw [HL1.out, HL2.out]
    have HW9 := Lib.hid (HW6.out.trans (HB9.out.mono HW6.out.size))
    go_wp2_with fail
    go_loopw [11] (fun v11 wr => ∃ i : Nat, i ≤ u.size + 1 ∧ v11 = .int .i64 i ∧ Hid (Below w9.heap.size w9 wr)) (fun v11 _ => u.size + 1 - (intOf v11).toNat)
    case atStart => exact ⟨0, by omega, rfl, Lib.hid (Below.refl _ _)⟩
    case round =>
      obtain ⟨i, hi, rfl, HBr⟩ := hrel
      have HW := Lib.hid (HW9.out.trans (HBr.out.mono HW9.out.size))
      by_cases hlt : i ≤ u.size
      · have hi1 : i < u.size + 1 := by omega
        have hi2 : i < (byL u).length + 1 := by rw [byL_len]; exact hi1
        obtain ⟨y, hy⟩ : ∃ y, y = mtAt P ((byL u).take i) := ⟨_, rfl⟩
        obtain ⟨z, hz⟩ : ∃ z, z = cnAt P ((byL u).take i) := ⟨_, rfl⟩
        have HY := Lib.hid (show y = true ↔ lang 5 r (byL (u.extract 0 i)) from by rw [hy, byL_pre]; exact HMT.out _)
        have HZ := Lib.hid (show z = true ↔ ∃ v2, lang 5 r (byL (u.extract 0 i) ++ v2) from by rw [hz, byL_pre]; exact HCN.out _)
        have X1 : ((mtL P (byL u)).map Value.bool ++ rest1)[i]? = some (.bool y) := by
          rw [List.getElem?_append_left (by rw [List.length_map, HL1.out]; exact hi1), List.getElem?_map]
          unfold mtL
          rw [List.getElem?_map, List.getElem?_range hi2, hy]
          rfl
        have X2 : ((cnL P (byL u)).map Value.bool ++ rest2)[i]? = some (.bool z) := by
          rw [List.getElem?_append_left (by rw [List.length_map, HL2.out]; exact hi1), List.getElem?_map]
          unfold cnL
          rw [List.getElem?_map, List.getElem?_range hi2, hz]
          rfl
        have KS := Lib.hid (show ∀ W' : World, Below w9.heap.size w9 W' → (fun W => W.cell? ⟨g1, i, none⟩ = some (.bool y) ∧ W.cell? ⟨g2, i, none⟩ = some (.bool z) ∧ W.cell? ⟨w4.heap.size, 0, none⟩ = some (.int .i64 o4) ∧ W.cell? ⟨w4.heap.size, 1, none⟩ = some (.slice ra4 rn4 rc4) ∧ W.cell? ⟨w4.heap.size, 2, none⟩ = some (.int .i64 m4) ∧ W.cell? ⟨w4.heap.size, 3, none⟩ = some (.int .i64 x4) ∧ W.cell? ⟨w4.heap.size, 4, none⟩ = some (.bool false) ∧ W.cell? ⟨w4.heap.size, 5, none⟩ = some (.bool false) ∧ W.cell? ⟨w4.heap.size, 6, none⟩ = some (.slice sa4 sn4 sc4)) W' from fun W' hb => by
          have kb := KK.out W' (HB9.out.trans (hb.mono HB9.out.size))
          exact ⟨((K1.out.below hb K1.out.lt).cell i).trans X1, ((K2.out.below hb K2.out.lt).cell i).trans X2, kb.cell 0, kb.cell 1, kb.cell 2, kb.cell 3, kb.cell 4, kb.cell 5, kb.cell 6⟩)
        have husz2 : (u.extract 0 i).size ≤ 1000 := by
          have := sz_byL (byL_pre u i)
          rw [this, List.length_take, byL_len]
          omega
        have CMt := Lib.hid (fun (W' : World) (hb : Below w9.heap.size w9 W') => show Calls Tryd.prog 17 #[.agg #[.int .i64 o4, .slice ra4 rn4 rc4, .int .i64 m4, .int .i64 x4, .bool false, .bool false, .slice sa4 sn4 sc4], .string (u.extract 0 i)] W' (fun e w' => e = .returned (.bool y) ∧ Below w9.heap.size w9 w') from by
          have h6 := HB9.out.trans (hb.mono HB9.out.size)
          refine (mat_any W' r _ (u.extract 0 i) ((RG6.out.below h6).more h6.size) HWF.out husz2).mono ?_
          rintro e w' ⟨b, rfl, h1, h2⟩
          refine ⟨?_, hb.trans (h2.mono hb.size)⟩
          congr 2
          rw [Bool.eq_iff_iff, h1, HY.out])
        have CCn := Lib.hid (fun (W' : World) (hb : Below w9.heap.size w9 W') => show Calls Tryd.prog 18 #[.agg #[.int .i64 o4, .slice ra4 rn4 rc4, .int .i64 m4, .int .i64 x4, .bool false, .bool false, .slice sa4 sn4 sc4], .string (u.extract 0 i)] W' (fun e w' => e = .returned (.bool z) ∧ Below w9.heap.size w9 w') from by
          have h6 := HB9.out.trans (hb.mono HB9.out.size)
          refine (can_any W' r _ (u.extract 0 i) ((RG6.out.below h6).more h6.size) HWF.out husz2).mono ?_
          rintro e w' ⟨b, rfl, h1, h2⟩
          refine ⟨?_, hb.trans (h2.mono hb.size)⟩
          congr 2
          rw [Bool.eq_iff_iff, h1, HZ.out])
        have hi1' : (i : Int) < (u.size : Int) + 1 := by omega
        have hlt' : (i : Int) ≤ (u.size : Int) := by omega
        clear hy hz X1 X2 husz2
        go_upto_region 17 with fail
        rcases y with _ | _
        · rcases z with _ | _
          · go_region_held3 (fun W => W.cell? ⟨g1, i, none⟩ = some (.bool false) ∧ W.cell? ⟨g2, i, none⟩ = some (.bool false) ∧ W.cell? ⟨w4.heap.size, 0, none⟩ = some (.int .i64 o4) ∧ W.cell? ⟨w4.heap.size, 1, none⟩ = some (.slice ra4 rn4 rc4) ∧ W.cell? ⟨w4.heap.size, 2, none⟩ = some (.int .i64 m4) ∧ W.cell? ⟨w4.heap.size, 3, none⟩ = some (.int .i64 x4) ∧ W.cell? ⟨w4.heap.size, 4, none⟩ = some (.bool false) ∧ W.cell? ⟨w4.heap.size, 5, none⟩ = some (.bool false) ∧ W.cell? ⟨w4.heap.size, 6, none⟩ = some (.slice sa4 sn4 sc4)) (first | exact KS.out _ HBr.out | exact KS.out _ HBr.out.drew | exact KS.out _ HB10.out | exact KS.out _ HB11.out | go_keep) (first
              | (go_at_call 17; refine (CMt.out _ HBr.out.drew).mono ?_; rintro e w10 ⟨rfl, h10⟩; have HB10 := Lib.hid h10; clear h10)
              | (go_at_call 18; refine (CCn.out _ HB10.out).mono ?_; rintro e w11 ⟨rfl, h11⟩; have HB11 := Lib.hid h11; clear h11))
            go_wp2
            go_roundw
            case rel => exact ⟨i + 1, by omega, by go_num, HB11⟩
            case measure => simp [intOf]; omega
          · go_region_held3 (fun W => W.cell? ⟨g1, i, none⟩ = some (.bool false) ∧ W.cell? ⟨g2, i, none⟩ = some (.bool true) ∧ W.cell? ⟨w4.heap.size, 0, none⟩ = some (.int .i64 o4) ∧ W.cell? ⟨w4.heap.size, 1, none⟩ = some (.slice ra4 rn4 rc4) ∧ W.cell? ⟨w4.heap.size, 2, none⟩ = some (.int .i64 m4) ∧ W.cell? ⟨w4.heap.size, 3, none⟩ = some (.int .i64 x4) ∧ W.cell? ⟨w4.heap.size, 4, none⟩ = some (.bool false) ∧ W.cell? ⟨w4.heap.size, 5, none⟩ = some (.bool false) ∧ W.cell? ⟨w4.heap.size, 6, none⟩ = some (.slice sa4 sn4 sc4)) (first | exact KS.out _ HBr.out | exact KS.out _ HBr.out.drew | exact KS.out _ HB10.out | exact KS.out _ HB11.out | go_keep) (first
              | (go_at_call 17; refine (CMt.out _ HBr.out.drew).mono ?_; rintro e w10 ⟨rfl, h10⟩; have HB10 := Lib.hid h10; clear h10)
              | (go_at_call 18; refine (CCn.out _ HB10.out).mono ?_; rintro e w11 ⟨rfl, h11⟩; have HB11 := Lib.hid h11; clear h11))
            go_wp2
            go_roundw
            case rel => exact ⟨i + 1, by omega, by go_num, HB11⟩
            case measure => simp [intOf]; omega
        · rcases z with _ | _
          · go_region_held3 (fun W => W.cell? ⟨g1, i, none⟩ = some (.bool true) ∧ W.cell? ⟨g2, i, none⟩ = some (.bool false) ∧ W.cell? ⟨w4.heap.size, 0, none⟩ = some (.int .i64 o4) ∧ W.cell? ⟨w4.heap.size, 1, none⟩ = some (.slice ra4 rn4 rc4) ∧ W.cell? ⟨w4.heap.size, 2, none⟩ = some (.int .i64 m4) ∧ W.cell? ⟨w4.heap.size, 3, none⟩ = some (.int .i64 x4) ∧ W.cell? ⟨w4.heap.size, 4, none⟩ = some (.bool false) ∧ W.cell? ⟨w4.heap.size, 5, none⟩ = some (.bool false) ∧ W.cell? ⟨w4.heap.size, 6, none⟩ = some (.slice sa4 sn4 sc4)) (first | exact KS.out _ HBr.out | exact KS.out _ HBr.out.drew | exact KS.out _ HB10.out | exact KS.out _ HB11.out | go_keep) (first
              | (go_at_call 17; refine (CMt.out _ HBr.out.drew).mono ?_; rintro e w10 ⟨rfl, h10⟩; have HB10 := Lib.hid h10; clear h10)
              | (go_at_call 18; refine (CCn.out _ HB10.out).mono ?_; rintro e w11 ⟨rfl, h11⟩; have HB11 := Lib.hid h11; clear h11))
            go_wp2
            go_roundw
            case rel => exact ⟨i + 1, by omega, by go_num, HB11⟩
            case measure => simp [intOf]; omega
          · go_region_held3 (fun W => W.cell? ⟨g1, i, none⟩ = some (.bool true) ∧ W.cell? ⟨g2, i, none⟩ = some (.bool true) ∧ W.cell? ⟨w4.heap.size, 0, none⟩ = some (.int .i64 o4) ∧ W.cell? ⟨w4.heap.size, 1, none⟩ = some (.slice ra4 rn4 rc4) ∧ W.cell? ⟨w4.heap.size, 2, none⟩ = some (.int .i64 m4) ∧ W.cell? ⟨w4.heap.size, 3, none⟩ = some (.int .i64 x4) ∧ W.cell? ⟨w4.heap.size, 4, none⟩ = some (.bool false) ∧ W.cell? ⟨w4.heap.size, 5, none⟩ = some (.bool false) ∧ W.cell? ⟨w4.heap.size, 6, none⟩ = some (.slice sa4 sn4 sc4)) (first | exact KS.out _ HBr.out | exact KS.out _ HBr.out.drew | exact KS.out _ HB10.out | exact KS.out _ HB11.out | go_keep) (first
              | (go_at_call 17; refine (CMt.out _ HBr.out.drew).mono ?_; rintro e w10 ⟨rfl, h10⟩; have HB10 := Lib.hid h10; clear h10)
              | (go_at_call 18; refine (CCn.out _ HB10.out).mono ?_; rintro e w11 ⟨rfl, h11⟩; have HB11 := Lib.hid h11; clear h11))
            go_wp2
            go_roundw
            case rel => exact ⟨i + 1, by omega, by go_num, HB11⟩
            case measure => simp [intOf]; omega
      · obtain rfl : i = u.size + 1 := by omega
        go_wp2
        go_ret
        exact ⟨rfl, HW.out⟩
end Go.Proofs.YtbkpgfccghombaaDoor.rx
