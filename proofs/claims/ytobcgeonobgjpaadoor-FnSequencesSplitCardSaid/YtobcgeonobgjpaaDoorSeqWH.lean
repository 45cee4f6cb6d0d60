/-
  The sequences of ranges of bytes: spec.Covers, spec.Covered. Conditions: as stated.
-/
import Derived.Test.YtobcgeonobgjpaaDoorSeqWG
namespace Go.Proofs.YtobcgeonobgjpaaDoor
open Go.ChangeShapes Go.WideShapes Go.ChangeAt Go.RowKit
set_option linter.unusedVariables false

theorem covB_drop (ps : List (Int × Int)) (bs : List Int) (n : Nat) (h1 : n < ps.length) (h2 : n < bs.length) : covB (ps.drop n) (bs.drop n) = (decide (ps[n].1 ≤ bs[n] ∧ bs[n] ≤ ps[n].2) && covB (ps.drop (n + 1)) (bs.drop (n + 1))) := by
  rw [List.drop_eq_getElem_cons h1, List.drop_eq_getElem_cons h2]
  rfl
theorem covB_ne (ps : List (Int × Int)) (bs : List Int) (h : ps.length ≠ bs.length) : covB ps bs = false := by
  cases hc : covB ps bs with
  | false => rfl
  | true => exact absurd (covB_len _ _ hc).symm h
theorem ret_bool {a b : Bool} (h : a = b) : Ending.returned (.bool a) = .returned (.bool b) := by rw [h]

set_option maxHeartbeats 400000 in
theorem covers_any (a b : Option Addr) (ps : List (Int × Int)) (zs : List Int) (c d : Nat) (B : Nat) (w : World) (hl1 : ps.length ≤ 2147483647) (hl2 : zs.length ≤ 2147483647)
    (hs : Sl w B a (prvs ps)) (hz : Sl w B b (zs.map (.int .u8))) :
    Calls Tryd.prog 11 #[.slice a ps.length c, .slice b zs.length d] w fun e w' => e = .returned (.bool (covB ps zs)) ∧ Below w.heap.size w w' := by
  have HS := Lib.hid hs
  have HZ := Lib.hid hz
  clear hs hz
  by_cases hlen : ps.length = zs.length
  · have hne : ((ps.length : Int) != (zs.length : Int)) = false := by rw [bne_eq_false_iff_eq]; omega
    have HL := Lib.hid hlen
    clear hlen
    go_enter Tryd.func11, Tryd.ntmps11
    go_wp2
    go_loopw [5] (fun i wr => ∃ n m : Nat, n ≤ ps.length ∧ i = .int .i64 n ∧ wr = w.drewN m ∧ Hid (covB ps zs = covB (ps.drop n) (zs.drop n))) (fun i _ => ps.length - (intOf i).toNat)
    case atStart => exact ⟨0, 0, by omega, rfl, rfl, Lib.hid rfl⟩
    case round =>
      obtain ⟨n, m, hn, rfl, rfl, hall⟩ := hrel
      have HHALL := Lib.hid hall
      clear hall
      by_cases hlt : n < ps.length
      · have hlz : n < zs.length := by have := HL.out; omega
        obtain ⟨ad, rfl, hc0, hc1⟩ := pair_at HS.out n hlt
        obtain ⟨ad', rfl, hz0⟩ := HZ.out.ints n hlz
        have hstep := covB_drop ps zs n hlt hlz
        have ez : zs[n]'hlz = zs.getD n 0 := by rw [List.getD_eq_getElem?_getD, List.getElem?_eq_getElem hlz]; rfl
        rw [ez] at hstep
        have HSTEP := Lib.hid hstep
        clear hstep ez
        generalize zs.getD n 0 = z at *
        generalize ps[n] = q at *
        obtain ⟨lo, hi⟩ := q
        simp only at hc0 hc1
        have hb0 : (0 : Int) ≤ (n : Int) := by omega
        have hb1 : (n : Int) < (ps.length : Int) := by omega
        have hb2 : (n : Int) < (zs.length : Int) := by omega
        by_cases h1 : z < lo
        · have hin := Lib.hid (show decide (lo ≤ z ∧ z ≤ hi) = false by simp; omega)
          have hd : decide (z < lo) = true := by simpa using h1
          go_wp2
          go_quiet (fail)
          go_wp2
          go_ret
          exact ⟨ret_bool (by rw [HHALL.out.out, HSTEP.out, hin.out]; rfl), below_drewN (below_drewN (Below.refl _ _) _) _⟩
        · have hd : decide (z < lo) = false := by simpa using h1
          by_cases h2 : hi < z
          · have hin := Lib.hid (show decide (lo ≤ z ∧ z ≤ hi) = false by simp; omega)
            go_wp2
            go_quiet (fail)
            go_wp2
            go_ret
            exact ⟨ret_bool (by rw [HHALL.out.out, HSTEP.out, hin.out]; rfl), below_drewN (below_drewN (Below.refl _ _) _) _⟩
          · have hin := Lib.hid (show decide (lo ≤ z ∧ z ≤ hi) = true by simp; omega)
            go_wp2
            go_quiet (fail)
            go_wp2
            go_roundw
            case rel => exact ⟨n + 1, _, by omega, by go_num, rfl, Lib.hid (by rw [HHALL.out.out, HSTEP.out, hin.out]; rfl)⟩
            case measure => simp [intOf]; omega
      · obtain rfl : n = ps.length := by omega
        have HE := Lib.hid (show covB (ps.drop ps.length) (zs.drop ps.length) = true by rw [HL.out, List.drop_length, ← HL.out, List.drop_length]; rfl)
        go_wp2
        go_ret
        exact ⟨ret_bool (by rw [HHALL.out.out, HE.out]), below_drewN (Below.refl _ _) _⟩
  · have hne : ((ps.length : Int) != (zs.length : Int)) = true := by rw [bne_iff_ne]; omega
    have HE := Lib.hid (covB_ne ps zs hlen)
    clear hlen
    go_enter Tryd.func11, Tryd.ntmps11
    go_wp2
    go_ret
    exact ⟨ret_bool HE.out.symm, Below.refl _ _⟩

theorem ret_i64 {a b : Int} (h : a = b) : Ending.returned (.int .i64 a) = .returned (.int .i64 b) := by rw [h]
theorem cntL_le : ∀ (L : List (List (Int × Int))) (b : List Int), cntL L b ≤ L.length
  | [], b => by simp [cntL]
  | l :: L, b => by
    have := cntL_le L b
    unfold cntL at this ⊢
    simp only [List.map_cons, List.sum_cons, List.length_cons]
    split <;> omega

set_option maxHeartbeats 800000 in
theorem covered_any (v : Value) (Ls : List (Value × List (Int × Int))) (b : Option Addr) (zs : List Int) (d B : Nat) (w : World) (hl1 : Ls.length ≤ 2147483647) (hl2 : zs.length ≤ 2147483647) (hl3 : ∀ x ∈ Ls, x.2.length ≤ 4)
    (hL : Lists w B v Ls) (hz : Sl w w.heap.size b (zs.map (.int .u8))) :
    Calls Tryd.prog 7 #[v, .slice b zs.length d] w fun e w' => e = .returned (.int .i64 (cntL (Ls.map (·.2)) zs : Nat)) ∧ Below w.heap.size w w' := by
  obtain ⟨a, c, rfl⟩ := own_value hL.o
  have HL := Lib.hid hL
  have HZ := Lib.hid hz
  have HO := Lib.hid (sl_of_own hL.o)
  have H3 := Lib.hid hl3
  clear hL hz hl3
  go_enter Tryd.func7, Tryd.ntmps7
  go_wp2
  go_loopw [5, 6] (fun s k wr => ∃ n m : Nat, n ≤ Ls.length ∧ k = .int .i64 n ∧ Hid (m = cntL ((Ls.take n).map (·.2)) zs) ∧ m ≤ n ∧ s = .int .i64 m ∧ Below w.heap.size w wr) (fun _ k _ => Ls.length - (intOf k).toNat)
  case atStart => exact ⟨0, 0, by omega, rfl, Lib.hid rfl, Nat.le_refl _, rfl, Below.refl _ _⟩
  case round =>
    obtain ⟨n, m, hnn, rfl, HM, hm, rfl, hbw⟩ := hrel
    by_cases hlt : n < Ls.length
    · obtain ⟨ad, rfl, had, hc⟩ := HO.out n Ls[n].1 (by rw [List.getElem?_map, List.getElem?_eq_getElem hlt]; rfl)
      have hc' := (hbw.cell (p := ad.add n) (by rw [block_add]; exact had)).trans hc
      have hx := HL.out.r Ls[n] (List.getElem_mem hlt)
      have hxl := H3.out Ls[n] (List.getElem_mem hlt)
      have HT := Lib.hid (show cntL ((Ls.take (n + 1)).map (·.2)) zs = cntL ((Ls.take n).map (·.2)) zs + if covB Ls[n].2 zs then 1 else 0 by rw [List.take_succ_eq_append_getElem hlt, List.map_append]; exact cntL_snoc _ _ _)
      have HB := Lib.hid hbw
      generalize Ls[n] = x at *
      obtain ⟨u, ps⟩ := x
      simp only at hc hc' hx hxl
      obtain ⟨a2, c2, rfl⟩ := own_value hx
      have C := Lib.hid (covers_any a2 b ps zs c2 d wr.heap.size wr (by omega) hl2 (sl_of_own (own_below hx hbw)) ((HZ.out.below hbw).more hbw.size))
      clear hc hx had hbw
      cases hcv : covB ps zs with
      | true =>
        have HCV := Lib.hid hcv
        clear hcv
        go_wp2_with fail
        refine C.out.mono ?_
        rw [HCV.out]
        rintro e w1 ⟨rfl, hb1⟩
        have HB1 := Lib.hid (HB.out.trans (hb1.mono HB.out.size))
        clear hb1 C hc'
        go_wp2
        go_roundw
        case rel => exact ⟨n + 1, m + 1, by omega, by go_num, Lib.hid (by rw [HT.out, HCV.out, HM.out]; rfl), by omega, by go_num, HB1.out⟩
        case measure => simp [intOf]; omega
      | false =>
        have HCV := Lib.hid hcv
        clear hcv
        go_wp2_with fail
        refine C.out.mono ?_
        rw [HCV.out]
        rintro e w1 ⟨rfl, hb1⟩
        have HB1 := Lib.hid (HB.out.trans (hb1.mono HB.out.size))
        clear hb1 C hc'
        go_wp2
        go_roundw
        case rel => exact ⟨n + 1, m, by omega, by go_num, Lib.hid (by rw [HT.out, HCV.out, HM.out]; rfl), by omega, rfl, HB1.out⟩
        case measure => simp [intOf]; omega
    · obtain rfl : n = Ls.length := by omega
      have HB := Lib.hid hbw
      clear hbw
      go_wp2
      go_ret
      exact ⟨ret_i64 (by rw [HM.out, List.take_length]), HB.out⟩

end Go.Proofs.YtobcgeonobgjpaaDoor
