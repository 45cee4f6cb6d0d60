/-
  The law's expression out of any one: what is made is right: with parts. Conditions: as stated.
-/
import Derived.Test.YtbkpgfccghombaaDoorM11
namespace Go.Proofs.YtbkpgfccghombaaDoor.rx
open Go.ChangeShapes Go.WideShapes Go.ChangeAt Go.RowKit
set_option linter.unusedVariables false

set_option maxRecDepth 100000 in
set_option maxHeartbeats 6400000 in
theorem exp_sub (dd d : Nat) (hdd : d = dd + 1) (hd : d ≤ 5) (IH : 1 ≤ dd → ExpOk dd) (op mn mx : Int) (lz fo : Bool) (ra : Option Addr) (rs : List Int) (rc : Nat) (sa : Option Addr) (ls : List (List Value)) (sc : Nat) (w : World) (hR : RawH w w.heap.size op mn mx ra rs sa ls) (hL : ∀ x ∈ ls, RawC w w.heap.size dd x) (hsel : 13 ≤ oSel op d ls.length ∧ oSel op d ls.length ≠ 17) :
    ExpStep dd d op mn mx lz fo ra rs.length rc sa ls.length sc w := by
  obtain ⟨i0, hi0, hz0, hz1, hz2⟩ := info_parts infoR
  unfold ExpStep
  have HDD := Lib.hid hdd
  have HL := Lib.hid hL
  have IH := Lib.hid IH
  have hd1 : 1 ≤ d := by omega
  clear hdd hL
  have CA := Lib.hid (fun W => at_any op 14 W (by omega) (by omega))
  obtain ⟨b0, b1⟩ := atF_bd op 14 (by omega)
  obtain ⟨o, ho, ho2⟩ := ops_at _ b0 b1
  have HR := Lib.hid hR
  have HSO := Lib.hid (show oSel op d ls.length = if (d ≤ 1 ∨ ls.length = 0) ∧ 13 ≤ o then 3 else o from by
    have e : opsL.getD (atF op 14).toNat 0 = o := by rw [List.getD_eq_getElem?_getD, ho]; rfl
    unfold oSel
    rw [e])
  have HSEL := Lib.hid hsel
  clear hsel
  unfold rwc
  clear hR
  generalize atF op 14 = k at *
  obtain ⟨k, rfl⟩ : ∃ n : Nat, k = n := ⟨k.toNat, by omega⟩
  rw [Int.toNat_natCast] at ho
  have hcell := fun o1 o2 => ops_cell w o1 o2 54 k o ho
  go_enter Tryd.func10, Tryd.ntmps10
  go_upto_region 3 with (go_at_call 28; refine (CA.out _).mono ?_; rintro e w1 ⟨rfl, rfl⟩)
  clear hcell ho
  refine name_world ?_
  intro w1 hw1
  have X1 := Lib.hid (show Xs w w1 [.int .i64 op, .slice ra rs.length rc, .int .i64 mn, .int .i64 mx, .bool lz, .bool fo, .slice sa ls.length sc] o 0 0 (.slice none 0 0) (.slice none 0 0) from by rw [hw1]; exact xs_new w _ 0 0 _ o)
  clear hw1
  have r6 := X1.out.raw.cell 6
  simp only [List.getElem?_cons_zero, List.getElem?_cons_succ] at r6
  obtain ⟨bb, hbb⟩ : ∃ bb, bb = decide (d ≤ 1 ∨ ls.length = 0) := ⟨_, rfl⟩
  have HBB := Lib.hid hbb
  clear hbb
  go_cut [24] (fun s24 wx => s24 = .bool bb ∧ w1 = wx)
  case first =>
    by_cases h1 : d ≤ 1
    · have h1' : (d : Int) ≤ 1 := by omega
      obtain rfl : bb = true := by rw [HBB.out]; simp [h1]
      go_wp2
      go_meet
      case rel => exact ⟨rfl, rfl⟩
    · have h1' : ¬ (d : Int) ≤ 1 := by omega
      by_cases h2 : ls.length = 0
      · have h2' : ((ls.length : Int) == 0) = true := by simp [h2]
        obtain rfl : bb = true := by rw [HBB.out]; simp [h2]
        clear h2
        go_wp2
        go_meet
        case rel => exact ⟨rfl, rfl⟩
      · have h2' : ((ls.length : Int) == 0) = false := by rw [beq_eq_false_iff_ne]; omega
        obtain rfl : bb = false := by rw [HBB.out]; simp [h1, h2]
        clear h2
        go_wp2
        go_meet
        case rel => exact ⟨rfl, rfl⟩
  case rest =>
    obtain ⟨rfl, rfl⟩ := hcut
    clear r6
    obtain ⟨o', ho'⟩ : ∃ o', o' = if bb = true ∧ 13 ≤ o then 3 else o := ⟨_, rfl⟩
    have HO := Lib.hid ho'
    clear ho'
    have l0 := X1.out.r.cell 0
    have f0 := X1.out.r.frozen 0
    simp only [List.getElem?_cons_zero] at l0
    go_upto_if 24 with fail
    go_cut [] (fun wx => Hid (Xs w wx [.int .i64 op, .slice ra rs.length rc, .int .i64 mn, .int .i64 mx, .bool lz, .bool fo, .slice sa ls.length sc] o' 0 0 (.slice none 0 0) (.slice none 0 0)))
    case first =>
      cases bb with
      | false =>
        obtain rfl : o' = o := by rw [HO.out]; simp
        go_wp2
        go_meet
        case rel => exact X1
      | true =>
        by_cases h13 : 13 ≤ o
        · obtain rfl : o' = 3 := by rw [HO.out]; simp [h13]
          have g2 : (o == 2) = false := by rw [beq_eq_false_iff_ne]; omega
          have g3 : (o == 3) = false := by rw [beq_eq_false_iff_ne]; omega
          have g4 : (o == 4) = false := by rw [beq_eq_false_iff_ne]; omega
          have g5 : (o == 5) = false := by rw [beq_eq_false_iff_ne]; omega
          have g6 : (o == 6) = false := by rw [beq_eq_false_iff_ne]; omega
          clear ho2
          go_wp2
          go_meet
          case rel => exact Lib.hid (X1.out.set0 3)
        · have HH : Hid (o' = o) := Lib.hid (by rw [HO.out]; simp [h13])
          have ho3 : o = 2 ∨ o = 3 ∨ o = 4 ∨ o = 5 ∨ o = 6 := by omega
          clear ho2 HO
          have XX1 := Lib.hid (show Xs w w1 [.int .i64 op, .slice ra rs.length rc, .int .i64 mn, .int .i64 mx, .bool lz, .bool fo, .slice sa ls.length sc] o' 0 0 (.slice none 0 0) (.slice none 0 0) from by rw [HH.out]; exact X1.out)
          clear HH
          rcases ho3 with rfl | rfl | rfl | rfl | rfl
          all_goals
            go_wp2
            go_meet
            case rel => exact XX1
    case rest =>
      have XC := hcut
      have HOP : Hid (o' = 2 ∨ o' = 3 ∨ o' = 4 ∨ o' = 5 ∨ o' = 6 ∨ (13 ≤ o' ∧ o' ≤ 19 ∧ 1 < d ∧ ls.length ≠ 0)) := Lib.hid (by
        have h1 := HO.out
        have h2 := HBB.out
        by_cases hb : bb = true
        · by_cases h13 : 13 ≤ o
          · rw [if_pos ⟨hb, h13⟩] at h1; omega
          · rw [if_neg (fun h => h13 h.2)] at h1; omega
        · rw [if_neg (fun h => hb h.1)] at h1
          have : ¬ (d ≤ 1 ∨ ls.length = 0) := fun h => hb (by rw [h2]; exact decide_eq_true h)
          omega)
      have hsel : o' = oSel op d ls.length := by
        rw [HSO.out, HO.out, HBB.out]
        simp
      have HS2 := HSEL.out
      rw [← hsel] at HS2
      clear HO HBB ho2 hcut X1 hsel HSEL HSO
      obtain ⟨h2, h3, h4, h5⟩ : 13 ≤ o' ∧ o' ≤ 19 ∧ 1 < d ∧ ls.length ≠ 0 := by
        have := HOP.out
        omega
      clear HOP
      obtain ⟨on, rfl⟩ : ∃ n : Nat, o' = n := ⟨o'.toNat, by omega⟩
      obtain ⟨j0, ji0, jz0, jz1, jz2⟩ := info_parts infoX
      have g2 : ((on : Int) == 2) = false := by rw [beq_eq_false_iff_ne]; omega
      have g3 : ((on : Int) == 3) = false := by rw [beq_eq_false_iff_ne]; omega
      have g4 : ((on : Int) == 4) = false := by rw [beq_eq_false_iff_ne]; omega
      have g5 : ((on : Int) == 5) = false := by rw [beq_eq_false_iff_ne]; omega
      have g6 : ((on : Int) == 6) = false := by rw [beq_eq_false_iff_ne]; omega
      have l0 := XC.out.r.cell 0
      simp only [List.getElem?_cons_zero] at l0
      go_upto_region 28 with fail
      clear g2 g3 g4 g5 g6
      obtain ⟨bc, hbc⟩ : ∃ bc, bc = decide (on = 18 ∨ on = 19) := ⟨_, rfl⟩
      have HBC := Lib.hid hbc
      clear hbc
      go_cut [86] (fun s86 wx => s86 = .bool bc ∧ wc = wx)
      case first =>
        by_cases h18 : on = 18
        · have g18 : ((on : Int) == 18) = true := by simp [h18]
          obtain rfl : bc = true := by rw [HBC.out]; simp [h18]
          clear h18
          go_wp2
          go_meet
          case rel => exact ⟨rfl, rfl⟩
        · have g18 : ((on : Int) == 18) = false := by rw [beq_eq_false_iff_ne]; omega
          by_cases h19 : on = 19
          · have g19 : ((on : Int) == 19) = true := by simp [h19]
            obtain rfl : bc = true := by rw [HBC.out]; simp [h19]
            clear h19
            go_wp2
            go_meet
            case rel => exact ⟨rfl, rfl⟩
          · have g19 : ((on : Int) == 19) = false := by rw [beq_eq_false_iff_ne]; omega
            obtain rfl : bc = false := by rw [HBC.out]; simp [h18, h19]
            go_wp2
            go_meet
            case rel => exact ⟨rfl, rfl⟩
      case rest =>
        obtain ⟨rfl, rfl⟩ := hcut
        obtain ⟨M, hM⟩ : ∃ M, M = if bc = true then 3 else 1 := ⟨_, rfl⟩
        have HM := Lib.hid hM
        have hM3 : 1 ≤ M ∧ M ≤ 3 := by rw [hM]; split <;> omega
        clear hM
        go_upto_if 86 with fail
        go_cut [8] (fun s8 wx => s8 = .int .i64 M ∧ wc = wx)
        case first =>
          cases bc with
          | true =>
            obtain rfl : M = 3 := by rw [HM.out]; rfl
            go_wp2
            go_meet
            case rel => exact ⟨rfl, rfl⟩
          | false =>
            obtain rfl : M = 1 := by rw [HM.out]; rfl
            go_wp2
            go_meet
            case rel => exact ⟨rfl, rfl⟩
        case rest =>
          obtain ⟨rfl, rfl⟩ := hcut
          obtain ⟨hM1, hM3⟩ := hM3
          have hdw : IntKind.i64.wrap ((d : Int) - 1) = (dd : Int) := by have := HDD.out; rw [IntKind.wrap_i64]; omega
          have hdw2 : wrap64 ((d : Int) - 1) = (dd : Int) := by have := HDD.out; unfold wrap64; omega
          have hdd1 : 1 ≤ dd := by have := HDD.out; omega
          clear l0
          go_wp2_with fail
          go_loopw [9] (fun v9 wr => ∃ (i c : Nat) (a : Option Addr) (subs : List Rx) (cc : List (List Value)), i ≤ M ∧ v9 = .int .i64 i ∧ Hid (i ≤ ls.length ∧ Sx w wr [.int .i64 op, .slice ra rs.length rc, .int .i64 mn, .int .i64 mx, .bool lz, .bool fo, .slice sa ls.length sc] dd on 0 0 a i c subs cc)) (fun v9 _ => M - (intOf v9).toNat)
          case atStart => exact ⟨0, 0, none, [], [], by omega, rfl, Lib.hid ⟨by omega, ⟨rfl, rfl, by simp, by simp, XC.out, World.ownsRow_nil _ _ _ _, by simp⟩⟩⟩
          case round =>
            obtain ⟨i, c, a, subs, cc, hi, rfl, H1⟩ := hrel
            have q6 := H1.out.2.xs.raw.cell 6
            have l6 := H1.out.2.xs.r.cell 6
            simp only [List.getElem?_cons_zero, List.getElem?_cons_succ] at q6 l6
            by_cases hgo : i < ls.length ∧ i < M
            · obtain ⟨hlt, hlM⟩ := hgo
              obtain ⟨ad, rfl, hadl, hraw⟩ := raw_at HR.out.l7 (HR.out.s.below H1.out.2.xs.low) i hlt
              have HLi := Lib.hid (HL.out ls[i] (List.getElem_mem hlt))
              obtain ⟨p0, p2, p3, p4, p5, p1, p1n, p1c, p6, p6n, p6c, hf⟩ := RawC.form hdd1 HLi.out
              rw [hf] at hraw
              have e0 := hraw 0 _ rfl
              have e1 := cell_off (hraw 1 _ rfl)
              have e2 := cell_off (hraw 2 _ rfl)
              have e3 := cell_off (hraw 3 _ rfl)
              have e4 := cell_off (hraw 4 _ rfl)
              have e5 := cell_off (hraw 5 _ rfl)
              have e6 := cell_off (hraw 6 _ rfl)
              rw [Nat.add_zero] at e0
              have CI := Lib.hid (IH.out hdd1 wr.drew _ (RawC.keep (fun p hp => (H1.out.2.xs.low.drew).cell hp) (by have := H1.out.2.xs.low.size; simpa using this) dd _ HLi.out))
              rw [hf] at CI
              unfold rwc at CI
              have HAD := Lib.hid (show ad.block < wr.heap.size from Nat.lt_of_lt_of_le hadl H1.out.2.xs.low.size)
              have XD := Lib.hid (H1.out.2.drew)
              have HSZ := Lib.hid (show w.heap.size + 4 ≤ wr.heap.size from H1.out.2.xs.sz)
              have HSK := Lib.hid (show ∀ W W' : World, Below wr.drew.heap.size W W' → (W.cell? ⟨w.heap.size + 1 + 1 + 1, 6, none⟩ = some (.slice a i c) ∧ W.cell? ⟨w.heap.size, 6, none⟩ = some (.slice (some ad) ls.length sc) ∧ W.cell? (ad.add (i * 7)) = some (.int .i64 p0) ∧ W.cell? ⟨(ad.add (i * 7)).block, (ad.add (i * 7)).off + 1, none⟩ = some (.slice p1 p1n p1c) ∧ W.cell? ⟨(ad.add (i * 7)).block, (ad.add (i * 7)).off + 2, none⟩ = some (.int .i64 p2) ∧ W.cell? ⟨(ad.add (i * 7)).block, (ad.add (i * 7)).off + 3, none⟩ = some (.int .i64 p3) ∧ W.cell? ⟨(ad.add (i * 7)).block, (ad.add (i * 7)).off + 4, none⟩ = some (.bool p4) ∧ W.cell? ⟨(ad.add (i * 7)).block, (ad.add (i * 7)).off + 5, none⟩ = some (.bool p5) ∧ W.cell? ⟨(ad.add (i * 7)).block, (ad.add (i * 7)).off + 6, none⟩ = some (.slice p6 p6n p6c)) → (W'.cell? ⟨w.heap.size + 1 + 1 + 1, 6, none⟩ = some (.slice a i c) ∧ W'.cell? ⟨w.heap.size, 6, none⟩ = some (.slice (some ad) ls.length sc) ∧ W'.cell? (ad.add (i * 7)) = some (.int .i64 p0) ∧ W'.cell? ⟨(ad.add (i * 7)).block, (ad.add (i * 7)).off + 1, none⟩ = some (.slice p1 p1n p1c) ∧ W'.cell? ⟨(ad.add (i * 7)).block, (ad.add (i * 7)).off + 2, none⟩ = some (.int .i64 p2) ∧ W'.cell? ⟨(ad.add (i * 7)).block, (ad.add (i * 7)).off + 3, none⟩ = some (.int .i64 p3) ∧ W'.cell? ⟨(ad.add (i * 7)).block, (ad.add (i * 7)).off + 4, none⟩ = some (.bool p4) ∧ W'.cell? ⟨(ad.add (i * 7)).block, (ad.add (i * 7)).off + 5, none⟩ = some (.bool p5) ∧ W'.cell? ⟨(ad.add (i * 7)).block, (ad.add (i * 7)).off + 6, none⟩ = some (.slice p6 p6n p6c)) from fun W W' hb h =>
                ⟨(hb.cell (p := ⟨w.heap.size + 1 + 1 + 1, 6, none⟩) (by have := HSZ.out; simp; omega)).trans h.1, (hb.cell (p := ⟨w.heap.size, 6, none⟩) (by have := HSZ.out; simp; omega)).trans h.2.1, (hb.cell (p := ad.add (i * 7)) (by rw [block_add]; exact HAD.out)).trans h.2.2.1,
                  (hb.cell (p := ⟨(ad.add (i * 7)).block, (ad.add (i * 7)).off + 1, none⟩) (by simp only [block_add]; exact HAD.out)).trans h.2.2.2.1, (hb.cell (p := ⟨(ad.add (i * 7)).block, (ad.add (i * 7)).off + 2, none⟩) (by simp only [block_add]; exact HAD.out)).trans h.2.2.2.2.1,
                  (hb.cell (p := ⟨(ad.add (i * 7)).block, (ad.add (i * 7)).off + 3, none⟩) (by simp only [block_add]; exact HAD.out)).trans h.2.2.2.2.2.1, (hb.cell (p := ⟨(ad.add (i * 7)).block, (ad.add (i * 7)).off + 4, none⟩) (by simp only [block_add]; exact HAD.out)).trans h.2.2.2.2.2.2.1,
                  (hb.cell (p := ⟨(ad.add (i * 7)).block, (ad.add (i * 7)).off + 5, none⟩) (by simp only [block_add]; exact HAD.out)).trans h.2.2.2.2.2.2.2.1, (hb.cell (p := ⟨(ad.add (i * 7)).block, (ad.add (i * 7)).off + 6, none⟩) (by simp only [block_add]; exact HAD.out)).trans h.2.2.2.2.2.2.2.2⟩)
              clear hraw hf hadl
              go_upto_region 33 with fail
              refine wp_region_ks (fun W => W.cell? ⟨w.heap.size + 1 + 1 + 1, 6, none⟩ = some (.slice a i c) ∧ W.cell? ⟨w.heap.size, 6, none⟩ = some (.slice (some ad) ls.length sc) ∧ W.cell? (ad.add (i * 7)) = some (.int .i64 p0) ∧ W.cell? ⟨(ad.add (i * 7)).block, (ad.add (i * 7)).off + 1, none⟩ = some (.slice p1 p1n p1c) ∧ W.cell? ⟨(ad.add (i * 7)).block, (ad.add (i * 7)).off + 2, none⟩ = some (.int .i64 p2) ∧ W.cell? ⟨(ad.add (i * 7)).block, (ad.add (i * 7)).off + 3, none⟩ = some (.int .i64 p3) ∧ W.cell? ⟨(ad.add (i * 7)).block, (ad.add (i * 7)).off + 4, none⟩ = some (.bool p4) ∧ W.cell? ⟨(ad.add (i * 7)).block, (ad.add (i * 7)).off + 5, none⟩ = some (.bool p5) ∧ W.cell? ⟨(ad.add (i * 7)).block, (ad.add (i * 7)).off + 6, none⟩ = some (.slice p6 p6n p6c)) [11, 13] (by kernel_rfl) ?_
              simp only [List.size_toArray, List.length_cons, List.length_nil, Nat.reduceAdd]
              refine ks_pure (i := 0) (oi := ?oi0b) (v := ?v0b) ?hi0b (by kernel_rfl) (by kernel_rfl) (by kernel_rfl) ?hQ0b ?hy0b ?rest0b
              case hi0b =>
                simp only [List.getElem?_toArray, List.getElem?_cons_zero]
                rfl
              case hQ0b => exact fun _ _ _ h => h
              case hy0b =>
                refine yields_if (by rfl) (fun W hW => ?_)
                try dsimp only at hW
                go_simp
                first | done | with_reducible rfl
              simp only [Act.put, List.setIfInBounds_toArray, List.set_cons_zero, List.set_cons_succ]
              refine ks_via [11] (i := 1) (oi := ?oi1b) (v := ?v1b) ?hi1b (by kernel_rfl) (by kernel_rfl) (by kernel_rfl) (by kernel_rfl) (by kernel_rfl) ?hQ1b ?hS1b ?hy1b ?rest1b
              case hi1b =>
                simp only [List.getElem?_toArray, List.getElem?_cons_succ, List.getElem?_cons_zero]
                rfl
              case hQ1b => exact fun _ _ _ h => h
              case hS1b => exact ⟨l6, q6, e0, e1, e2, e3, e4, e5, e6⟩
              case hy1b =>
                refine yields_if (by rfl) (fun W hW => ?_)
                obtain ⟨hW1, hW2, hV0, hV1, hV2, hV3, hV4, hV5, hV6⟩ := hW
                go_simp
                first | done | with_reducible rfl
              simp only [Act.put, List.setIfInBounds_toArray, List.set_cons_zero, List.set_cons_succ]
              refine ks_pure (i := 2) (oi := ?oi2b) (v := ?v2b) ?hi2b (by kernel_rfl) (by kernel_rfl) (by kernel_rfl) ?hQ2b ?hy2b ?rest2b
              case hi2b =>
                simp only [List.getElem?_toArray, List.getElem?_cons_succ, List.getElem?_cons_zero]
                rfl
              case hQ2b => exact fun _ _ _ h => h
              case hy2b =>
                refine yields_if (by rfl) (fun W hW => ?_)
                try dsimp only at hW
                go_simp
                first | done | with_reducible rfl
              simp only [Act.put, List.setIfInBounds_toArray, List.set_cons_zero, List.set_cons_succ]
              refine ks_via [5, 6, 9, 10, 11] (i := 3) (oi := ?oi3b) (v := ?v3b) ?hi3b (by kernel_rfl) (by kernel_rfl) (by kernel_rfl) (by kernel_rfl) (by kernel_rfl) ?hQ3b ?hS3b ?hy3b ?rest3b
              case hi3b =>
                simp only [List.getElem?_toArray, List.getElem?_cons_succ, List.getElem?_cons_zero]
                rfl
              case hQ3b => exact fun _ _ _ h => h
              case hS3b => exact ⟨l6, q6, e0, e1, e2, e3, e4, e5, e6⟩
              case hy3b =>
                refine yields_if (by rfl) (fun W hW => ?_)
                obtain ⟨hW1, hW2, hV0, hV1, hV2, hV3, hV4, hV5, hV6⟩ := hW
                go_simp
                first | done | with_reducible rfl
              simp only [Act.put, List.setIfInBounds_toArray, List.set_cons_zero, List.set_cons_succ]
              refine ks_pure (i := 4) (oi := ?oi4b) (v := ?v4b) ?hi4b (by kernel_rfl) (by kernel_rfl) (by kernel_rfl) ?hQ4b ?hy4b ?rest4b
              case hi4b =>
                simp only [List.getElem?_toArray, List.getElem?_cons_succ, List.getElem?_cons_zero]
                rfl
              case hQ4b => exact fun _ _ _ h => h
              case hy4b =>
                refine yields_if (by rfl) (fun W hW => ?_)
                try dsimp only at hW
                go_simp
                first | done | with_reducible rfl
              simp only [Act.put, List.setIfInBounds_toArray, List.set_cons_zero, List.set_cons_succ]
              refine ks_pure (i := 5) (oi := ?oi5b) (v := ?v5b) ?hi5b (by kernel_rfl) (by kernel_rfl) (by kernel_rfl) ?hQ5b ?hy5b ?rest5b
              case hi5b =>
                simp only [List.getElem?_toArray, List.getElem?_cons_succ, List.getElem?_cons_zero]
                rfl
              case hQ5b => exact fun _ _ _ h => h
              case hy5b =>
                refine yields_if (by rfl) (fun W hW => ?_)
                try dsimp only at hW
                go_simp
                first | done | with_reducible rfl
              simp only [Act.put, List.setIfInBounds_toArray, List.set_cons_zero, List.set_cons_succ]
              refine ks_via [9, 10, 11] (i := 6) (oi := ?oi6b) (v := ?v6b) ?hi6b (by kernel_rfl) (by kernel_rfl) (by kernel_rfl) (by kernel_rfl) (by kernel_rfl) ?hQ6b ?hS6b ?hy6b ?rest6b
              case hi6b =>
                simp only [List.getElem?_toArray, List.getElem?_cons_succ, List.getElem?_cons_zero]
                rfl
              case hQ6b => exact fun _ _ _ h => h
              case hS6b => exact ⟨l6, q6, e0, e1, e2, e3, e4, e5, e6⟩
              case hy6b =>
                refine yields_if (by rfl) (fun W hW => ?_)
                obtain ⟨hW1, hW2, hV0, hV1, hV2, hV3, hV4, hV5, hV6⟩ := hW
                go_simp
                first | done | with_reducible rfl
              simp only [Act.put, List.setIfInBounds_toArray, List.set_cons_zero, List.set_cons_succ]
              refine ks_pure (i := 7) (oi := ?oi7b) (v := ?v7b) ?hi7b (by kernel_rfl) (by kernel_rfl) (by kernel_rfl) ?hQ7b ?hy7b ?rest7b
              case hi7b =>
                simp only [List.getElem?_toArray, List.getElem?_cons_succ, List.getElem?_cons_zero]
                rfl
              case hQ7b => exact fun _ _ _ h => h
              case hy7b =>
                refine yields_if (by rfl) (fun W hW => ?_)
                try dsimp only at hW
                go_simp
                first | done | with_reducible rfl
              simp only [Act.put, List.setIfInBounds_toArray, List.set_cons_zero, List.set_cons_succ]
              refine ks_pure (i := 8) (oi := ?oi8b) (v := ?v8b) ?hi8b (by kernel_rfl) (by kernel_rfl) (by kernel_rfl) ?hQ8b ?hy8b ?rest8b
              case hi8b =>
                simp only [List.getElem?_toArray, List.getElem?_cons_succ, List.getElem?_cons_zero]
                rfl
              case hQ8b => exact fun _ _ _ h => h
              case hy8b =>
                refine yields_if (by rfl) (fun W hW => ?_)
                try dsimp only at hW
                go_simp
                first | done | with_reducible rfl
              simp only [Act.put, List.setIfInBounds_toArray, List.set_cons_zero, List.set_cons_succ]
              refine ks_one (i := 9) (o := ?o9b) ?ho9b (by kernel_rfl) (fun K9 hK => ?_)
              case ho9b =>
                simp only [List.getElem?_toArray, List.getElem?_cons_succ, List.getElem?_cons_zero]
                rfl
              go_simp
              refine CI.out.mono ?_
              rintro e w5 ⟨r5, cs5, rfl, hwf5, hr5, hb5⟩
              obtain ⟨y0, y2, y3, y1, y1n, y1c, y6, y6n, y6c, rfl⟩ := hr5.form
              have HR5 := Lib.hid hr5
              have HWF5 := Lib.hid hwf5
              unfold rxc at HR5
              simp only [rxc]
              clear hr5 hwf5
              refine hK _ _ (fun _ hS => HSK.out _ _ hb5 hS) ?_
              clear hK K9
              try simp only [Act.put, List.setIfInBounds_toArray, List.set_cons_zero, List.set_cons_succ]
              refine ks_one (i := 10) (o := ?o10b) ?ho10b (by kernel_rfl) (fun K9 hK => ?_)
              case ho10b =>
                simp only [List.getElem?_toArray, List.getElem?_cons_succ, List.getElem?_cons_zero]
                rfl
              go_simp
              refine hK _ _ (fun _ hS => HSK.out _ _ ((Below.refl _ _).alloc hb5.size _) hS) ?_
              clear hK K9
              try simp only [Act.put, List.setIfInBounds_toArray, List.set_cons_zero, List.set_cons_succ]
              refine ks_one (i := 11) (o := ?o11b) ?ho11b (by kernel_rfl) (fun K9 hK => ?_)
              case ho11b =>
                simp only [List.getElem?_toArray, List.getElem?_cons_succ, List.getElem?_cons_zero]
                rfl
              refine step_append1 w5 #[.int .i64 y0, .slice y1 y1n y1c, .int .i64 y2, .int .i64 y3, .bool false, .bool false, .slice y6 y6n y6c] rfl (.tmp 100) (.tmp 109) 23 rfl (w.heap.size + 4) 25 j0 _ 7 80 Tryd.underlying23 ji0 jz0 jz1 jz2 rfl (by omega) rfl (.slice a i c) i (cc.flatMap id) rfl (own_below XD.out.row hb5) w5.heap.size rfl rfl (by simp [Value.oneCell']) (by unfold maxLen; omega) (by omega) (Nat.le_trans XD.out.xs.sz hb5.size) ?_
              intro g7 c7 w7 ho7 hg7 hat7
              have H7 := Lib.hid (XD.out.next hb5 HR5.out HWF5.out ho7 hg7 hat7)
              have l7 := H7.out.2.1
              have f7 := H7.out.1
              clear ho7 hg7 hat7
              refine hK _ _ (by simp) ?_
              clear hK K9
              try simp only [Act.put, List.setIfInBounds_toArray, List.set_cons_zero, List.set_cons_succ]
              refine ks_pure (i := 12) (oi := ?oi12b) (v := ?v12b) ?hi12b (by kernel_rfl) (by kernel_rfl) (by kernel_rfl) ?hQ12b ?hy12b ?rest12b
              case hi12b =>
                simp only [List.getElem?_toArray, List.getElem?_cons_succ, List.getElem?_cons_zero]
                rfl
              case hQ12b => exact fun _ _ _ h => h
              case hy12b =>
                refine yields_if (by rfl) (fun W hW => ?_)
                try dsimp only at hW
                go_simp
                first | done | with_reducible rfl
              simp only [Act.put, List.setIfInBounds_toArray, List.set_cons_zero, List.set_cons_succ]
              refine ks_one (i := 13) (o := ?o13b) ?ho13b (by kernel_rfl) (fun K9 hK => ?_)
              case ho13b =>
                simp only [List.getElem?_toArray, List.getElem?_cons_succ, List.getElem?_cons_zero]
                rfl
              go_simp
              refine hK _ _ (by simp) ?_
              clear hK K9
              try simp only [Act.put, List.setIfInBounds_toArray, List.set_cons_zero, List.set_cons_succ]
              refine ks_done (by kernel_rfl) ?_ _
              try simp only [Exit.then]
              rename_i hK1
              refine hK1 _ _ ?_
              clear hK1
              refine name_world ?_
              intro w8 hw8
              have H8 := Lib.hid (show i + 1 ≤ ls.length ∧ Sx w w8 [.int .i64 op, .slice ra rs.length rc, .int .i64 mn, .int .i64 mx, .bool lz, .bool fo, .slice (some ad) ls.length sc] dd on 0 0 _ (i + 1) c7 _ _ from ⟨hlt, by rw [hw8]; exact H7.out.2.2⟩)
              clear hw8 H7 l7 f7
              go_wp2
              go_roundw
              case rel => exact ⟨i + 1, c7, _, _, _, by omega, by go_num, H8⟩
              case measure => simp [intOf]; omega
            · have hi1 : 1 ≤ i := by omega
              have HEX : Hid (¬ bc = true → i = 1) := Lib.hid (fun hb => by have := HM.out; rw [if_neg hb] at this; omega)
              have l0 := H1.out.2.xs.r.cell 0
              simp only [List.getElem?_cons_zero] at l0
              have SXX := Lib.hid H1.out.2
              have hexit : ¬ (i < ls.length) ∨ ¬ (i < M) := by omega
              by_cases h17 : on = 17
              · exact absurd h17 (by have := HS2; omega)
              · have g17 : ((on : Int) == 17) = false := by rw [beq_eq_false_iff_ne]; omega
                have WF : wf 3 (dd + 1) (.nd on [] 0 0 subs) := by
                  have h6 := SXX.out.ls
                  by_cases hb : bc = true
                  · have h7 := HBC.out
                    rw [hb] at h7
                    have h8 : on = 18 ∨ on = 19 := of_decide_eq_true h7.symm
                    exact .inr (.inr (.inr (.inl ⟨h8, rfl, fun e => by rw [e] at h6; simp at h6; omega, by omega, SXX.out.wfs⟩)))
                  · have h7 := HEX.out hb
                    have h9 : ¬ (on = 18 ∨ on = 19) := fun h => hb (by rw [HBC.out]; exact decide_eq_true h)
                    refine .inr (.inr (.inr (.inr ⟨by omega, rfl, fun h => absurd h h17, ?_⟩)))
                    match subs, h6, SXX.out.wfs with
                    | [s], _, hs => exact ⟨s, rfl, hs s (by simp)⟩
                    | [], h6, _ => simp at h6; omega
                    | _ :: _ :: _, h6, _ => simp at h6; omega
                have HWF := Lib.hid WF
                clear WF l6 h17
                have l0 := SXX.out.xs.r.cell 0
                have l1 := SXX.out.xs.r.cell 1
                have l2 := SXX.out.xs.r.cell 2
                have l3 := SXX.out.xs.r.cell 3
                have l4 := SXX.out.xs.r.cell 4
                have l5 := SXX.out.xs.r.cell 5
                have l6 := SXX.out.xs.r.cell 6
                simp only [List.getElem?_cons_zero, List.getElem?_cons_succ] at l0 l1 l2 l3 l4 l5 l6
                have m0 := SXX.out.xs.res.cell 0
                have m1 := SXX.out.xs.res.cell 1
                have m2 := SXX.out.xs.res.cell 2
                have m3 := SXX.out.xs.res.cell 3
                have m4 := SXX.out.xs.res.cell 4
                have m5 := SXX.out.xs.res.cell 5
                have m6 := SXX.out.xs.res.cell 6
                simp only [rxc, List.getElem?_cons_zero, List.getElem?_cons_succ] at m0 m1 m2 m3 m4 m5 m6
                have f0 := SXX.out.xs.res.frozen 0
                have f1 := SXX.out.xs.res.frozen 1
                have f2 := SXX.out.xs.res.frozen 2
                have f3 := SXX.out.xs.res.frozen 3
                have f4 := SXX.out.xs.res.frozen 4
                have f5 := SXX.out.xs.res.frozen 5
                have f6 := SXX.out.xs.res.frozen 6
                by_cases hlt : i < ls.length
                · have hlM : ¬ (i < M) := by omega
                  clear hexit
                  go_wp2_with fail
                  refine bodyPost_ret_by (exp_res rfl SXX.out.xs.ret) rfl ?_
                  exact ⟨.nd on [] 0 0 subs, _, rfl, HWF.out, SXX.out.fin (by omega), below_seven SXX.out.xs.low (by omega)⟩
                · clear hexit
                  go_wp2_with fail
                  refine bodyPost_ret_by (exp_res rfl SXX.out.xs.ret) rfl ?_
                  exact ⟨.nd on [] 0 0 subs, _, rfl, HWF.out, SXX.out.fin (by omega), below_seven SXX.out.xs.low (by omega)⟩

end Go.Proofs.YtbkpgfccghombaaDoor.rx
