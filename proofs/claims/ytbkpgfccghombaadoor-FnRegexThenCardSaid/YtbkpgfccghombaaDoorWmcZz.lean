/-
  The law's expression out of any one: what is made is right: letters. Conditions: as stated.
-/
import Derived.Test.YtbkpgfccghombaaDoorM11
namespace Go.Proofs.YtbkpgfccghombaaDoor.rx
open Go.ChangeShapes Go.WideShapes Go.ChangeAt Go.RowKit
set_option linter.unusedVariables false

set_option maxRecDepth 100000 in
set_option maxHeartbeats 6400000 in
theorem exp_lit (dd d : Nat) (hdd : d = dd + 1) (hd : d ≤ 5) (IH : 1 ≤ dd → ExpOk dd) (op mn mx : Int) (lz fo : Bool) (ra : Option Addr) (rs : List Int) (rc : Nat) (sa : Option Addr) (ls : List (List Value)) (sc : Nat) (w : World) (hR : RawH w w.heap.size op mn mx ra rs sa ls) (hL : ∀ x ∈ ls, RawC w w.heap.size dd x) (hsel : oSel op d ls.length = 3) :
    ExpStep dd d op mn mx lz fo ra rs.length rc sa ls.length sc w := by
  obtain ⟨i0, hi0, hz0, hz1, hz2⟩ := info_parts infoR
  unfold ExpStep
  have HDD := Lib.hid hdd
  have HL := Lib.hid hL
  have IH := Lib.hid IH
  have hd1 : 1 ≤ d := by omega
  clear hdd hL
  have CA := Lib.hid (fun W => at_any op 14 W (by omega) (by omega))
  obtain ⟨b0, b1⟩ := atF_bd op 14 (by omega)
  obtain ⟨o, ho, ho2⟩ := ops_at _ b0 b1
  have HR := Lib.hid hR
  have HSO := Lib.hid (show oSel op d ls.length = if (d ≤ 1 ∨ ls.length = 0) ∧ 13 ≤ o then 3 else o from by
    have e : opsL.getD (atF op 14).toNat 0 = o := by rw [List.getD_eq_getElem?_getD, ho]; rfl
    unfold oSel
    rw [e])
  have HSEL := Lib.hid hsel
  clear hsel
  unfold rwc
  clear hR
  generalize atF op 14 = k at *
  obtain ⟨k, rfl⟩ : ∃ n : Nat, k = n := ⟨k.toNat, by omega⟩
  rw [Int.toNat_natCast] at ho
  have hcell := fun o1 o2 => ops_cell w o1 o2 54 k o ho
  go_enter Tryd.func10, Tryd.ntmps10
  go_upto_region 3 with (go_at_call 28; refine (CA.out _).mono ?_; rintro e w1 ⟨rfl, rfl⟩)
  clear hcell ho
  refine name_world ?_
  intro w1 hw1
  have X1 := Lib.hid (show Xs w w1 [.int .i64 op, .slice ra rs.length rc, .int .i64 mn, .int .i64 mx, .bool lz, .bool fo, .slice sa ls.length sc] o 0 0 (.slice none 0 0) (.slice none 0 0) from by rw [hw1]; exact xs_new w _ 0 0 _ o)
  clear hw1
  have r6 := X1.out.raw.cell 6
  simp only [List.getElem?_cons_zero, List.getElem?_cons_succ] at r6
  obtain ⟨bb, hbb⟩ : ∃ bb, bb = decide (d ≤ 1 ∨ ls.length = 0) := ⟨_, rfl⟩
  have HBB := Lib.hid hbb
  clear hbb
  go_cut [24] (fun s24 wx => s24 = .bool bb ∧ w1 = wx)
  case first =>
    by_cases h1 : d ≤ 1
    · have h1' : (d : Int) ≤ 1 := by omega
      obtain rfl : bb = true := by rw [HBB.out]; simp [h1]
      go_wp2
      go_meet
      case rel => exact ⟨rfl, rfl⟩
    · have h1' : ¬ (d : Int) ≤ 1 := by omega
      by_cases h2 : ls.length = 0
      · have h2' : ((ls.length : Int) == 0) = true := by simp [h2]
        obtain rfl : bb = true := by rw [HBB.out]; simp [h2]
        clear h2
        go_wp2
        go_meet
        case rel => exact ⟨rfl, rfl⟩
      · have h2' : ((ls.length : Int) == 0) = false := by rw [beq_eq_false_iff_ne]; omega
        obtain rfl : bb = false := by rw [HBB.out]; simp [h1, h2]
        clear h2
        go_wp2
        go_meet
        case rel => exact ⟨rfl, rfl⟩
  case rest =>
    obtain ⟨rfl, rfl⟩ := hcut
    clear r6
    obtain ⟨o', ho'⟩ : ∃ o', o' = if bb = true ∧ 13 ≤ o then 3 else o := ⟨_, rfl⟩
    have HO := Lib.hid ho'
    clear ho'
    have l0 := X1.out.r.cell 0
    have f0 := X1.out.r.frozen 0
    simp only [List.getElem?_cons_zero] at l0
    go_upto_if 24 with fail
    go_cut [] (fun wx => Hid (Xs w wx [.int .i64 op, .slice ra rs.length rc, .int .i64 mn, .int .i64 mx, .bool lz, .bool fo, .slice sa ls.length sc] o' 0 0 (.slice none 0 0) (.slice none 0 0)))
    case first =>
      cases bb with
      | false =>
        obtain rfl : o' = o := by rw [HO.out]; simp
        go_wp2
        go_meet
        case rel => exact X1
      | true =>
        by_cases h13 : 13 ≤ o
        · obtain rfl : o' = 3 := by rw [HO.out]; simp [h13]
          have g2 : (o == 2) = false := by rw [beq_eq_false_iff_ne]; omega
          have g3 : (o == 3) = false := by rw [beq_eq_false_iff_ne]; omega
          have g4 : (o == 4) = false := by rw [beq_eq_false_iff_ne]; omega
          have g5 : (o == 5) = false := by rw [beq_eq_false_iff_ne]; omega
          have g6 : (o == 6) = false := by rw [beq_eq_false_iff_ne]; omega
          clear ho2
          go_wp2
          go_meet
          case rel => exact Lib.hid (X1.out.set0 3)
        · have HH : Hid (o' = o) := Lib.hid (by rw [HO.out]; simp [h13])
          have ho3 : o = 2 ∨ o = 3 ∨ o = 4 ∨ o = 5 ∨ o = 6 := by omega
          clear ho2 HO
          have XX1 := Lib.hid (show Xs w w1 [.int .i64 op, .slice ra rs.length rc, .int .i64 mn, .int .i64 mx, .bool lz, .bool fo, .slice sa ls.length sc] o' 0 0 (.slice none 0 0) (.slice none 0 0) from by rw [HH.out]; exact X1.out)
          clear HH
          rcases ho3 with rfl | rfl | rfl | rfl | rfl
          all_goals
            go_wp2
            go_meet
            case rel => exact XX1
    case rest =>
      have XC := hcut
      have HOP : Hid (o' = 2 ∨ o' = 3 ∨ o' = 4 ∨ o' = 5 ∨ o' = 6 ∨ (13 ≤ o' ∧ o' ≤ 19 ∧ 1 < d ∧ ls.length ≠ 0)) := Lib.hid (by
        have h1 := HO.out
        have h2 := HBB.out
        by_cases hb : bb = true
        · by_cases h13 : 13 ≤ o
          · rw [if_pos ⟨hb, h13⟩] at h1; omega
          · rw [if_neg (fun h => h13 h.2)] at h1; omega
        · rw [if_neg (fun h => hb h.1)] at h1
          have : ¬ (d ≤ 1 ∨ ls.length = 0) := fun h => hb (by rw [h2]; exact decide_eq_true h)
          omega)
      have hsel : o' = oSel op d ls.length := by
        rw [HSO.out, HO.out, HBB.out]
        simp
      have HS2 := HSEL.out
      rw [← hsel] at HS2
      clear HO HBB ho2 hcut X1 hsel HSEL HSO
      clear HOP
      subst HS2
      have l0 := XC.out.r.cell 0
      simp only [List.getElem?_cons_zero] at l0
      go_wp2_with fail
      clear l0
      go_loopw [7] (fun v7 wr => ∃ (i c1 : Nat) (a1 : Option Addr) (out : List Int), i ≤ 4 ∧ v7 = .int .i64 i ∧ Hid (i ≤ rs.length ∧ out.length = i ∧ (∀ c ∈ out, isL c = true) ∧ Xs w wr [.int .i64 op, .slice ra rs.length rc, .int .i64 mn, .int .i64 mx, .bool lz, .bool fo, .slice sa ls.length sc] 3 0 0 (.slice a1 i c1) (.slice none 0 0) ∧ wr.ownsRow (w.heap.size + 4) 21 1 (.slice a1 i c1) i (out.map (.int .i32)))) (fun v7 _ => 4 - (intOf v7).toNat)
      case atStart => exact ⟨0, 0, none, [], by omega, rfl, Lib.hid ⟨by omega, rfl, by simp, XC.out, World.ownsRow_nil _ _ _ _⟩⟩
      case round =>
        obtain ⟨i, c1, a1, out, hi, rfl, H1⟩ := hrel
        have q1 := H1.out.2.2.2.1.raw.cell 1
        have l1 := H1.out.2.2.2.1.r.cell 1
        simp only [List.getElem?_cons_zero, List.getElem?_cons_succ] at q1 l1
        by_cases hgo : i < rs.length ∧ i < 4
        · obtain ⟨hlt, h4⟩ := hgo
          obtain ⟨ad, rfl, hadl, hx⟩ := rune_at (HR.out.r.below H1.out.2.2.2.1.low) i hlt
          have CL := Lib.hid (fun W => letter_any rs[i] W (HR.out.rb _ (List.getElem_mem hlt)).1 (HR.out.rb _ (List.getElem_mem hlt)).2)
          generalize rs[i] = x at *
          have HAD := Lib.hid (show ad.block < wr.heap.size from Nat.lt_of_lt_of_le hadl H1.out.2.2.2.1.low.size)
          have XD := Lib.hid (show Xs w wr.drew [.int .i64 op, .slice (some ad) rs.length rc, .int .i64 mn, .int .i64 mx, .bool lz, .bool fo, .slice sa ls.length sc] 3 0 0 (.slice a1 i c1) (.slice none 0 0) from H1.out.2.2.2.1.go (Below.refl _ _).drew)
          have OWN := Lib.hid (show wr.drew.ownsRow (w.heap.size + 4) 21 1 (.slice a1 i c1) i (out.map (.int .i32)) from own_below H1.out.2.2.2.2 (Below.refl _ _).drew)
          have HSZ := Lib.hid (show w.heap.size + 4 ≤ wr.heap.size from H1.out.2.2.2.1.sz)
          have HSK := Lib.hid (show ∀ W W' : World, Below wr.drew.heap.size W W' → (W.cell? ⟨w.heap.size + 1 + 1 + 1, 1, none⟩ = some (.slice a1 i c1) ∧ W.cell? ⟨w.heap.size, 1, none⟩ = some (.slice (some ad) rs.length rc) ∧ W.cell? (ad.add i) = some (.int .i32 x)) → (W'.cell? ⟨w.heap.size + 1 + 1 + 1, 1, none⟩ = some (.slice a1 i c1) ∧ W'.cell? ⟨w.heap.size, 1, none⟩ = some (.slice (some ad) rs.length rc) ∧ W'.cell? (ad.add i) = some (.int .i32 x)) from fun W W' hb h =>
            ⟨(hb.cell (p := ⟨w.heap.size + 1 + 1 + 1, 1, none⟩) (by have := HSZ.out; simp; omega)).trans h.1, (hb.cell (p := ⟨w.heap.size, 1, none⟩) (by have := HSZ.out; simp; omega)).trans h.2.1, (hb.cell (p := ad.add i) (by rw [block_add]; exact HAD.out)).trans h.2.2⟩)
          go_upto_region 20 with fail
          refine wp_region_ks (fun W => W.cell? ⟨w.heap.size + 1 + 1 + 1, 1, none⟩ = some (.slice a1 i c1) ∧ W.cell? ⟨w.heap.size, 1, none⟩ = some (.slice (some ad) rs.length rc) ∧ W.cell? (ad.add i) = some (.int .i32 x)) [9, 11] (by kernel_rfl) ?_
          simp only [List.size_toArray, List.length_cons, List.length_nil, Nat.reduceAdd]
          refine ks_pure (i := 0) (oi := ?oi0a) (v := ?v0a) ?hi0a (by kernel_rfl) (by kernel_rfl) (by kernel_rfl) ?hQ0a ?hy0a ?rest0a
          case hi0a =>
            simp only [List.getElem?_toArray, List.getElem?_cons_zero]
            rfl
          case hQ0a => exact fun _ _ _ h => h
          case hy0a =>
            refine yields_if (by rfl) (fun W hW => ?_)
            try dsimp only at hW
            go_simp
            first | done | with_reducible rfl
          simp only [Act.put, List.setIfInBounds_toArray, List.set_cons_zero, List.set_cons_succ]
          refine ks_via [9] (i := 1) (oi := ?oi1a) (v := ?v1a) ?hi1a (by kernel_rfl) (by kernel_rfl) (by kernel_rfl) (by kernel_rfl) (by kernel_rfl) ?hQ1a ?hS1a ?hy1a ?rest1a
          case hi1a =>
            simp only [List.getElem?_toArray, List.getElem?_cons_succ, List.getElem?_cons_zero]
            rfl
          case hQ1a => exact fun _ _ _ h => h
          case hS1a => exact ⟨l1, q1, hx⟩
          case hy1a =>
            refine yields_if (by rfl) (fun W hW => ?_)
            obtain ⟨hW1, hW2, hW3⟩ := hW
            go_simp
            first | done | with_reducible rfl
          simp only [Act.put, List.setIfInBounds_toArray, List.set_cons_zero, List.set_cons_succ]
          refine ks_pure (i := 2) (oi := ?oi2a) (v := ?v2a) ?hi2a (by kernel_rfl) (by kernel_rfl) (by kernel_rfl) ?hQ2a ?hy2a ?rest2a
          case hi2a =>
            simp only [List.getElem?_toArray, List.getElem?_cons_succ, List.getElem?_cons_zero]
            rfl
          case hQ2a => exact fun _ _ _ h => h
          case hy2a =>
            refine yields_if (by rfl) (fun W hW => ?_)
            try dsimp only at hW
            go_simp
            first | done | with_reducible rfl
          simp only [Act.put, List.setIfInBounds_toArray, List.set_cons_zero, List.set_cons_succ]
          refine ks_via [5, 6, 7, 8, 9] (i := 3) (oi := ?oi3a) (v := ?v3a) ?hi3a (by kernel_rfl) (by kernel_rfl) (by kernel_rfl) (by kernel_rfl) (by kernel_rfl) ?hQ3a ?hS3a ?hy3a ?rest3a
          case hi3a =>
            simp only [List.getElem?_toArray, List.getElem?_cons_succ, List.getElem?_cons_zero]
            rfl
          case hQ3a => exact fun _ _ _ h => h
          case hS3a => exact ⟨l1, q1, hx⟩
          case hy3a =>
            refine yields_if (by rfl) (fun W hW => ?_)
            obtain ⟨hW1, hW2, hW3⟩ := hW
            go_simp
            first | done | with_reducible rfl
          simp only [Act.put, List.setIfInBounds_toArray, List.set_cons_zero, List.set_cons_succ]
          refine ks_pure (i := 4) (oi := ?oi4a) (v := ?v4a) ?hi4a (by kernel_rfl) (by kernel_rfl) (by kernel_rfl) ?hQ4a ?hy4a ?rest4a
          case hi4a =>
            simp only [List.getElem?_toArray, List.getElem?_cons_succ, List.getElem?_cons_zero]
            rfl
          case hQ4a => exact fun _ _ _ h => h
          case hy4a =>
            refine yields_if (by rfl) (fun W hW => ?_)
            try dsimp only at hW
            go_simp
            first | done | with_reducible rfl
          simp only [Act.put, List.setIfInBounds_toArray, List.set_cons_zero, List.set_cons_succ]
          refine ks_pure (i := 5) (oi := ?oi5a) (v := ?v5a) ?hi5a (by kernel_rfl) (by kernel_rfl) (by kernel_rfl) ?hQ5a ?hy5a ?rest5a
          case hi5a =>
            simp only [List.getElem?_toArray, List.getElem?_cons_succ, List.getElem?_cons_zero]
            rfl
          case hQ5a => exact fun _ _ _ h => h
          case hy5a =>
            refine yields_if (by rfl) (fun W hW => ?_)
            try dsimp only at hW
            go_simp
            first | done | with_reducible rfl
          simp only [Act.put, List.setIfInBounds_toArray, List.set_cons_zero, List.set_cons_succ]
          refine ks_via [7, 8, 9] (i := 6) (oi := ?oi6a) (v := ?v6a) ?hi6a (by kernel_rfl) (by kernel_rfl) (by kernel_rfl) (by kernel_rfl) (by kernel_rfl) ?hQ6a ?hS6a ?hy6a ?rest6a
          case hi6a =>
            simp only [List.getElem?_toArray, List.getElem?_cons_succ, List.getElem?_cons_zero]
            rfl
          case hQ6a => exact fun _ _ _ h => h
          case hS6a => exact ⟨l1, q1, hx⟩
          case hy6a =>
            refine yields_if (by rfl) (fun W hW => ?_)
            obtain ⟨hW1, hW2, hW3⟩ := hW
            go_simp
            first | done | with_reducible rfl
          simp only [Act.put, List.setIfInBounds_toArray, List.set_cons_zero, List.set_cons_succ]
          refine ks_one (i := 7) (o := ?o7a) ?ho7a (by kernel_rfl) (fun K9 hK => ?_)
          case ho7a =>
            simp only [List.getElem?_toArray, List.getElem?_cons_succ, List.getElem?_cons_zero]
            rfl
          go_simp
          refine (CL.out _).mono ?_
          rintro e w5 ⟨rfl, hb5⟩
          refine hK _ _ (fun _ hS => HSK.out _ _ hb5 hS) ?_
          clear hK K9
          try simp only [Act.put, List.setIfInBounds_toArray, List.set_cons_zero, List.set_cons_succ]
          refine ks_one (i := 8) (o := ?o8a) ?ho8a (by kernel_rfl) (fun K9 hK => ?_)
          case ho8a =>
            simp only [List.getElem?_toArray, List.getElem?_cons_succ, List.getElem?_cons_zero]
            rfl
          go_simp
          refine hK _ _ (fun _ hS => HSK.out _ _ ((Below.refl _ _).alloc hb5.size _) hS) ?_
          clear hK K9
          try simp only [Act.put, List.setIfInBounds_toArray, List.set_cons_zero, List.set_cons_succ]
          refine ks_one (i := 9) (o := ?o9a) ?ho9a (by kernel_rfl) (fun K9 hK => ?_)
          case ho9a =>
            simp only [List.getElem?_toArray, List.getElem?_cons_succ, List.getElem?_cons_zero]
            rfl
          refine step_append1 w5 #[.int .i32 (ltr x)] rfl (.tmp 55) (.tmp 62) 22 rfl (w.heap.size + 4) 21 i0 _ 1 4 Tryd.underlying22 hi0 hz0 hz1 hz2 rfl (by omega) rfl (.slice a1 i c1) i (out.map (.int .i32)) rfl (own_below OWN.out hb5) w5.heap.size rfl rfl (by simp [Value.oneCell']) (by unfold maxLen; omega) (by omega) (Nat.le_trans XD.out.sz hb5.size) ?_
          intro g7 c7 w7 ho7 hg7 hat7
          have H7 := Lib.hid ((XD.out.go hb5).app1 (own_below OWN.out hb5) hg7 (.slice (some ⟨g7, 0, none⟩) (i + 1) c7))
          have O7 := Lib.hid ho7
          have l7 := H7.out.2.1
          have f7 := H7.out.1
          clear ho7 hg7 hat7
          refine hK _ _ (by simp) ?_
          clear hK K9
          try simp only [Act.put, List.setIfInBounds_toArray, List.set_cons_zero, List.set_cons_succ]
          refine ks_pure (i := 10) (oi := ?oi10a) (v := ?v10a) ?hi10a (by kernel_rfl) (by kernel_rfl) (by kernel_rfl) ?hQ10a ?hy10a ?rest10a
          case hi10a =>
            simp only [List.getElem?_toArray, List.getElem?_cons_succ, List.getElem?_cons_zero]
            rfl
          case hQ10a => exact fun _ _ _ h => h
          case hy10a =>
            refine yields_if (by rfl) (fun W hW => ?_)
            try dsimp only at hW
            go_simp
            first | done | with_reducible rfl
          simp only [Act.put, List.setIfInBounds_toArray, List.set_cons_zero, List.set_cons_succ]
          refine ks_one (i := 11) (o := ?o11a) ?ho11a (by kernel_rfl) (fun K9 hK => ?_)
          case ho11a =>
            simp only [List.getElem?_toArray, List.getElem?_cons_succ, List.getElem?_cons_zero]
            rfl
          go_simp
          refine hK _ _ (by simp) ?_
          clear hK K9
          try simp only [Act.put, List.setIfInBounds_toArray, List.set_cons_zero, List.set_cons_succ]
          refine ks_done (by kernel_rfl) ?_ _
          try simp only [Exit.then]
          rename_i hK1
          refine hK1 _ _ ?_
          clear hK1
          refine name_world ?_
          intro w8 hw8
          have H8 := Lib.hid (show i + 1 ≤ rs.length ∧ (out ++ [ltr x]).length = i + 1 ∧ (∀ c ∈ out ++ [ltr x], isL c = true) ∧ Xs w w8 [.int .i64 op, .slice (some ad) rs.length rc, .int .i64 mn, .int .i64 mx, .bool lz, .bool fo, .slice sa ls.length sc] 3 0 0 (.slice (some ⟨g7, 0, none⟩) (i + 1) c7) (.slice none 0 0) ∧ w8.ownsRow (w.heap.size + 4) 21 1 (.slice (some ⟨g7, 0, none⟩) (i + 1) c7) (i + 1) ((out ++ [ltr x]).map (.int .i32)) from ⟨hlt, by rw [List.length_append, H1.out.2.1]; rfl, fun c hc => by
            rcases List.mem_append.1 hc with hc | hc
            · exact H1.out.2.2.1 c hc
            · simp at hc
              subst hc
              exact ltr_ok x, by rw [hw8]; exact H7.out.2.2, by
            rw [hw8, List.map_append]
            exact own_far O7.out _ _ (fun e => by have := own_block_ge O7.out _ e; simp at this; omega)⟩)
          clear hw8 H7 O7 l7 f7
          go_wp2
          go_roundw
          case rel => exact ⟨i + 1, c7, _, _, by omega, by go_num, H8⟩
          case measure => simp [intOf]; omega
        · have hie : Hid (i = 0 → rs.length = 0) := Lib.hid (fun h => by omega)
          by_cases hz : i = 0
          · have hlt : ¬ (i < rs.length) := by have := hie.out hz; omega
            subst hz
            have fa := fun o => (H1.out.2.2.2.1.go ((Below.refl wr.heap.size wr).alloc (Nat.le_refl _) o)).r.frozen 1
            have la := fun o => (H1.out.2.2.2.1.go ((Below.refl wr.heap.size wr).alloc (Nat.le_refl _) o)).r.cell 1
            simp only [List.getElem?_cons_zero, List.getElem?_cons_succ] at la
            go_upto_region 23 with fail
            clear fa la
            refine name_world ?_
            intro w3 hw3
            have X3 := Lib.hid (show Xs w w3 [.int .i64 op, .slice ra rs.length rc, .int .i64 mn, .int .i64 mx, .bool lz, .bool fo, .slice sa ls.length sc] 3 0 0 (.slice (some ⟨wr.heap.size, 0, none⟩) 1 1) (.slice none 0 0) from by
              rw [hw3]
              exact (H1.out.2.2.2.1.go ((Below.refl _ _).alloc (Nat.le_refl _) _)).set1 _)
            have HS3 := Lib.hid (show SlO w3 (fun k => k < w.heap.size + 4) (some ⟨wr.heap.size, 0, none⟩) ([(97 : Int)].map (.int .i32)) from by
              rw [hw3]
              exact (SlO.of_blk (Blk.new wr 21 [Value.int .i32 97]) (by have := H1.out.2.2.2.1.sz; omega)).go ((Fr.refl _ _).set _ _ (show w.heap.size + 1 + 1 + 1 < w.heap.size + 4 by omega)) (fun k hk => .inl hk))
            clear hw3 q1 l1
            have l0 := X3.out.r.cell 0
            have l1 := X3.out.r.cell 1
            have l2 := X3.out.r.cell 2
            have l3 := X3.out.r.cell 3
            have l4 := X3.out.r.cell 4
            have l5 := X3.out.r.cell 5
            have l6 := X3.out.r.cell 6
            simp only [List.getElem?_cons_zero, List.getElem?_cons_succ] at l0 l1 l2 l3 l4 l5 l6
            have m0 := X3.out.res.cell 0
            have m1 := X3.out.res.cell 1
            have m2 := X3.out.res.cell 2
            have m3 := X3.out.res.cell 3
            have m4 := X3.out.res.cell 4
            have m5 := X3.out.res.cell 5
            have m6 := X3.out.res.cell 6
            simp only [rxc, List.getElem?_cons_zero, List.getElem?_cons_succ] at m0 m1 m2 m3 m4 m5 m6
            have f0 := X3.out.res.frozen 0
            have f1 := X3.out.res.frozen 1
            have f2 := X3.out.res.frozen 2
            have f3 := X3.out.res.frozen 3
            have f4 := X3.out.res.frozen 4
            have f5 := X3.out.res.frozen 5
            have f6 := X3.out.res.frozen 6
            go_wp2_with fail
            refine bodyPost_ret_by (exp_res rfl X3.out.ret) rfl ?_
            exact ⟨.nd 3 [97] 0 0 [], rxc 3 0 0 (some ⟨wr.heap.size, 0, none⟩) 1 1 none 0 0, rfl, (.inr (.inl ⟨rfl, rfl, by simp, by simp, by intro c hc; simp at hc; subst hc; decide⟩)), ⟨_, 1, none, 0, [], rfl, slo_seven HS3.out (by omega), rfl, by simp, slo_nil, by simp⟩, below_seven X3.out.low (by omega)⟩
          · have hi0 : ((i : Int) == 0) = false := by rw [beq_eq_false_iff_ne]; omega
            have h4' : (i : Int) < 4 ∨ ¬ (i : Int) < 4 := by omega
            have X3 := Lib.hid H1.out.2.2.2.1
            have HO3 := Lib.hid H1.out.2.2.2.2
            clear l1
            have l0 := X3.out.r.cell 0
            have l1 := X3.out.r.cell 1
            have l2 := X3.out.r.cell 2
            have l3 := X3.out.r.cell 3
            have l4 := X3.out.r.cell 4
            have l5 := X3.out.r.cell 5
            have l6 := X3.out.r.cell 6
            simp only [List.getElem?_cons_zero, List.getElem?_cons_succ] at l0 l1 l2 l3 l4 l5 l6
            have m0 := X3.out.res.cell 0
            have m1 := X3.out.res.cell 1
            have m2 := X3.out.res.cell 2
            have m3 := X3.out.res.cell 3
            have m4 := X3.out.res.cell 4
            have m5 := X3.out.res.cell 5
            have m6 := X3.out.res.cell 6
            simp only [rxc, List.getElem?_cons_zero, List.getElem?_cons_succ] at m0 m1 m2 m3 m4 m5 m6
            have f0 := X3.out.res.frozen 0
            have f1 := X3.out.res.frozen 1
            have f2 := X3.out.res.frozen 2
            have f3 := X3.out.res.frozen 3
            have f4 := X3.out.res.frozen 4
            have f5 := X3.out.res.frozen 5
            have f6 := X3.out.res.frozen 6
            by_cases hlt : i < rs.length
            · have h4 : ¬ (i < 4) := by omega
              clear h4'
              go_wp2_with fail
              refine bodyPost_ret_by (exp_res rfl X3.out.ret) rfl ?_
              exact ⟨.nd 3 out 0 0 [], rxc 3 0 0 a1 i c1 none 0 0, rfl, .inr (.inl ⟨rfl, rfl, fun e => by have := H1.out.2.1; rw [e] at this; simp at this; omega, by rw [H1.out.2.1]; omega, H1.out.2.2.1⟩), ⟨a1, c1, none, 0, [], by rw [H1.out.2.1]; rfl, slo_seven (slo_of_own HO3.out) (by omega), rfl, by simp, slo_nil, by simp⟩, below_seven X3.out.low (by omega)⟩
            · clear h4'
              go_wp2_with fail
              refine bodyPost_ret_by (exp_res rfl X3.out.ret) rfl ?_
              exact ⟨.nd 3 out 0 0 [], rxc 3 0 0 a1 i c1 none 0 0, rfl, .inr (.inl ⟨rfl, rfl, fun e => by have := H1.out.2.1; rw [e] at this; simp at this; omega, by rw [H1.out.2.1]; omega, H1.out.2.2.1⟩), ⟨a1, c1, none, 0, [], by rw [H1.out.2.1]; rfl, slo_seven (slo_of_own HO3.out) (by omega), rfl, by simp, slo_nil, by simp⟩, below_seven X3.out.low (by omega)⟩

end Go.Proofs.YtbkpgfccghombaaDoor.rx
