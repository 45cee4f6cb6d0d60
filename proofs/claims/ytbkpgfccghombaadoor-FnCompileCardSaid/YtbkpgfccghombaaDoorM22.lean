/-
  Parts of the proof in one text: Rtl, Rtz, Vc, Vd, Rba. Conditions: as each states.
-/
import Derived.Test.YtbkpgfccghombaaDoorM21
import Derived.Test.YtbkpgfccghombaaDoorM16
import Derived.Test.YtbkpgfccghombaaDoorM20
/-! Where words of an expression can end: letters. Conditions: as stated. -/
namespace Go.Proofs.YtbkpgfccghombaaDoor.rx
open Go.ChangeShapes Go.WideShapes Go.ChangeAt Go.RowKit
set_option linter.unusedVariables false
set_option linter.unusedSimpArgs false

theorem stB_app (a b : List Int) : stB (a ++ b) = stB a ++ stB b := by
  unfold stB
  apply ByteArray.ext
  simp
theorem byL_inj {t u : ByteArray} (h : byL t = byL u) : t = u := by
  unfold byL at h
  have h2 : t.data.toList = u.data.toList := by
    refine List.map_inj_right (f := fun b : UInt8 => (b.toNat : Int)) ?_ |>.1 h
    intro x y hxy
    exact UInt8.toNat_inj.1 (by omega)
  exact ByteArray.ext (Array.toList_inj.1 h2)
def litStep (u s : List Int) (f : List Bool) (cur : List Bool) (i : Nat) : List Bool := if f.getD i false = true ∧ (s.drop i).take u.length = u then cur.set (i + u.length) true else cur
/-- the places behind letters: so many beginnings looked at -/
def litR (u s : List Int) (f : List Bool) (n : Nat) : List Bool := (List.range n).foldl (litStep u s f) (List.replicate (s.length + 1) false)
theorem litR_succ (u s : List Int) (f : List Bool) (n : Nat) : litR u s f (n + 1) = litStep u s f (litR u s f n) n := by
  unfold litR
  rw [List.range_succ, List.foldl_append]
  rfl
theorem litStep_len (u s : List Int) (f cur : List Bool) (i : Nat) : (litStep u s f cur i).length = cur.length := by
  unfold litStep
  split <;> simp
theorem litR_len (u s : List Int) (f : List Bool) : ∀ n, (litR u s f n).length = s.length + 1
  | 0 => by simp [litR]
  | n + 1 => by rw [litR_succ, litStep_len, litR_len u s f n]
theorem litR_at (u s : List Int) (f : List Bool) : ∀ (n j : Nat), n + u.length ≤ s.length + 1 → ((litR u s f n)[j]? = some true ↔ ∃ i, i < n ∧ f[i]? = some true ∧ (s.drop i).take u.length = u ∧ j = i + u.length)
  | 0, j, _ => by
    unfold litR
    simp only [List.range_zero, List.foldl_nil, List.getElem?_replicate]
    constructor
    · intro h
      split at h <;> simp at h
    · rintro ⟨i, h, -⟩
      omega
  | n + 1, j, hn => by
    have ih := litR_at u s f n j (by omega)
    have hl := litR_len u s f n
    rw [litR_succ]
    unfold litStep
    by_cases hc : f.getD n false = true ∧ (s.drop n).take u.length = u
    · rw [if_pos hc, List.getElem?_set]
      by_cases hj : n + u.length = j
      · rw [if_pos hj, if_pos (by omega)]
        exact ⟨fun _ => ⟨n, by omega, getD_true.1 hc.1, hc.2, hj.symm⟩, fun _ => rfl⟩
      · rw [if_neg hj, ih]
        constructor
        · rintro ⟨i, h1, h2⟩
          exact ⟨i, by omega, h2⟩
        · rintro ⟨i, h1, h2⟩
          refine ⟨i, ?_, h2⟩
          rcases Nat.lt_or_ge i n with h | h
          · exact h
          · obtain rfl : i = n := by omega
            exact absurd h2.2.2.symm hj
    · rw [if_neg hc, ih]
      constructor
      · rintro ⟨i, h1, h2⟩
        exact ⟨i, by omega, h2⟩
      · rintro ⟨i, h1, h2⟩
        refine ⟨i, ?_, h2⟩
        rcases Nat.lt_or_ge i n with h | h
        · exact h
        · obtain rfl : i = n := by omega
          exact absurd ⟨getD_true.2 h2.1, h2.2.1⟩ hc
theorem litR_is (u s : List Int) (f : List Bool) (n : Nat) (h : n + u.length = s.length + 1 ∨ n = 0 ∧ s.length < u.length) : litR u s f n = rch (fun v => v = u) s f := by
  refine set_ext (by rw [litR_len, rch_len]) fun j hj => ?_
  rw [litR_len] at hj
  rw [rch_at]
  constructor
  · intro h1
    rcases h with h | ⟨rfl, h⟩
    · obtain ⟨i, g1, g2, g3, g4⟩ := (litR_at u s f n j (by omega)).1 h1
      exact ⟨by omega, i, by omega, g2, by rw [seg_eq, show j - i = u.length by omega]; exact g3⟩
    · unfold litR at h1
      simp only [List.range_zero, List.foldl_nil, List.getElem?_replicate] at h1
      split at h1 <;> simp at h1
  · rintro ⟨h1, i, h2, h3, h4⟩
    have hl := congrArg List.length h4
    rw [seg_len h1] at hl
    rcases h with h | ⟨rfl, h⟩
    · exact (litR_at u s f n j (by omega)).2 ⟨i, by omega, h3, by rw [seg_eq] at h4; rw [← hl]; exact h4, by omega⟩
    · omega
set_option maxRecDepth 100000 in
set_option maxHeartbeats 3200000 in
theorem reach_lit (mn mx : Int) (ra : Option Addr) (rs : List Int) (rc : Nat) (sa : Option Addr) (sn sc : Nat) (w : World) (t : ByteArray) (aa : Option Addr) (ca : Nat) (f : List Bool) (hk : ∀ c ∈ rs, isL c = true) (hl : rs.length ≤ 4) (hr : Sl w w.heap.size ra (rs.map (.int .i32))) (ha : Sl w w.heap.size aa (f.map .bool)) (hf : f.length = t.size + 1) (ht : t.size ≤ 1000) :
    Calls Tryd.prog 36 #[.agg (rxc 3 mn mx ra rs.length rc sa sn sc).toArray, .string t, .slice aa f.length ca] w fun e w' => ∃ v, e = .returned v ∧ BS w' w.heap.size v (rch (fun u => u = rs.flatMap ub) (byL t) f) ∧ Below w.heap.size w w' := by
  have hmk := run_bools (t.size + 1) (by omega)
  rw [Int.natCast_succ] at hmk
  have hfl : 1 ≤ f.length ∧ f.length ≤ 1001 := by omega
  have HB := Lib.hid (Bx.new w (rxc 3 mn mx ra rs.length rc sa sn sc))
  have HA := Lib.hid ha
  have HF := Lib.hid hf
  have HSR := Lib.hid hr
  have HK := Lib.hid hk
  have HUL := Lib.hid (lit_le rs)
  clear ha hf hr hk
  unfold rxc at *
  have HM := Lib.hid (show ∀ W : World, ∀ u : List Int, Blk (W.alloc (.cells (madeCells #[.bool false] (t.size + 1)) 4)) W.heap.size 4 ((litR u (byL t) f 0).map .bool) from fun W u => by
    have := blk_made W (t.size + 1)
    rw [← byL_len] at this ⊢
    exact this)
  go_enter Tryd.func36, Tryd.ntmps36
  go_upto_region 8 with fail
  refine name_world ?_
  intro w2 hw2
  have HBX := Lib.hid (show Bx w w2 _ from by rw [hw2]; exact HB.out.go ((Below.refl _ _).alloc (Nat.le_refl _) _))
  have HM2 := Lib.hid (show ∀ u, Blk w2 (w.heap.size + 1) 4 ((litR u (byL t) f 0).map .bool) from fun u => by
    rw [hw2]
    have := HM.out (w.alloc (.cells #[.int .i64 3, .slice ra rs.length rc, .int .i64 mn, .int .i64 mx, .bool false, .bool false, .slice sa sn sc] 25)) u
    simpa using this)
  clear hw2 hmk
  go_wp2_with fail
  go_loopw [8, 9] (fun v8 v9 wr => ∃ (i : Nat) (u : ByteArray), i ≤ rs.length ∧ v9 = .int .i64 i ∧ v8 = .string u ∧ Hid (u = stB ((rs.take i).flatMap ub)) ∧ Hid (Below w2.heap.size w2 wr)) (fun _ v9 _ => rs.length - (intOf v9).toNat)
  case atStart => exact ⟨0, _, by omega, rfl, rfl, Lib.hid (by rfl), Lib.hid (Below.refl _ _)⟩
  case round =>
    obtain ⟨i, u, hi, rfl, rfl, HU, HW⟩ := hrel
    have HBR := Lib.hid (HBX.out.go HW.out)
    have c1 := HBR.out.b.cell 1
    simp only [List.getElem?_cons_zero, List.getElem?_cons_succ] at c1
    by_cases hlt : i < rs.length
    · obtain ⟨ad, rfl, -, hc⟩ := rune_at (HSR.out.below HBR.out.l) i hlt
      have CE := Lib.hid (fun W => encd_any rs[i] W (HK.out _ (List.getElem_mem hlt)))
      have HT := Lib.hid (show stB ((rs.take (i + 1)).flatMap ub) = u ++ stB (ub rs[i]) from by
        rw [HU.out, ← stB_app, List.take_succ_eq_append_getElem hlt, List.flatMap_append]
        simp)
      have HSZ := Lib.hid (show ¬ 9223372036854775807 < u.size + (stB (ub rs[i])).size from by
        have h1 := lit_le (rs.take i)
        rw [HU.out, stB_size, stB_size]
        have h2 := (ub_len rs[i]).2
        rw [List.length_take] at h1
        omega)
      generalize rs[i] = x at *
      generalize stB (ub x) = ux at *
      have hsz := HSZ.out
      go_wp2_with (first | (go_at_call 21; refine (CE.out _).mono ?_; rintro e w5 ⟨rfl, h5⟩; have H5 := Lib.hid h5; clear h5) | fail)
      go_roundw
      case rel => exact ⟨i + 1, _, by omega, by go_num, rfl, Lib.hid HT.out.symm, Lib.hid (HW.out.trans (H5.out.mono HW.out.size))⟩
      case measure => simp [intOf]; omega
    · obtain rfl : i = rs.length := by omega
      have HU2 := Lib.hid (show u = stB (rs.flatMap ub) from by rw [HU.out, List.take_length])
      have HM3 := Lib.hid (show Blk wr (w.heap.size + 1) 4 ((litR (rs.flatMap ub) (byL t) f 0).map .bool) from (HM2.out _).below HW.out (HM2.out []).lt)
      have hu16 : u.size ≤ 16 := by rw [HU2.out, stB_size]; have := HUL.out; omega
      have HUN := Lib.hid (show u.size = (rs.flatMap ub).length from by rw [HU2.out, stB_size])
      have HOK := Lib.hid (show okB (rs.flatMap ub) from fun x hx => by
        obtain ⟨c, hc, hx⟩ := List.mem_flatMap.1 hx
        exact ub_bd c (of_decide_eq_true (HK.out c hc)).1 (of_decide_eq_true (HK.out c hc)).2.1 x hx)
      clear HU HM2 HM
      generalize hul : rs.flatMap ub = ul at *
      have HUQ := Lib.hid hul
      clear hul
      go_wp2_with fail
      go_loopw [10] (fun v10 wr => ∃ i : Nat, (i + ul.length ≤ t.size + 1 ∨ i = 0) ∧ v10 = .int .i64 i ∧ Hid (Blk wr (w.heap.size + 1) 4 ((litR ul (byL t) f i).map .bool) ∧ Bx w wr [.int .i64 3, .slice ra rs.length rc, .int .i64 mn, .int .i64 mx, .bool false, .bool false, .slice sa sn sc])) (fun v10 _ => t.size + 1 - (intOf v10).toNat)
      case atStart => exact ⟨0, by omega, rfl, Lib.hid ⟨HM3.out, HBR.out⟩⟩
      case round =>
        obtain ⟨i, hi2, rfl, H1⟩ := hrel
        by_cases hlt2 : i + u.size ≤ t.size
        · have hif : i < f.length := by have := HF.out; omega
          obtain ⟨ad, rfl, had, hc⟩ := bool_at (HA.out.below H1.out.2.l) i hif
          have HG := Lib.hid (bool_getD hif)
          generalize hx : f[i] = x at *
          clear hx
          have HST := Lib.hid (litR_succ ul (byL t) f i)
          unfold litStep at HST
          rw [HG.out] at HST
          have HEQ := Lib.hid (show (((t.extract i (i + u.size)).toList == u.toList) = true) ↔ ((byL t).drop i).take ul.length = ul from by
            have e1 : byL (t.extract i (i + u.size)) = ((byL t).drop i).take ul.length := by rw [byL_ext, List.drop_take, HUN.out]; congr 1; omega
            have e2 : byL u = ul := by rw [HU2.out, byL_stB ul HOK.out]
            rw [beq_iff_eq, ByteArray.toList_eq, ByteArray.toList_eq]
            constructor
            · intro h
              rw [← e1, show t.extract i (i + u.size) = u from ByteArray.ext (Array.toList_inj.1 h), e2]
            · intro h
              rw [← e1, ← e2] at h
              rw [byL_inj (h.trans (by rw [e2]))])
          cases x with
          | false =>
            have HS2 := Lib.hid (show litR ul (byL t) f (i + 1) = litR ul (byL t) f i from by rw [HST.out, if_neg (fun h => Bool.noConfusion h.1)])
            go_wp2
            go_roundw
            case rel => exact ⟨i + 1, .inl (by have := HUN.out; omega), by go_num, Lib.hid ⟨by rw [HS2.out]; exact H1.out.1, H1.out.2⟩⟩
            case measure => simp [intOf]; omega
          | true =>
            cases hb : ((t.extract i (i + u.size)).toList == u.toList) with
            | false =>
              have HS2 := Lib.hid (show litR ul (byL t) f (i + 1) = litR ul (byL t) f i from by rw [HST.out, if_neg (fun h => by have h9 := HEQ.out.2 h.2; rw [hb] at h9; cases h9)])
              go_wp2
              go_roundw
              case rel => exact ⟨i + 1, .inl (by have := HUN.out; omega), by go_num, Lib.hid ⟨by rw [HS2.out]; exact H1.out.1, H1.out.2⟩⟩
              case measure => simp [intOf]; omega
            | true =>
              have HS2 := Lib.hid (show litR ul (byL t) f (i + 1) = (litR ul (byL t) f i).set (i + u.size) true from by rw [HST.out, if_pos ⟨rfl, HEQ.out.1 hb⟩, HUN.out])
              have f7 := H1.out.1.frozen (i + u.size)
              have l7 := H1.out.1.cell (i + u.size)
              rw [List.getElem?_map, List.getElem?_eq_getElem (by rw [litR_len, byL_len]; omega)] at l7
              simp only [Option.map_some] at l7
              have HS7 := Lib.hid (fun (_ : Unit) => show Hid (Blk (wr.setCell ⟨w.heap.size + 1, i + u.size, none⟩ (.bool true)) (w.heap.size + 1) 4 ((litR ul (byL t) f (i + 1)).map .bool) ∧ Bx w (wr.setCell ⟨w.heap.size + 1, i + u.size, none⟩ (.bool true)) [.int .i64 3, .slice ra rs.length rc, .int .i64 mn, .int .i64 mx, .bool false, .bool false, .slice sa sn sc]) from Lib.hid ⟨by rw [HS2.out, List.map_set]; exact H1.out.1.set_ _ _, H1.out.2.set (by simp) _⟩)
              go_wp2
              go_roundw
              case rel => exact ⟨i + 1, .inl (by have := HUN.out; omega), by go_num, HS7.out ()⟩
              case measure => simp [intOf]; omega
        · have H2 := Lib.hid (show BS wr w.heap.size (.slice (some ⟨w.heap.size + 1, 0, none⟩) (t.size + 1) (t.size + 1)) (rch (fun v => v = ul) (byL t) f) from by
            have h1 := H1.out.1
            rw [litR_is ul (byL t) f i (by rw [byL_len]; have := HUN.out; omega)] at h1
            exact ⟨w.heap.size + 1, t.size + 1, [], by rw [rch_len, byL_len], by omega, by rw [List.append_nil]; exact h1⟩)
          have H3 := Lib.hid H1.out.2.l
          have hlt3 : ¬ ((i : Int) + (u.size : Int) ≤ (t.size : Int)) := by omega
          go_wp2
          go_ret
          exact ⟨_, rfl, by rw [HUQ.out]; exact H2.out, H3.out⟩
end Go.Proofs.YtbkpgfccghombaaDoor.rx

/-! Where words of an expression can end: any expression. Conditions: as stated. -/
namespace Go.Proofs.YtbkpgfccghombaaDoor.rx
open Go.ChangeShapes Go.WideShapes Go.ChangeAt Go.RowKit
set_option linter.unusedVariables false

/-- how often a node repeats its part, in a text of so many letters: at least, and how many more -/
theorem rep_lang {d : Nat} {X : Lg} (s : List Int) (f : List Bool) : rch (uptoL X 0 (s.length + 1)) s f = rch (starL X) s f ∧ rch (uptoL X 1 (s.length + 1)) s f = rch (cat2 X (starL X)) s f ∧ rch (uptoL X 0 1) s f = rch (or2 X epsL) s f := by
  refine ⟨?_, ?_, ?_⟩
  · rw [rch_star 0 _ (by omega)]
    exact rch_congr fun u => eps_cat2 _ u
  · rw [rch_star 1 _ (by omega)]
    refine rch_congr fun u => ?_
    unfold cat2
    simp only [powL, cat2_eps]
  · refine rch_congr fun u => ?_
    constructor
    · rintro ⟨k, h1, h2⟩
      match k, h1, h2 with
      | 0, _, h2 => exact .inr h2
      | 1, _, h2 => exact .inl ((cat2_eps X u).1 h2)
    · rintro (h | h)
      · exact ⟨1, Nat.le_refl _, (cat2_eps X u).2 h⟩
      · exact ⟨0, by omega, h⟩
theorem re_ok : ∀ d : Nat, ReOk d
  | 0 => fun w r cs t aa ca f hR hw => hw.elim
  | d + 1 => by
    intro w r cs t aa ca f hR hw ha hf ht
    have IH := re_ok d
    cases r with
    | nd op rs mn mx subs =>
    obtain ⟨ra, rc, sa, sc, ls, rfl, h1, h2, h3, h4, h5⟩ := hR
    rcases hw with ⟨rfl, rfl, rfl⟩ | ⟨rfl, rfl, g1, g2, g3⟩ | ⟨g1, rfl⟩ | ⟨g1, rfl, g2, g3, g4⟩ | ⟨g1, rfl, g2, s, rfl, g3⟩
    · refine (reach_eps mn mx ra 0 rc sa 0 sc w t aa ca f ha hf ht).mono ?_
      rintro e w' ⟨v, rfl, k1, k2⟩
      refine ⟨v, rfl, ?_, k2⟩
      have e1 : lang (d + 1) (.nd 2 [] mn mx []) = epsL := by simp [lang]
      rw [e1, rch_eps (by rw [hf, byL_len])]
      exact k1
    · have e1 : lang (d + 1) (.nd 3 rs mn mx []) = (fun u => u = rs.flatMap ub) := by simp [lang]
      rw [e1]
      exact reach_lit mn mx ra rs rc sa 0 sc w t aa ca f g3 g2 h1 ha hf ht
    · have e1 : lang (d + 1) (.nd op rs mn mx []) = clsL (pairs (rngs op rs)) := by
        rcases g1 with ⟨rfl, -⟩ | ⟨rfl | rfl, -⟩ <;> simp [lang]
      rw [e1]
      rcases g1 with ⟨rfl, k1, k2⟩ | ⟨rfl | rfl, rfl⟩
      · exact reach_cls4 mn mx ra rs rc sa 0 sc w t aa ca f (by omega) k1 h1 ha hf ht
      · exact reach_cls5 mn mx ra [] rc sa 0 sc w t aa ca f (fun _ => rfl) (by simp) h1 ha hf ht
      · exact reach_cls6 mn mx ra [] rc sa 0 sc w t aa ca f (fun _ => rfl) (by simp) h1 ha hf ht
    · rcases g1 with rfl | rfl
      · have e1 : lang (d + 1) (.nd 18 [] mn mx subs) = catL (subs.map (lang d)) := by simp [lang]
        rw [e1]
        exact reach_cat IH mn mx ra 0 rc sa sc subs ls w t aa ca f g4 g3 h2 h3 h4 h5 ha hf ht
      · have e1 : lang (d + 1) (.nd 19 [] mn mx subs) = altL (subs.map (lang d)) := by simp [lang]
        rw [e1]
        exact reach_alt IH mn mx ra 0 rc sa sc subs ls w t aa ca f g4 g3 g2 h2 h3 h4 h5 ha hf ht
    · obtain ⟨r1, r2, r3⟩ := rep_lang (d := d) (X := lang d s) (byL t) f
      rw [byL_len] at r1 r2
      rcases g1 with rfl | rfl | rfl | rfl | rfl
      · have e1 : lang (d + 1) (.nd 13 [] mn mx [s]) = lang d s := by simp [lang]
        rw [e1]
        exact reach_capt IH mn mx ra 0 rc sa sc s ls w t aa ca f g3 h2 h3 h4 h5 ha hf ht
      · have e1 : lang (d + 1) (.nd 14 [] mn mx [s]) = starL (lang d s) := by simp [lang]
        rw [e1, ← r1]
        exact reach_rep IH 14 (by omega) (by omega) mn mx 0 (t.size + 1) (-1) rfl (by omega) ra 0 rc sa sc s ls w t aa ca f (.inl ⟨by omega, rfl⟩) g3 h2 h3 h4 h5 ha hf ht
      · have e1 : lang (d + 1) (.nd 15 [] mn mx [s]) = cat2 (lang d s) (starL (lang d s)) := by simp [lang]
        rw [e1, ← r2]
        exact reach_rep IH 15 (by omega) (by omega) mn mx 1 (t.size + 1) (-1) rfl (by omega) ra 0 rc sa sc s ls w t aa ca f (.inl ⟨by omega, rfl⟩) g3 h2 h3 h4 h5 ha hf ht
      · have e1 : lang (d + 1) (.nd 16 [] mn mx [s]) = or2 (lang d s) epsL := by simp [lang]
        rw [e1, ← r3]
        exact reach_rep IH 16 (by omega) (by omega) mn mx 0 1 1 rfl (by omega) ra 0 rc sa sc s ls w t aa ca f (.inr ⟨by omega, by omega, by omega⟩) g3 h2 h3 h4 h5 ha hf ht
      · obtain ⟨k1, k2, k3⟩ := g2 rfl
        obtain ⟨a, rfl⟩ : ∃ a : Nat, mn = a := ⟨mn.toNat, by omega⟩
        have e1 : lang (d + 1) (.nd 17 [] a mx [s]) = cat2 (powL (lang d s) a) (if mx < 0 then starL (lang d s) else optL (lang d s) (mx - a).toNat) := by simp [lang]
        rw [e1]
        rcases k3 with rfl | ⟨k3, k4⟩
        · rw [if_pos (by omega), ← rch_star a (t.size + 1) (by rw [byL_len]; omega)]
          exact reach_rep IH 17 (by omega) (by omega) a (-1) a (t.size + 1) (-1) rfl (by omega) ra 0 rc sa sc s ls w t aa ca f (.inl ⟨by omega, rfl⟩) g3 h2 h3 h4 h5 ha hf ht
        · rw [if_neg (by omega), rch_congr (fun u => (upto_opt (lang d s) a (mx - a).toNat u).symm)]
          exact reach_rep IH 17 (by omega) (by omega) a mx a (mx - a).toNat mx rfl (by omega) ra 0 rc sa sc s ls w t aa ca f (.inr ⟨by omega, by omega, by omega⟩) g3 h2 h3 h4 h5 ha hf ht
end Go.Proofs.YtbkpgfccghombaaDoor.rx

/-! Where a program is behind each beginning of a text. Conditions: as stated. -/
namespace Go.Proofs.YtbkpgfccghombaaDoor.rx
open Go.ChangeShapes Go.WideShapes Go.ChangeAt Go.RowKit
set_option linter.unusedVariables false
set_option linter.unusedSimpArgs false

section
variable (P : List Ins)
open Classical in
/-- whether it has come to a match behind a text; whether it is where it matches or takes a byte -/
noncomputable def mtAt (u : List Int) : Bool := decide (∃ k, Road P 0 u k ∧ P[k]? = some .mt)
open Classical in
noncomputable def cnAt (u : List Int) : Bool := decide (∃ k, Road P 0 u k ∧ rmB P[k]? = true)
noncomputable def mtL (s : List Int) : List Bool := (List.range (s.length + 1)).map fun i => mtAt P (s.take i)
noncomputable def cnL (s : List Int) : List Bool := (List.range (s.length + 1)).map fun i => cnAt P (s.take i)
def mtB : Option Ins → Bool
  | some .mt => true
  | _ => false
def tkO (x : Option Int) (o : Option Ins) : Bool := match x with
  | some x => tkB x o
  | none => false
def anyK (p : Option Ins → Bool) (f : List Bool) (k : Nat) : Bool := (List.range k).any fun j => (f[j]? == some true) && p P[j]?
noncomputable def nxK (f : List Bool) (x : Option Int) (k : Nat) : List Bool := plS P (fun j => ∃ m, m < k ∧ j = m + 1 ∧ f[m]? = some true ∧ tkO x P[m]? = true)
end
section
variable {P : List Ins}
theorem anyK_succ (p : Option Ins → Bool) (f : List Bool) (k : Nat) : anyK P p f (k + 1) = (anyK P p f k || ((f[k]? == some true) && p P[k]?)) := by
  unfold anyK
  rw [List.range_succ, List.any_append]
  simp
theorem anyK_end (p : Option Ins → Bool) (u : List Int) : anyK P p (stp P u) P.length = true ↔ ∃ k, k < P.length ∧ Road P 0 u k ∧ p P[k]? = true := by
  unfold anyK
  rw [List.any_eq_true]
  constructor
  · rintro ⟨j, h1, h2⟩
    simp only [Bool.and_eq_true, beq_iff_eq] at h2
    obtain ⟨h3, h4⟩ := plS_at.1 h2.1
    exact ⟨j, h3, h4, h2.2⟩
  · rintro ⟨k, h1, h2, h3⟩
    refine ⟨k, List.mem_range.2 h1, ?_⟩
    simp only [Bool.and_eq_true, beq_iff_eq]
    exact ⟨plS_at.2 ⟨h1, h2⟩, h3⟩
open Classical in
theorem mtK_end (u : List Int) : anyK P mtB (stp P u) P.length = mtAt P u := by
  rw [Bool.eq_iff_iff, anyK_end]
  unfold mtAt
  rw [decide_eq_true_eq]
  constructor
  · rintro ⟨k, h1, h2, h3⟩
    refine ⟨k, h2, ?_⟩
    unfold mtB at h3
    split at h3
    · assumption
    · cases h3
  · rintro ⟨k, h1, h2⟩
    exact ⟨k, (List.getElem?_eq_some_iff.1 h2).1, h1, by rw [h2]; rfl⟩
open Classical in
theorem cnK_end (u : List Int) : anyK P rmB (stp P u) P.length = cnAt P u := by
  rw [Bool.eq_iff_iff, anyK_end]
  unfold cnAt
  rw [decide_eq_true_eq]
  constructor
  · rintro ⟨k, h1, h2, h3⟩
    exact ⟨k, h2, h3⟩
  · rintro ⟨k, h1, h2⟩
    refine ⟨k, ?_, h1, h2⟩
    by_cases h : k < P.length
    · exact h
    · rw [List.getElem?_eq_none (by omega)] at h2
      cases h2
theorem nxK_len (f : List Bool) (x : Option Int) (k : Nat) : (nxK P f x k).length = P.length := plS_len _
theorem nxK_zero (f : List Bool) (x : Option Int) : nxK P f x 0 = List.replicate P.length false := by
  refine set_ext (by rw [nxK_len]; simp) fun j hj => ?_
  unfold nxK
  rw [plS_at]
  constructor
  · rintro ⟨h1, m, h2, -⟩
    omega
  · intro h
    rw [List.getElem?_replicate] at h
    split at h <;> simp at h
theorem nxK_no {f : List Bool} {x : Option Int} {k : Nat} (h : ((f[k]? == some true) && tkO x P[k]?) = false) : nxK P f x (k + 1) = nxK P f x k := by
  refine set_ext (by rw [nxK_len, nxK_len]) fun j hj => ?_
  unfold nxK
  rw [plS_at, plS_at]
  refine and_congr_right fun _ => ⟨?_, fun ⟨m, h1, h2⟩ => ⟨m, by omega, h2⟩⟩
  rintro ⟨m, h1, h2, h3, h4⟩
  by_cases hmk : m = k
  · subst hmk
    rw [h3, h4] at h
    simp at h
  · exact ⟨m, by omega, h2, h3, h4⟩
theorem nxK_yes {f : List Bool} {x : Option Int} {k : Nat} (h : ((f[k]? == some true) && tkO x P[k]?) = true) (hk : k + 1 < P.length) : nxK P f x (k + 1) = (nxK P f x k).set (k + 1) true := by
  simp only [Bool.and_eq_true, beq_iff_eq] at h
  refine set_ext (by rw [List.length_set, nxK_len, nxK_len]) fun j hj => ?_
  rw [set_at (by rw [nxK_len]; exact hk)]
  unfold nxK
  rw [plS_at, plS_at]
  constructor
  · rintro ⟨h1, m, h2, h3, h4⟩
    by_cases hmk : m = k
    · subst hmk
      exact .inl h3
    · exact .inr ⟨h1, m, by omega, h3, h4⟩
  · rintro (rfl | ⟨h1, m, h2, h3⟩)
    · exact ⟨hk, k, by omega, rfl, h⟩
    · exact ⟨h1, m, by omega, h3⟩
theorem nxK_end (f : List Bool) (x : Int) : nxK P f (some x) P.length = plS P (Nxt P f x) := by
  refine set_ext (by rw [nxK_len, plS_len]) fun j hj => ?_
  unfold nxK
  rw [plS_at, plS_at]
  refine and_congr_right fun h0 => ?_
  constructor
  · rintro ⟨m, h1, h2, h3, h4⟩
    obtain ⟨lo, hi, e, h5, h6⟩ := tk_rg (x := x) h4
    exact ⟨m, lo, hi, h2, h3, e, h5, h6⟩
  · rintro ⟨m, lo, hi, h2, h3, e, h5, h6⟩
    exact ⟨m, (List.getElem?_eq_some_iff.1 e).1, h2, h3, by rw [e]; simp [tkO, tkB, h5, h6]⟩
theorem mtB_is (x : Ins) : mtB (some x) = (iop x == 0) := by cases x <;> rfl
theorem rmB_is (x : Ins) : rmB (some x) = ((iop x == 0) || (iop x == 3)) := by cases x <;> rfl
theorem tkB_is (x : Ins) (b : Int) : tkB b (some x) = ((iop x == 3) && (decide (ilo x ≤ b) && decide (b ≤ ihi x))) := by
  cases x with
  | rg lo hi =>
    rw [Bool.eq_iff_iff]
    simp only [tkB, iop, ilo, ihi, Bool.and_eq_true]
    exact ⟨fun h => ⟨rfl, decide_eq_true (of_decide_eq_true h.1), decide_eq_true (of_decide_eq_true h.2)⟩, fun h => ⟨decide_eq_true (of_decide_eq_true h.2.1), decide_eq_true (of_decide_eq_true h.2.2)⟩⟩
  | mt => rfl
  | jp t => rfl
  | sp s t => rfl
theorem list_upto {α : Type} (g : Nat → α) (n i : Nat) (h : i < n) : ((List.range n).map g).take (i + 1) = ((List.range n).map g).take i ++ [g i] := by
  rw [List.take_succ_eq_append_getElem (by simpa using h)]
  simp
end
/-- what a round has: the set, the two rows -/
structure RunR (P : List Ins) (s : List Int) (w wr : World) (i : Nat) (a6 : Option Addr) (f : List Bool) (v4 v5 : Value) : Prop where
  len : f.length = P.length
  set : plS P (Clo P f) = stp P (s.take i)
  sl : Sl wr wr.heap.size a6 (f.map .bool)
  r4 : wr.ownsRow w.heap.size 4 1 v4 i (((mtL P s).take i).map .bool)
  r5 : wr.ownsRow w.heap.size 4 1 v5 i (((cnL P s).take i).map .bool)
  ap : Apart v4 v5
  low : Below w.heap.size w wr
set_option maxRecDepth 100000 in
set_option maxHeartbeats 3200000 in
theorem run_any (P : List Ins) (a : Option Addr) (c : Nat) (t : ByteArray) (w : World) (hP : Sl w w.heap.size a (P.flatMap insC)) (hS : Snd P) (h0 : 0 < P.length) (hn : P.length ≤ 1000000000000) (ht : t.size ≤ 1000) :
    Calls Tryd.prog 16 #[.slice a P.length c, .string t] w fun e w' => ∃ v1 v2, e = .returned (.tuple #[v1, v2]) ∧ BS w' w.heap.size v1 (mtL P (byL t)) ∧ BS w' w.heap.size v2 (cnL P (byL t)) ∧ Below w.heap.size w w' := by
  obtain ⟨i0, hi0, hz0, hz1, hz2⟩ := info_parts infoO
  have hmk := run_bools P.length (by omega)
  have HP := Lib.hid hP
  have HS := Lib.hid hS
  have HM := Lib.hid (show ∀ W : World, Blk (W.alloc (.cells (madeCells #[.bool false] P.length) 4)) W.heap.size 4 ((List.replicate P.length false).map .bool) from fun W => blk_made W _)
  have HLN := Lib.hid (byL_len t)
  obtain ⟨s, hs⟩ : ∃ s, s = byL t := ⟨_, rfl⟩
  have HSS := Lib.hid hs
  rw [← hs] at HLN ⊢
  clear hP hS hs
  go_enter Tryd.func16, Tryd.ntmps16
  go_upto_region 2 with fail
  refine name_world ?_
  intro w2 hw2
  have HM2 := Lib.hid (show Blk w2 w.heap.size 4 ((List.replicate P.length false).map .bool) from by rw [hw2]; exact HM.out w)
  have HB2 := Lib.hid (show Below w.heap.size w w2 from by rw [hw2]; exact (Below.refl _ _).alloc (Nat.le_refl _) _)
  clear hw2
  have l0 := HM2.out.cell 0
  have f0 := HM2.out.frozen 0
  rw [List.getElem?_map, List.getElem?_replicate, if_pos (by omega)] at l0
  simp only [Option.map_some] at l0
  go_upto_region 3 with fail
  refine name_world ?_
  intro w3 hw3
  have HM3 := Lib.hid (show Blk w3 w.heap.size 4 ((plS P (fun k => k = 0)).map .bool) from by
    rw [hw3]
    have := HM2.out.set_ 0 (.bool true)
    rw [← List.map_set] at this
    have e : (List.replicate P.length false).set 0 true = plS P (fun k => k = 0) := by
      refine set_ext (by simp [plS_len]) fun j hj => ?_
      rw [set_at (by simpa using h0), plS_at, List.getElem?_replicate]
      constructor
      · rintro (rfl | h)
        · exact ⟨h0, rfl⟩
        · split at h <;> simp at h
      · rintro ⟨-, rfl⟩
        exact .inl rfl
    rwa [e] at this)
  have HB3 := Lib.hid (show Below w.heap.size w w3 from by rw [hw3]; exact HB2.out.setCell (p := ⟨w.heap.size, 0, none⟩) (Nat.le_refl _) _)
  clear hw3 l0 f0
  go_wp2_with fail
  go_loopw [4, 5, 6, 7, 8, 9, 10, 11] (fun v4 v5 v6 v7 _ _ _ _ wr => ∃ (i : Nat) (f : List Bool) (a6 : Option Addr) (c6 a4c a5c : Nat) (a4 a5 : Option Addr), i ≤ t.size ∧ v7 = .int .i64 i ∧ v6 = .slice a6 P.length c6 ∧ v4 = .slice a4 i a4c ∧ v5 = .slice a5 i a5c ∧ Hid (RunR P s w wr i a6 f (.slice a4 i a4c) (.slice a5 i a5c))) (fun _ _ _ v7 _ _ _ _ _ => t.size + 1 - (intOf v7).toNat)
  case atStart => exact ⟨0, plS P (fun k => k = 0), some ⟨w.heap.size, 0, none⟩, P.length, 0, 0, none, none, by omega, rfl, rfl, rfl, rfl, Lib.hid ⟨plS_len _, by rw [List.take_zero]; exact stp_nil h0, HM3.out.sl HM3.out.lt, World.ownsRow_nil _ _ _ _, World.ownsRow_nil _ _ _ _, Apart.none_, HB3.out⟩⟩
  case round =>
    obtain ⟨i, f, a6, c6, a4c, a5c, a4, a5, hi, rfl, rfl, rfl, rfl, H1⟩ := hrel
    have HPr := Lib.hid ((HP.out.below H1.out.low).more H1.out.low.size)
    have CR0 := reached_any P a c f a6 c6 wr HPr.out HS.out H1.out.sl H1.out.len h0 hn
    rw [H1.out.set, H1.out.len] at CR0
    have CR := Lib.hid CR0
    clear CR0
    go_upto_region 6 with (first | (go_at_call 35; refine CR.out.mono ?_; rintro e w4 ⟨v, rfl, h4, hb4⟩; obtain ⟨g6, c7, rest, rfl, hg6, hk6⟩ := h4; have H6 := Lib.hid (And.intro hg6 (And.intro hk6 hb4)); clear hg6 hk6 hb4 CR) | fail)
    have HLS := Lib.hid (show (stp P (s.take i)).length = P.length from plS_len _)
    rw [HLS.out]
    go_upto_region 8 with fail
    refine name_world ?_
    intro w5 hw5
    have HM5 := Lib.hid (show Blk w5 w4.heap.size 4 ((List.replicate P.length false).map .bool) from by rw [hw5]; exact HM.out w4)
    have HB5 := Lib.hid (show Below w4.heap.size w4 w5 from by rw [hw5]; exact (Below.refl _ _).alloc (Nat.le_refl _) _)
    clear hw5
    have HW5 := Lib.hid ((H1.out.low.trans (H6.out.2.2.mono H1.out.low.size)).trans (HB5.out.mono (Nat.le_trans H1.out.low.size H6.out.2.2.size)))
    have K5 := Lib.hid (show _ ∧ _ from ⟨H6.out.2.1.below HB5.out H6.out.2.1.lt, H6.out.2.1.lt⟩)
    have R5 := Lib.hid (show _ ∧ _ ∧ _ from ⟨own_below (own_below H1.out.r4 H6.out.2.2) HB5.out, own_below (own_below H1.out.r5 H6.out.2.2) HB5.out, H1.out.ap⟩)
    have L5 := Lib.hid (show (∀ k, (Value.slice a4 i a4c).ownBlock = some k → k < w4.heap.size) ∧ (∀ k, (Value.slice a5 i a5c).ownBlock = some k → k < w4.heap.size) from ⟨fun k e => Nat.lt_of_lt_of_le (own_block_lt H1.out.r4 k e) H6.out.2.2.size, fun k e => Nat.lt_of_lt_of_le (own_block_lt H1.out.r5 k e) H6.out.2.2.size⟩)
    have HZ := Lib.hid (show w.heap.size ≤ w4.heap.size from Nat.le_trans H1.out.low.size H6.out.2.2.size)
    obtain ⟨ff, hff⟩ : ∃ ff, ff = stp P (s.take i) := ⟨_, rfl⟩
    rw [← hff] at K5 HLS
    obtain ⟨xo, hxo⟩ : ∃ xo, xo = s[i]? := ⟨_, rfl⟩
    have HFF := Lib.hid hff
    have HXO := Lib.hid hxo
    clear hff hxo H6 HPr H1
    go_wp2_with fail
    go_loopw [8, 9, 11] (fun v8 v9 v11 wz => ∃ (k : Nat) (m cc : Bool), k ≤ P.length ∧ v8 = .bool m ∧ v9 = .bool cc ∧ v11 = .int .i64 k ∧ Hid (m = anyK P mtB ff k ∧ cc = anyK P rmB ff k ∧ Blk wz w4.heap.size 4 ((nxK P ff xo k).map .bool) ∧ Fr (fun q => q = w4.heap.size) w5 wz)) (fun _ _ v11 _ => P.length - (intOf v11).toNat)
    case atStart => exact ⟨0, false, false, by omega, rfl, rfl, rfl, Lib.hid ⟨rfl, rfl, by rw [nxK_zero]; exact HM5.out, Fr.refl _ _⟩⟩
    case round =>
      obtain ⟨k, m, cc, hk, rfl, rfl, rfl, H2⟩ := hrel
      by_cases hkl : k < P.length
      · have KB := Lib.hid (H2.out.2.2.2.blk K5.out.1 (fun e => by have := K5.out.2; omega))
        have hkf : k < ff.length := by rw [HLS.out]; exact hkl
        have HBW := Lib.hid (HW5.out.trans (H2.out.2.2.2.below (B := w.heap.size) (fun k hk e => by have := HZ.out; omega) HW5.out.size))
        obtain ⟨ad, rfl, hc⟩ := ins_atW HP.out k hkl
        obtain ⟨e0, -, -, -, e4, e5⟩ := hc wr HBW.out
        have c6k := KB.out.cell k
        rw [List.getElem?_append_left (by simpa using hkf), List.getElem?_map, List.getElem?_eq_getElem hkf, Option.map_some] at c6k
        have HY := Lib.hid (show (ff[k]? == some true) = ff[k] by rw [List.getElem?_eq_getElem hkf]; cases ff[k] <;> rfl)
        have HX := Lib.hid (show P[k]? = some P[k] from List.getElem?_eq_getElem hkl)
        have EM := Lib.hid (anyK_succ (P := P) mtB ff k)
        have EC := Lib.hid (anyK_succ (P := P) rmB ff k)
        have HSK := Lib.hid (HS.out k hkl).2
        rw [← H2.out.1, HY.out, HX.out, mtB_is] at EM
        rw [← H2.out.2.1, HY.out, HX.out, rmB_is] at EC
        have ENo := Lib.hid (nxK_no (P := P) (f := ff) (x := xo) (k := k))
        have EYe := Lib.hid (nxK_yes (P := P) (f := ff) (x := xo) (k := k))
        rw [HY.out, HX.out] at ENo EYe
        rw [HX.out] at HSK
        clear hc
        generalize P[k] = x at *
        generalize ff[k] = y at *
        obtain ⟨b0, hb0⟩ : ∃ b0, (iop x == 0) = b0 := ⟨_, rfl⟩
        obtain ⟨b3, hb3⟩ : ∃ b3, (iop x == 3) = b3 := ⟨_, rfl⟩
        rw [hb0] at EM EC
        rw [hb3] at EC
        obtain ⟨m2, hm2⟩ : ∃ m2, m2 = (m || (y && b0)) := ⟨_, rfl⟩
        obtain ⟨c2, hc2⟩ : ∃ c2, c2 = (cc || (y && (b0 || b3))) := ⟨_, rfl⟩
        rw [← hm2] at EM
        rw [← hc2] at EC
        have HM2_ := Lib.hid hm2
        have HC2_ := Lib.hid hc2
        clear hm2 hc2
        go_upto_region 11 with fail
        go_cut [8] (fun s8 wx => s8 = .bool m2 ∧ wr = wx)
        case first =>
          cases m with
          | true => go_wp2; go_meet; exact ⟨by rw [HM2_.out]; rfl, rfl⟩
          | false =>
            cases y with
            | true => go_wp2; go_meet; exact ⟨by rw [HM2_.out]; rfl, rfl⟩
            | false => go_wp2; go_meet; exact ⟨by rw [HM2_.out]; rfl, rfl⟩
        case rest =>
        obtain ⟨rfl, rfl⟩ := hcut
        go_upto_region 12 with fail
        go_cut [9] (fun s9 wx => s9 = .bool c2 ∧ wr = wx)
        case first =>
          cases cc with
          | true => go_wp2; go_meet; exact ⟨by rw [HC2_.out]; rfl, rfl⟩
          | false =>
            cases y with
            | false => go_wp2; go_meet; exact ⟨by rw [HC2_.out]; rfl, rfl⟩
            | true =>
              cases b0 with
              | true => go_wp2; go_meet; exact ⟨by rw [HC2_.out]; rfl, rfl⟩
              | false => go_wp2; go_meet; exact ⟨by rw [HC2_.out]; rfl, rfl⟩
        case rest =>
        obtain ⟨rfl, rfl⟩ := hcut
        have HTK := Lib.hid (tkB_is x)
        obtain ⟨cd, hcd⟩ : ∃ cd, cd = (y && tkO xo (some x)) := ⟨_, rfl⟩
        rw [← hcd] at ENo EYe
        have HCD := Lib.hid hcd
        clear hcd
        go_upto_region 13 with fail
        go_cut [108] (fun s108 wx => s108 = .bool cd ∧ ∃ q, wx = wr.drewN q)
        case first =>
          by_cases hit : i < t.size
          · have d1 : decide (i < t.size) = true := decide_eq_true hit
            have d2 : decide ((i : Int) < (t.size : Int)) = true := decide_eq_true (by omega)
            have hx : xo = some (t[i].toNat : Int) := by
              have h1 := byL_at t i hit
              rw [List.getD_eq_getElem?_getD, ← HSS.out, ← HXO.out] at h1
              have h2 : i < s.length := by rw [HLN.out]; exact hit
              rw [HXO.out, List.getElem?_eq_getElem h2] at h1 ⊢
              simpa using h1
            have hcd := HCD.out
            rw [hx] at hcd
            simp only [tkO] at hcd
            rw [HTK.out, hb3] at hcd
            obtain ⟨b4, hb4⟩ : ∃ b4, decide (ilo x ≤ (t[i].toNat : Int)) = b4 := ⟨_, rfl⟩
            obtain ⟨b5, hb5⟩ : ∃ b5, decide ((t[i].toNat : Int) ≤ ihi x) = b5 := ⟨_, rfl⟩
            rw [hb4, hb5] at hcd
            cases y with
            | false => (obtain rfl : cd = false := hcd); go_quiet (fail); go_wp2; go_meet; exact ⟨rfl, _, rfl⟩
            | true =>
              cases b3 with
              | false => (obtain rfl : cd = false := hcd); go_quiet (fail); go_wp2; go_meet; exact ⟨rfl, _, rfl⟩
              | true =>
                cases b4 with
                | false => (obtain rfl : cd = false := hcd); go_quiet (fail); go_wp2; go_meet; exact ⟨rfl, _, rfl⟩
                | true => (obtain rfl : cd = b5 := hcd); go_quiet (fail); go_wp2; go_meet; exact ⟨rfl, _, rfl⟩
          · obtain rfl : i = t.size := by omega
            have hx : xo = none := by
              rw [HXO.out]
              exact List.getElem?_eq_none (by rw [HLN.out]; omega)
            have hcd := HCD.out
            rw [hx] at hcd
            obtain rfl : cd = false := by rw [hcd]; simp [tkO]
            clear hcd
            go_quiet (fail)
            go_wp2
            go_meet
            exact ⟨rfl, _, rfl⟩
        case rest =>
        obtain ⟨rfl, q, rfl⟩ := hcut
        cases cd with
        | false =>
          have HN := Lib.hid (ENo.out rfl)
          go_wp2
          go_roundw
          case rel => exact ⟨k + 1, _, _, by omega, rfl, rfl, by go_num, Lib.hid ⟨EM.out.symm, EC.out.symm, by rw [HN.out]; exact H2.out.2.2.1.drewN q, H2.out.2.2.2.drewN q⟩⟩
          case measure => simp [intOf]; omega
        | true =>
          have hk1 : k + 1 < P.length := by
            have h1 := HCD.out.symm
            simp only [Bool.and_eq_true] at h1
            have h2 := h1.2
            unfold tkO at h2
            split at h2
            · unfold tkB at h2
              split at h2
              · rename_i lo hi e
                injection e with e
                exact HSK.out lo hi (by rw [e])
              · cases h2
            · cases h2
          have HN := Lib.hid (EYe.out rfl hk1)
          have hnl : k + 1 < (nxK P ff xo k).length := by rw [nxK_len]; exact hk1
          have cn := (H2.out.2.2.1.drewN q).cell (k + 1)
          rw [List.getElem?_map, List.getElem?_eq_getElem hnl, Option.map_some] at cn
          have fn := (H2.out.2.2.1.drewN q).frozen (k + 1)
          have HST := Lib.hid (show Blk ((wr.drewN q).setCell ⟨w4.heap.size, k + 1, none⟩ (.bool true)) w4.heap.size 4 ((nxK P ff xo (k + 1)).map .bool) from by
            rw [HN.out, List.map_set]
            exact (H2.out.2.2.1.drewN q).set_ (k + 1) (.bool true))
          have hk1' : (k : Int) + 1 < (P.length : Int) := by omega
          generalize (nxK P ff xo k)[k + 1] = u at *
          go_wp2
          go_roundw
          case rel => exact ⟨k + 1, _, _, by omega, rfl, rfl, by go_num, Lib.hid ⟨EM.out.symm, EC.out.symm, by simpa using HST.out, by simpa using (H2.out.2.2.2.drewN q).set ⟨w4.heap.size, k + 1, none⟩ (.bool true) rfl⟩⟩
          case measure => simp [intOf]; omega
      · obtain rfl : k = P.length := by omega
        have EM := Lib.hid (H2.out.1.trans (by rw [HFF.out]; exact mtK_end (P := P) (s.take i)) : m = mtAt P (s.take i))
        have EC := Lib.hid (H2.out.2.1.trans (by rw [HFF.out]; exact cnK_end (P := P) (s.take i)) : cc = cnAt P (s.take i))
        have HBW := Lib.hid (HW5.out.trans (H2.out.2.2.2.below (B := w.heap.size) (fun k hk e => by have := HZ.out; omega) HW5.out.size))
        have O4 := Lib.hid (H2.out.2.2.2.own R5.out.1 (fun k e g => by have h1 := L5.out.1 k e; rw [g] at h1; exact Nat.lt_irrefl _ h1))
        have O5 := Lib.hid (H2.out.2.2.2.own R5.out.2.1 (fun k e g => by have h1 := L5.out.2 k e; rw [g] at h1; exact Nat.lt_irrefl _ h1))
        have NX := Lib.hid H2.out.2.2.1
        have HW := Lib.hid HBW.out.size
        have hi13 : i ≤ 1000 := by omega
        clear H2
        go_upto_region 16 with (first | (at_builtin; refine append1_at wr #[.bool m] rfl (.tmp 113) (.tmp 115) 35 rfl w.heap.size 4 i0 _ 1 1 Tryd.underlying35 hi0 hz0 hz1 hz2 rfl (by omega) rfl (.slice a4 i a4c) i (((mtL P s).take i).map .bool) rfl O4.out wr.heap.size rfl rfl (by simp [Value.oneCell']) (by unfold maxLen; omega) (by omega) HW.out ?_; intro v8 w8 ho8 hg8 _ hat8; obtain ⟨a8, c8, rfl⟩ := own_value ho8; have Q8 := Lib.hid (And.intro ho8 (And.intro hg8 hat8)); have P5 := Lib.hid ((Fr.of_grown (O := fun k => (Value.slice a4 i a4c).ownBlock = some k) hg8 (fun k e => e)).own O5.out (fun k e g => R5.out.2.2 k g e)); have HW8 := Lib.hid (Nat.le_trans HW.out hg8.size); clear ho8 hg8 hat8) | (at_builtin; refine append1_at w8 #[.bool cc] rfl (.tmp 117) (.tmp 119) 35 rfl w.heap.size 4 i0 _ 1 1 Tryd.underlying35 hi0 hz0 hz1 hz2 rfl (by omega) rfl (.slice a5 i a5c) i (((cnL P s).take i).map .bool) rfl P5.out w8.heap.size rfl rfl (by simp [Value.oneCell']) (by unfold maxLen; omega) (by omega) HW8.out ?_; intro v9 w9 ho9 hg9 _ hat9; obtain ⟨a9, c9, rfl⟩ := own_value ho9; have Q9 := Lib.hid (And.intro ho9 (And.intro hg9 hat9)); clear ho9 hg9 hat9) | fail)
        have N9 := Lib.hid (show Blk w9 w4.heap.size 4 ((nxK P ff xo P.length).map .bool) from (NX.out.grown Q8.out.2.1 (fun e => Nat.lt_irrefl _ (L5.out.1 _ e.symm))).grown Q9.out.2.1 (fun e => Nat.lt_irrefl _ (L5.out.2 _ e.symm)))
        have B9 := Lib.hid ((HBW.out.grown Q8.out.2.1 HW.out (own_block_ge O4.out)).grown Q9.out.2.1 HW8.out (own_block_ge P5.out))
        have A85 := Lib.hid (show Apart (.slice a5 i a5c) (.slice a8 (i + 1) c8) from Apart.next R5.out.2.2.symm (fun k e => own_block_lt O5.out k e) Q8.out.2.2)
        have O8 := Lib.hid ((Fr.of_grown (O := fun k => (Value.slice a5 i a5c).ownBlock = some k) Q9.out.2.1 (fun k e => e)).own Q8.out.1 (fun k e g => A85.out.symm k e g))
        have A89 := Lib.hid (show Apart (.slice a8 (i + 1) c8) (.slice a9 (i + 1) c9) from Apart.next A85.out.symm (fun k e => own_block_lt Q8.out.1 k e) Q9.out.2.2)
        have hsl : i < s.length + 1 := by have := HLN.out; omega
        have T8 := Lib.hid (show ((mtL P s).take i).map .bool ++ (#[.bool m] : Array Value).toList = ((mtL P s).take (i + 1)).map .bool by
          unfold mtL
          rw [list_upto _ _ _ hsl, List.map_append, EM.out]
          rfl)
        have T9 := Lib.hid (show ((cnL P s).take i).map .bool ++ (#[.bool cc] : Array Value).toList = ((cnL P s).take (i + 1)).map .bool by
          unfold cnL
          rw [list_upto _ _ _ hsl, List.map_append, EC.out]
          rfl)
        have F8 := Lib.hid (show w9.ownsRow w.heap.size 4 1 (.slice a8 (i + 1) c8) (i + 1) (((mtL P s).take (i + 1)).map .bool) from by rw [← T8.out]; exact O8.out)
        have F9 := Lib.hid (show w9.ownsRow w.heap.size 4 1 (.slice a9 (i + 1) c9) (i + 1) (((cnL P s).take (i + 1)).map .bool) from by rw [← T9.out]; exact Q9.out.1)
        clear hsl
        by_cases hend : i = t.size
        · subst hend
          have G8 := Lib.hid (show BS w9 w.heap.size (.slice a8 (t.size + 1) c8) (mtL P s) from by
            have hl : (mtL P s).length = t.size + 1 := by simp [mtL, HLN.out]
            have := F8.out
            rw [List.take_of_length_le (by omega), ← hl] at this
            rw [← hl]
            exact BS.of_own this (by omega))
          have G9 := Lib.hid (show BS w9 w.heap.size (.slice a9 (t.size + 1) c9) (cnL P s) from by
            have hl : (cnL P s).length = t.size + 1 := by simp [cnL, HLN.out]
            have := F9.out
            rw [List.take_of_length_le (by omega), ← hl] at this
            rw [← hl]
            exact BS.of_own this (by omega))
          go_wp2
          go_ret2
          exact ⟨_, _, rfl, G8.out, G9.out, B9.out⟩
        · have hs2 : i < s.length := by have := HLN.out; omega
          have hx : xo = some s[i] := by rw [HXO.out]; exact List.getElem?_eq_getElem hs2
          have ST := Lib.hid (show plS P (Clo P (nxK P ff xo P.length)) = stp P (s.take (i + 1)) by
            rw [hx, nxK_end, HFF.out, stp_snoc HS.out, ← List.take_succ_eq_append_getElem hs2])
          have hne : ((i : Int) == (t.size : Int)) = false := by rw [beq_eq_false_iff_ne]; omega
          clear hx hs2
          go_wp2
          go_roundw
          case rel => exact ⟨i + 1, nxK P ff xo P.length, some ⟨w4.heap.size, 0, none⟩, P.length, c8, c9, a8, a9, by omega, by go_num, rfl, by go_num, by go_num, Lib.hid ⟨nxK_len _ _ _, ST.out, N9.out.sl N9.out.lt, F8.out, F9.out, A89.out, B9.out⟩⟩
          case measure => simp [intOf]; omega
end Go.Proofs.YtbkpgfccghombaaDoor.rx

/-! An expression's instructions come to a match just behind its words. Conditions: as stated. -/
namespace Go.Proofs.YtbkpgfccghombaaDoor.rx
open Go.ChangeShapes Go.WideShapes Go.ChangeAt Go.RowKit
set_option linter.unusedVariables false
set_option linter.unusedSimpArgs false

section
variable {d : Nat} {r : Rx}
open Classical in
theorem prg_match (hw : wf 3 d r) (u : List Int) : mtAt (prg d r) u = true ↔ lang d r u := by
  obtain ⟨F, h1, h2⟩ := prg_frag hw
  unfold mtAt
  rw [decide_eq_true_eq, ← frag_match F h1 u]
  constructor
  · rintro ⟨k, h3, h4⟩
    have hk := (List.getElem?_eq_some_iff.1 h4).1
    by_cases he : k = (comp d 0 r).length
    · rw [← he]
      exact h3
    · exact absurd h4 (F.nmt k (Nat.zero_le _) (by omega))
  · intro h
    exact ⟨_, h, h1⟩
open Classical in
theorem prg_can (hw : wf 3 d r) (u : List Int) : cnAt (prg d r) u = true ↔ ∃ v, lang d r (u ++ v) := by
  obtain ⟨F, h1, h2⟩ := prg_frag hw
  unfold cnAt
  rw [decide_eq_true_eq, ← frag_can F h1 (lang_ne d r hw) u]
  constructor
  · rintro ⟨k, h3, h4⟩
    have hk : k < (prg d r).length := by
      by_cases h : k < (prg d r).length
      · exact h
      · rw [List.getElem?_eq_none (by omega)] at h4
        cases h4
    exact ⟨k, h3, by omega, (rmB_iff _).1 h4⟩
  · rintro ⟨k, h3, -, h4⟩
    exact ⟨k, h3, (rmB_iff _).2 h4⟩
end
end Go.Proofs.YtbkpgfccghombaaDoor.rx

/-! Whether a word of an expression begins with what is left of a text: plain laws, the plain cases. Conditions: as stated. -/
namespace Go.Proofs.YtbkpgfccghombaaDoor.rx
open Go.ChangeShapes Go.WideShapes Go.ChangeAt Go.RowKit
set_option linter.unusedVariables false
set_option linter.unusedSimpArgs false

/-! plain -/
theorem lang_word : ∀ (d : Nat) (r : Rx), wf 3 d r → ∃ w, lang d r w
  | 0, _, h => h.elim
  | d + 1, .nd op rs mn mx subs, h => by
    rcases h with ⟨rfl, rfl, rfl⟩ | ⟨rfl, rfl, g1, g2, g3⟩ | ⟨g1, rfl⟩ | ⟨g1, rfl, g2, g3, g4⟩ | ⟨g1, rfl, g2, s, rfl, g3⟩
    · exact ⟨[], by simp [lang, epsL]⟩
    · exact ⟨rs.flatMap ub, by simp [lang]⟩
    · have e1 : lang (d + 1) (.nd op rs mn mx []) = clsL (pairs (rngs op rs)) := by
        rcases g1 with ⟨rfl, -⟩ | ⟨rfl | rfl, -⟩ <;> simp [lang]
      have hk : okPairs (rngs op rs) := rngs_ok (g1.elim (fun g => .inl ⟨g.1, g.2.2⟩) (fun g => .inr g.1))
      obtain ⟨p, hp⟩ := List.exists_mem_of_ne_nil _ hk.1
      rw [e1]
      obtain ⟨w, hw⟩ := range_word p (hk.2.2 p hp)
      exact ⟨w, p, hp, hw⟩
    · have hall : ∀ X ∈ subs.map (lang d), ∃ w, X w := fun X hX => by
        obtain ⟨s, hs, rfl⟩ := List.mem_map.1 hX
        exact lang_word d s (g4 s hs)
      rcases g1 with rfl | rfl
      · have e1 : lang (d + 1) (.nd 18 [] mn mx subs) = catL (subs.map (lang d)) := by simp [lang]
        rw [e1]
        generalize subs.map (lang d) = L at *
        clear e1
        induction L with
        | nil => exact ⟨[], rfl⟩
        | cons X L ih =>
          obtain ⟨w, hw⟩ := hall X (by simp)
          obtain ⟨v, hv⟩ := ih (fun Y hY => hall Y (by simp [hY]))
          exact ⟨w ++ v, w, v, rfl, hw, hv⟩
      · have e1 : lang (d + 1) (.nd 19 [] mn mx subs) = altL (subs.map (lang d)) := by simp [lang]
        rw [e1]
        match subs, g2 with
        | s :: r, _ =>
          obtain ⟨w, hw⟩ := hall (lang d s) (by simp)
          exact ⟨w, (altL_any _ (by simp) w).2 ⟨_, by simp, hw⟩⟩
    · obtain ⟨w, hw⟩ := lang_word d s g3
      rcases g1 with rfl | rfl | rfl | rfl | rfl
      · exact ⟨w, by simpa [lang] using hw⟩
      · exact ⟨[], by simp only [lang]; simp; exact ⟨0, rfl⟩⟩
      · exact ⟨w, by simp only [lang]; simp; exact ⟨w, [], by simp, hw, 0, rfl⟩⟩
      · exact ⟨w, by simp only [lang]; simp; exact .inl hw⟩
      · obtain ⟨v, hv⟩ := pow_word ⟨w, hw⟩ mn.toNat
        have e1 : lang (d + 1) (.nd 17 [] mn mx [s]) = cat2 (powL (lang d s) mn.toNat) (if mx < 0 then starL (lang d s) else optL (lang d s) (mx - mn).toNat) := by simp [lang]
        rw [e1]
        refine ⟨v, v, [], by simp, hv, ?_⟩
        split
        · exact ⟨0, rfl⟩
        · exact (optL_iff _ _ _).2 ⟨0, by omega, rfl⟩
theorem bgn_lit (u s : List Int) (f : List Bool) (h0 : f[s.length]? ≠ some true) : bgn (fun v => v = u) s f ↔ ∃ i, i < s.length ∧ f[i]? = some true ∧ s.length - i ≤ u.length ∧ u.take (s.length - i) = s.drop i := by
  constructor
  · rintro ⟨i, h1, h2, v, h3⟩
    have hi : i < s.length := by
      rcases Nat.lt_or_ge i s.length with h | h
      · exact h
      · obtain rfl : i = s.length := by omega
        exact absurd h2 h0
    have hl := congrArg List.length h3
    rw [List.length_append, List.length_drop] at hl
    refine ⟨i, hi, h2, by omega, ?_⟩
    rw [← h3, List.take_left' (by simp)]
  · rintro ⟨i, h1, h2, h3, h4⟩
    exact ⟨i, by omega, h2, u.drop (s.length - i), by rw [← h4, List.take_append_drop]⟩
theorem bgn_cls (l s : List Int) (f : List Bool) (hl : okPairs l) (hs : okB s) (h0 : f[s.length]? ≠ some true) : bgn (clsL (pairs l)) s f ↔ ∃ i, i < s.length ∧ f[i]? = some true ∧ bgnR l (s.drop i) = true := by
  constructor
  · rintro ⟨i, h1, h2, h3⟩
    have hi : i < s.length := by
      rcases Nat.lt_or_ge i s.length with h | h
      · exact h
      · obtain rfl : i = s.length := by omega
        exact absurd h2 h0
    exact ⟨i, hi, h2, (bgnR_iff l _ hl (fun x hx => hs x (List.mem_of_mem_drop hx))).2 h3⟩
  · rintro ⟨i, h1, h2, h3⟩
    exact ⟨i, by omega, h2, (bgnR_iff l _ hl (fun x hx => hs x (List.mem_of_mem_drop hx))).1 h3⟩
theorem rch_bgn {X : Lg} {s : List Int} {f : List Bool} (h : (rch X s f)[s.length]? = some true) : bgn X s f := by
  obtain ⟨h1, i, h2, h3, h4⟩ := rch_at.1 h
  exact ⟨i, h2, h3, [], by rw [List.append_nil, ← seg_end]; exact h4⟩
theorem cat_word : ∀ (L : List Lg), (∀ X ∈ L, ∃ w, X w) → ∃ w, catL L w
  | [], _ => ⟨[], rfl⟩
  | X :: L, h => by
    obtain ⟨w, hw⟩ := h X (by simp)
    obtain ⟨v, hv⟩ := cat_word L (fun Y hY => h Y (by simp [hY]))
    exact ⟨w ++ v, w, v, rfl, hw, hv⟩
theorem cat_bgn (s : List Int) : ∀ (L : List Lg) (f : List Bool), (∀ X ∈ L, ∃ w, X w) → (bgn (catL L) s f ↔ f[s.length]? = some true ∨ ∃ k, ∃ h : k < L.length, bgn L[k] s (catR s (L.take k) f))
  | [], f, h => by
    show bgn epsL s f ↔ _
    rw [bgn_eps]
    constructor
    · exact .inl
    · rintro (h | ⟨k, h1, -⟩)
      · exact h
      · simp at h1
  | X :: L, f, h => by
    show bgn (cat2 X (catL L)) s f ↔ _
    rw [bgn_cat (cat_word L (fun Y hY => h Y (by simp [hY]))), cat_bgn s L (rch X s f) (fun Y hY => h Y (by simp [hY]))]
    constructor
    · rintro (h1 | h1 | ⟨k, hk, h1⟩)
      · exact .inr ⟨0, by simp, h1⟩
      · exact .inr ⟨0, by simp, rch_bgn h1⟩
      · exact .inr ⟨k + 1, by simpa using hk, h1⟩
    · rintro (h1 | ⟨k, hk, h1⟩)
      · exact .inl (bgn_end (h X (by simp)) h1)
      · cases k with
        | zero => exact .inl h1
        | succ k => exact .inr (.inr ⟨k, by simpa using hk, h1⟩)
theorem alt_bgn (s : List Int) (L : List Lg) (hL : L ≠ []) (f : List Bool) : bgn (altL L) s f ↔ ∃ X ∈ L, bgn X s f := by
  constructor
  · rintro ⟨i, h1, h2, v, h3⟩
    obtain ⟨X, hX, h4⟩ := (altL_any L hL _).1 h3
    exact ⟨X, hX, i, h1, h2, v, h4⟩
  · rintro ⟨X, hX, i, h1, h2, v, h4⟩
    exact ⟨i, h1, h2, v, (altL_any L hL _).2 ⟨X, hX, h4⟩⟩

/-! in memory -/
def BeOk (d : Nat) : Prop := ∀ (w : World) (r : Rx) (cs : List Value) (t : ByteArray) (aa : Option Addr) (ca : Nat) (f : List Bool), RgC w w.heap.size d r cs → wf 3 d r → Sl w w.heap.size aa (f.map .bool) → f.length = t.size + 1 → t.size ≤ 1000 →
  Calls Tryd.prog 37 #[.agg cs.toArray, .string t, .slice aa f.length ca] w fun e w' => ∃ b : Bool, e = .returned (.bool b) ∧ (b = true ↔ bgn (lang d r) (byL t) f) ∧ Below w.heap.size w w'
theorem be_yes {P : Prop} {F : FuncId} {ags : Array Value} {w : World} {Q : World → Prop} (h : Calls Tryd.prog F ags w fun e w' => ∃ b : Bool, e = .returned (.bool b) ∧ (b = true ↔ P) ∧ Q w') (hp : P) : Calls Tryd.prog F ags w fun e w' => e = .returned (.bool true) ∧ Q w' := h.mono (by
  rintro e w' ⟨b, rfl, h1, h2⟩
  rw [h1.2 hp]
  exact ⟨rfl, h2⟩)
theorem be_no {P : Prop} {F : FuncId} {ags : Array Value} {w : World} {Q : World → Prop} (h : Calls Tryd.prog F ags w fun e w' => ∃ b : Bool, e = .returned (.bool b) ∧ (b = true ↔ P) ∧ Q w') (hp : ¬ P) : Calls Tryd.prog F ags w fun e w' => e = .returned (.bool false) ∧ Q w' := h.mono (by
  rintro e w' ⟨b, rfl, h1, h2⟩
  cases b with
  | false => exact ⟨rfl, h2⟩
  | true => exact absurd (h1.1 rfl) hp)
theorem noneB_iff (l : List Bool) : noneB l = true ↔ ∀ i : Nat, l[i]? ≠ some true := by
  unfold noneB
  rw [List.all_eq_true]
  constructor
  · intro h i hi
    have := h true (List.mem_of_getElem? hi)
    simp at this
  · intro h x hx
    obtain ⟨i, hi⟩ := List.getElem?_of_mem hx
    cases x with
    | false => rfl
    | true => exact absurd hi (h i)
theorem add_block2 (ad : Addr) (i k : Nat) : (⟨(ad.add i).block, k, none⟩ : Addr).block = ad.block := by
  show (ad.add i).block = _
  exact add_block ad i
/-- a part of an expression, its cells in whatever world comes later -/
theorem sub_atW {w : World} {B d : Nat} {subs : List Rx} {ls : List (List Value)} {sa : Option Addr} (h3 : ls.length = subs.length) (h4 : ∀ x ∈ ls, x.length = 7) (h5 : Sl w B sa (ls.flatMap id)) (h6 : ∀ x ∈ subs.zip ls, RgC w B d x.1 x.2) (i : Nat) (hi : i < subs.length) :
    ∃ ad v0 v1 v2 v3 v4 v5 v6, sa = some ad ∧ ∀ W, Below B w W → RgC W B d subs[i] [v0, v1, v2, v3, v4, v5, v6] ∧ W.cell? (ad.add (i * 7)) = some v0 ∧ W.cell? ⟨(ad.add (i * 7)).block, (ad.add (i * 7)).off + 1, none⟩ = some v1 ∧ W.cell? ⟨(ad.add (i * 7)).block, (ad.add (i * 7)).off + 2, none⟩ = some v2 ∧
      W.cell? ⟨(ad.add (i * 7)).block, (ad.add (i * 7)).off + 3, none⟩ = some v3 ∧ W.cell? ⟨(ad.add (i * 7)).block, (ad.add (i * 7)).off + 4, none⟩ = some v4 ∧ W.cell? ⟨(ad.add (i * 7)).block, (ad.add (i * 7)).off + 5, none⟩ = some v5 ∧ W.cell? ⟨(ad.add (i * 7)).block, (ad.add (i * 7)).off + 6, none⟩ = some v6 := by
  obtain ⟨ad, v0, v1, v2, v3, v4, v5, v6, h, hb, hR, e0, e1, e2, e3, e4, e5, e6⟩ := sub_at h3 h4 h5 h6 i hi
  have hk : ∀ k, (⟨(ad.add (i * 7)).block, k, none⟩ : Addr).block < B := fun k => by rw [add_block2]; exact hb
  exact ⟨ad, v0, v1, v2, v3, v4, v5, v6, h, fun W hW => ⟨hR.below hW, (hW.cell (by rw [add_block]; exact hb)).trans e0, (hW.cell (hk _)).trans e1, (hW.cell (hk _)).trans e2, (hW.cell (hk _)).trans e3, (hW.cell (hk _)).trans e4, (hW.cell (hk _)).trans e5, (hW.cell (hk _)).trans e6⟩⟩
set_option maxRecDepth 100000 in
theorem be_none (w : World) (cs : List Value) (hcs : cs.length = 7) (t : ByteArray) (aa : Option Addr) (ca : Nat) (f : List Bool) (hnn : noneB f = true) (ha : Sl w w.heap.size aa (f.map .bool)) (hf : f.length = t.size + 1) (ht : t.size ≤ 1000) :
    Calls Tryd.prog 37 #[.agg cs.toArray, .string t, .slice aa f.length ca] w fun e w' => e = .returned (.bool false) ∧ Below w.heap.size w w' := by
  obtain ⟨v0, v1, v2, v3, v4, v5, v6, rfl⟩ := seven hcs
  have HB := Lib.hid (Bx.new w [v0, v1, v2, v3, v4, v5, v6])
  have CN := Lib.hid (none_any aa ca f _ _ (ha.below HB.out.l) (by omega))
  rw [hnn] at CN
  clear ha hf hnn
  go_enter Tryd.func37, Tryd.ntmps37
  go_wp2_with (first | (go_at_call 52; refine CN.out.mono ?_; rintro e w1 ⟨rfl, rfl⟩) | fail)
  go_ret
  exact ⟨rfl, HB.out.l⟩
set_option maxRecDepth 100000 in
theorem be_end (w : World) (cs : List Value) (hcs : cs.length = 7) (t : ByteArray) (aa : Option Addr) (ca : Nat) (f : List Bool) (hnn : noneB f = false) (h0 : f[t.size]? = some true) (ha : Sl w w.heap.size aa (f.map .bool)) (hf : f.length = t.size + 1) (ht : t.size ≤ 1000) :
    Calls Tryd.prog 37 #[.agg cs.toArray, .string t, .slice aa f.length ca] w fun e w' => e = .returned (.bool true) ∧ Below w.heap.size w w' := by
  obtain ⟨v0, v1, v2, v3, v4, v5, v6, rfl⟩ := seven hcs
  have HB := Lib.hid (Bx.new w [v0, v1, v2, v3, v4, v5, v6])
  have CN := Lib.hid (none_any aa ca f _ _ (ha.below HB.out.l) (by omega))
  rw [hnn] at CN
  obtain ⟨ad, rfl, had, hc⟩ := (ha.below HB.out.l) t.size (.bool true) (by rw [List.getElem?_map, h0]; rfl)
  have hlt : (t.size : Int) < (f.length : Int) := by omega
  clear ha hf hnn h0
  go_enter Tryd.func37, Tryd.ntmps37
  go_wp2_with (first | (go_at_call 52; refine CN.out.mono ?_; rintro e w1 ⟨rfl, rfl⟩) | fail)
  go_ret
  exact ⟨rfl, HB.out.l⟩
set_option maxRecDepth 100000 in
theorem be_eps (mn mx : Int) (ra : Option Addr) (rn rc : Nat) (sa : Option Addr) (sn sc : Nat) (w : World) (t : ByteArray) (aa : Option Addr) (ca : Nat) (f : List Bool) (hnn : noneB f = false) (h0 : f[t.size]? = some false) (ha : Sl w w.heap.size aa (f.map .bool)) (hf : f.length = t.size + 1) (ht : t.size ≤ 1000) :
    Calls Tryd.prog 37 #[.agg (rxc 2 mn mx ra rn rc sa sn sc).toArray, .string t, .slice aa f.length ca] w fun e w' => e = .returned (.bool false) ∧ Below w.heap.size w w' := by
  have HB := Lib.hid (Bx.new w (rxc 2 mn mx ra rn rc sa sn sc))
  have CN := Lib.hid (none_any aa ca f _ _ (ha.below HB.out.l) (by omega))
  rw [hnn] at CN
  obtain ⟨ad, rfl, had, hc⟩ := (ha.below HB.out.l) t.size (.bool false) (by rw [List.getElem?_map, h0]; rfl)
  have hlt : (t.size : Int) < (f.length : Int) := by omega
  clear ha hf hnn h0
  unfold rxc at *
  go_enter Tryd.func37, Tryd.ntmps37
  go_wp2_with (first | (go_at_call 52; refine CN.out.mono ?_; rintro e w1 ⟨rfl, rfl⟩) | fail)
  go_ret
  exact ⟨rfl, HB.out.l⟩
set_option maxRecDepth 100000 in
theorem be_capt {d : Nat} (IH : BeOk d) (mn mx : Int) (ra : Option Addr) (rn rc : Nat) (sa : Option Addr) (sc : Nat) (r : Rx) (ls : List (List Value)) (w : World) (t : ByteArray) (aa : Option Addr) (ca : Nat) (f : List Bool) (hw : wf 3 d r) (h3 : ls.length = [r].length) (h4 : ∀ x ∈ ls, x.length = 7) (h5 : Sl w w.heap.size sa (ls.flatMap id)) (h6 : ∀ x ∈ [r].zip ls, RgC w w.heap.size d x.1 x.2) (hnn : noneB f = false) (h0 : f[t.size]? = some false) (ha : Sl w w.heap.size aa (f.map .bool)) (hf : f.length = t.size + 1) (ht : t.size ≤ 1000) :
    Calls Tryd.prog 37 #[.agg (rxc 13 mn mx ra rn rc sa 1 sc).toArray, .string t, .slice aa f.length ca] w fun e w' => ∃ b : Bool, e = .returned (.bool b) ∧ (b = true ↔ bgn (lang d r) (byL t) f) ∧ Below w.heap.size w w' := by
  have HB := Lib.hid (Bx.new w (rxc 13 mn mx ra rn rc sa 1 sc))
  have HA := Lib.hid ha
  have HF := Lib.hid hf
  have CN := Lib.hid (none_any aa ca f _ _ (ha.below HB.out.l) (by omega))
  rw [hnn] at CN
  obtain ⟨ad, rfl, had, hc⟩ := (ha.below HB.out.l) t.size (.bool false) (by rw [List.getElem?_map, h0]; rfl)
  have hlt : (t.size : Int) < (f.length : Int) := by omega
  have HSW := Lib.hid (sub_atW h3 h4 h5 h6 0 (by simp))
  have HW := Lib.hid hw
  clear ha hf hnn h0 h3 h4 h5 h6 hw
  unfold rxc at *
  go_enter Tryd.func37, Tryd.ntmps37
  go_upto_region 45 with (go_at_call 52; refine CN.out.mono ?_; rintro e w1 ⟨rfl, rfl⟩)
  refine name_world ?_
  intro w2 hw2
  have HB2 := Lib.hid (show Bx w w2 _ from by rw [hw2]; exact HB.out)
  clear hw2 hc
  have c6 := HB2.out.b.cell 6
  simp only [List.getElem?_cons_zero, List.getElem?_cons_succ] at c6
  obtain ⟨ad2, v0, v1, v2, v3, v4, v5, v6, rfl, hs⟩ := HSW.out
  obtain ⟨hR, e0, e1, e2, e3, e4, e5, e6⟩ := hs w2 HB2.out.l
  simp only [Nat.zero_mul, add0] at e0 e1 e2 e3 e4 e5 e6
  have CR := Lib.hid (IH w2 r _ t (some ad) ca f (hR.more HB2.out.l.size) HW.out ((HA.out.below HB2.out.l).more HB2.out.l.size) HF.out ht)
  clear hR hs HSW
  go_wp2_with (first | (go_at_call 37; refine CR.out.mono ?_; rintro e w5 ⟨v, rfl, h5, hb5⟩; have H5 := Lib.hid (And.intro h5 hb5); clear h5 hb5) | fail)
  go_ret
  exact ⟨_, rfl, H5.out.1, HB2.out.l.trans (H5.out.2.mono HB2.out.l.size)⟩
end Go.Proofs.YtbkpgfccghombaaDoor.rx
