/-
  Parts of the proof in one text: Rbb, Rbc, Rbd, Rbz. Conditions: as each states.
-/
import Derived.Test.YtbkpgfccghombaaDoorM22
/-! Whether a word of an expression begins with what is left of a text: parts, ways, again and again. Conditions: as stated. -/
namespace Go.Proofs.YtbkpgfccghombaaDoor.rx
open Go.ChangeShapes Go.WideShapes Go.ChangeAt Go.RowKit
set_option linter.unusedVariables false
set_option linter.unusedSimpArgs false

theorem sl_go {w w' : World} {a : Option Addr} {l : List Value} (h : Sl w w.heap.size a l) (hb : Below w.heap.size w w') : Sl w' w'.heap.size a l := (h.below hb).more hb.size
theorem reach_n {d : Nat} (w : World) (r : Rx) (cs : List Value) (t : ByteArray) (aa : Option Addr) (ca n : Nat) (f : List Bool) (hR : RgC w w.heap.size d r cs) (hw : wf 3 d r) (ha : Sl w w.heap.size aa (f.map .bool)) (hfn : f.length = n) (hn : n = t.size + 1) (ht : t.size ≤ 1000) :
    Calls Tryd.prog 36 #[.agg cs.toArray, .string t, .slice aa n ca] w fun e w' => ∃ g c, e = .returned (.slice (some ⟨g, 0, none⟩) n c) ∧ Sl w' w'.heap.size (some ⟨g, 0, none⟩) ((rch (lang d r) (byL t) f).map .bool) ∧ Below w.heap.size w w' := by
  subst hfn
  refine (re_ok d w r cs t aa ca f hR hw ha hn ht).mono ?_
  rintro e w' ⟨v, rfl, h1, h2⟩
  obtain ⟨g, c, rfl⟩ := h1.formN (n := f.length) (by rw [rch_len, byL_len, hn])
  exact ⟨g, c, rfl, h1.sl', h2⟩
theorem BeOk.n {d : Nat} (IH : BeOk d) (w : World) (r : Rx) (cs : List Value) (t : ByteArray) (aa : Option Addr) (ca n : Nat) (f : List Bool) (hR : RgC w w.heap.size d r cs) (hw : wf 3 d r) (ha : Sl w w.heap.size aa (f.map .bool)) (hfn : f.length = n) (hn : n = t.size + 1) (ht : t.size ≤ 1000) :
    Calls Tryd.prog 37 #[.agg cs.toArray, .string t, .slice aa n ca] w fun e w' => ∃ b : Bool, e = .returned (.bool b) ∧ (b = true ↔ bgn (lang d r) (byL t) f) ∧ Below w.heap.size w w' := by
  subst hfn
  exact IH w r cs t aa ca f hR hw ha hn ht
theorem map_at {d : Nat} {subs : List Rx} {i : Nat} (h : i < (subs.map (lang d)).length) : (subs.map (lang d))[i] = lang d (subs[i]'(by simpa using h)) := by simp
set_option maxRecDepth 100000 in
set_option maxHeartbeats 1600000 in
theorem be_cat {d : Nat} (IH : BeOk d) (mn mx : Int) (ra : Option Addr) (rn rc : Nat) (sa : Option Addr) (sc : Nat) (subs : List Rx) (ls : List (List Value)) (w : World) (t : ByteArray) (aa : Option Addr) (ca : Nat) (f : List Bool) (hw : ∀ s ∈ subs, wf 3 d s) (hl : subs.length ≤ 3) (h3 : ls.length = subs.length) (h4 : ∀ x ∈ ls, x.length = 7) (h5 : Sl w w.heap.size sa (ls.flatMap id)) (h6 : ∀ x ∈ subs.zip ls, RgC w w.heap.size d x.1 x.2) (hnn : noneB f = false) (h0 : f[t.size]? = some false) (ha : Sl w w.heap.size aa (f.map .bool)) (hf : f.length = t.size + 1) (ht : t.size ≤ 1000) :
    Calls Tryd.prog 37 #[.agg (rxc 18 mn mx ra rn rc sa subs.length sc).toArray, .string t, .slice aa f.length ca] w fun e w' => ∃ b : Bool, e = .returned (.bool b) ∧ (b = true ↔ bgn (catL (subs.map (lang d))) (byL t) f) ∧ Below w.heap.size w w' := by
  have HP := Lib.hid (show bgn (catL (subs.map (lang d))) (byL t) f ↔ ∃ k, ∃ h : k < subs.length, bgn (lang d subs[k]) (byL t) (catR (byL t) ((subs.take k).map (lang d)) f) from by
    rw [cat_bgn (byL t) _ f (fun X hX => by obtain ⟨s, hs, rfl⟩ := List.mem_map.1 hX; exact lang_word d s (hw s hs)), byL_len, h0]
    constructor
    · rintro (h | ⟨k, hk, h⟩)
      · cases h
      · rw [← List.map_take, map_at] at h
        exact ⟨k, by simpa using hk, h⟩
    · rintro ⟨k, hk, h⟩
      refine .inr ⟨k, by simpa using hk, ?_⟩
      rw [← List.map_take, map_at]
      exact h)
  have HB := Lib.hid (Bx.new w (rxc 18 mn mx ra rn rc sa subs.length sc))
  have HA := Lib.hid ha
  have HF := Lib.hid hf
  have CN := Lib.hid (none_any aa ca f _ _ (ha.below HB.out.l) (by omega))
  rw [hnn] at CN
  obtain ⟨ad, rfl, had, hc⟩ := (ha.below HB.out.l) t.size (.bool false) (by rw [List.getElem?_map, h0]; rfl)
  have hlt0 : (t.size : Int) < (f.length : Int) := by omega
  have HSW := Lib.hid (fun i hi => sub_atW h3 h4 h5 h6 i hi)
  have HW := Lib.hid hw
  have IH := Lib.hid IH
  clear ha hf hnn h0 h3 h4 h5 h6 hw
  unfold rxc at *
  go_enter Tryd.func37, Tryd.ntmps37
  go_upto_region 30 with (go_at_call 52; refine CN.out.mono ?_; rintro e w1 ⟨rfl, rfl⟩)
  refine name_world ?_
  intro w2 hw2
  have HB2 := Lib.hid (show Bx w w2 _ from by rw [hw2]; exact HB.out)
  clear hw2 hc hlt0
  go_wp2_with fail
  go_loopw [2, 11] (fun v2 v11 wr => ∃ (i c : Nat) (a : Addr), i ≤ subs.length ∧ v11 = .int .i64 i ∧ v2 = .slice (some a) f.length c ∧ Hid (Sl wr wr.heap.size (some a) ((catR (byL t) ((subs.take i).map (lang d)) f).map .bool) ∧ Bx w wr [.int .i64 18, .slice ra rn rc, .int .i64 mn, .int .i64 mx, .bool false, .bool false, .slice sa subs.length sc] ∧ ∀ k, k < i → ∀ h : k < subs.length, ¬ bgn (lang d subs[k]) (byL t) (catR (byL t) ((subs.take k).map (lang d)) f))) (fun _ v11 _ => subs.length - (intOf v11).toNat)
  case atStart => exact ⟨0, ca, ad, by omega, rfl, rfl, Lib.hid ⟨sl_go HA.out HB2.out.l, HB2.out, fun k hk => by omega⟩⟩
  case round =>
    obtain ⟨i, c, a, hi, rfl, rfl, H1⟩ := hrel
    have c6 := H1.out.2.1.b.cell 6
    simp only [List.getElem?_cons_zero, List.getElem?_cons_succ] at c6
    have HLN := Lib.hid (show (catR (byL t) ((subs.take i).map (lang d)) f).length = f.length from by rw [catR_len _ _ _ (by rw [byL_len, HF.out]), byL_len, HF.out])
    by_cases hlt : i < subs.length
    · obtain ⟨ad2, v0, v1, v2, v3, v4, v5, v6, rfl, hs⟩ := HSW.out i hlt
      have HS := Lib.hid hs
      clear hs
      obtain ⟨hR, e0, e1, e2, e3, e4, e5, e6⟩ := HS.out wr H1.out.2.1.l
      have HT := Lib.hid (map_take_snoc (d := d) subs i hlt)
      have HWi := Lib.hid (HW.out _ (List.getElem_mem hlt))
      have CB := IH.out.n wr subs[i] _ t (some a) c f.length _ (hR.more H1.out.2.1.l.size) HWi.out H1.out.1 HLN.out HF.out ht
      clear hR
      by_cases hbg : bgn (lang d subs[i]) (byL t) (catR (byL t) ((subs.take i).map (lang d)) f)
      · have CY := Lib.hid (be_yes CB hbg)
        have HY := Lib.hid (HP.out.2 ⟨i, hlt, hbg⟩)
        clear CB hbg
        go_wp2_with (first | (go_at_call 37; refine CY.out.mono ?_; rintro e w5 ⟨rfl, hb5⟩; have HB5 := Lib.hid hb5; clear hb5) | fail)
        go_ret
        exact ⟨true, rfl, ⟨fun _ => HY.out, fun _ => rfl⟩, H1.out.2.1.l.trans (HB5.out.mono H1.out.2.1.l.size)⟩
      · have CY := Lib.hid (be_no CB hbg)
        have HN := Lib.hid hbg
        clear CB hbg
        go_wp2_with (first | (go_at_call 37; refine CY.out.mono ?_; rintro e w5 ⟨rfl, hb5⟩; have HB5 := Lib.hid (H1.out.2.1.go hb5); have HS5 := Lib.hid (sl_go H1.out.1 hb5); clear hb5 c6 e0 e1 e2 e3 e4 e5 e6; have c6 := HB5.out.b.cell 6; simp only [List.getElem?_cons_zero, List.getElem?_cons_succ] at c6; obtain ⟨hR, e0, e1, e2, e3, e4, e5, e6⟩ := HS.out w5 HB5.out.l; have CR := Lib.hid (reach_n w5 subs[i] _ t (some a) c f.length _ (hR.more HB5.out.l.size) HWi.out HS5.out HLN.out HF.out ht); clear hR) | (go_at_call 36; refine CR.out.mono ?_; rintro e w6 ⟨g6, c7, rfl, hs6, hb6⟩; have H6 := Lib.hid (And.intro hs6 (HB5.out.go hb6)); clear hs6 hb6) | fail)
        go_roundw
        case rel => exact ⟨i + 1, c7, ⟨g6, 0, none⟩, by omega, by go_num, rfl, Lib.hid ⟨by rw [HT.out, catR_snoc]; exact H6.out.1, H6.out.2, fun k hk h => by
          rcases Nat.lt_or_ge k i with h1 | h1
          · exact H1.out.2.2 k h1 h
          · obtain rfl : k = i := by omega
            exact HN.out⟩⟩
        case measure => simp [intOf]; omega
    · obtain rfl : i = subs.length := by omega
      go_wp2
      go_ret
      refine ⟨false, rfl, ⟨fun h => Bool.noConfusion h, fun h => ?_⟩, H1.out.2.1.l⟩
      obtain ⟨k, hk, h⟩ := HP.out.1 h
      exact absurd h (H1.out.2.2 k hk hk)
set_option maxRecDepth 100000 in
set_option maxHeartbeats 1600000 in
theorem be_alt {d : Nat} (IH : BeOk d) (mn mx : Int) (ra : Option Addr) (rn rc : Nat) (sa : Option Addr) (sc : Nat) (subs : List Rx) (ls : List (List Value)) (w : World) (t : ByteArray) (aa : Option Addr) (ca : Nat) (f : List Bool) (hw : ∀ s ∈ subs, wf 3 d s) (hl : subs.length ≤ 3) (hne : subs ≠ []) (h3 : ls.length = subs.length) (h4 : ∀ x ∈ ls, x.length = 7) (h5 : Sl w w.heap.size sa (ls.flatMap id)) (h6 : ∀ x ∈ subs.zip ls, RgC w w.heap.size d x.1 x.2) (hnn : noneB f = false) (h0 : f[t.size]? = some false) (ha : Sl w w.heap.size aa (f.map .bool)) (hf : f.length = t.size + 1) (ht : t.size ≤ 1000) :
    Calls Tryd.prog 37 #[.agg (rxc 19 mn mx ra rn rc sa subs.length sc).toArray, .string t, .slice aa f.length ca] w fun e w' => ∃ b : Bool, e = .returned (.bool b) ∧ (b = true ↔ bgn (altL (subs.map (lang d))) (byL t) f) ∧ Below w.heap.size w w' := by
  have HP := Lib.hid (show bgn (altL (subs.map (lang d))) (byL t) f ↔ ∃ k, ∃ h : k < subs.length, bgn (lang d subs[k]) (byL t) f from by
    rw [alt_bgn (byL t) _ (by simpa using hne) f]
    constructor
    · rintro ⟨X, hX, h⟩
      obtain ⟨s, hs, rfl⟩ := List.mem_map.1 hX
      obtain ⟨k, hk, rfl⟩ := List.getElem_of_mem hs
      exact ⟨k, hk, h⟩
    · rintro ⟨k, hk, h⟩
      exact ⟨_, List.mem_map.2 ⟨_, List.getElem_mem hk, rfl⟩, h⟩)
  have HB := Lib.hid (Bx.new w (rxc 19 mn mx ra rn rc sa subs.length sc))
  have HA := Lib.hid ha
  have HF := Lib.hid hf
  have CN := Lib.hid (none_any aa ca f _ _ (ha.below HB.out.l) (by omega))
  rw [hnn] at CN
  obtain ⟨ad, rfl, had, hc⟩ := (ha.below HB.out.l) t.size (.bool false) (by rw [List.getElem?_map, h0]; rfl)
  have hlt0 : (t.size : Int) < (f.length : Int) := by omega
  have HSW := Lib.hid (fun i hi => sub_atW h3 h4 h5 h6 i hi)
  have HW := Lib.hid hw
  have IH := Lib.hid IH
  clear ha hf hnn h0 h3 h4 h5 h6 hw hne
  unfold rxc at *
  go_enter Tryd.func37, Tryd.ntmps37
  go_upto_region 38 with (go_at_call 52; refine CN.out.mono ?_; rintro e w1 ⟨rfl, rfl⟩)
  refine name_world ?_
  intro w2 hw2
  have HB2 := Lib.hid (show Bx w w2 _ from by rw [hw2]; exact HB.out)
  clear hw2 hc hlt0
  go_wp2_with fail
  go_loopw [12] (fun v12 wr => ∃ i : Nat, i ≤ subs.length ∧ v12 = .int .i64 i ∧ Hid (Bx w wr [.int .i64 19, .slice ra rn rc, .int .i64 mn, .int .i64 mx, .bool false, .bool false, .slice sa subs.length sc] ∧ ∀ k, k < i → ∀ h : k < subs.length, ¬ bgn (lang d subs[k]) (byL t) f)) (fun v12 _ => subs.length - (intOf v12).toNat)
  case atStart => exact ⟨0, by omega, rfl, Lib.hid ⟨HB2.out, fun k hk => by omega⟩⟩
  case round =>
    obtain ⟨i, hi, rfl, H1⟩ := hrel
    have c6 := H1.out.1.b.cell 6
    simp only [List.getElem?_cons_zero, List.getElem?_cons_succ] at c6
    by_cases hlt : i < subs.length
    · obtain ⟨ad2, v0, v1, v2, v3, v4, v5, v6, rfl, hs⟩ := HSW.out i hlt
      obtain ⟨hR, e0, e1, e2, e3, e4, e5, e6⟩ := hs wr H1.out.1.l
      clear hs
      have HWi := Lib.hid (HW.out _ (List.getElem_mem hlt))
      have CB := IH.out wr subs[i] _ t (some ad) ca f (hR.more H1.out.1.l.size) HWi.out (sl_go HA.out H1.out.1.l) HF.out ht
      clear hR
      by_cases hbg : bgn (lang d subs[i]) (byL t) f
      · have CY := Lib.hid (be_yes CB hbg)
        have HY := Lib.hid (HP.out.2 ⟨i, hlt, hbg⟩)
        clear CB hbg
        go_wp2_with (first | (go_at_call 37; refine CY.out.mono ?_; rintro e w5 ⟨rfl, hb5⟩; have HB5 := Lib.hid hb5; clear hb5) | fail)
        go_ret
        exact ⟨true, rfl, ⟨fun _ => HY.out, fun _ => rfl⟩, H1.out.1.l.trans (HB5.out.mono H1.out.1.l.size)⟩
      · have CY := Lib.hid (be_no CB hbg)
        have HN := Lib.hid hbg
        clear CB hbg
        go_wp2_with (first | (go_at_call 37; refine CY.out.mono ?_; rintro e w5 ⟨rfl, hb5⟩; have HB5 := Lib.hid (H1.out.1.go hb5); clear hb5) | fail)
        go_roundw
        case rel => exact ⟨i + 1, by omega, by go_num, Lib.hid ⟨HB5.out, fun k hk h => by
          rcases Nat.lt_or_ge k i with h1 | h1
          · exact H1.out.2 k h1 h
          · obtain rfl : k = i := by omega
            exact HN.out⟩⟩
        case measure => simp [intOf]; omega
    · obtain rfl : i = subs.length := by omega
      go_wp2
      go_ret
      refine ⟨false, rfl, ⟨fun h => Bool.noConfusion h, fun h => ?_⟩, H1.out.1.l⟩
      obtain ⟨k, hk, h⟩ := HP.out.1 h
      exact absurd h (H1.out.2 k hk hk)
set_option maxRecDepth 100000 in
set_option maxHeartbeats 1600000 in
theorem be_rep {d : Nat} (IH : BeOk d) (op : Nat) (h14 : 14 ≤ op) (h17 : op ≤ 17) (mn mx : Int) (lo hi : Int) (n : Nat) (htm : tms op mn mx = (lo, hi)) (ra : Option Addr) (rn rc : Nat) (sa : Option Addr) (sc : Nat) (r : Rx) (ls : List (List Value)) (w : World) (t : ByteArray) (aa : Option Addr) (ca : Nat) (f : List Bool) (hm : hi < 0 ∧ n = t.size + 1 ∨ 0 ≤ hi ∧ hi = (n : Int) ∧ hi ≤ 10) (hw : wf 3 d r) (h3 : ls.length = [r].length) (h4 : ∀ x ∈ ls, x.length = 7) (h5 : Sl w w.heap.size sa (ls.flatMap id)) (h6 : ∀ x ∈ [r].zip ls, RgC w w.heap.size d x.1 x.2) (hnn : noneB f = false) (h0 : f[t.size]? = some false) (ha : Sl w w.heap.size aa (f.map .bool)) (hf : f.length = t.size + 1) (ht : t.size ≤ 1000) :
    Calls Tryd.prog 37 #[.agg (rxc op mn mx ra rn rc sa 1 sc).toArray, .string t, .slice aa f.length ca] w fun e w' => ∃ b : Bool, e = .returned (.bool b) ∧ (b = true ↔ ∃ k, k < n ∧ bgn (lang d r) (byL t) (rch (powL (lang d r) k) (byL t) f)) ∧ Below w.heap.size w w' := by
  obtain ⟨P, hP⟩ : ∃ P : Prop, P = (∃ k, k < n ∧ bgn (lang d r) (byL t) (rch (powL (lang d r) k) (byL t) f)) := ⟨_, rfl⟩
  rw [← hP]
  have HP := Lib.hid hP
  clear hP
  have HB := Lib.hid (Bx.new w (rxc op mn mx ra rn rc sa 1 sc))
  have HA := Lib.hid ha
  have HF := Lib.hid hf
  have HFB := Lib.hid (show f.length = (byL t).length + 1 from by rw [byL_len, hf])
  have CN := Lib.hid (none_any aa ca f _ _ (ha.below HB.out.l) (by omega))
  rw [hnn] at CN
  obtain ⟨ad, rfl, had, hc⟩ := (ha.below HB.out.l) t.size (.bool false) (by rw [List.getElem?_map, h0]; rfl)
  have hlt0 : (t.size : Int) < (f.length : Int) := by omega
  have HSW := Lib.hid (sub_atW h3 h4 h5 h6 0 (by simp))
  have HW := Lib.hid hw
  have IH := Lib.hid IH
  have HM := Lib.hid hm
  have CT := Lib.hid (fun W => times_any op mn mx ra rn rc sa 1 sc W)
  rw [htm] at CT
  have g2 : ((op : Int) == 2) = false := by rw [beq_eq_false_iff_ne]; omega
  have g3 : ((op : Int) == 3) = false := by rw [beq_eq_false_iff_ne]; omega
  have g4 : ((op : Int) == 4) = false := by rw [beq_eq_false_iff_ne]; omega
  have g5 : ((op : Int) == 5) = false := by rw [beq_eq_false_iff_ne]; omega
  have g6 : ((op : Int) == 6) = false := by rw [beq_eq_false_iff_ne]; omega
  have g13 : ((op : Int) == 13) = false := by rw [beq_eq_false_iff_ne]; omega
  have g18 : ((op : Int) == 18) = false := by rw [beq_eq_false_iff_ne]; omega
  have g19 : ((op : Int) == 19) = false := by rw [beq_eq_false_iff_ne]; omega
  have hn1001 : n ≤ 1001 := by omega
  clear ha hf hnn h0 h3 h4 h5 h6 hw hm htm h14 h17
  unfold rxc at *
  go_enter Tryd.func37, Tryd.ntmps37
  go_upto_region 46 with (go_at_call 52; refine CN.out.mono ?_; rintro e w1 ⟨rfl, rfl⟩)
  refine name_world ?_
  intro w2 hw2
  have HB2 := Lib.hid (show Bx w w2 _ from by rw [hw2]; exact HB.out)
  clear hw2 hc hlt0 g2 g3 g4 g5 g6 g13 g18 g19
  have c0 := HB2.out.b.cell 0
  have c1 := HB2.out.b.cell 1
  have c2 := HB2.out.b.cell 2
  have c3 := HB2.out.b.cell 3
  have c4 := HB2.out.b.cell 4
  have c5 := HB2.out.b.cell 5
  have c6 := HB2.out.b.cell 6
  simp only [List.getElem?_cons_zero, List.getElem?_cons_succ] at c0 c1 c2 c3 c4 c5 c6
  go_wp2_with (first | (go_at_call 50; refine (CT.out _).mono ?_; rintro e w5 ⟨rfl, hb5⟩; have HB5 := Lib.hid (HB2.out.go hb5); clear hb5 c0 c1 c2 c3 c4 c5 c6) | fail)
  obtain ⟨ad2, v0, v1, v2, v3, v4, v5, v6, rfl, hs⟩ := HSW.out
  simp only [Nat.zero_mul, add0] at hs
  have HS := Lib.hid hs
  clear hs HSW
  go_loopw [2, 15] (fun v2 v15 wr => ∃ (i c : Nat) (a : Addr), i ≤ n ∧ v15 = .int .i64 i ∧ v2 = .slice (some a) f.length c ∧ Hid (Sl wr wr.heap.size (some a) ((rch (powL (lang d r) i) (byL t) f).map .bool) ∧ Bx w wr [.int .i64 op, .slice ra rn rc, .int .i64 mn, .int .i64 mx, .bool false, .bool false, .slice (some ad2) 1 sc] ∧ ∀ k, k < i → ¬ bgn (lang d r) (byL t) (rch (powL (lang d r) k) (byL t) f))) (fun _ v15 _ => n - (intOf v15).toNat)
  case atStart => exact ⟨0, ca, ad, by omega, rfl, rfl, Lib.hid ⟨by rw [rch_pow_zero HFB.out]; exact sl_go HA.out HB5.out.l, HB5.out, fun k hk => by omega⟩⟩
  case round =>
    obtain ⟨i, c, a, hi2, rfl, rfl, H1⟩ := hrel
    have c6 := H1.out.2.1.b.cell 6
    simp only [List.getElem?_cons_zero, List.getElem?_cons_succ] at c6
    have HLN := Lib.hid (show (rch (powL (lang d r) i) (byL t) f).length = f.length from by rw [rch_len, byL_len, HF.out])
    obtain ⟨hR, e0, e1, e2, e3, e4, e5, e6⟩ := HS.out wr H1.out.2.1.l
    have CB := IH.out.n wr r _ t (some a) c f.length _ (hR.more H1.out.2.1.l.size) HW.out H1.out.1 HLN.out HF.out ht
    clear hR
    have HMm := HM.out
    by_cases hneg : hi < 0
    · have hnn : n = t.size + 1 := by omega
      clear HMm
      by_cases hlt : i < n
      · have hlt2 : (i : Int) < (t.size : Int) + 1 := by omega
        clear hnn
        by_cases hbg : bgn (lang d r) (byL t) (rch (powL (lang d r) i) (byL t) f)
        · have CY := Lib.hid (be_yes CB hbg)
          have HY := Lib.hid hbg
          clear CB hbg
          go_wp2_with (first | (go_at_call 37; refine CY.out.mono ?_; rintro e w6 ⟨rfl, hb6⟩; have HB6 := Lib.hid hb6; clear hb6) | fail)
          go_ret
          exact ⟨true, rfl, ⟨fun _ => by rw [HP.out]; exact ⟨i, hlt, HY.out⟩, fun _ => rfl⟩, H1.out.2.1.l.trans (HB6.out.mono H1.out.2.1.l.size)⟩
        · have CY := Lib.hid (be_no CB hbg)
          have HN := Lib.hid hbg
          clear CB hbg
          go_wp2_with (first | (go_at_call 37; refine CY.out.mono ?_; rintro e w6 ⟨rfl, hb6⟩; have HB6 := Lib.hid (H1.out.2.1.go hb6); have HS6 := Lib.hid (sl_go H1.out.1 hb6); clear hb6 c6 e0 e1 e2 e3 e4 e5 e6; have c6 := HB6.out.b.cell 6; simp only [List.getElem?_cons_zero, List.getElem?_cons_succ] at c6; obtain ⟨hR, e0, e1, e2, e3, e4, e5, e6⟩ := HS.out w6 HB6.out.l; have CR := Lib.hid (reach_n w6 r _ t (some a) c f.length _ (hR.more HB6.out.l.size) HW.out HS6.out HLN.out HF.out ht); clear hR) | (go_at_call 36; refine CR.out.mono ?_; rintro e w7 ⟨g7, c7, rfl, hs7, hb7⟩; have H7 := Lib.hid (And.intro hs7 (HB6.out.go hb7)); clear hs7 hb7) | fail)
          go_roundw
          case rel => exact ⟨i + 1, c7, ⟨g7, 0, none⟩, by omega, by go_num, rfl, Lib.hid ⟨by rw [rch_pow_succ]; exact H7.out.1, H7.out.2, fun k hk => by
            rcases Nat.lt_or_ge k i with h1 | h1
            · exact H1.out.2.2 k h1
            · obtain rfl : k = i := by omega
              exact HN.out⟩⟩
          case measure => simp [intOf]; omega
      · have hlt2 : ¬ ((i : Int) < (t.size : Int) + 1) := by omega
        clear hnn
        obtain rfl : i = n := by omega
        have HNP := Lib.hid (show ¬ P from fun h => by
          rw [HP.out] at h
          obtain ⟨k, hk, h⟩ := h
          exact absurd h (H1.out.2.2 k hk))
        have HL := Lib.hid H1.out.2.1.l
        clear CB
        go_wp2
        go_ret
        first
        | exact ⟨false, rfl, ⟨fun h => Bool.noConfusion h, fun h => absurd h HNP.out⟩, HL.out⟩
        | exact .inl ⟨rfl, HNP.out, HL.out⟩
    · have hnn : hi = (n : Int) := by omega
      clear HMm
      by_cases hlt : i < n
      · have hlt2 : (i : Int) < hi := by omega
        clear hnn
        by_cases hbg : bgn (lang d r) (byL t) (rch (powL (lang d r) i) (byL t) f)
        · have CY := Lib.hid (be_yes CB hbg)
          have HY := Lib.hid hbg
          clear CB hbg
          go_wp2_with (first | (go_at_call 37; refine CY.out.mono ?_; rintro e w6 ⟨rfl, hb6⟩; have HB6 := Lib.hid hb6; clear hb6) | fail)
          go_ret
          exact ⟨true, rfl, ⟨fun _ => by rw [HP.out]; exact ⟨i, hlt, HY.out⟩, fun _ => rfl⟩, H1.out.2.1.l.trans (HB6.out.mono H1.out.2.1.l.size)⟩
        · have CY := Lib.hid (be_no CB hbg)
          have HN := Lib.hid hbg
          clear CB hbg
          go_wp2_with (first | (go_at_call 37; refine CY.out.mono ?_; rintro e w6 ⟨rfl, hb6⟩; have HB6 := Lib.hid (H1.out.2.1.go hb6); have HS6 := Lib.hid (sl_go H1.out.1 hb6); clear hb6 c6 e0 e1 e2 e3 e4 e5 e6; have c6 := HB6.out.b.cell 6; simp only [List.getElem?_cons_zero, List.getElem?_cons_succ] at c6; obtain ⟨hR, e0, e1, e2, e3, e4, e5, e6⟩ := HS.out w6 HB6.out.l; have CR := Lib.hid (reach_n w6 r _ t (some a) c f.length _ (hR.more HB6.out.l.size) HW.out HS6.out HLN.out HF.out ht); clear hR) | (go_at_call 36; refine CR.out.mono ?_; rintro e w7 ⟨g7, c7, rfl, hs7, hb7⟩; have H7 := Lib.hid (And.intro hs7 (HB6.out.go hb7)); clear hs7 hb7) | fail)
          go_roundw
          case rel => exact ⟨i + 1, c7, ⟨g7, 0, none⟩, by omega, by go_num, rfl, Lib.hid ⟨by rw [rch_pow_succ]; exact H7.out.1, H7.out.2, fun k hk => by
            rcases Nat.lt_or_ge k i with h1 | h1
            · exact H1.out.2.2 k h1
            · obtain rfl : k = i := by omega
              exact HN.out⟩⟩
          case measure => simp [intOf]; omega
      · have hlt2 : ¬ ((i : Int) < hi) := by omega
        clear hnn
        obtain rfl : i = n := by omega
        have HNP := Lib.hid (show ¬ P from fun h => by
          rw [HP.out] at h
          obtain ⟨k, hk, h⟩ := h
          exact absurd h (H1.out.2.2 k hk))
        have HL := Lib.hid H1.out.2.1.l
        clear CB
        go_wp2
        go_ret
        first
        | exact ⟨false, rfl, ⟨fun h => Bool.noConfusion h, fun h => absurd h HNP.out⟩, HL.out⟩
        | exact .inl ⟨rfl, HNP.out, HL.out⟩
end Go.Proofs.YtbkpgfccghombaaDoor.rx

/-! Whether a word of an expression begins with what is left of a text: classes. Printed by mkrbc.py. Conditions: as stated. -/
namespace Go.Proofs.YtbkpgfccghombaaDoor.rx
open Go.ChangeShapes Go.WideShapes Go.ChangeAt Go.RowKit
set_option linter.unusedVariables false
set_option linter.unusedSimpArgs false

theorem Bx.quiet {w w1 w2 : World} {cs : List Value} (h : Bx w w1 cs) (hb : Below w1.heap.size w1 w2) : Bx w w2 cs := h.go hb
theorem sl_below {w w' : World} {a : Option Addr} {l : List Value} (h : Sl w w.heap.size a l) (hb : Below w.heap.size w w') : Sl w' w'.heap.size a l := (h.below hb).more hb.size
set_option maxRecDepth 100000 in
set_option maxHeartbeats 3200000 in
theorem be_cls4 (mn mx : Int) (ra : Option Addr) (rs : List Int) (rc : Nat) (sa : Option Addr) (sn sc : Nat) (w : World) (t : ByteArray) (aa : Option Addr) (ca : Nat) (f : List Bool) (h56 : 4 = 5 ∨ 4 = 6 → rs = []) (hl : rs.length ≤ 8) (hr : Sl w w.heap.size ra (rs.map (.int .i32))) (hnn : noneB f = false) (h0 : f[t.size]? = some false) (ha : Sl w w.heap.size aa (f.map .bool)) (hf : f.length = t.size + 1) (ht : t.size ≤ 1000) :
    Calls Tryd.prog 37 #[.agg (rxc 4 mn mx ra rs.length rc sa sn sc).toArray, .string t, .slice aa f.length ca] w fun e w' => ∃ b : Bool, e = .returned (.bool b) ∧ (b = true ↔ ∃ i, i < t.size ∧ f[i]? = some true ∧ bgnR (rngs 4 rs) ((byL t).drop i) = true) ∧ Below w.heap.size w w' := by
  obtain ⟨P, hP⟩ : ∃ P : Prop, P = (∃ i, i < t.size ∧ f[i]? = some true ∧ bgnR (rngs 4 rs) ((byL t).drop i) = true) := ⟨_, rfl⟩
  rw [← hP]
  have HB := Lib.hid (Bx.new w (rxc 4 mn mx ra rs.length rc sa sn sc))
  have HA := Lib.hid ha
  have HF := Lib.hid hf
  have HSR := Lib.hid hr
  have CN := Lib.hid (none_any aa ca f _ _ (ha.below HB.out.l) (by omega))
  rw [hnn] at CN
  obtain ⟨ad, rfl, had, hc⟩ := (ha.below HB.out.l) t.size (.bool false) (by rw [List.getElem?_map, h0]; rfl)
  have hlt0 : (t.size : Int) < (f.length : Int) := by omega
  have hrl : (rngs 4 rs).length ≤ 1000000 := by
    unfold rngs
    repeat' split
    all_goals first | omega | simp
  have CRG := Lib.hid (fun (W : World) (h : Sl W W.heap.size ra (rs.map (.int .i32))) => rngs_any 4 mn mx ra rs rc sa sn sc W 4 rfl h56 h)
  clear ha hf hnn h0 hr h56 hl
  unfold rxc at *
  generalize hle : rngs 4 rs = l at *
  have HP := Lib.hid hP
  clear hle hP
  go_enter Tryd.func37, Tryd.ntmps37
  go_upto_region 23 with (go_at_call 52; refine CN.out.mono ?_; rintro e w1 ⟨rfl, rfl⟩)
  refine name_world ?_
  intro w2 hw2
  have HB2 := Lib.hid (show Bx w w2 _ from by rw [hw2]; exact HB.out)
  clear hw2 hc hlt0
  go_wp2_with fail
  go_loopw [10] (fun v10 wr => ∃ i : Nat, i ≤ t.size ∧ v10 = .int .i64 i ∧ Hid (Bx w wr [.int .i64 4, .slice ra rs.length rc, .int .i64 mn, .int .i64 mx, .bool false, .bool false, .slice sa sn sc] ∧ ∀ k, k < i → ¬ (f[k]? = some true ∧ bgnR l ((byL t).drop k) = true))) (fun v10 _ => t.size - (intOf v10).toNat)
  case atStart => exact ⟨0, by omega, rfl, Lib.hid ⟨HB2.out, fun k hk => by omega⟩⟩
  case round =>
    obtain ⟨i, hi, rfl, H1⟩ := hrel
    by_cases hlt : i < t.size
    · have hif : i < f.length := by have := HF.out; omega
      obtain ⟨ad2, had1, had2, hx⟩ := bool_at (HA.out.below H1.out.1.l) i hif
      injection had1 with had1
      subst had1
      have HG := Lib.hid (show f[i]? = some f[i] from List.getElem?_eq_getElem hif)
      have HNX := Lib.hid (show ¬ (f[i]? = some true ∧ bgnR l ((byL t).drop i) = true) → ∀ k, k < i + 1 → ¬ (f[k]? = some true ∧ bgnR l ((byL t).drop k) = true) from fun h0 k hk => by
        rcases Nat.lt_or_ge k i with h1 | h1
        · exact H1.out.2 k h1
        · obtain rfl : k = i := by omega
          exact h0)
      have hlti : (i : Int) < (f.length : Int) := by omega
      have HAD := Lib.hid (show (ad.add i).block < wr.heap.size from by rw [add_block]; exact Nat.lt_of_lt_of_le had2 H1.out.1.l.size)
      generalize f[i] = x at *
      go_upto_region 26 with fail
      cases x with
      | false =>
        have HN2 := Lib.hid (HNX.out (fun h => by rw [HG.out] at h; exact Bool.noConfusion (Option.some.inj h.1)))
        have HBd := Lib.hid (show ∀ W : World, (∀ p, W.cell? p = wr.cell? p) → True from fun _ _ => trivial)
        go_quiet (fail)
        go_wp2
        go_roundw
        case rel => exact ⟨i + 1, by omega, by go_num, Lib.hid ⟨H1.out.1.quiet ⟨rfl, rfl, rfl, Nat.le_refl _, fun _ _ => rfl⟩, HN2.out⟩⟩
        case measure => simp [intOf]; omega
      | true =>
        have HX := Lib.hid (show byL (t.extract i t.size) = (byL t).drop i from by rw [byL_ext, ← byL_len, List.take_length])
        have CBG := Lib.hid (fun (a : Option Addr) (cc : Nat) (W : World) (h : Sl W W.heap.size a (l.map (.int .i32))) => begins_any a cc l (t.extract i t.size) W h hrl (by rw [← byL_len, HX.out, List.length_drop, byL_len]; omega))
        rw [HX.out] at CBG
        have c0 := H1.out.1.b.cell 0
        have c1 := H1.out.1.b.cell 1
        have c2 := H1.out.1.b.cell 2
        have c3 := H1.out.1.b.cell 3
        have c4 := H1.out.1.b.cell 4
        have c5 := H1.out.1.b.cell 5
        have c6 := H1.out.1.b.cell 6
        simp only [List.getElem?_cons_zero, List.getElem?_cons_succ] at c0 c1 c2 c3 c4 c5 c6
        have HSK := Lib.hid (show ∀ W W' : World, Below wr.drew.heap.size W W' → (W.cell? (ad.add i) = some (.bool true) ∧ W.cell? ⟨w.heap.size, 0, none⟩ = some (.int .i64 4) ∧ W.cell? ⟨w.heap.size, 1, none⟩ = some (.slice ra rs.length rc) ∧ W.cell? ⟨w.heap.size, 2, none⟩ = some (.int .i64 mn) ∧ W.cell? ⟨w.heap.size, 3, none⟩ = some (.int .i64 mx) ∧ W.cell? ⟨w.heap.size, 4, none⟩ = some (.bool false) ∧ W.cell? ⟨w.heap.size, 5, none⟩ = some (.bool false) ∧ W.cell? ⟨w.heap.size, 6, none⟩ = some (.slice sa sn sc)) → (W'.cell? (ad.add i) = some (.bool true) ∧ W'.cell? ⟨w.heap.size, 0, none⟩ = some (.int .i64 4) ∧ W'.cell? ⟨w.heap.size, 1, none⟩ = some (.slice ra rs.length rc) ∧ W'.cell? ⟨w.heap.size, 2, none⟩ = some (.int .i64 mn) ∧ W'.cell? ⟨w.heap.size, 3, none⟩ = some (.int .i64 mx) ∧ W'.cell? ⟨w.heap.size, 4, none⟩ = some (.bool false) ∧ W'.cell? ⟨w.heap.size, 5, none⟩ = some (.bool false) ∧ W'.cell? ⟨w.heap.size, 6, none⟩ = some (.slice sa sn sc)) from fun W W' hb h => by
          have hs := H1.out.1.s
          have hs2 : w.heap.size < wr.drew.heap.size := hs
          exact ⟨(hb.cell (p := ad.add i) HAD.out).trans h.1, (hb.cell (p := ⟨w.heap.size, 0, none⟩) hs2).trans h.2.1, (hb.cell (p := ⟨w.heap.size, 1, none⟩) hs2).trans h.2.2.1, (hb.cell (p := ⟨w.heap.size, 2, none⟩) hs2).trans h.2.2.2.1, (hb.cell (p := ⟨w.heap.size, 3, none⟩) hs2).trans h.2.2.2.2.1, (hb.cell (p := ⟨w.heap.size, 4, none⟩) hs2).trans h.2.2.2.2.2.1, (hb.cell (p := ⟨w.heap.size, 5, none⟩) hs2).trans h.2.2.2.2.2.2.1, (hb.cell (p := ⟨w.heap.size, 6, none⟩) hs2).trans h.2.2.2.2.2.2.2⟩)
        have HBD := Lib.hid (show Bx w wr.drew _ from H1.out.1.quiet ⟨rfl, rfl, rfl, Nat.le_refl _, fun _ _ => rfl⟩)
        cases hbg : bgnR l ((byL t).drop i) with
        | true =>
          rw [hbg] at CBG
          have HPT := Lib.hid (show P from by rw [HP.out]; exact ⟨i, hlt, HG.out, hbg⟩)
          clear hbg
          refine wp_region_ks (fun W => W.cell? (ad.add i) = some (.bool true) ∧ W.cell? ⟨w.heap.size, 0, none⟩ = some (.int .i64 4) ∧ W.cell? ⟨w.heap.size, 1, none⟩ = some (.slice ra rs.length rc) ∧ W.cell? ⟨w.heap.size, 2, none⟩ = some (.int .i64 mn) ∧ W.cell? ⟨w.heap.size, 3, none⟩ = some (.int .i64 mx) ∧ W.cell? ⟨w.heap.size, 4, none⟩ = some (.bool false) ∧ W.cell? ⟨w.heap.size, 5, none⟩ = some (.bool false) ∧ W.cell? ⟨w.heap.size, 6, none⟩ = some (.slice sa sn sc)) [] (by kernel_rfl) ?_
          simp only [List.size_toArray, List.length_cons, List.length_nil, Nat.reduceAdd]
          refine ks_pure (i := 0) (oi := ?oi0a) (v := ?v0a) ?hi0a (by kernel_rfl) (by kernel_rfl) (by kernel_rfl) ?hQ0a ?hy0a ?rest0a
          case hi0a =>
            simp only [List.getElem?_toArray, List.getElem?_cons_zero]
            rfl
          case hQ0a => exact fun _ _ _ h => h
          case hy0a =>
            refine yields_if (by rfl) (fun W hW => ?_)
            try dsimp only at hW
            go_simp
            first | done | with_reducible rfl
          simp only [Act.put, List.setIfInBounds_toArray, List.set_cons_zero, List.set_cons_succ]
          refine ks_pure (i := 1) (oi := ?oi1a) (v := ?v1a) ?hi1a (by kernel_rfl) (by kernel_rfl) (by kernel_rfl) ?hQ1a ?hy1a ?rest1a
          case hi1a =>
            simp only [List.getElem?_toArray, List.getElem?_cons_succ, List.getElem?_cons_zero]
            rfl
          case hQ1a => exact fun _ _ _ h => h
          case hy1a =>
            refine yields_if (by rfl) (fun W hW => ?_)
            try dsimp only at hW
            go_simp
            first | done | with_reducible rfl
          simp only [Act.put, List.setIfInBounds_toArray, List.set_cons_zero, List.set_cons_succ]
          refine ks_pure (i := 2) (oi := ?oi2a) (v := ?v2a) ?hi2a (by kernel_rfl) (by kernel_rfl) (by kernel_rfl) ?hQ2a ?hy2a ?rest2a
          case hi2a =>
            simp only [List.getElem?_toArray, List.getElem?_cons_succ, List.getElem?_cons_zero]
            rfl
          case hQ2a => exact fun _ _ _ h => h
          case hy2a =>
            refine yields_if (by rfl) (fun W hW => ?_)
            try dsimp only at hW
            go_simp
            first | done | with_reducible rfl
          simp only [Act.put, List.setIfInBounds_toArray, List.set_cons_zero, List.set_cons_succ]
          refine ks_take (i := 3) (oi := ?oi3a) (v := ?v3a) ?hi3a (by kernel_rfl) (by kernel_rfl) (by kernel_rfl) (by kernel_rfl) ?hQ3a ?hS3a ?hy3a ?rest3a
          case hi3a =>
            simp only [List.getElem?_toArray, List.getElem?_cons_succ, List.getElem?_cons_zero]
            rfl
          case hQ3a => exact fun _ _ _ h => h
          case hS3a => exact ⟨hx, c0, c1, c2, c3, c4, c5, c6⟩
          case hy3a =>
            refine yields_if (by rfl) (fun W hW => ?_)
            obtain ⟨hW0, hW1, hW2, hW3, hW4, hW5, hW6, hW7⟩ := hW
            go_simp
            first | done | with_reducible rfl
          simp only [Act.put, List.setIfInBounds_toArray, List.set_cons_zero, List.set_cons_succ]
          refine ks_pure (i := 4) (oi := ?oi4a) (v := ?v4a) ?hi4a (by kernel_rfl) (by kernel_rfl) (by kernel_rfl) ?hQ4a ?hy4a ?rest4a
          case hi4a =>
            simp only [List.getElem?_toArray, List.getElem?_cons_succ, List.getElem?_cons_zero]
            rfl
          case hQ4a => exact fun _ _ _ h => h
          case hy4a =>
            refine yields_if (by rfl) (fun W hW => ?_)
            try dsimp only at hW
            go_simp
            first | done | with_reducible rfl
          simp only [Act.put, List.setIfInBounds_toArray, List.set_cons_zero, List.set_cons_succ]
          refine ks_take (i := 5) (oi := ?oi5a) (v := ?v5a) ?hi5a (by kernel_rfl) (by kernel_rfl) (by kernel_rfl) (by kernel_rfl) ?hQ5a ?hS5a ?hy5a ?rest5a
          case hi5a =>
            simp only [List.getElem?_toArray, List.getElem?_cons_succ, List.getElem?_cons_zero]
            rfl
          case hQ5a => exact fun _ _ _ h => h
          case hS5a => exact ⟨hx, c0, c1, c2, c3, c4, c5, c6⟩
          case hy5a =>
            refine yields_if (by rfl) (fun W hW => ?_)
            obtain ⟨hW0, hW1, hW2, hW3, hW4, hW5, hW6, hW7⟩ := hW
            go_simp
            first | done | with_reducible rfl
          simp only [Act.put, List.setIfInBounds_toArray, List.set_cons_zero, List.set_cons_succ]
          refine ks_pure (i := 7) (oi := ?oi7a) (v := ?v7a) ?hi7a (by kernel_rfl) (by kernel_rfl) (by kernel_rfl) ?hQ7a ?hy7a ?rest7a
          case hi7a =>
            simp only [List.getElem?_toArray, List.getElem?_cons_succ, List.getElem?_cons_zero]
            rfl
          case hQ7a => exact fun _ _ _ h => h
          case hy7a =>
            refine yields_if (by rfl) (fun W hW => ?_)
            try dsimp only at hW
            go_simp
            first | done | with_reducible rfl
          simp only [Act.put, List.setIfInBounds_toArray, List.set_cons_zero, List.set_cons_succ]
          refine ks_pure (i := 8) (oi := ?oi8a) (v := ?v8a) ?hi8a (by kernel_rfl) (by kernel_rfl) (by kernel_rfl) ?hQ8a ?hy8a ?rest8a
          case hi8a =>
            simp only [List.getElem?_toArray, List.getElem?_cons_succ, List.getElem?_cons_zero]
            rfl
          case hQ8a => exact fun _ _ _ h => h
          case hy8a =>
            refine yields_if (by rfl) (fun W hW => ?_)
            try dsimp only at hW
            go_simp
            first | done | with_reducible rfl
          simp only [Act.put, List.setIfInBounds_toArray, List.set_cons_zero, List.set_cons_succ]
          refine ks_pure (i := 9) (oi := ?oi9a) (v := ?v9a) ?hi9a (by kernel_rfl) (by kernel_rfl) (by kernel_rfl) ?hQ9a ?hy9a ?rest9a
          case hi9a =>
            simp only [List.getElem?_toArray, List.getElem?_cons_succ, List.getElem?_cons_zero]
            rfl
          case hQ9a => exact fun _ _ _ h => h
          case hy9a =>
            refine yields_if (by rfl) (fun W hW => ?_)
            try dsimp only at hW
            go_simp
            first | done | with_reducible rfl
          simp only [Act.put, List.setIfInBounds_toArray, List.set_cons_zero, List.set_cons_succ]
          refine ks_one (i := 6) (o := ?o6a) ?ho6a (by kernel_rfl) (fun K9 hK => ?_)
          case ho6a =>
            simp only [List.getElem?_toArray, List.getElem?_cons_succ, List.getElem?_cons_zero]
            rfl
          go_simp
          refine (CRG.out _ (sl_below HSR.out (H1.out.1.l.trans (Below.refl _ _).drew))).mono ?_
          rintro e w5 ⟨a5, k5, rfl, hs5, hb5⟩
          have HS5 := Lib.hid hs5
          have HB5 := Lib.hid hb5
          clear hs5 hb5
          refine hK _ _ (fun _ hS => HSK.out _ _ HB5.out hS) ?_
          clear hK K9
          try simp only [Act.put, List.setIfInBounds_toArray, List.set_cons_zero, List.set_cons_succ]
          refine ks_one (i := 10) (o := ?o10a) ?ho10a (by kernel_rfl) (fun K9 hK => ?_)
          case ho10a =>
            simp only [List.getElem?_toArray, List.getElem?_cons_succ, List.getElem?_cons_zero]
            rfl
          go_simp
          refine (CBG.out _ _ _ HS5.out).mono ?_
          rintro e w6 ⟨rfl, hb6⟩
          have HB6 := Lib.hid hb6
          clear hb6
          refine hK _ _ (fun _ hS => HSK.out _ _ (HB6.out.mono HB5.out.size) hS) ?_
          clear hK K9
          try simp only [Act.put, List.setIfInBounds_toArray, List.set_cons_zero, List.set_cons_succ]
          refine ks_pure (i := 11) (oi := ?oi11a) (v := ?v11a) ?hi11a (by kernel_rfl) (by kernel_rfl) (by kernel_rfl) ?hQ11a ?hy11a ?rest11a
          case hi11a =>
            simp only [List.getElem?_toArray, List.getElem?_cons_succ, List.getElem?_cons_zero]
            rfl
          case hQ11a => exact fun _ _ _ h => h
          case hy11a =>
            refine yields_if (by rfl) (fun W hW => ?_)
            try dsimp only at hW
            go_simp
            first | done | with_reducible rfl
          simp only [Act.put, List.setIfInBounds_toArray, List.set_cons_zero, List.set_cons_succ]
          refine ks_done (by kernel_rfl) ?_ _
          try simp only [Exit.then]
          rename_i hK1
          refine hK1 _ _ ?_
          clear hK1
          have HBL := Lib.hid (HBD.out.l.trans (HB5.out.mono HBD.out.l.size |>.trans (HB6.out.mono (Nat.le_trans HBD.out.l.size HB5.out.size))))
          go_wp2
          go_ret
          first
          | exact ⟨true, rfl, ⟨fun _ => HPT.out, fun _ => rfl⟩, HBL.out⟩
          | exact .inr ⟨rfl, HPT.out, HBL.out⟩
        | false =>
          rw [hbg] at CBG
          have HN2 := Lib.hid (HNX.out (fun h => by rw [hbg] at h; exact Bool.noConfusion h.2))
          clear hbg
          refine wp_region_ks (fun W => W.cell? (ad.add i) = some (.bool true) ∧ W.cell? ⟨w.heap.size, 0, none⟩ = some (.int .i64 4) ∧ W.cell? ⟨w.heap.size, 1, none⟩ = some (.slice ra rs.length rc) ∧ W.cell? ⟨w.heap.size, 2, none⟩ = some (.int .i64 mn) ∧ W.cell? ⟨w.heap.size, 3, none⟩ = some (.int .i64 mx) ∧ W.cell? ⟨w.heap.size, 4, none⟩ = some (.bool false) ∧ W.cell? ⟨w.heap.size, 5, none⟩ = some (.bool false) ∧ W.cell? ⟨w.heap.size, 6, none⟩ = some (.slice sa sn sc)) [] (by kernel_rfl) ?_
          simp only [List.size_toArray, List.length_cons, List.length_nil, Nat.reduceAdd]
          refine ks_pure (i := 0) (oi := ?oi0b) (v := ?v0b) ?hi0b (by kernel_rfl) (by kernel_rfl) (by kernel_rfl) ?hQ0b ?hy0b ?rest0b
          case hi0b =>
            simp only [List.getElem?_toArray, List.getElem?_cons_zero]
            rfl
          case hQ0b => exact fun _ _ _ h => h
          case hy0b =>
            refine yields_if (by rfl) (fun W hW => ?_)
            try dsimp only at hW
            go_simp
            first | done | with_reducible rfl
          simp only [Act.put, List.setIfInBounds_toArray, List.set_cons_zero, List.set_cons_succ]
          refine ks_pure (i := 1) (oi := ?oi1b) (v := ?v1b) ?hi1b (by kernel_rfl) (by kernel_rfl) (by kernel_rfl) ?hQ1b ?hy1b ?rest1b
          case hi1b =>
            simp only [List.getElem?_toArray, List.getElem?_cons_succ, List.getElem?_cons_zero]
            rfl
          case hQ1b => exact fun _ _ _ h => h
          case hy1b =>
            refine yields_if (by rfl) (fun W hW => ?_)
            try dsimp only at hW
            go_simp
            first | done | with_reducible rfl
          simp only [Act.put, List.setIfInBounds_toArray, List.set_cons_zero, List.set_cons_succ]
          refine ks_pure (i := 2) (oi := ?oi2b) (v := ?v2b) ?hi2b (by kernel_rfl) (by kernel_rfl) (by kernel_rfl) ?hQ2b ?hy2b ?rest2b
          case hi2b =>
            simp only [List.getElem?_toArray, List.getElem?_cons_succ, List.getElem?_cons_zero]
            rfl
          case hQ2b => exact fun _ _ _ h => h
          case hy2b =>
            refine yields_if (by rfl) (fun W hW => ?_)
            try dsimp only at hW
            go_simp
            first | done | with_reducible rfl
          simp only [Act.put, List.setIfInBounds_toArray, List.set_cons_zero, List.set_cons_succ]
          refine ks_take (i := 3) (oi := ?oi3b) (v := ?v3b) ?hi3b (by kernel_rfl) (by kernel_rfl) (by kernel_rfl) (by kernel_rfl) ?hQ3b ?hS3b ?hy3b ?rest3b
          case hi3b =>
            simp only [List.getElem?_toArray, List.getElem?_cons_succ, List.getElem?_cons_zero]
            rfl
          case hQ3b => exact fun _ _ _ h => h
          case hS3b => exact ⟨hx, c0, c1, c2, c3, c4, c5, c6⟩
          case hy3b =>
            refine yields_if (by rfl) (fun W hW => ?_)
            obtain ⟨hW0, hW1, hW2, hW3, hW4, hW5, hW6, hW7⟩ := hW
            go_simp
            first | done | with_reducible rfl
          simp only [Act.put, List.setIfInBounds_toArray, List.set_cons_zero, List.set_cons_succ]
          refine ks_pure (i := 4) (oi := ?oi4b) (v := ?v4b) ?hi4b (by kernel_rfl) (by kernel_rfl) (by kernel_rfl) ?hQ4b ?hy4b ?rest4b
          case hi4b =>
            simp only [List.getElem?_toArray, List.getElem?_cons_succ, List.getElem?_cons_zero]
            rfl
          case hQ4b => exact fun _ _ _ h => h
          case hy4b =>
            refine yields_if (by rfl) (fun W hW => ?_)
            try dsimp only at hW
            go_simp
            first | done | with_reducible rfl
          simp only [Act.put, List.setIfInBounds_toArray, List.set_cons_zero, List.set_cons_succ]
          refine ks_take (i := 5) (oi := ?oi5b) (v := ?v5b) ?hi5b (by kernel_rfl) (by kernel_rfl) (by kernel_rfl) (by kernel_rfl) ?hQ5b ?hS5b ?hy5b ?rest5b
          case hi5b =>
            simp only [List.getElem?_toArray, List.getElem?_cons_succ, List.getElem?_cons_zero]
            rfl
          case hQ5b => exact fun _ _ _ h => h
          case hS5b => exact ⟨hx, c0, c1, c2, c3, c4, c5, c6⟩
          case hy5b =>
            refine yields_if (by rfl) (fun W hW => ?_)
            obtain ⟨hW0, hW1, hW2, hW3, hW4, hW5, hW6, hW7⟩ := hW
            go_simp
            first | done | with_reducible rfl
          simp only [Act.put, List.setIfInBounds_toArray, List.set_cons_zero, List.set_cons_succ]
          refine ks_pure (i := 7) (oi := ?oi7b) (v := ?v7b) ?hi7b (by kernel_rfl) (by kernel_rfl) (by kernel_rfl) ?hQ7b ?hy7b ?rest7b
          case hi7b =>
            simp only [List.getElem?_toArray, List.getElem?_cons_succ, List.getElem?_cons_zero]
            rfl
          case hQ7b => exact fun _ _ _ h => h
          case hy7b =>
            refine yields_if (by rfl) (fun W hW => ?_)
            try dsimp only at hW
            go_simp
            first | done | with_reducible rfl
          simp only [Act.put, List.setIfInBounds_toArray, List.set_cons_zero, List.set_cons_succ]
          refine ks_pure (i := 8) (oi := ?oi8b) (v := ?v8b) ?hi8b (by kernel_rfl) (by kernel_rfl) (by kernel_rfl) ?hQ8b ?hy8b ?rest8b
          case hi8b =>
            simp only [List.getElem?_toArray, List.getElem?_cons_succ, List.getElem?_cons_zero]
            rfl
          case hQ8b => exact fun _ _ _ h => h
          case hy8b =>
            refine yields_if (by rfl) (fun W hW => ?_)
            try dsimp only at hW
            go_simp
            first | done | with_reducible rfl
          simp only [Act.put, List.setIfInBounds_toArray, List.set_cons_zero, List.set_cons_succ]
          refine ks_pure (i := 9) (oi := ?oi9b) (v := ?v9b) ?hi9b (by kernel_rfl) (by kernel_rfl) (by kernel_rfl) ?hQ9b ?hy9b ?rest9b
          case hi9b =>
            simp only [List.getElem?_toArray, List.getElem?_cons_succ, List.getElem?_cons_zero]
            rfl
          case hQ9b => exact fun _ _ _ h => h
          case hy9b =>
            refine yields_if (by rfl) (fun W hW => ?_)
            try dsimp only at hW
            go_simp
            first | done | with_reducible rfl
          simp only [Act.put, List.setIfInBounds_toArray, List.set_cons_zero, List.set_cons_succ]
          refine ks_one (i := 6) (o := ?o6b) ?ho6b (by kernel_rfl) (fun K9 hK => ?_)
          case ho6b =>
            simp only [List.getElem?_toArray, List.getElem?_cons_succ, List.getElem?_cons_zero]
            rfl
          go_simp
          refine (CRG.out _ (sl_below HSR.out (H1.out.1.l.trans (Below.refl _ _).drew))).mono ?_
          rintro e w5 ⟨a5, k5, rfl, hs5, hb5⟩
          have HS5 := Lib.hid hs5
          have HB5 := Lib.hid hb5
          clear hs5 hb5
          refine hK _ _ (fun _ hS => HSK.out _ _ HB5.out hS) ?_
          clear hK K9
          try simp only [Act.put, List.setIfInBounds_toArray, List.set_cons_zero, List.set_cons_succ]
          refine ks_one (i := 10) (o := ?o10b) ?ho10b (by kernel_rfl) (fun K9 hK => ?_)
          case ho10b =>
            simp only [List.getElem?_toArray, List.getElem?_cons_succ, List.getElem?_cons_zero]
            rfl
          go_simp
          refine (CBG.out _ _ _ HS5.out).mono ?_
          rintro e w6 ⟨rfl, hb6⟩
          have HB6 := Lib.hid hb6
          clear hb6
          refine hK _ _ (fun _ hS => HSK.out _ _ (HB6.out.mono HB5.out.size) hS) ?_
          clear hK K9
          try simp only [Act.put, List.setIfInBounds_toArray, List.set_cons_zero, List.set_cons_succ]
          refine ks_pure (i := 11) (oi := ?oi11b) (v := ?v11b) ?hi11b (by kernel_rfl) (by kernel_rfl) (by kernel_rfl) ?hQ11b ?hy11b ?rest11b
          case hi11b =>
            simp only [List.getElem?_toArray, List.getElem?_cons_succ, List.getElem?_cons_zero]
            rfl
          case hQ11b => exact fun _ _ _ h => h
          case hy11b =>
            refine yields_if (by rfl) (fun W hW => ?_)
            try dsimp only at hW
            go_simp
            first | done | with_reducible rfl
          simp only [Act.put, List.setIfInBounds_toArray, List.set_cons_zero, List.set_cons_succ]
          refine ks_done (by kernel_rfl) ?_ _
          try simp only [Exit.then]
          rename_i hK1
          refine hK1 _ _ ?_
          clear hK1
          have HB9 := Lib.hid ((HBD.out.go HB5.out).go HB6.out)
          go_wp2
          go_roundw
          case rel => exact ⟨i + 1, by omega, by go_num, Lib.hid ⟨HB9.out, HN2.out⟩⟩
          case measure => simp [intOf]; omega
    · obtain rfl : i = t.size := by omega
      have HNP := Lib.hid (show ¬ P from fun h => by
        rw [HP.out] at h
        obtain ⟨k, hk, h⟩ := h
        exact absurd h (H1.out.2 k hk))
      have HL := Lib.hid H1.out.1.l
      go_wp2
      go_ret
      first
      | exact ⟨false, rfl, ⟨fun h => Bool.noConfusion h, fun h => absurd h HNP.out⟩, HL.out⟩
      | exact .inl ⟨rfl, HNP.out, HL.out⟩
set_option maxRecDepth 100000 in
set_option maxHeartbeats 3200000 in
theorem be_cls5 (mn mx : Int) (ra : Option Addr) (rs : List Int) (rc : Nat) (sa : Option Addr) (sn sc : Nat) (w : World) (t : ByteArray) (aa : Option Addr) (ca : Nat) (f : List Bool) (h56 : 5 = 5 ∨ 5 = 6 → rs = []) (hl : rs.length ≤ 8) (hr : Sl w w.heap.size ra (rs.map (.int .i32))) (hnn : noneB f = false) (h0 : f[t.size]? = some false) (ha : Sl w w.heap.size aa (f.map .bool)) (hf : f.length = t.size + 1) (ht : t.size ≤ 1000) :
    Calls Tryd.prog 37 #[.agg (rxc 5 mn mx ra rs.length rc sa sn sc).toArray, .string t, .slice aa f.length ca] w fun e w' => ∃ b : Bool, e = .returned (.bool b) ∧ (b = true ↔ ∃ i, i < t.size ∧ f[i]? = some true ∧ bgnR (rngs 5 rs) ((byL t).drop i) = true) ∧ Below w.heap.size w w' := by
  obtain ⟨P, hP⟩ : ∃ P : Prop, P = (∃ i, i < t.size ∧ f[i]? = some true ∧ bgnR (rngs 5 rs) ((byL t).drop i) = true) := ⟨_, rfl⟩
  rw [← hP]
  have HB := Lib.hid (Bx.new w (rxc 5 mn mx ra rs.length rc sa sn sc))
  have HA := Lib.hid ha
  have HF := Lib.hid hf
  have HSR := Lib.hid hr
  have CN := Lib.hid (none_any aa ca f _ _ (ha.below HB.out.l) (by omega))
  rw [hnn] at CN
  obtain ⟨ad, rfl, had, hc⟩ := (ha.below HB.out.l) t.size (.bool false) (by rw [List.getElem?_map, h0]; rfl)
  have hlt0 : (t.size : Int) < (f.length : Int) := by omega
  have hrl : (rngs 5 rs).length ≤ 1000000 := by
    unfold rngs
    repeat' split
    all_goals first | omega | simp
  have CRG := Lib.hid (fun (W : World) (h : Sl W W.heap.size ra (rs.map (.int .i32))) => rngs_any 5 mn mx ra rs rc sa sn sc W 5 rfl h56 h)
  clear ha hf hnn h0 hr h56 hl
  unfold rxc at *
  generalize hle : rngs 5 rs = l at *
  have HP := Lib.hid hP
  clear hle hP
  go_enter Tryd.func37, Tryd.ntmps37
  go_upto_region 23 with (go_at_call 52; refine CN.out.mono ?_; rintro e w1 ⟨rfl, rfl⟩)
  refine name_world ?_
  intro w2 hw2
  have HB2 := Lib.hid (show Bx w w2 _ from by rw [hw2]; exact HB.out)
  clear hw2 hc hlt0
  go_wp2_with fail
  go_loopw [10] (fun v10 wr => ∃ i : Nat, i ≤ t.size ∧ v10 = .int .i64 i ∧ Hid (Bx w wr [.int .i64 5, .slice ra rs.length rc, .int .i64 mn, .int .i64 mx, .bool false, .bool false, .slice sa sn sc] ∧ ∀ k, k < i → ¬ (f[k]? = some true ∧ bgnR l ((byL t).drop k) = true))) (fun v10 _ => t.size - (intOf v10).toNat)
  case atStart => exact ⟨0, by omega, rfl, Lib.hid ⟨HB2.out, fun k hk => by omega⟩⟩
  case round =>
    obtain ⟨i, hi, rfl, H1⟩ := hrel
    by_cases hlt : i < t.size
    · have hif : i < f.length := by have := HF.out; omega
      obtain ⟨ad2, had1, had2, hx⟩ := bool_at (HA.out.below H1.out.1.l) i hif
      injection had1 with had1
      subst had1
      have HG := Lib.hid (show f[i]? = some f[i] from List.getElem?_eq_getElem hif)
      have HNX := Lib.hid (show ¬ (f[i]? = some true ∧ bgnR l ((byL t).drop i) = true) → ∀ k, k < i + 1 → ¬ (f[k]? = some true ∧ bgnR l ((byL t).drop k) = true) from fun h0 k hk => by
        rcases Nat.lt_or_ge k i with h1 | h1
        · exact H1.out.2 k h1
        · obtain rfl : k = i := by omega
          exact h0)
      have hlti : (i : Int) < (f.length : Int) := by omega
      have HAD := Lib.hid (show (ad.add i).block < wr.heap.size from by rw [add_block]; exact Nat.lt_of_lt_of_le had2 H1.out.1.l.size)
      generalize f[i] = x at *
      go_upto_region 26 with fail
      cases x with
      | false =>
        have HN2 := Lib.hid (HNX.out (fun h => by rw [HG.out] at h; exact Bool.noConfusion (Option.some.inj h.1)))
        have HBd := Lib.hid (show ∀ W : World, (∀ p, W.cell? p = wr.cell? p) → True from fun _ _ => trivial)
        go_quiet (fail)
        go_wp2
        go_roundw
        case rel => exact ⟨i + 1, by omega, by go_num, Lib.hid ⟨H1.out.1.quiet ⟨rfl, rfl, rfl, Nat.le_refl _, fun _ _ => rfl⟩, HN2.out⟩⟩
        case measure => simp [intOf]; omega
      | true =>
        have HX := Lib.hid (show byL (t.extract i t.size) = (byL t).drop i from by rw [byL_ext, ← byL_len, List.take_length])
        have CBG := Lib.hid (fun (a : Option Addr) (cc : Nat) (W : World) (h : Sl W W.heap.size a (l.map (.int .i32))) => begins_any a cc l (t.extract i t.size) W h hrl (by rw [← byL_len, HX.out, List.length_drop, byL_len]; omega))
        rw [HX.out] at CBG
        have c0 := H1.out.1.b.cell 0
        have c1 := H1.out.1.b.cell 1
        have c2 := H1.out.1.b.cell 2
        have c3 := H1.out.1.b.cell 3
        have c4 := H1.out.1.b.cell 4
        have c5 := H1.out.1.b.cell 5
        have c6 := H1.out.1.b.cell 6
        simp only [List.getElem?_cons_zero, List.getElem?_cons_succ] at c0 c1 c2 c3 c4 c5 c6
        have HSK := Lib.hid (show ∀ W W' : World, Below wr.drew.heap.size W W' → (W.cell? (ad.add i) = some (.bool true) ∧ W.cell? ⟨w.heap.size, 0, none⟩ = some (.int .i64 5) ∧ W.cell? ⟨w.heap.size, 1, none⟩ = some (.slice ra rs.length rc) ∧ W.cell? ⟨w.heap.size, 2, none⟩ = some (.int .i64 mn) ∧ W.cell? ⟨w.heap.size, 3, none⟩ = some (.int .i64 mx) ∧ W.cell? ⟨w.heap.size, 4, none⟩ = some (.bool false) ∧ W.cell? ⟨w.heap.size, 5, none⟩ = some (.bool false) ∧ W.cell? ⟨w.heap.size, 6, none⟩ = some (.slice sa sn sc)) → (W'.cell? (ad.add i) = some (.bool true) ∧ W'.cell? ⟨w.heap.size, 0, none⟩ = some (.int .i64 5) ∧ W'.cell? ⟨w.heap.size, 1, none⟩ = some (.slice ra rs.length rc) ∧ W'.cell? ⟨w.heap.size, 2, none⟩ = some (.int .i64 mn) ∧ W'.cell? ⟨w.heap.size, 3, none⟩ = some (.int .i64 mx) ∧ W'.cell? ⟨w.heap.size, 4, none⟩ = some (.bool false) ∧ W'.cell? ⟨w.heap.size, 5, none⟩ = some (.bool false) ∧ W'.cell? ⟨w.heap.size, 6, none⟩ = some (.slice sa sn sc)) from fun W W' hb h => by
          have hs := H1.out.1.s
          have hs2 : w.heap.size < wr.drew.heap.size := hs
          exact ⟨(hb.cell (p := ad.add i) HAD.out).trans h.1, (hb.cell (p := ⟨w.heap.size, 0, none⟩) hs2).trans h.2.1, (hb.cell (p := ⟨w.heap.size, 1, none⟩) hs2).trans h.2.2.1, (hb.cell (p := ⟨w.heap.size, 2, none⟩) hs2).trans h.2.2.2.1, (hb.cell (p := ⟨w.heap.size, 3, none⟩) hs2).trans h.2.2.2.2.1, (hb.cell (p := ⟨w.heap.size, 4, none⟩) hs2).trans h.2.2.2.2.2.1, (hb.cell (p := ⟨w.heap.size, 5, none⟩) hs2).trans h.2.2.2.2.2.2.1, (hb.cell (p := ⟨w.heap.size, 6, none⟩) hs2).trans h.2.2.2.2.2.2.2⟩)
        have HBD := Lib.hid (show Bx w wr.drew _ from H1.out.1.quiet ⟨rfl, rfl, rfl, Nat.le_refl _, fun _ _ => rfl⟩)
        cases hbg : bgnR l ((byL t).drop i) with
        | true =>
          rw [hbg] at CBG
          have HPT := Lib.hid (show P from by rw [HP.out]; exact ⟨i, hlt, HG.out, hbg⟩)
          clear hbg
          refine wp_region_ks (fun W => W.cell? (ad.add i) = some (.bool true) ∧ W.cell? ⟨w.heap.size, 0, none⟩ = some (.int .i64 5) ∧ W.cell? ⟨w.heap.size, 1, none⟩ = some (.slice ra rs.length rc) ∧ W.cell? ⟨w.heap.size, 2, none⟩ = some (.int .i64 mn) ∧ W.cell? ⟨w.heap.size, 3, none⟩ = some (.int .i64 mx) ∧ W.cell? ⟨w.heap.size, 4, none⟩ = some (.bool false) ∧ W.cell? ⟨w.heap.size, 5, none⟩ = some (.bool false) ∧ W.cell? ⟨w.heap.size, 6, none⟩ = some (.slice sa sn sc)) [] (by kernel_rfl) ?_
          simp only [List.size_toArray, List.length_cons, List.length_nil, Nat.reduceAdd]
          refine ks_pure (i := 0) (oi := ?oi0a) (v := ?v0a) ?hi0a (by kernel_rfl) (by kernel_rfl) (by kernel_rfl) ?hQ0a ?hy0a ?rest0a
          case hi0a =>
            simp only [List.getElem?_toArray, List.getElem?_cons_zero]
            rfl
          case hQ0a => exact fun _ _ _ h => h
          case hy0a =>
            refine yields_if (by rfl) (fun W hW => ?_)
            try dsimp only at hW
            go_simp
            first | done | with_reducible rfl
          simp only [Act.put, List.setIfInBounds_toArray, List.set_cons_zero, List.set_cons_succ]
          refine ks_pure (i := 1) (oi := ?oi1a) (v := ?v1a) ?hi1a (by kernel_rfl) (by kernel_rfl) (by kernel_rfl) ?hQ1a ?hy1a ?rest1a
          case hi1a =>
            simp only [List.getElem?_toArray, List.getElem?_cons_succ, List.getElem?_cons_zero]
            rfl
          case hQ1a => exact fun _ _ _ h => h
          case hy1a =>
            refine yields_if (by rfl) (fun W hW => ?_)
            try dsimp only at hW
            go_simp
            first | done | with_reducible rfl
          simp only [Act.put, List.setIfInBounds_toArray, List.set_cons_zero, List.set_cons_succ]
          refine ks_pure (i := 2) (oi := ?oi2a) (v := ?v2a) ?hi2a (by kernel_rfl) (by kernel_rfl) (by kernel_rfl) ?hQ2a ?hy2a ?rest2a
          case hi2a =>
            simp only [List.getElem?_toArray, List.getElem?_cons_succ, List.getElem?_cons_zero]
            rfl
          case hQ2a => exact fun _ _ _ h => h
          case hy2a =>
            refine yields_if (by rfl) (fun W hW => ?_)
            try dsimp only at hW
            go_simp
            first | done | with_reducible rfl
          simp only [Act.put, List.setIfInBounds_toArray, List.set_cons_zero, List.set_cons_succ]
          refine ks_take (i := 3) (oi := ?oi3a) (v := ?v3a) ?hi3a (by kernel_rfl) (by kernel_rfl) (by kernel_rfl) (by kernel_rfl) ?hQ3a ?hS3a ?hy3a ?rest3a
          case hi3a =>
            simp only [List.getElem?_toArray, List.getElem?_cons_succ, List.getElem?_cons_zero]
            rfl
          case hQ3a => exact fun _ _ _ h => h
          case hS3a => exact ⟨hx, c0, c1, c2, c3, c4, c5, c6⟩
          case hy3a =>
            refine yields_if (by rfl) (fun W hW => ?_)
            obtain ⟨hW0, hW1, hW2, hW3, hW4, hW5, hW6, hW7⟩ := hW
            go_simp
            first | done | with_reducible rfl
          simp only [Act.put, List.setIfInBounds_toArray, List.set_cons_zero, List.set_cons_succ]
          refine ks_pure (i := 4) (oi := ?oi4a) (v := ?v4a) ?hi4a (by kernel_rfl) (by kernel_rfl) (by kernel_rfl) ?hQ4a ?hy4a ?rest4a
          case hi4a =>
            simp only [List.getElem?_toArray, List.getElem?_cons_succ, List.getElem?_cons_zero]
            rfl
          case hQ4a => exact fun _ _ _ h => h
          case hy4a =>
            refine yields_if (by rfl) (fun W hW => ?_)
            try dsimp only at hW
            go_simp
            first | done | with_reducible rfl
          simp only [Act.put, List.setIfInBounds_toArray, List.set_cons_zero, List.set_cons_succ]
          refine ks_take (i := 5) (oi := ?oi5a) (v := ?v5a) ?hi5a (by kernel_rfl) (by kernel_rfl) (by kernel_rfl) (by kernel_rfl) ?hQ5a ?hS5a ?hy5a ?rest5a
          case hi5a =>
            simp only [List.getElem?_toArray, List.getElem?_cons_succ, List.getElem?_cons_zero]
            rfl
          case hQ5a => exact fun _ _ _ h => h
          case hS5a => exact ⟨hx, c0, c1, c2, c3, c4, c5, c6⟩
          case hy5a =>
            refine yields_if (by rfl) (fun W hW => ?_)
            obtain ⟨hW0, hW1, hW2, hW3, hW4, hW5, hW6, hW7⟩ := hW
            go_simp
            first | done | with_reducible rfl
          simp only [Act.put, List.setIfInBounds_toArray, List.set_cons_zero, List.set_cons_succ]
          refine ks_pure (i := 7) (oi := ?oi7a) (v := ?v7a) ?hi7a (by kernel_rfl) (by kernel_rfl) (by kernel_rfl) ?hQ7a ?hy7a ?rest7a
          case hi7a =>
            simp only [List.getElem?_toArray, List.getElem?_cons_succ, List.getElem?_cons_zero]
            rfl
          case hQ7a => exact fun _ _ _ h => h
          case hy7a =>
            refine yields_if (by rfl) (fun W hW => ?_)
            try dsimp only at hW
            go_simp
            first | done | with_reducible rfl
          simp only [Act.put, List.setIfInBounds_toArray, List.set_cons_zero, List.set_cons_succ]
          refine ks_pure (i := 8) (oi := ?oi8a) (v := ?v8a) ?hi8a (by kernel_rfl) (by kernel_rfl) (by kernel_rfl) ?hQ8a ?hy8a ?rest8a
          case hi8a =>
            simp only [List.getElem?_toArray, List.getElem?_cons_succ, List.getElem?_cons_zero]
            rfl
          case hQ8a => exact fun _ _ _ h => h
          case hy8a =>
            refine yields_if (by rfl) (fun W hW => ?_)
            try dsimp only at hW
            go_simp
            first | done | with_reducible rfl
          simp only [Act.put, List.setIfInBounds_toArray, List.set_cons_zero, List.set_cons_succ]
          refine ks_pure (i := 9) (oi := ?oi9a) (v := ?v9a) ?hi9a (by kernel_rfl) (by kernel_rfl) (by kernel_rfl) ?hQ9a ?hy9a ?rest9a
          case hi9a =>
            simp only [List.getElem?_toArray, List.getElem?_cons_succ, List.getElem?_cons_zero]
            rfl
          case hQ9a => exact fun _ _ _ h => h
          case hy9a =>
            refine yields_if (by rfl) (fun W hW => ?_)
            try dsimp only at hW
            go_simp
            first | done | with_reducible rfl
          simp only [Act.put, List.setIfInBounds_toArray, List.set_cons_zero, List.set_cons_succ]
          refine ks_one (i := 6) (o := ?o6a) ?ho6a (by kernel_rfl) (fun K9 hK => ?_)
          case ho6a =>
            simp only [List.getElem?_toArray, List.getElem?_cons_succ, List.getElem?_cons_zero]
            rfl
          go_simp
          refine (CRG.out _ (sl_below HSR.out (H1.out.1.l.trans (Below.refl _ _).drew))).mono ?_
          rintro e w5 ⟨a5, k5, rfl, hs5, hb5⟩
          have HS5 := Lib.hid hs5
          have HB5 := Lib.hid hb5
          clear hs5 hb5
          refine hK _ _ (fun _ hS => HSK.out _ _ HB5.out hS) ?_
          clear hK K9
          try simp only [Act.put, List.setIfInBounds_toArray, List.set_cons_zero, List.set_cons_succ]
          refine ks_one (i := 10) (o := ?o10a) ?ho10a (by kernel_rfl) (fun K9 hK => ?_)
          case ho10a =>
            simp only [List.getElem?_toArray, List.getElem?_cons_succ, List.getElem?_cons_zero]
            rfl
          go_simp
          refine (CBG.out _ _ _ HS5.out).mono ?_
          rintro e w6 ⟨rfl, hb6⟩
          have HB6 := Lib.hid hb6
          clear hb6
          refine hK _ _ (fun _ hS => HSK.out _ _ (HB6.out.mono HB5.out.size) hS) ?_
          clear hK K9
          try simp only [Act.put, List.setIfInBounds_toArray, List.set_cons_zero, List.set_cons_succ]
          refine ks_pure (i := 11) (oi := ?oi11a) (v := ?v11a) ?hi11a (by kernel_rfl) (by kernel_rfl) (by kernel_rfl) ?hQ11a ?hy11a ?rest11a
          case hi11a =>
            simp only [List.getElem?_toArray, List.getElem?_cons_succ, List.getElem?_cons_zero]
            rfl
          case hQ11a => exact fun _ _ _ h => h
          case hy11a =>
            refine yields_if (by rfl) (fun W hW => ?_)
            try dsimp only at hW
            go_simp
            first | done | with_reducible rfl
          simp only [Act.put, List.setIfInBounds_toArray, List.set_cons_zero, List.set_cons_succ]
          refine ks_done (by kernel_rfl) ?_ _
          try simp only [Exit.then]
          rename_i hK1
          refine hK1 _ _ ?_
          clear hK1
          have HBL := Lib.hid (HBD.out.l.trans (HB5.out.mono HBD.out.l.size |>.trans (HB6.out.mono (Nat.le_trans HBD.out.l.size HB5.out.size))))
          go_wp2
          go_ret
          first
          | exact ⟨true, rfl, ⟨fun _ => HPT.out, fun _ => rfl⟩, HBL.out⟩
          | exact .inr ⟨rfl, HPT.out, HBL.out⟩
        | false =>
          rw [hbg] at CBG
          have HN2 := Lib.hid (HNX.out (fun h => by rw [hbg] at h; exact Bool.noConfusion h.2))
          clear hbg
          refine wp_region_ks (fun W => W.cell? (ad.add i) = some (.bool true) ∧ W.cell? ⟨w.heap.size, 0, none⟩ = some (.int .i64 5) ∧ W.cell? ⟨w.heap.size, 1, none⟩ = some (.slice ra rs.length rc) ∧ W.cell? ⟨w.heap.size, 2, none⟩ = some (.int .i64 mn) ∧ W.cell? ⟨w.heap.size, 3, none⟩ = some (.int .i64 mx) ∧ W.cell? ⟨w.heap.size, 4, none⟩ = some (.bool false) ∧ W.cell? ⟨w.heap.size, 5, none⟩ = some (.bool false) ∧ W.cell? ⟨w.heap.size, 6, none⟩ = some (.slice sa sn sc)) [] (by kernel_rfl) ?_
          simp only [List.size_toArray, List.length_cons, List.length_nil, Nat.reduceAdd]
          refine ks_pure (i := 0) (oi := ?oi0b) (v := ?v0b) ?hi0b (by kernel_rfl) (by kernel_rfl) (by kernel_rfl) ?hQ0b ?hy0b ?rest0b
          case hi0b =>
            simp only [List.getElem?_toArray, List.getElem?_cons_zero]
            rfl
          case hQ0b => exact fun _ _ _ h => h
          case hy0b =>
            refine yields_if (by rfl) (fun W hW => ?_)
            try dsimp only at hW
            go_simp
            first | done | with_reducible rfl
          simp only [Act.put, List.setIfInBounds_toArray, List.set_cons_zero, List.set_cons_succ]
          refine ks_pure (i := 1) (oi := ?oi1b) (v := ?v1b) ?hi1b (by kernel_rfl) (by kernel_rfl) (by kernel_rfl) ?hQ1b ?hy1b ?rest1b
          case hi1b =>
            simp only [List.getElem?_toArray, List.getElem?_cons_succ, List.getElem?_cons_zero]
            rfl
          case hQ1b => exact fun _ _ _ h => h
          case hy1b =>
            refine yields_if (by rfl) (fun W hW => ?_)
            try dsimp only at hW
            go_simp
            first | done | with_reducible rfl
          simp only [Act.put, List.setIfInBounds_toArray, List.set_cons_zero, List.set_cons_succ]
          refine ks_pure (i := 2) (oi := ?oi2b) (v := ?v2b) ?hi2b (by kernel_rfl) (by kernel_rfl) (by kernel_rfl) ?hQ2b ?hy2b ?rest2b
          case hi2b =>
            simp only [List.getElem?_toArray, List.getElem?_cons_succ, List.getElem?_cons_zero]
            rfl
          case hQ2b => exact fun _ _ _ h => h
          case hy2b =>
            refine yields_if (by rfl) (fun W hW => ?_)
            try dsimp only at hW
            go_simp
            first | done | with_reducible rfl
          simp only [Act.put, List.setIfInBounds_toArray, List.set_cons_zero, List.set_cons_succ]
          refine ks_take (i := 3) (oi := ?oi3b) (v := ?v3b) ?hi3b (by kernel_rfl) (by kernel_rfl) (by kernel_rfl) (by kernel_rfl) ?hQ3b ?hS3b ?hy3b ?rest3b
          case hi3b =>
            simp only [List.getElem?_toArray, List.getElem?_cons_succ, List.getElem?_cons_zero]
            rfl
          case hQ3b => exact fun _ _ _ h => h
          case hS3b => exact ⟨hx, c0, c1, c2, c3, c4, c5, c6⟩
          case hy3b =>
            refine yields_if (by rfl) (fun W hW => ?_)
            obtain ⟨hW0, hW1, hW2, hW3, hW4, hW5, hW6, hW7⟩ := hW
            go_simp
            first | done | with_reducible rfl
          simp only [Act.put, List.setIfInBounds_toArray, List.set_cons_zero, List.set_cons_succ]
          refine ks_pure (i := 4) (oi := ?oi4b) (v := ?v4b) ?hi4b (by kernel_rfl) (by kernel_rfl) (by kernel_rfl) ?hQ4b ?hy4b ?rest4b
          case hi4b =>
            simp only [List.getElem?_toArray, List.getElem?_cons_succ, List.getElem?_cons_zero]
            rfl
          case hQ4b => exact fun _ _ _ h => h
          case hy4b =>
            refine yields_if (by rfl) (fun W hW => ?_)
            try dsimp only at hW
            go_simp
            first | done | with_reducible rfl
          simp only [Act.put, List.setIfInBounds_toArray, List.set_cons_zero, List.set_cons_succ]
          refine ks_take (i := 5) (oi := ?oi5b) (v := ?v5b) ?hi5b (by kernel_rfl) (by kernel_rfl) (by kernel_rfl) (by kernel_rfl) ?hQ5b ?hS5b ?hy5b ?rest5b
          case hi5b =>
            simp only [List.getElem?_toArray, List.getElem?_cons_succ, List.getElem?_cons_zero]
            rfl
          case hQ5b => exact fun _ _ _ h => h
          case hS5b => exact ⟨hx, c0, c1, c2, c3, c4, c5, c6⟩
          case hy5b =>
            refine yields_if (by rfl) (fun W hW => ?_)
            obtain ⟨hW0, hW1, hW2, hW3, hW4, hW5, hW6, hW7⟩ := hW
            go_simp
            first | done | with_reducible rfl
          simp only [Act.put, List.setIfInBounds_toArray, List.set_cons_zero, List.set_cons_succ]
          refine ks_pure (i := 7) (oi := ?oi7b) (v := ?v7b) ?hi7b (by kernel_rfl) (by kernel_rfl) (by kernel_rfl) ?hQ7b ?hy7b ?rest7b
          case hi7b =>
            simp only [List.getElem?_toArray, List.getElem?_cons_succ, List.getElem?_cons_zero]
            rfl
          case hQ7b => exact fun _ _ _ h => h
          case hy7b =>
            refine yields_if (by rfl) (fun W hW => ?_)
            try dsimp only at hW
            go_simp
            first | done | with_reducible rfl
          simp only [Act.put, List.setIfInBounds_toArray, List.set_cons_zero, List.set_cons_succ]
          refine ks_pure (i := 8) (oi := ?oi8b) (v := ?v8b) ?hi8b (by kernel_rfl) (by kernel_rfl) (by kernel_rfl) ?hQ8b ?hy8b ?rest8b
          case hi8b =>
            simp only [List.getElem?_toArray, List.getElem?_cons_succ, List.getElem?_cons_zero]
            rfl
          case hQ8b => exact fun _ _ _ h => h
          case hy8b =>
            refine yields_if (by rfl) (fun W hW => ?_)
            try dsimp only at hW
            go_simp
            first | done | with_reducible rfl
          simp only [Act.put, List.setIfInBounds_toArray, List.set_cons_zero, List.set_cons_succ]
          refine ks_pure (i := 9) (oi := ?oi9b) (v := ?v9b) ?hi9b (by kernel_rfl) (by kernel_rfl) (by kernel_rfl) ?hQ9b ?hy9b ?rest9b
          case hi9b =>
            simp only [List.getElem?_toArray, List.getElem?_cons_succ, List.getElem?_cons_zero]
            rfl
          case hQ9b => exact fun _ _ _ h => h
          case hy9b =>
            refine yields_if (by rfl) (fun W hW => ?_)
            try dsimp only at hW
            go_simp
            first | done | with_reducible rfl
          simp only [Act.put, List.setIfInBounds_toArray, List.set_cons_zero, List.set_cons_succ]
          refine ks_one (i := 6) (o := ?o6b) ?ho6b (by kernel_rfl) (fun K9 hK => ?_)
          case ho6b =>
            simp only [List.getElem?_toArray, List.getElem?_cons_succ, List.getElem?_cons_zero]
            rfl
          go_simp
          refine (CRG.out _ (sl_below HSR.out (H1.out.1.l.trans (Below.refl _ _).drew))).mono ?_
          rintro e w5 ⟨a5, k5, rfl, hs5, hb5⟩
          have HS5 := Lib.hid hs5
          have HB5 := Lib.hid hb5
          clear hs5 hb5
          refine hK _ _ (fun _ hS => HSK.out _ _ HB5.out hS) ?_
          clear hK K9
          try simp only [Act.put, List.setIfInBounds_toArray, List.set_cons_zero, List.set_cons_succ]
          refine ks_one (i := 10) (o := ?o10b) ?ho10b (by kernel_rfl) (fun K9 hK => ?_)
          case ho10b =>
            simp only [List.getElem?_toArray, List.getElem?_cons_succ, List.getElem?_cons_zero]
            rfl
          go_simp
          refine (CBG.out _ _ _ HS5.out).mono ?_
          rintro e w6 ⟨rfl, hb6⟩
          have HB6 := Lib.hid hb6
          clear hb6
          refine hK _ _ (fun _ hS => HSK.out _ _ (HB6.out.mono HB5.out.size) hS) ?_
          clear hK K9
          try simp only [Act.put, List.setIfInBounds_toArray, List.set_cons_zero, List.set_cons_succ]
          refine ks_pure (i := 11) (oi := ?oi11b) (v := ?v11b) ?hi11b (by kernel_rfl) (by kernel_rfl) (by kernel_rfl) ?hQ11b ?hy11b ?rest11b
          case hi11b =>
            simp only [List.getElem?_toArray, List.getElem?_cons_succ, List.getElem?_cons_zero]
            rfl
          case hQ11b => exact fun _ _ _ h => h
          case hy11b =>
            refine yields_if (by rfl) (fun W hW => ?_)
            try dsimp only at hW
            go_simp
            first | done | with_reducible rfl
          simp only [Act.put, List.setIfInBounds_toArray, List.set_cons_zero, List.set_cons_succ]
          refine ks_done (by kernel_rfl) ?_ _
          try simp only [Exit.then]
          rename_i hK1
          refine hK1 _ _ ?_
          clear hK1
          have HB9 := Lib.hid ((HBD.out.go HB5.out).go HB6.out)
          go_wp2
          go_roundw
          case rel => exact ⟨i + 1, by omega, by go_num, Lib.hid ⟨HB9.out, HN2.out⟩⟩
          case measure => simp [intOf]; omega
    · obtain rfl : i = t.size := by omega
      have HNP := Lib.hid (show ¬ P from fun h => by
        rw [HP.out] at h
        obtain ⟨k, hk, h⟩ := h
        exact absurd h (H1.out.2 k hk))
      have HL := Lib.hid H1.out.1.l
      go_wp2
      go_ret
      first
      | exact ⟨false, rfl, ⟨fun h => Bool.noConfusion h, fun h => absurd h HNP.out⟩, HL.out⟩
      | exact .inl ⟨rfl, HNP.out, HL.out⟩
set_option maxRecDepth 100000 in
set_option maxHeartbeats 3200000 in
theorem be_cls6 (mn mx : Int) (ra : Option Addr) (rs : List Int) (rc : Nat) (sa : Option Addr) (sn sc : Nat) (w : World) (t : ByteArray) (aa : Option Addr) (ca : Nat) (f : List Bool) (h56 : 6 = 5 ∨ 6 = 6 → rs = []) (hl : rs.length ≤ 8) (hr : Sl w w.heap.size ra (rs.map (.int .i32))) (hnn : noneB f = false) (h0 : f[t.size]? = some false) (ha : Sl w w.heap.size aa (f.map .bool)) (hf : f.length = t.size + 1) (ht : t.size ≤ 1000) :
    Calls Tryd.prog 37 #[.agg (rxc 6 mn mx ra rs.length rc sa sn sc).toArray, .string t, .slice aa f.length ca] w fun e w' => ∃ b : Bool, e = .returned (.bool b) ∧ (b = true ↔ ∃ i, i < t.size ∧ f[i]? = some true ∧ bgnR (rngs 6 rs) ((byL t).drop i) = true) ∧ Below w.heap.size w w' := by
  obtain ⟨P, hP⟩ : ∃ P : Prop, P = (∃ i, i < t.size ∧ f[i]? = some true ∧ bgnR (rngs 6 rs) ((byL t).drop i) = true) := ⟨_, rfl⟩
  rw [← hP]
  have HB := Lib.hid (Bx.new w (rxc 6 mn mx ra rs.length rc sa sn sc))
  have HA := Lib.hid ha
  have HF := Lib.hid hf
  have HSR := Lib.hid hr
  have CN := Lib.hid (none_any aa ca f _ _ (ha.below HB.out.l) (by omega))
  rw [hnn] at CN
  obtain ⟨ad, rfl, had, hc⟩ := (ha.below HB.out.l) t.size (.bool false) (by rw [List.getElem?_map, h0]; rfl)
  have hlt0 : (t.size : Int) < (f.length : Int) := by omega
  have hrl : (rngs 6 rs).length ≤ 1000000 := by
    unfold rngs
    repeat' split
    all_goals first | omega | simp
  have CRG := Lib.hid (fun (W : World) (h : Sl W W.heap.size ra (rs.map (.int .i32))) => rngs_any 6 mn mx ra rs rc sa sn sc W 6 rfl h56 h)
  clear ha hf hnn h0 hr h56 hl
  unfold rxc at *
  generalize hle : rngs 6 rs = l at *
  have HP := Lib.hid hP
  clear hle hP
  go_enter Tryd.func37, Tryd.ntmps37
  go_upto_region 23 with (go_at_call 52; refine CN.out.mono ?_; rintro e w1 ⟨rfl, rfl⟩)
  refine name_world ?_
  intro w2 hw2
  have HB2 := Lib.hid (show Bx w w2 _ from by rw [hw2]; exact HB.out)
  clear hw2 hc hlt0
  go_wp2_with fail
  go_loopw [10] (fun v10 wr => ∃ i : Nat, i ≤ t.size ∧ v10 = .int .i64 i ∧ Hid (Bx w wr [.int .i64 6, .slice ra rs.length rc, .int .i64 mn, .int .i64 mx, .bool false, .bool false, .slice sa sn sc] ∧ ∀ k, k < i → ¬ (f[k]? = some true ∧ bgnR l ((byL t).drop k) = true))) (fun v10 _ => t.size - (intOf v10).toNat)
  case atStart => exact ⟨0, by omega, rfl, Lib.hid ⟨HB2.out, fun k hk => by omega⟩⟩
  case round =>
    obtain ⟨i, hi, rfl, H1⟩ := hrel
    by_cases hlt : i < t.size
    · have hif : i < f.length := by have := HF.out; omega
      obtain ⟨ad2, had1, had2, hx⟩ := bool_at (HA.out.below H1.out.1.l) i hif
      injection had1 with had1
      subst had1
      have HG := Lib.hid (show f[i]? = some f[i] from List.getElem?_eq_getElem hif)
      have HNX := Lib.hid (show ¬ (f[i]? = some true ∧ bgnR l ((byL t).drop i) = true) → ∀ k, k < i + 1 → ¬ (f[k]? = some true ∧ bgnR l ((byL t).drop k) = true) from fun h0 k hk => by
        rcases Nat.lt_or_ge k i with h1 | h1
        · exact H1.out.2 k h1
        · obtain rfl : k = i := by omega
          exact h0)
      have hlti : (i : Int) < (f.length : Int) := by omega
      have HAD := Lib.hid (show (ad.add i).block < wr.heap.size from by rw [add_block]; exact Nat.lt_of_lt_of_le had2 H1.out.1.l.size)
      generalize f[i] = x at *
      go_upto_region 26 with fail
      cases x with
      | false =>
        have HN2 := Lib.hid (HNX.out (fun h => by rw [HG.out] at h; exact Bool.noConfusion (Option.some.inj h.1)))
        have HBd := Lib.hid (show ∀ W : World, (∀ p, W.cell? p = wr.cell? p) → True from fun _ _ => trivial)
        go_quiet (fail)
        go_wp2
        go_roundw
        case rel => exact ⟨i + 1, by omega, by go_num, Lib.hid ⟨H1.out.1.quiet ⟨rfl, rfl, rfl, Nat.le_refl _, fun _ _ => rfl⟩, HN2.out⟩⟩
        case measure => simp [intOf]; omega
      | true =>
        have HX := Lib.hid (show byL (t.extract i t.size) = (byL t).drop i from by rw [byL_ext, ← byL_len, List.take_length])
        have CBG := Lib.hid (fun (a : Option Addr) (cc : Nat) (W : World) (h : Sl W W.heap.size a (l.map (.int .i32))) => begins_any a cc l (t.extract i t.size) W h hrl (by rw [← byL_len, HX.out, List.length_drop, byL_len]; omega))
        rw [HX.out] at CBG
        have c0 := H1.out.1.b.cell 0
        have c1 := H1.out.1.b.cell 1
        have c2 := H1.out.1.b.cell 2
        have c3 := H1.out.1.b.cell 3
        have c4 := H1.out.1.b.cell 4
        have c5 := H1.out.1.b.cell 5
        have c6 := H1.out.1.b.cell 6
        simp only [List.getElem?_cons_zero, List.getElem?_cons_succ] at c0 c1 c2 c3 c4 c5 c6
        have HSK := Lib.hid (show ∀ W W' : World, Below wr.drew.heap.size W W' → (W.cell? (ad.add i) = some (.bool true) ∧ W.cell? ⟨w.heap.size, 0, none⟩ = some (.int .i64 6) ∧ W.cell? ⟨w.heap.size, 1, none⟩ = some (.slice ra rs.length rc) ∧ W.cell? ⟨w.heap.size, 2, none⟩ = some (.int .i64 mn) ∧ W.cell? ⟨w.heap.size, 3, none⟩ = some (.int .i64 mx) ∧ W.cell? ⟨w.heap.size, 4, none⟩ = some (.bool false) ∧ W.cell? ⟨w.heap.size, 5, none⟩ = some (.bool false) ∧ W.cell? ⟨w.heap.size, 6, none⟩ = some (.slice sa sn sc)) → (W'.cell? (ad.add i) = some (.bool true) ∧ W'.cell? ⟨w.heap.size, 0, none⟩ = some (.int .i64 6) ∧ W'.cell? ⟨w.heap.size, 1, none⟩ = some (.slice ra rs.length rc) ∧ W'.cell? ⟨w.heap.size, 2, none⟩ = some (.int .i64 mn) ∧ W'.cell? ⟨w.heap.size, 3, none⟩ = some (.int .i64 mx) ∧ W'.cell? ⟨w.heap.size, 4, none⟩ = some (.bool false) ∧ W'.cell? ⟨w.heap.size, 5, none⟩ = some (.bool false) ∧ W'.cell? ⟨w.heap.size, 6, none⟩ = some (.slice sa sn sc)) from fun W W' hb h => by
          have hs := H1.out.1.s
          have hs2 : w.heap.size < wr.drew.heap.size := hs
          exact ⟨(hb.cell (p := ad.add i) HAD.out).trans h.1, (hb.cell (p := ⟨w.heap.size, 0, none⟩) hs2).trans h.2.1, (hb.cell (p := ⟨w.heap.size, 1, none⟩) hs2).trans h.2.2.1, (hb.cell (p := ⟨w.heap.size, 2, none⟩) hs2).trans h.2.2.2.1, (hb.cell (p := ⟨w.heap.size, 3, none⟩) hs2).trans h.2.2.2.2.1, (hb.cell (p := ⟨w.heap.size, 4, none⟩) hs2).trans h.2.2.2.2.2.1, (hb.cell (p := ⟨w.heap.size, 5, none⟩) hs2).trans h.2.2.2.2.2.2.1, (hb.cell (p := ⟨w.heap.size, 6, none⟩) hs2).trans h.2.2.2.2.2.2.2⟩)
        have HBD := Lib.hid (show Bx w wr.drew _ from H1.out.1.quiet ⟨rfl, rfl, rfl, Nat.le_refl _, fun _ _ => rfl⟩)
        cases hbg : bgnR l ((byL t).drop i) with
        | true =>
          rw [hbg] at CBG
          have HPT := Lib.hid (show P from by rw [HP.out]; exact ⟨i, hlt, HG.out, hbg⟩)
          clear hbg
          refine wp_region_ks (fun W => W.cell? (ad.add i) = some (.bool true) ∧ W.cell? ⟨w.heap.size, 0, none⟩ = some (.int .i64 6) ∧ W.cell? ⟨w.heap.size, 1, none⟩ = some (.slice ra rs.length rc) ∧ W.cell? ⟨w.heap.size, 2, none⟩ = some (.int .i64 mn) ∧ W.cell? ⟨w.heap.size, 3, none⟩ = some (.int .i64 mx) ∧ W.cell? ⟨w.heap.size, 4, none⟩ = some (.bool false) ∧ W.cell? ⟨w.heap.size, 5, none⟩ = some (.bool false) ∧ W.cell? ⟨w.heap.size, 6, none⟩ = some (.slice sa sn sc)) [] (by kernel_rfl) ?_
          simp only [List.size_toArray, List.length_cons, List.length_nil, Nat.reduceAdd]
          refine ks_pure (i := 0) (oi := ?oi0a) (v := ?v0a) ?hi0a (by kernel_rfl) (by kernel_rfl) (by kernel_rfl) ?hQ0a ?hy0a ?rest0a
          case hi0a =>
            simp only [List.getElem?_toArray, List.getElem?_cons_zero]
            rfl
          case hQ0a => exact fun _ _ _ h => h
          case hy0a =>
            refine yields_if (by rfl) (fun W hW => ?_)
            try dsimp only at hW
            go_simp
            first | done | with_reducible rfl
          simp only [Act.put, List.setIfInBounds_toArray, List.set_cons_zero, List.set_cons_succ]
          refine ks_pure (i := 1) (oi := ?oi1a) (v := ?v1a) ?hi1a (by kernel_rfl) (by kernel_rfl) (by kernel_rfl) ?hQ1a ?hy1a ?rest1a
          case hi1a =>
            simp only [List.getElem?_toArray, List.getElem?_cons_succ, List.getElem?_cons_zero]
            rfl
          case hQ1a => exact fun _ _ _ h => h
          case hy1a =>
            refine yields_if (by rfl) (fun W hW => ?_)
            try dsimp only at hW
            go_simp
            first | done | with_reducible rfl
          simp only [Act.put, List.setIfInBounds_toArray, List.set_cons_zero, List.set_cons_succ]
          refine ks_pure (i := 2) (oi := ?oi2a) (v := ?v2a) ?hi2a (by kernel_rfl) (by kernel_rfl) (by kernel_rfl) ?hQ2a ?hy2a ?rest2a
          case hi2a =>
            simp only [List.getElem?_toArray, List.getElem?_cons_succ, List.getElem?_cons_zero]
            rfl
          case hQ2a => exact fun _ _ _ h => h
          case hy2a =>
            refine yields_if (by rfl) (fun W hW => ?_)
            try dsimp only at hW
            go_simp
            first | done | with_reducible rfl
          simp only [Act.put, List.setIfInBounds_toArray, List.set_cons_zero, List.set_cons_succ]
          refine ks_take (i := 3) (oi := ?oi3a) (v := ?v3a) ?hi3a (by kernel_rfl) (by kernel_rfl) (by kernel_rfl) (by kernel_rfl) ?hQ3a ?hS3a ?hy3a ?rest3a
          case hi3a =>
            simp only [List.getElem?_toArray, List.getElem?_cons_succ, List.getElem?_cons_zero]
            rfl
          case hQ3a => exact fun _ _ _ h => h
          case hS3a => exact ⟨hx, c0, c1, c2, c3, c4, c5, c6⟩
          case hy3a =>
            refine yields_if (by rfl) (fun W hW => ?_)
            obtain ⟨hW0, hW1, hW2, hW3, hW4, hW5, hW6, hW7⟩ := hW
            go_simp
            first | done | with_reducible rfl
          simp only [Act.put, List.setIfInBounds_toArray, List.set_cons_zero, List.set_cons_succ]
          refine ks_pure (i := 4) (oi := ?oi4a) (v := ?v4a) ?hi4a (by kernel_rfl) (by kernel_rfl) (by kernel_rfl) ?hQ4a ?hy4a ?rest4a
          case hi4a =>
            simp only [List.getElem?_toArray, List.getElem?_cons_succ, List.getElem?_cons_zero]
            rfl
          case hQ4a => exact fun _ _ _ h => h
          case hy4a =>
            refine yields_if (by rfl) (fun W hW => ?_)
            try dsimp only at hW
            go_simp
            first | done | with_reducible rfl
          simp only [Act.put, List.setIfInBounds_toArray, List.set_cons_zero, List.set_cons_succ]
          refine ks_take (i := 5) (oi := ?oi5a) (v := ?v5a) ?hi5a (by kernel_rfl) (by kernel_rfl) (by kernel_rfl) (by kernel_rfl) ?hQ5a ?hS5a ?hy5a ?rest5a
          case hi5a =>
            simp only [List.getElem?_toArray, List.getElem?_cons_succ, List.getElem?_cons_zero]
            rfl
          case hQ5a => exact fun _ _ _ h => h
          case hS5a => exact ⟨hx, c0, c1, c2, c3, c4, c5, c6⟩
          case hy5a =>
            refine yields_if (by rfl) (fun W hW => ?_)
            obtain ⟨hW0, hW1, hW2, hW3, hW4, hW5, hW6, hW7⟩ := hW
            go_simp
            first | done | with_reducible rfl
          simp only [Act.put, List.setIfInBounds_toArray, List.set_cons_zero, List.set_cons_succ]
          refine ks_pure (i := 7) (oi := ?oi7a) (v := ?v7a) ?hi7a (by kernel_rfl) (by kernel_rfl) (by kernel_rfl) ?hQ7a ?hy7a ?rest7a
          case hi7a =>
            simp only [List.getElem?_toArray, List.getElem?_cons_succ, List.getElem?_cons_zero]
            rfl
          case hQ7a => exact fun _ _ _ h => h
          case hy7a =>
            refine yields_if (by rfl) (fun W hW => ?_)
            try dsimp only at hW
            go_simp
            first | done | with_reducible rfl
          simp only [Act.put, List.setIfInBounds_toArray, List.set_cons_zero, List.set_cons_succ]
          refine ks_pure (i := 8) (oi := ?oi8a) (v := ?v8a) ?hi8a (by kernel_rfl) (by kernel_rfl) (by kernel_rfl) ?hQ8a ?hy8a ?rest8a
          case hi8a =>
            simp only [List.getElem?_toArray, List.getElem?_cons_succ, List.getElem?_cons_zero]
            rfl
          case hQ8a => exact fun _ _ _ h => h
          case hy8a =>
            refine yields_if (by rfl) (fun W hW => ?_)
            try dsimp only at hW
            go_simp
            first | done | with_reducible rfl
          simp only [Act.put, List.setIfInBounds_toArray, List.set_cons_zero, List.set_cons_succ]
          refine ks_pure (i := 9) (oi := ?oi9a) (v := ?v9a) ?hi9a (by kernel_rfl) (by kernel_rfl) (by kernel_rfl) ?hQ9a ?hy9a ?rest9a
          case hi9a =>
            simp only [List.getElem?_toArray, List.getElem?_cons_succ, List.getElem?_cons_zero]
            rfl
          case hQ9a => exact fun _ _ _ h => h
          case hy9a =>
            refine yields_if (by rfl) (fun W hW => ?_)
            try dsimp only at hW
            go_simp
            first | done | with_reducible rfl
          simp only [Act.put, List.setIfInBounds_toArray, List.set_cons_zero, List.set_cons_succ]
          refine ks_one (i := 6) (o := ?o6a) ?ho6a (by kernel_rfl) (fun K9 hK => ?_)
          case ho6a =>
            simp only [List.getElem?_toArray, List.getElem?_cons_succ, List.getElem?_cons_zero]
            rfl
          go_simp
          refine (CRG.out _ (sl_below HSR.out (H1.out.1.l.trans (Below.refl _ _).drew))).mono ?_
          rintro e w5 ⟨a5, k5, rfl, hs5, hb5⟩
          have HS5 := Lib.hid hs5
          have HB5 := Lib.hid hb5
          clear hs5 hb5
          refine hK _ _ (fun _ hS => HSK.out _ _ HB5.out hS) ?_
          clear hK K9
          try simp only [Act.put, List.setIfInBounds_toArray, List.set_cons_zero, List.set_cons_succ]
          refine ks_one (i := 10) (o := ?o10a) ?ho10a (by kernel_rfl) (fun K9 hK => ?_)
          case ho10a =>
            simp only [List.getElem?_toArray, List.getElem?_cons_succ, List.getElem?_cons_zero]
            rfl
          go_simp
          refine (CBG.out _ _ _ HS5.out).mono ?_
          rintro e w6 ⟨rfl, hb6⟩
          have HB6 := Lib.hid hb6
          clear hb6
          refine hK _ _ (fun _ hS => HSK.out _ _ (HB6.out.mono HB5.out.size) hS) ?_
          clear hK K9
          try simp only [Act.put, List.setIfInBounds_toArray, List.set_cons_zero, List.set_cons_succ]
          refine ks_pure (i := 11) (oi := ?oi11a) (v := ?v11a) ?hi11a (by kernel_rfl) (by kernel_rfl) (by kernel_rfl) ?hQ11a ?hy11a ?rest11a
          case hi11a =>
            simp only [List.getElem?_toArray, List.getElem?_cons_succ, List.getElem?_cons_zero]
            rfl
          case hQ11a => exact fun _ _ _ h => h
          case hy11a =>
            refine yields_if (by rfl) (fun W hW => ?_)
            try dsimp only at hW
            go_simp
            first | done | with_reducible rfl
          simp only [Act.put, List.setIfInBounds_toArray, List.set_cons_zero, List.set_cons_succ]
          refine ks_done (by kernel_rfl) ?_ _
          try simp only [Exit.then]
          rename_i hK1
          refine hK1 _ _ ?_
          clear hK1
          have HBL := Lib.hid (HBD.out.l.trans (HB5.out.mono HBD.out.l.size |>.trans (HB6.out.mono (Nat.le_trans HBD.out.l.size HB5.out.size))))
          go_wp2
          go_ret
          first
          | exact ⟨true, rfl, ⟨fun _ => HPT.out, fun _ => rfl⟩, HBL.out⟩
          | exact .inr ⟨rfl, HPT.out, HBL.out⟩
        | false =>
          rw [hbg] at CBG
          have HN2 := Lib.hid (HNX.out (fun h => by rw [hbg] at h; exact Bool.noConfusion h.2))
          clear hbg
          refine wp_region_ks (fun W => W.cell? (ad.add i) = some (.bool true) ∧ W.cell? ⟨w.heap.size, 0, none⟩ = some (.int .i64 6) ∧ W.cell? ⟨w.heap.size, 1, none⟩ = some (.slice ra rs.length rc) ∧ W.cell? ⟨w.heap.size, 2, none⟩ = some (.int .i64 mn) ∧ W.cell? ⟨w.heap.size, 3, none⟩ = some (.int .i64 mx) ∧ W.cell? ⟨w.heap.size, 4, none⟩ = some (.bool false) ∧ W.cell? ⟨w.heap.size, 5, none⟩ = some (.bool false) ∧ W.cell? ⟨w.heap.size, 6, none⟩ = some (.slice sa sn sc)) [] (by kernel_rfl) ?_
          simp only [List.size_toArray, List.length_cons, List.length_nil, Nat.reduceAdd]
          refine ks_pure (i := 0) (oi := ?oi0b) (v := ?v0b) ?hi0b (by kernel_rfl) (by kernel_rfl) (by kernel_rfl) ?hQ0b ?hy0b ?rest0b
          case hi0b =>
            simp only [List.getElem?_toArray, List.getElem?_cons_zero]
            rfl
          case hQ0b => exact fun _ _ _ h => h
          case hy0b =>
            refine yields_if (by rfl) (fun W hW => ?_)
            try dsimp only at hW
            go_simp
            first | done | with_reducible rfl
          simp only [Act.put, List.setIfInBounds_toArray, List.set_cons_zero, List.set_cons_succ]
          refine ks_pure (i := 1) (oi := ?oi1b) (v := ?v1b) ?hi1b (by kernel_rfl) (by kernel_rfl) (by kernel_rfl) ?hQ1b ?hy1b ?rest1b
          case hi1b =>
            simp only [List.getElem?_toArray, List.getElem?_cons_succ, List.getElem?_cons_zero]
            rfl
          case hQ1b => exact fun _ _ _ h => h
          case hy1b =>
            refine yields_if (by rfl) (fun W hW => ?_)
            try dsimp only at hW
            go_simp
            first | done | with_reducible rfl
          simp only [Act.put, List.setIfInBounds_toArray, List.set_cons_zero, List.set_cons_succ]
          refine ks_pure (i := 2) (oi := ?oi2b) (v := ?v2b) ?hi2b (by kernel_rfl) (by kernel_rfl) (by kernel_rfl) ?hQ2b ?hy2b ?rest2b
          case hi2b =>
            simp only [List.getElem?_toArray, List.getElem?_cons_succ, List.getElem?_cons_zero]
            rfl
          case hQ2b => exact fun _ _ _ h => h
          case hy2b =>
            refine yields_if (by rfl) (fun W hW => ?_)
            try dsimp only at hW
            go_simp
            first | done | with_reducible rfl
          simp only [Act.put, List.setIfInBounds_toArray, List.set_cons_zero, List.set_cons_succ]
          refine ks_take (i := 3) (oi := ?oi3b) (v := ?v3b) ?hi3b (by kernel_rfl) (by kernel_rfl) (by kernel_rfl) (by kernel_rfl) ?hQ3b ?hS3b ?hy3b ?rest3b
          case hi3b =>
            simp only [List.getElem?_toArray, List.getElem?_cons_succ, List.getElem?_cons_zero]
            rfl
          case hQ3b => exact fun _ _ _ h => h
          case hS3b => exact ⟨hx, c0, c1, c2, c3, c4, c5, c6⟩
          case hy3b =>
            refine yields_if (by rfl) (fun W hW => ?_)
            obtain ⟨hW0, hW1, hW2, hW3, hW4, hW5, hW6, hW7⟩ := hW
            go_simp
            first | done | with_reducible rfl
          simp only [Act.put, List.setIfInBounds_toArray, List.set_cons_zero, List.set_cons_succ]
          refine ks_pure (i := 4) (oi := ?oi4b) (v := ?v4b) ?hi4b (by kernel_rfl) (by kernel_rfl) (by kernel_rfl) ?hQ4b ?hy4b ?rest4b
          case hi4b =>
            simp only [List.getElem?_toArray, List.getElem?_cons_succ, List.getElem?_cons_zero]
            rfl
          case hQ4b => exact fun _ _ _ h => h
          case hy4b =>
            refine yields_if (by rfl) (fun W hW => ?_)
            try dsimp only at hW
            go_simp
            first | done | with_reducible rfl
          simp only [Act.put, List.setIfInBounds_toArray, List.set_cons_zero, List.set_cons_succ]
          refine ks_take (i := 5) (oi := ?oi5b) (v := ?v5b) ?hi5b (by kernel_rfl) (by kernel_rfl) (by kernel_rfl) (by kernel_rfl) ?hQ5b ?hS5b ?hy5b ?rest5b
          case hi5b =>
            simp only [List.getElem?_toArray, List.getElem?_cons_succ, List.getElem?_cons_zero]
            rfl
          case hQ5b => exact fun _ _ _ h => h
          case hS5b => exact ⟨hx, c0, c1, c2, c3, c4, c5, c6⟩
          case hy5b =>
            refine yields_if (by rfl) (fun W hW => ?_)
            obtain ⟨hW0, hW1, hW2, hW3, hW4, hW5, hW6, hW7⟩ := hW
            go_simp
            first | done | with_reducible rfl
          simp only [Act.put, List.setIfInBounds_toArray, List.set_cons_zero, List.set_cons_succ]
          refine ks_pure (i := 7) (oi := ?oi7b) (v := ?v7b) ?hi7b (by kernel_rfl) (by kernel_rfl) (by kernel_rfl) ?hQ7b ?hy7b ?rest7b
          case hi7b =>
            simp only [List.getElem?_toArray, List.getElem?_cons_succ, List.getElem?_cons_zero]
            rfl
          case hQ7b => exact fun _ _ _ h => h
          case hy7b =>
            refine yields_if (by rfl) (fun W hW => ?_)
            try dsimp only at hW
            go_simp
            first | done | with_reducible rfl
          simp only [Act.put, List.setIfInBounds_toArray, List.set_cons_zero, List.set_cons_succ]
          refine ks_pure (i := 8) (oi := ?oi8b) (v := ?v8b) ?hi8b (by kernel_rfl) (by kernel_rfl) (by kernel_rfl) ?hQ8b ?hy8b ?rest8b
          case hi8b =>
            simp only [List.getElem?_toArray, List.getElem?_cons_succ, List.getElem?_cons_zero]
            rfl
          case hQ8b => exact fun _ _ _ h => h
          case hy8b =>
            refine yields_if (by rfl) (fun W hW => ?_)
            try dsimp only at hW
            go_simp
            first | done | with_reducible rfl
          simp only [Act.put, List.setIfInBounds_toArray, List.set_cons_zero, List.set_cons_succ]
          refine ks_pure (i := 9) (oi := ?oi9b) (v := ?v9b) ?hi9b (by kernel_rfl) (by kernel_rfl) (by kernel_rfl) ?hQ9b ?hy9b ?rest9b
          case hi9b =>
            simp only [List.getElem?_toArray, List.getElem?_cons_succ, List.getElem?_cons_zero]
            rfl
          case hQ9b => exact fun _ _ _ h => h
          case hy9b =>
            refine yields_if (by rfl) (fun W hW => ?_)
            try dsimp only at hW
            go_simp
            first | done | with_reducible rfl
          simp only [Act.put, List.setIfInBounds_toArray, List.set_cons_zero, List.set_cons_succ]
          refine ks_one (i := 6) (o := ?o6b) ?ho6b (by kernel_rfl) (fun K9 hK => ?_)
          case ho6b =>
            simp only [List.getElem?_toArray, List.getElem?_cons_succ, List.getElem?_cons_zero]
            rfl
          go_simp
          refine (CRG.out _ (sl_below HSR.out (H1.out.1.l.trans (Below.refl _ _).drew))).mono ?_
          rintro e w5 ⟨a5, k5, rfl, hs5, hb5⟩
          have HS5 := Lib.hid hs5
          have HB5 := Lib.hid hb5
          clear hs5 hb5
          refine hK _ _ (fun _ hS => HSK.out _ _ HB5.out hS) ?_
          clear hK K9
          try simp only [Act.put, List.setIfInBounds_toArray, List.set_cons_zero, List.set_cons_succ]
          refine ks_one (i := 10) (o := ?o10b) ?ho10b (by kernel_rfl) (fun K9 hK => ?_)
          case ho10b =>
            simp only [List.getElem?_toArray, List.getElem?_cons_succ, List.getElem?_cons_zero]
            rfl
          go_simp
          refine (CBG.out _ _ _ HS5.out).mono ?_
          rintro e w6 ⟨rfl, hb6⟩
          have HB6 := Lib.hid hb6
          clear hb6
          refine hK _ _ (fun _ hS => HSK.out _ _ (HB6.out.mono HB5.out.size) hS) ?_
          clear hK K9
          try simp only [Act.put, List.setIfInBounds_toArray, List.set_cons_zero, List.set_cons_succ]
          refine ks_pure (i := 11) (oi := ?oi11b) (v := ?v11b) ?hi11b (by kernel_rfl) (by kernel_rfl) (by kernel_rfl) ?hQ11b ?hy11b ?rest11b
          case hi11b =>
            simp only [List.getElem?_toArray, List.getElem?_cons_succ, List.getElem?_cons_zero]
            rfl
          case hQ11b => exact fun _ _ _ h => h
          case hy11b =>
            refine yields_if (by rfl) (fun W hW => ?_)
            try dsimp only at hW
            go_simp
            first | done | with_reducible rfl
          simp only [Act.put, List.setIfInBounds_toArray, List.set_cons_zero, List.set_cons_succ]
          refine ks_done (by kernel_rfl) ?_ _
          try simp only [Exit.then]
          rename_i hK1
          refine hK1 _ _ ?_
          clear hK1
          have HB9 := Lib.hid ((HBD.out.go HB5.out).go HB6.out)
          go_wp2
          go_roundw
          case rel => exact ⟨i + 1, by omega, by go_num, Lib.hid ⟨HB9.out, HN2.out⟩⟩
          case measure => simp [intOf]; omega
    · obtain rfl : i = t.size := by omega
      have HNP := Lib.hid (show ¬ P from fun h => by
        rw [HP.out] at h
        obtain ⟨k, hk, h⟩ := h
        exact absurd h (H1.out.2 k hk))
      have HL := Lib.hid H1.out.1.l
      go_wp2
      go_ret
      first
      | exact ⟨false, rfl, ⟨fun h => Bool.noConfusion h, fun h => absurd h HNP.out⟩, HL.out⟩
      | exact .inl ⟨rfl, HNP.out, HL.out⟩
end Go.Proofs.YtbkpgfccghombaaDoor.rx

/-! Whether a word of an expression begins with what is left of a text: letters. Conditions: as stated. -/
namespace Go.Proofs.YtbkpgfccghombaaDoor.rx
open Go.ChangeShapes Go.WideShapes Go.ChangeAt Go.RowKit
set_option linter.unusedVariables false
set_option linter.unusedSimpArgs false

set_option maxRecDepth 100000 in
set_option maxHeartbeats 3200000 in
theorem be_lit (mn mx : Int) (ra : Option Addr) (rs : List Int) (rc : Nat) (sa : Option Addr) (sn sc : Nat) (w : World) (t : ByteArray) (aa : Option Addr) (ca : Nat) (f : List Bool) (hk : ∀ c ∈ rs, isL c = true) (hl : rs.length ≤ 4) (hr : Sl w w.heap.size ra (rs.map (.int .i32))) (hnn : noneB f = false) (h0 : f[t.size]? = some false) (ha : Sl w w.heap.size aa (f.map .bool)) (hf : f.length = t.size + 1) (ht : t.size ≤ 1000) :
    Calls Tryd.prog 37 #[.agg (rxc 3 mn mx ra rs.length rc sa sn sc).toArray, .string t, .slice aa f.length ca] w fun e w' => ∃ b : Bool, e = .returned (.bool b) ∧ (b = true ↔ bgn (fun v => v = rs.flatMap ub) (byL t) f) ∧ Below w.heap.size w w' := by
  obtain ⟨P, hP⟩ : ∃ P : Prop, P = bgn (fun v => v = rs.flatMap ub) (byL t) f := ⟨_, rfl⟩
  rw [← hP]
  rw [propext (bgn_lit _ _ f (by rw [byL_len, h0]; simp))] at hP
  rw [byL_len] at hP
  have HB := Lib.hid (Bx.new w (rxc 3 mn mx ra rs.length rc sa sn sc))
  have HA := Lib.hid ha
  have HF := Lib.hid hf
  have HSR := Lib.hid hr
  have HK := Lib.hid hk
  have HUL := Lib.hid (lit_le rs)
  have CN := Lib.hid (none_any aa ca f _ _ (ha.below HB.out.l) (by omega))
  rw [hnn] at CN
  obtain ⟨ad, rfl, had, hc⟩ := (ha.below HB.out.l) t.size (.bool false) (by rw [List.getElem?_map, h0]; rfl)
  have hlt0 : (t.size : Int) < (f.length : Int) := by omega
  have HP := Lib.hid hP
  clear ha hf hr hk hnn h0 hP
  unfold rxc at *
  go_enter Tryd.func37, Tryd.ntmps37
  go_upto_region 9 with (go_at_call 52; refine CN.out.mono ?_; rintro e w1 ⟨rfl, rfl⟩)
  refine name_world ?_
  intro w2 hw2
  have HBX := Lib.hid (show Bx w w2 _ from by rw [hw2]; exact HB.out)
  clear hw2 hc hlt0
  go_wp2_with fail
  go_loopw [7, 8] (fun v7 v8 wr => ∃ (i : Nat) (u : ByteArray), i ≤ rs.length ∧ v8 = .int .i64 i ∧ v7 = .string u ∧ Hid (u = stB ((rs.take i).flatMap ub)) ∧ Hid (Below w2.heap.size w2 wr)) (fun _ v8 _ => rs.length - (intOf v8).toNat)
  case atStart => exact ⟨0, _, by omega, rfl, rfl, Lib.hid (by rfl), Lib.hid (Below.refl _ _)⟩
  case round =>
    obtain ⟨i, u, hi, rfl, rfl, HU, HW⟩ := hrel
    have HBR := Lib.hid (HBX.out.go HW.out)
    have c1 := HBR.out.b.cell 1
    simp only [List.getElem?_cons_zero, List.getElem?_cons_succ] at c1
    by_cases hlt : i < rs.length
    · obtain ⟨ad3, rfl, -, hc⟩ := rune_at (HSR.out.below HBR.out.l) i hlt
      have CE := Lib.hid (fun W => encd_any rs[i] W (HK.out _ (List.getElem_mem hlt)))
      have HT := Lib.hid (show stB ((rs.take (i + 1)).flatMap ub) = u ++ stB (ub rs[i]) from by
        rw [HU.out, ← stB_app, List.take_succ_eq_append_getElem hlt, List.flatMap_append]
        simp)
      have HSZ := Lib.hid (show ¬ 9223372036854775807 < u.size + (stB (ub rs[i])).size from by
        have h1 := lit_le (rs.take i)
        rw [HU.out, stB_size, stB_size]
        have h2 := (ub_len rs[i]).2
        rw [List.length_take] at h1
        omega)
      generalize rs[i] = x at *
      generalize stB (ub x) = ux at *
      have hsz := HSZ.out
      go_wp2_with (first | (go_at_call 21; refine (CE.out _).mono ?_; rintro e w5 ⟨rfl, h5⟩; have H5 := Lib.hid h5; clear h5) | fail)
      go_roundw
      case rel => exact ⟨i + 1, _, by omega, by go_num, rfl, Lib.hid HT.out.symm, Lib.hid (HW.out.trans (H5.out.mono HW.out.size))⟩
      case measure => simp [intOf]; omega
    · obtain rfl : i = rs.length := by omega
      have HU2 := Lib.hid (show u = stB (rs.flatMap ub) from by rw [HU.out, List.take_length])
      have hu16 : u.size ≤ 16 := by rw [HU2.out, stB_size]; have := HUL.out; omega
      have HUN := Lib.hid (show u.size = (rs.flatMap ub).length from by rw [HU2.out, stB_size])
      have HOK := Lib.hid (show okB (rs.flatMap ub) from fun x hx => by
        obtain ⟨c, hc, hx⟩ := List.mem_flatMap.1 hx
        exact ub_bd c (of_decide_eq_true (HK.out c hc)).1 (of_decide_eq_true (HK.out c hc)).2.1 x hx)
      clear HU
      generalize rs.flatMap ub = ul at *
      go_wp2_with fail
      go_loopw [9] (fun v9 wr => ∃ i : Nat, i ≤ t.size ∧ v9 = .int .i64 i ∧ Hid (Bx w wr [.int .i64 3, .slice ra rs.length rc, .int .i64 mn, .int .i64 mx, .bool false, .bool false, .slice sa sn sc] ∧ ∀ k, k < i → ¬ (f[k]? = some true ∧ t.size - k ≤ ul.length ∧ ul.take (t.size - k) = (byL t).drop k))) (fun v9 _ => t.size - (intOf v9).toNat)
      case atStart => exact ⟨0, by omega, rfl, Lib.hid ⟨HBR.out, fun k hk => by omega⟩⟩
      case round =>
        obtain ⟨i, hi2, rfl, H1⟩ := hrel
        by_cases hlt2 : i < t.size
        · have hif : i < f.length := by have := HF.out; omega
          obtain ⟨ad2, had1, had2, hx⟩ := bool_at (HA.out.below H1.out.1.l) i hif
          injection had1 with had1
          subst had1
          have HG := Lib.hid (show f[i]? = some f[i] from List.getElem?_eq_getElem hif)
          have HNX := Lib.hid (show ¬ (f[i]? = some true ∧ t.size - i ≤ ul.length ∧ ul.take (t.size - i) = (byL t).drop i) → ∀ k, k < i + 1 → ¬ (f[k]? = some true ∧ t.size - k ≤ ul.length ∧ ul.take (t.size - k) = (byL t).drop k) from fun h0 k hk => by
            rcases Nat.lt_or_ge k i with h1 | h1
            · exact H1.out.2 k h1
            · obtain rfl : k = i := by omega
              exact h0)
          have hlti : (i : Int) < (f.length : Int) := by omega
          have HEQ := Lib.hid (show (((u.extract 0 (t.size - i)).toList == (t.extract i t.size).toList) = true) ↔ ul.take (t.size - i) = (byL t).drop i from by
            have e1 : byL (t.extract i t.size) = (byL t).drop i := by rw [byL_ext, ← byL_len, List.take_length]
            have e2 : byL (u.extract 0 (t.size - i)) = ul.take (t.size - i) := by rw [byL_ext, List.drop_zero, HU2.out, byL_stB ul HOK.out]
            rw [beq_iff_eq, ByteArray.toList_eq, ByteArray.toList_eq]
            constructor
            · intro h
              rw [← e1, ← e2, show u.extract 0 (t.size - i) = t.extract i t.size from ByteArray.ext (Array.toList_inj.1 h)]
            · intro h
              rw [← e1, ← e2] at h
              rw [byL_inj h])
          generalize f[i] = x at *
          go_upto_region 17 with fail
          cases x with
          | false =>
            have HN2 := Lib.hid (HNX.out (fun h => by rw [HG.out] at h; exact Bool.noConfusion (Option.some.inj h.1)))
            go_quiet (fail)
            go_wp2
            go_roundw
            case rel => exact ⟨i + 1, by omega, by go_num, Lib.hid ⟨H1.out.1.go ⟨rfl, rfl, rfl, Nat.le_refl _, fun _ _ => rfl⟩, HN2.out⟩⟩
            case measure => simp [intOf]; omega
          | true =>
            by_cases hle : t.size - i ≤ u.size
            · have hle2 : (t.size : Int) - (i : Int) ≤ (u.size : Int) := by omega
              have HUL2 := Lib.hid (show t.size - i ≤ ul.length from by have := HUN.out; omega)
              cases hb : ((u.extract 0 (t.size - i)).toList == (t.extract i t.size).toList) with
              | false =>
                have HN2 := Lib.hid (HNX.out (fun h => by have h9 := HEQ.out.2 h.2.2; rw [hb] at h9; cases h9))
                go_quiet (fail)
                go_wp2
                go_roundw
                case rel => exact ⟨i + 1, by omega, by go_num, Lib.hid ⟨H1.out.1.go ⟨rfl, rfl, rfl, Nat.le_refl _, fun _ _ => rfl⟩, HN2.out⟩⟩
                case measure => simp [intOf]; omega
              | true =>
                have HPT := Lib.hid (show P from by rw [HP.out]; exact ⟨i, hlt2, HG.out, HUL2.out, HEQ.out.1 hb⟩)
                have HL := Lib.hid (show ∀ n, Below w.heap.size w (wr.drewN n) from fun n => H1.out.1.l.trans ⟨rfl, rfl, rfl, Nat.le_refl _, fun _ _ => rfl⟩)
                go_quiet (fail)
                go_wp2
                go_ret
                first
                | exact ⟨true, rfl, ⟨fun _ => HPT.out, fun _ => rfl⟩, HL.out _⟩
                | exact .inr ⟨rfl, HPT.out, HL.out _⟩
            · have hle2 : ¬ ((t.size : Int) - (i : Int) ≤ (u.size : Int)) := by omega
              have HN2 := Lib.hid (HNX.out (fun h => by have := HUN.out; omega))
              go_quiet (fail)
              go_wp2
              go_roundw
              case rel => exact ⟨i + 1, by omega, by go_num, Lib.hid ⟨H1.out.1.go ⟨rfl, rfl, rfl, Nat.le_refl _, fun _ _ => rfl⟩, HN2.out⟩⟩
              case measure => simp [intOf]; omega
        · obtain rfl : i = t.size := by omega
          have HNP := Lib.hid (show ¬ P from fun h => by
            rw [HP.out] at h
            obtain ⟨k, hk, h⟩ := h
            exact absurd h (H1.out.2 k hk))
          have HL := Lib.hid H1.out.1.l
          go_wp2
          go_ret
          first
          | exact ⟨false, rfl, ⟨fun h => Bool.noConfusion h, fun h => absurd h HNP.out⟩, HL.out⟩
          | exact .inl ⟨rfl, HNP.out, HL.out⟩
end Go.Proofs.YtbkpgfccghombaaDoor.rx

/-! Whether a word of an expression begins with what is left of a text: any expression; whether a text is a word, or begins one. Conditions: as stated. -/
namespace Go.Proofs.YtbkpgfccghombaaDoor.rx
open Go.ChangeShapes Go.WideShapes Go.ChangeAt Go.RowKit
set_option linter.unusedVariables false
set_option linter.unusedSimpArgs false

theorem rep_bgn {X : Lg} (hX : ∃ w, X w) (s : List Int) (f : List Bool) (h0 : f[s.length]? ≠ some true) :
    (∀ a : Nat, bgn (cat2 (powL X a) (starL X)) s f ↔ ∃ k, k < s.length + 1 ∧ bgn X s (rch (powL X k) s f)) ∧ (∀ a n : Nat, bgn (uptoL X a n) s f ↔ ∃ k, k < a + n ∧ bgn X s (rch (powL X k) s f)) := by
  refine ⟨fun a => ?_, fun a n => ?_⟩
  · rw [← bgn_congr (some_star a)]
    exact bgn_some hX h0 (fun n k h1 h2 h3 => h3) (fun k hk => ⟨a + k + 1, by omega, by omega⟩)
  · rw [← bgn_congr (some_upto a n)]
    exact bgn_some hX h0 (fun m k h1 h2 h3 => by omega) (fun k hk => ⟨a + n, ⟨by omega, Nat.le_refl _⟩, hk⟩)
theorem iff_out {P R : Prop} {F : FuncId} {ags : Array Value} {w : World} {Q : World → Prop} (h : Calls Tryd.prog F ags w fun e w' => ∃ b : Bool, e = .returned (.bool b) ∧ (b = true ↔ P) ∧ Q w') (hp : P ↔ R) : Calls Tryd.prog F ags w fun e w' => ∃ b : Bool, e = .returned (.bool b) ∧ (b = true ↔ R) ∧ Q w' := h.mono (by
  rintro e w' ⟨b, rfl, h1, h2⟩
  exact ⟨b, rfl, h1.trans hp, h2⟩)
theorem be_ok : ∀ d : Nat, BeOk d
  | 0 => fun w r cs t aa ca f hR hw => hw.elim
  | d + 1 => by
    intro w r cs t aa ca f hR hw ha hf ht
    have IH := be_ok d
    have hword := lang_word (d + 1) r hw
    cases hnn : noneB f with
    | true =>
      refine (be_none w cs hR.len t aa ca f hnn ha hf ht).mono ?_
      rintro e w' ⟨rfl, h2⟩
      refine ⟨false, rfl, ⟨fun h => Bool.noConfusion h, ?_⟩, h2⟩
      rintro ⟨i, h3, h4, -⟩
      exact absurd h4 ((noneB_iff f).1 hnn i)
    | false =>
    have hlt : t.size < f.length := by omega
    cases h0 : f[t.size] with
    | true =>
      refine (be_end w cs hR.len t aa ca f hnn (by rw [List.getElem?_eq_getElem hlt, h0]) ha hf ht).mono ?_
      rintro e w' ⟨rfl, h2⟩
      exact ⟨true, rfl, ⟨fun _ => bgn_end hword (by rw [byL_len, List.getElem?_eq_getElem hlt, h0]), fun _ => rfl⟩, h2⟩
    | false =>
    have h0 : f[t.size]? = some false := by rw [List.getElem?_eq_getElem hlt, h0]
    have h0' : f[(byL t).length]? ≠ some true := by rw [byL_len, h0]; simp
    cases r with
    | nd op rs mn mx subs =>
    obtain ⟨ra, rc, sa, sc, ls, rfl, h1, h2, h3, h4, h5⟩ := hR
    rcases hw with ⟨rfl, rfl, rfl⟩ | ⟨rfl, rfl, g1, g2, g3⟩ | ⟨g1, rfl⟩ | ⟨g1, rfl, g2, g3, g4⟩ | ⟨g1, rfl, g2, s, rfl, g3⟩
    · refine (be_eps mn mx ra 0 rc sa 0 sc w t aa ca f hnn h0 ha hf ht).mono ?_
      rintro e w' ⟨rfl, k2⟩
      have e1 : lang (d + 1) (.nd 2 [] mn mx []) = epsL := by simp [lang]
      rw [e1]
      exact ⟨false, rfl, ⟨fun h => Bool.noConfusion h, fun h => absurd (bgn_eps.1 h) h0'⟩, k2⟩
    · have e1 : lang (d + 1) (.nd 3 rs mn mx []) = (fun u => u = rs.flatMap ub) := by simp [lang]
      rw [e1]
      exact be_lit mn mx ra rs rc sa 0 sc w t aa ca f g3 g2 h1 hnn h0 ha hf ht
    · have e1 : lang (d + 1) (.nd op rs mn mx []) = clsL (pairs (rngs op rs)) := by
        rcases g1 with ⟨rfl, -⟩ | ⟨rfl | rfl, -⟩ <;> simp [lang]
      have hk : okPairs (rngs op rs) := rngs_ok (g1.elim (fun g => .inl ⟨g.1, g.2.2⟩) (fun g => .inr g.1))
      rw [e1]
      have e2 := bgn_cls (rngs op rs) (byL t) f hk (byL_ok t) h0'
      rw [byL_len] at e2
      refine iff_out ?_ e2.symm
      rcases g1 with ⟨rfl, k1, k2⟩ | ⟨rfl | rfl, rfl⟩
      · exact be_cls4 mn mx ra rs rc sa 0 sc w t aa ca f (by omega) k1 h1 hnn h0 ha hf ht
      · exact be_cls5 mn mx ra [] rc sa 0 sc w t aa ca f (fun _ => rfl) (by simp) h1 hnn h0 ha hf ht
      · exact be_cls6 mn mx ra [] rc sa 0 sc w t aa ca f (fun _ => rfl) (by simp) h1 hnn h0 ha hf ht
    · rcases g1 with rfl | rfl
      · have e1 : lang (d + 1) (.nd 18 [] mn mx subs) = catL (subs.map (lang d)) := by simp [lang]
        rw [e1]
        exact be_cat IH mn mx ra 0 rc sa sc subs ls w t aa ca f g4 g3 h2 h3 h4 h5 hnn h0 ha hf ht
      · have e1 : lang (d + 1) (.nd 19 [] mn mx subs) = altL (subs.map (lang d)) := by simp [lang]
        rw [e1]
        exact be_alt IH mn mx ra 0 rc sa sc subs ls w t aa ca f g4 g3 g2 h2 h3 h4 h5 hnn h0 ha hf ht
    · obtain ⟨r1, r2⟩ := rep_bgn (lang_word d s g3) (byL t) f h0'
      rw [byL_len] at r1
      rcases g1 with rfl | rfl | rfl | rfl | rfl
      · have e1 : lang (d + 1) (.nd 13 [] mn mx [s]) = lang d s := by simp [lang]
        rw [e1]
        exact be_capt IH mn mx ra 0 rc sa sc s ls w t aa ca f g3 h2 h3 h4 h5 hnn h0 ha hf ht
      · have e1 : lang (d + 1) (.nd 14 [] mn mx [s]) = starL (lang d s) := by simp [lang]
        rw [e1]
        exact iff_out (be_rep IH 14 (by omega) (by omega) mn mx 0 (-1) (t.size + 1) rfl ra 0 rc sa sc s ls w t aa ca f (.inl ⟨by omega, rfl⟩) g3 h2 h3 h4 h5 hnn h0 ha hf ht) ((r1 0).symm.trans (bgn_congr fun u => eps_cat2 _ u))
      · have e1 : lang (d + 1) (.nd 15 [] mn mx [s]) = cat2 (lang d s) (starL (lang d s)) := by simp [lang]
        rw [e1]
        exact iff_out (be_rep IH 15 (by omega) (by omega) mn mx 1 (-1) (t.size + 1) rfl ra 0 rc sa sc s ls w t aa ca f (.inl ⟨by omega, rfl⟩) g3 h2 h3 h4 h5 hnn h0 ha hf ht) ((r1 1).symm.trans (bgn_congr fun u => by
          unfold cat2
          simp only [powL, cat2_eps]))
      · have e1 : lang (d + 1) (.nd 16 [] mn mx [s]) = or2 (lang d s) epsL := by simp [lang]
        rw [e1]
        exact iff_out (be_rep IH 16 (by omega) (by omega) mn mx 0 1 1 rfl ra 0 rc sa sc s ls w t aa ca f (.inr ⟨by omega, by omega, by omega⟩) g3 h2 h3 h4 h5 hnn h0 ha hf ht) ((r2 0 1).symm.trans (bgn_congr fun u => by
          constructor
          · rintro ⟨k, h1, h2⟩
            match k, h1, h2 with
            | 0, _, h2 => exact .inr h2
            | 1, _, h2 => exact .inl ((cat2_eps (lang d s) u).1 h2)
          · rintro (h | h)
            · exact ⟨1, Nat.le_refl _, (cat2_eps (lang d s) u).2 h⟩
            · exact ⟨0, by omega, h⟩))
      · obtain ⟨k1, k2, k3⟩ := g2 rfl
        obtain ⟨a, rfl⟩ : ∃ a : Nat, mn = a := ⟨mn.toNat, by omega⟩
        have e1 : lang (d + 1) (.nd 17 [] a mx [s]) = cat2 (powL (lang d s) a) (if mx < 0 then starL (lang d s) else optL (lang d s) (mx - a).toNat) := by simp [lang]
        rw [e1]
        rcases k3 with rfl | ⟨k3, k4⟩
        · rw [if_pos (by omega)]
          exact iff_out (be_rep IH 17 (by omega) (by omega) a (-1) a (-1) (t.size + 1) rfl ra 0 rc sa sc s ls w t aa ca f (.inl ⟨by omega, rfl⟩) g3 h2 h3 h4 h5 hnn h0 ha hf ht) (r1 a).symm
        · rw [if_neg (by omega)]
          exact iff_out (be_rep IH 17 (by omega) (by omega) a mx a mx (a + (mx - a).toNat) rfl ra 0 rc sa sc s ls w t aa ca f (.inr ⟨by omega, by omega, by omega⟩) g3 h2 h3 h4 h5 hnn h0 ha hf ht) ((r2 a _).symm.trans (bgn_congr fun u => upto_opt (lang d s) a _ u))

/-! a text as a whole -/
theorem add_off (g j : Nat) : (⟨g, 0, none⟩ : Addr).add j = ⟨g, j, none⟩ := by
  unfold Addr.add
  by_cases h0 : j = 0 <;> simp [h0]
/-- the place ahead of all -/
def oneS (n : Nat) : List Bool := (List.replicate (n + 1) false).set 0 true
theorem oneS_len (n : Nat) : (oneS n).length = n + 1 := by simp [oneS]
theorem oneS_at (n i : Nat) : (oneS n)[i]? = some true ↔ i = 0 := by
  unfold oneS
  rw [List.getElem?_set]
  constructor
  · intro h
    split at h
    · omega
    · rw [List.getElem?_replicate] at h
      split at h <;> simp at h
  · rintro rfl
    rw [if_pos rfl, if_pos (by simp)]
theorem rch_one {X : Lg} {s : List Int} : (rch X s (oneS s.length))[s.length]? = some true ↔ X s := by
  rw [rch_at]
  constructor
  · rintro ⟨-, i, h2, h3, h4⟩
    obtain rfl := (oneS_at _ i).1 h3
    simpa [seg] using h4
  · intro h
    exact ⟨Nat.le_refl _, 0, by omega, (oneS_at _ 0).2 rfl, by simpa [seg] using h⟩
theorem bgn_one {X : Lg} {s : List Int} : bgn X s (oneS s.length) ↔ ∃ v, X (s ++ v) := by
  constructor
  · rintro ⟨i, h1, h2, h3⟩
    obtain rfl := (oneS_at _ i).1 h2
    simpa using h3
  · intro h
    exact ⟨0, by omega, (oneS_at _ 0).2 rfl, by simpa using h⟩
set_option maxRecDepth 100000 in
set_option maxHeartbeats 1600000 in
theorem mat_any {d : Nat} (w : World) (r : Rx) (cs : List Value) (t : ByteArray) (hR : RgC w w.heap.size d r cs) (hw : wf 3 d r) (ht : t.size ≤ 1000) :
    Calls Tryd.prog 17 #[.agg cs.toArray, .string t] w fun e w' => ∃ b : Bool, e = .returned (.bool b) ∧ (b = true ↔ lang d r (byL t)) ∧ Below w.heap.size w w' := by
  obtain ⟨P, hP⟩ : ∃ P : Prop, P = (lang d r (byL t)) := ⟨_, rfl⟩
  rw [← hP]
  have HPP := Lib.hid hP
  clear hP
  have hmk := run_bools (t.size + 1) (by omega)
  rw [Int.natCast_succ] at hmk
  obtain ⟨v0, v1, v2, v3, v4, v5, v6, rfl⟩ := seven hR.len
  have HB := Lib.hid (Bx.new w [v0, v1, v2, v3, v4, v5, v6])
  have HR := Lib.hid hR
  have HW := Lib.hid hw
  have HM := Lib.hid (show ∀ W : World, Blk (W.alloc (.cells (madeCells #[.bool false] (t.size + 1)) 4)) W.heap.size 4 ((List.replicate (t.size + 1) false).map .bool) from fun W => blk_made W _)
  clear hR hw
  go_enter Tryd.func17, Tryd.ntmps17
  go_upto_region 2 with fail
  refine name_world ?_
  intro w2 hw2
  have HBX := Lib.hid (show Bx w w2 _ from by rw [hw2]; exact HB.out.go ((Below.refl _ _).alloc (Nat.le_refl _) _))
  have HM2 := Lib.hid (show Blk w2 (w.heap.size + 1) 4 ((List.replicate (t.size + 1) false).map .bool) from by
    rw [hw2]
    have := HM.out (w.alloc (.cells #[v0, v1, v2, v3, v4, v5, v6] 25))
    simpa using this)
  clear hw2 hmk
  have l0 := HM2.out.cell 0
  have f0 := HM2.out.frozen 0
  rw [List.getElem?_map, List.getElem?_replicate, if_pos (by omega)] at l0
  simp only [Option.map_some] at l0
  go_upto_region 3 with fail
  refine name_world ?_
  intro w3 hw3
  have HB3 := Lib.hid (show Bx w w3 _ from by rw [hw3]; exact HBX.out.set (by simp) _)
  have HM3 := Lib.hid (show Blk w3 (w.heap.size + 1) 4 ((oneS t.size).map .bool) from by
    rw [hw3]
    have := HM2.out.set_ 0 (.bool true)
    rw [← List.map_set] at this
    exact this)
  clear hw3 l0 f0
  have e0 := HB3.out.b.cell 0
  have e1 := HB3.out.b.cell 1
  have e2 := HB3.out.b.cell 2
  have e3 := HB3.out.b.cell 3
  have e4 := HB3.out.b.cell 4
  have e5 := HB3.out.b.cell 5
  have e6 := HB3.out.b.cell 6
  simp only [List.getElem?_cons_zero, List.getElem?_cons_succ] at e0 e1 e2 e3 e4 e5 e6
  have CR := Lib.hid (reach_n w3 r _ t (some ⟨w.heap.size + 1, 0, none⟩) (t.size + 1) (t.size + 1) (oneS t.size) ((HR.out.below HB3.out.l).more HB3.out.l.size) HW.out (HM3.out.sl HM3.out.lt) (oneS_len _) rfl ht)
  have HQ := Lib.hid (rch_one (X := lang d r) (s := byL t))
  rw [byL_len] at HQ
  have HRL := Lib.hid (show (rch (lang d r) (byL t) (oneS t.size)).length = t.size + 1 from by rw [rch_len, byL_len])
  generalize rch (lang d r) (byL t) (oneS t.size) = out at *
  rw [← HPP.out] at HQ
  obtain ⟨b, hb⟩ : ∃ b, out[t.size]? = some b := ⟨_, List.getElem?_eq_getElem (by rw [HRL.out]; omega)⟩
  have HBB := Lib.hid (show b = true ↔ P from by rw [← HQ.out, hb]; simp)
  have HBO := Lib.hid hb
  clear hb
  go_wp2_with (first | (go_at_call 36; refine CR.out.mono ?_; rintro e w5 ⟨g5, c5, rfl, hs5, hb5⟩; have HL5 := Lib.hid (HB3.out.l.trans (hb5.mono HB3.out.l.size)); obtain ⟨ad5, had5, -, hc5⟩ := hs5 t.size (.bool b) (by rw [List.getElem?_map, HBO.out]; rfl); injection had5 with had5; subst had5; rw [add_off] at hc5; clear hs5 hb5) | fail)
  go_ret
  first
  | exact ⟨b, rfl, HBB.out, HL5.out⟩
  | (cases b with
     | true => exact .inr ⟨rfl, HBB.out.1 rfl, HL5.out⟩
     | false => exact .inl ⟨rfl, fun h => Bool.noConfusion (HBB.out.2 h), HL5.out⟩)
set_option maxRecDepth 100000 in
set_option maxHeartbeats 1600000 in
theorem can_any {d : Nat} (w : World) (r : Rx) (cs : List Value) (t : ByteArray) (hR : RgC w w.heap.size d r cs) (hw : wf 3 d r) (ht : t.size ≤ 1000) :
    Calls Tryd.prog 18 #[.agg cs.toArray, .string t] w fun e w' => ∃ b : Bool, e = .returned (.bool b) ∧ (b = true ↔ ∃ v, lang d r (byL t ++ v)) ∧ Below w.heap.size w w' := by
  obtain ⟨P, hP⟩ : ∃ P : Prop, P = (∃ v, lang d r (byL t ++ v)) := ⟨_, rfl⟩
  rw [← hP]
  have HPP := Lib.hid hP
  clear hP
  have hmk := run_bools (t.size + 1) (by omega)
  rw [Int.natCast_succ] at hmk
  obtain ⟨v0, v1, v2, v3, v4, v5, v6, rfl⟩ := seven hR.len
  have HB := Lib.hid (Bx.new w [v0, v1, v2, v3, v4, v5, v6])
  have HR := Lib.hid hR
  have HW := Lib.hid hw
  have HM := Lib.hid (show ∀ W : World, Blk (W.alloc (.cells (madeCells #[.bool false] (t.size + 1)) 4)) W.heap.size 4 ((List.replicate (t.size + 1) false).map .bool) from fun W => blk_made W _)
  clear hR hw
  go_enter Tryd.func18, Tryd.ntmps18
  go_upto_region 2 with fail
  refine name_world ?_
  intro w2 hw2
  have HBX := Lib.hid (show Bx w w2 _ from by rw [hw2]; exact HB.out.go ((Below.refl _ _).alloc (Nat.le_refl _) _))
  have HM2 := Lib.hid (show Blk w2 (w.heap.size + 1) 4 ((List.replicate (t.size + 1) false).map .bool) from by
    rw [hw2]
    have := HM.out (w.alloc (.cells #[v0, v1, v2, v3, v4, v5, v6] 25))
    simpa using this)
  clear hw2 hmk
  have l0 := HM2.out.cell 0
  have f0 := HM2.out.frozen 0
  rw [List.getElem?_map, List.getElem?_replicate, if_pos (by omega)] at l0
  simp only [Option.map_some] at l0
  go_upto_region 3 with fail
  refine name_world ?_
  intro w3 hw3
  have HB3 := Lib.hid (show Bx w w3 _ from by rw [hw3]; exact HBX.out.set (by simp) _)
  have HM3 := Lib.hid (show Blk w3 (w.heap.size + 1) 4 ((oneS t.size).map .bool) from by
    rw [hw3]
    have := HM2.out.set_ 0 (.bool true)
    rw [← List.map_set] at this
    exact this)
  clear hw3 l0 f0
  have e0 := HB3.out.b.cell 0
  have e1 := HB3.out.b.cell 1
  have e2 := HB3.out.b.cell 2
  have e3 := HB3.out.b.cell 3
  have e4 := HB3.out.b.cell 4
  have e5 := HB3.out.b.cell 5
  have e6 := HB3.out.b.cell 6
  simp only [List.getElem?_cons_zero, List.getElem?_cons_succ] at e0 e1 e2 e3 e4 e5 e6
  have CR := Lib.hid ((be_ok d).n w3 r _ t (some ⟨w.heap.size + 1, 0, none⟩) (t.size + 1) (t.size + 1) (oneS t.size) ((HR.out.below HB3.out.l).more HB3.out.l.size) HW.out (HM3.out.sl HM3.out.lt) (oneS_len _) rfl ht)
  have HQ := Lib.hid (bgn_one (X := lang d r) (s := byL t))
  rw [byL_len] at HQ
  rw [← HPP.out] at HQ
  go_wp2_with (first | (go_at_call 37; refine CR.out.mono ?_; rintro e w5 ⟨b, rfl, hs5, hb5⟩; have HBB := Lib.hid (hs5.trans HQ.out); have HL5 := Lib.hid (HB3.out.l.trans (hb5.mono HB3.out.l.size)); clear hs5 hb5) | fail)
  go_ret
  first
  | exact ⟨b, rfl, HBB.out, HL5.out⟩
  | (cases b with
     | true => exact .inr ⟨rfl, HBB.out.1 rfl, HL5.out⟩
     | false => exact .inl ⟨rfl, fun h => Bool.noConfusion (HBB.out.2 h), HL5.out⟩)
end Go.Proofs.YtbkpgfccghombaaDoor.rx
