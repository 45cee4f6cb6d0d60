/-
  Parts of the proof in one text: RxW, RepM, RxZ. Conditions: as each states.
-/
import Derived.Test.YtbkpgfccghombaaDoorM05
/-! Regular expressions: the compiler: a star. Conditions: as stated. -/
namespace Go.Proofs.YtbkpgfccghombaaDoor.rx
open Go.ChangeShapes Go.WideShapes Go.ChangeAt Go.RowKit
set_option linter.unusedVariables false


section
variable {w : World} {B n : Nat} {eT : Value} {T : TypeId} {X : Value} {K : Ks} {code : List Ins}
set_option maxRecDepth 100000 in
set_option maxHeartbeats 3200000 in
theorem c_star {m d : Nat} (IH : CompOk B (.iface T X) m d) (h : Cs w B (.iface T X) K code code.length) (p : Addr) (s : Rx) (ad q : Addr) (sc : Nat) (c0 : w.cell? p = some (.int .u8 14)) (c1 : w.cell? ⟨p.block, p.off + 1, none⟩ = some (.int .u16 0)) (h2 : CellO w K.O ⟨p.block, p.off + 2, none⟩ (.slice (some ad) 1 sc)) (hq : CellO w K.O ad (.pointer (some q))) (hS : Nd w K.O d s q) (hw : wf m d s) (hn : (code ++ starC (comp d) code.length s).length ≤ 900000000000) (hl : K.lim ≤ 1000000000000) :
    Calls Tryd.prog 56 #[.pointer (some ⟨K.C, 0, none⟩), .pointer (some p)] w (Done w B (.iface T X) K code (starC (comp d) code.length s) (fits K.lim d (code.length + 1) s ∧ (code.length + (starC (comp d) code.length s).length) * 40 ≤ K.lim)) := by
  have hcl : code.length ≤ 900000000000 := by simp at hn; omega
  have CT := Lib.hid (top_any h (by omega))
  have CSP := Lib.hid (split_any h (by omega))
  have HN := Lib.hid hn
  have H := Lib.hid h
  have HS := Lib.hid hS
  have HH := Lib.hid h2
  have HQ := Lib.hid hq
  have IH := Lib.hid IH
  clear h hS hn h2 hq
  go_enter Tryd.func56, Tryd.ntmps56
  go_upto_region 92 with (first | (go_at_call 71; refine CT.out.mono ?_; rintro e w8 ⟨rfl, rfl⟩; clear CT) | fail)
  go_upto_region 93 with (first | (go_at_call 70; refine CSP.out.mono ?_; rintro e w4 ⟨K4, rfl, h4, e4⟩; have H4 := Lib.hid h4; have c2 := (HH.out.go e4.ev.fr e4.ev.o).2.2; have hq := (HQ.out.go e4.ev.fr e4.ev.o).2.2; have HS4 := Lib.hid (HS.out.ev e4.ev); have E4 := Lib.hid e4.ev; have hc4 : K4.C = K.C := e4.c; clear h4 e4 CSP) | fail)
  obtain ⟨cd1, hcd1⟩ : ∃ c, c = code ++ [Ins.sp 0 0] := ⟨_, rfl⟩
  rw [← hcd1] at H4
  have HCD := Lib.hid hcd1
  have HC1 : Hid (cd1.length = code.length + 1) := Lib.hid (by rw [hcd1]; simp)
  have hcl1 : cd1.length ≤ 900000000001 := by rw [HC1.out]; omega
  clear hcd1
  have T7 := top_any H4.out (by omega)
  rw [hc4] at T7
  have CT := Lib.hid T7
  clear T7
  go_upto_region 94 with (first | (go_at_call 71; refine CT.out.mono ?_; rintro e w8 ⟨rfl, rfl⟩; clear CT) | fail)
  have HB : Hid ((cd1 ++ comp d cd1.length s).length + 1 = (code ++ starC (comp d) code.length s).length) := Lib.hid (by
    rw [HC1.out, HCD.out]; simp [starC]; omega)
  have CC := IH.out w4 K4 cd1 s q H4.out HS4.out hw (by have := HB.out; have := HN.out; omega) (by rw [E4.out.l]; exact hl)
  rw [hc4] at CC
  have CC := Lib.hid CC
  go_upto_region 95 with (first | (go_at_call 56; refine CC.out.mono ?_; rintro e w5 h5; rcases h5 with ⟨hok, K5, rfl, h5, e5⟩ | ⟨hok, rfl, hb⟩) | fail)
  · have H5 := Lib.hid h5
    have E5 := Lib.hid (E4.out.trans e5)
    have hc5 : K5.C = K.C := e5.c.trans hc4
    clear h5 e5 CC c2 hq
    obtain ⟨o1, ho1⟩ : ∃ o, o = comp d cd1.length s := ⟨_, rfl⟩
    rw [← ho1] at H5 HB
    have HP : Hid (starC (comp d) code.length s = .sp (code.length + 1) ((cd1 ++ o1).length + 1) :: (o1 ++ [.jp code.length])) := Lib.hid (by rw [HC1.out] at ho1; unfold starC; rw [← ho1, List.length_append, HC1.out]; congr 2; omega)
    clear ho1
    have hcl5 : (cd1 ++ o1).length ≤ 900000000000 := by have := HB.out; have := HN.out; omega
    obtain ⟨cd2, hcd2⟩ : ∃ c, c = cd1 ++ o1 := ⟨_, rfl⟩
    rw [← hcd2] at H5 hcl5 HP
    have HCD2 := Lib.hid hcd2
    clear hcd2
    have JP := jump_any H5.out (by omega)
    rw [hc5] at JP
    have CJ := Lib.hid JP
    clear JP
    go_upto_region 98 with (first | (go_at_call 72; refine CJ.out.mono ?_; rintro e w6 ⟨K6, rfl, h6, e6⟩; have H6 := Lib.hid h6; have E6 := Lib.hid (E5.out.trans e6.ev); have hc6 : K6.C = K.C := e6.c.trans hc5; have k1 := h6.cells.2.1; rw [hc6] at k1; simp only [List.length_append, List.length_cons, List.length_nil, Nat.zero_add] at k1; clear h6 e6 CJ) | fail)
    have SJ := setj_any H6.out (by simp; omega) cd2.length code.length 0 (by simp) (by simp)
    rw [hc6] at SJ
    have CS := Lib.hid SJ
    clear SJ
    have hcc2 : (cd2.length : Int) + 1 ≤ 900000000001 := by omega
    go_upto_region 99 with fail
    clear k1
    go_upto_region 100 with (first | (go_at_call 74; refine CS.out.mono ?_; rintro e w8 ⟨rfl, h8, e8⟩; have H8 := Lib.hid h8; have E8 := Lib.hid (E6.out.trans e8.ev); clear CS h8 e8) | fail)
    have H8 := Lib.hid (show Cs w8 B (.iface T X) K6 (cd2 ++ [Ins.jp code.length]) (cd2 ++ [Ins.jp code.length]).length by have := H8.out; simpa using this)
    have ST := sets_any H8.out (by simp; omega) code.length cd1.length (cd2.length + 1) 0 0 (by rw [HCD2.out, HCD.out]; simp) (by simp [HCD2.out, HCD.out])
    rw [hc6] at ST
    simp only [Int.natCast_succ] at ST
    have CS := Lib.hid ST
    clear ST
    have CK := Lib.hid (show ∀ (w9 : World), SetIn w8 B (.iface T X) K6 ((cd2 ++ [Ins.jp code.length]).set code.length (.sp cd1.length (cd2.length + 1))) (cd2 ++ [Ins.jp code.length]).length (.returned (.tuple #[])) w9 → Calls Tryd.prog 75 #[.pointer (some ⟨K.C, 0, none⟩)] w9 (Done w B (.iface T X) K code (starC (comp d) code.length s) (fits K.lim d (code.length + 1) s ∧ (code.length + (starC (comp d) code.length s).length) * 40 ≤ K.lim)) from fun w9 h9 => by
      obtain ⟨-, h9, e9⟩ := h9
      have e10 : (cd2 ++ [Ins.jp code.length]).set code.length (.sp cd1.length (cd2.length + 1)) = code ++ starC (comp d) code.length s := by rw [HP.out, HC1.out]; rw [HCD2.out, HCD.out]; simp
      have e11 : (cd2 ++ [Ins.jp code.length]).length = (code ++ starC (comp d) code.length s).length := by rw [← e10]; simp
      rw [e10, e11] at h9
      have E9 := E8.out.trans e9.ev
      refine Done.size h9 E9 hl HN.out ⟨fun h => h.2, fun h => ⟨?_, h⟩⟩ (E9.below H.out)
      rw [E4.out.l, HC1.out] at hok
      exact hok)
    go_wp2_with (first | (go_at_call 73; refine CS.out.mono ?_; rintro e w9 h9; obtain rfl := h9.1; have CK2 := Lib.hid (CK.out w9 h9); clear CS h9 CK) | (go_at_call 75; refine CK2.out.mono ?_; rintro e w9 h9; obtain ⟨r, rfl⟩ := h9.ret; have H9 := Lib.hid h9; clear h9 CK2) | fail)
    go_ret
    exact H9.out
  · have HF : Hid (¬ (fits K.lim d (code.length + 1) s ∧ (code.length + (starC (comp d) code.length s).length) * 40 ≤ K.lim) ∧ Below B w w5) := Lib.hid ⟨fun h => hok (by rw [E4.out.l, HC1.out]; exact h.1), (E4.out.below H.out).trans hb⟩
    clear hok hb CC c2 hq
    go_wp2
    go_ret
    exact .inr ⟨HF.out.1, rfl, HF.out.2⟩
end

end Go.Proofs.YtbkpgfccghombaaDoor.rx

/-! Regular expressions: the compiler: an expression again and again. Conditions: as stated. -/
namespace Go.Proofs.YtbkpgfccghombaaDoor.rx
open Go.ChangeShapes Go.WideShapes Go.ChangeAt Go.RowKit
set_option linter.unusedVariables false

section
variable {w : World} {B n : Nat} {eT : Value} {T : TypeId} {X : Value} {K : Ks} {code : List Ins}
theorem Done.join {w1 : World} {K1 : Ks} {cd pre out : List Ins} {ok ok2 : Prop} {e : Ending} {w' : World} (h : Cs w B eT K code n) (ev : Ev K w w1 K1) (hcd : cd = code ++ pre) (hd : Done w1 B eT K1 cd out ok e w') (hok : ok2 ↔ ok) : Done w B eT K code (pre ++ out) ok2 e w' := by
  rcases hd with ⟨h1, K', e1, h2, h3⟩ | ⟨h1, e1, h2⟩
  · refine .inl ⟨hok.2 h1, K', e1, ?_, ev.trans h3⟩
    rw [← List.append_assoc, ← hcd]
    exact h2
  · exact .inr ⟨fun h => h1 (hok.1 h), e1, (ev.below h).trans h2⟩
/-- the star that stands behind the copies -/
theorem star_new {m d : Nat} (IH : CompOk B (.iface T X) m d) (h : Cs w B (.iface T X) K code code.length) (s : Rx) (ad q : Addr) (sc : Nat) (ra : Option Addr) (rn rc : Nat) (hq : CellO w K.O ad (.pointer (some q))) (hS : Nd w K.O d s q) (hw : wf m d s) (hn : (code ++ starC (comp d) code.length s).length ≤ 900000000000) (hl : K.lim ≤ 1000000000000) :
    Calls Tryd.prog 56 #[.pointer (some ⟨K.C, 0, none⟩), .pointer (some ⟨w.heap.size, 0, none⟩)] (w.alloc (.cells #[.int .u8 14, .int .u16 0, .slice (some ad) 1 sc, .pointer none, .slice ra rn rc, .int .i32 0, .int .i32 0, .int .i64 0, .int .i64 0, .int .i64 0, .string ⟨#[]⟩] 88)).drew (Done w B (.iface T X) K code (starC (comp d) code.length s) (fits K.lim d (code.length + 1) s ∧ (code.length + (starC (comp d) code.length s).length) * 40 ≤ K.lim)) := by
  obtain ⟨w2, hw2⟩ : ∃ w2, w2 = (w.alloc (.cells #[.int .u8 14, .int .u16 0, .slice (some ad) 1 sc, .pointer none, .slice ra rn rc, .int .i32 0, .int .i32 0, .int .i64 0, .int .i64 0, .int .i64 0, .string ⟨#[]⟩] 88)).drew := ⟨_, rfl⟩
  have b2 : Below w.heap.size w w2 := by rw [hw2]; exact below_drewN ((Below.refl _ _).alloc (Nat.le_refl _) _) 1
  have hb : Blk w2 w.heap.size 88 [.int .u8 14, .int .u16 0, .slice (some ad) 1 sc, .pointer none, .slice ra rn rc, .int .i32 0, .int .i32 0, .int .i64 0, .int .i64 0, .int .i64 0, .string ⟨#[]⟩] := by rw [hw2]; exact Blk.new w _ _
  rw [← hw2]
  have ev := (Es.of_below K b2).ev
  have hO : ¬ K.O w.heap.size := fun e => by have := (h.O_lt _ e).2; omega
  refine (c_star IH (h.new b2) ⟨w.heap.size, 0, none⟩ s ad q sc (hb.cell 0) (hb.cell 1) ⟨hb.lt, hO, hb.cell 2⟩ (hq.go ev.fr ev.o) (hS.ev ev) hw hn hl).mono ?_
  intro e w' hd
  have := Done.join (pre := []) h ev (by simp) hd Iff.rfl
  simpa using this
set_option maxRecDepth 100000 in
set_option maxHeartbeats 6400000 in
theorem c_repM {m d : Nat} (IH : CompOk B (.iface T X) m d) (h : Cs w B (.iface T X) K code code.length) (p : Addr) (s : Rx) (rs : List Int) (mn : Nat) (hN : Nd w K.O (d + 1) (.nd 17 rs mn (-1) [s]) p) (hw : wf m d s) (hmn : mn ≤ 1000) (hn : (code ++ repC (comp d) code.length s mn (-1)).length ≤ 900000000000) (hl : K.lim ≤ 1000000000000) :
    Calls Tryd.prog 56 #[.pointer (some ⟨K.C, 0, none⟩), .pointer (some p)] w (Done w B (.iface T X) K code (repC (comp d) code.length s mn (-1)) (catF (comp d) (fits K.lim d) code.length (List.replicate mn s) ∧ fits K.lim d (code.length + (catC (comp d) code.length (List.replicate mn s)).length + 1) s ∧ (code.length + (repC (comp d) code.length s mn (-1)).length) * 40 ≤ K.lim)) := by
  obtain ⟨ra, rc, ad, sc, s0, r0, r1, q, hH, hq, hadl, hadO, hS⟩ := one_sub hN
  have e1 : repC (comp d) code.length s mn (-1) = catC (comp d) code.length (List.replicate mn s) ++ starC (comp d) (code.length + (catC (comp d) code.length (List.replicate mn s)).length) s := by simp [repC]
  rw [e1] at hn ⊢
  have HN := Lib.hid hn
  have H := Lib.hid h
  have HS := Lib.hid hS
  have HH := Lib.hid hH
  have HQ := Lib.hid (show CellO w K.O ad (.pointer (some q)) from ⟨hadl, hadO, hq⟩)
  have IH := Lib.hid IH
  obtain ⟨-, -, c0, c1, c2, -, -, -, -, -, c8, -⟩ := hH
  clear h hS hn hN hq hadl hadO e1
  obtain ⟨ss, hss⟩ : ∃ ss, ss = List.replicate mn s := ⟨_, rfl⟩
  have hsl : Hid (ss.length = mn ∧ ∀ i (h : i < ss.length), ss[i] = s) := Lib.hid (by subst hss; simp)
  rw [← hss] at HN ⊢
  clear hss
  go_enter Tryd.func56, Tryd.ntmps56
  go_wp2_with fail
  clear c0 c1 c2 c8
  go_loopw [41, 42] (fun v8 _ wr => ∃ (i : Nat) (K1 : Ks) (cd : List Ins), i ≤ mn ∧ v8 = .int .i64 i ∧ Hid (cd = code ++ catC (comp d) code.length (ss.take i) ∧ Cs wr B (.iface T X) K1 cd cd.length ∧ Ev K w wr K1 ∧ catF (comp d) (fits K.lim d) code.length (ss.take i))) (fun v8 _ _ => mn - (intOf v8).toNat)
  case atStart => exact ⟨0, K, code, by omega, rfl, Lib.hid ⟨by simp [catC], H.out, Ev.refl K w, by simp [catF]⟩⟩
  case round =>
    obtain ⟨i, K1, cd, hi, rfl, H1⟩ := hrel
    have hc1 : K1.C = K.C := H1.out.2.2.1.c
    have HH1 := HH.out.go H1.out.2.2.1.fr H1.out.2.2.1.o
    have c7 := HH1.c7
    have c2 := HH1.c2
    have hq := (HQ.out.go H1.out.2.2.1.fr H1.out.2.2.1.o).2.2
    by_cases hlt : i < mn
    · have hli : i < ss.length := by rw [hsl.out.1]; exact hlt
      have HST := Lib.hid (cat_step (comp d) (fits K.lim d) ss code.length i hli)
      rw [hsl.out.2 i hli] at HST
      have e1 : code.length + (catC (comp d) code.length (ss.take i)).length = cd.length := by rw [H1.out.1]; simp
      rw [e1] at HST
      have CC := IH.out wr K1 cd s q H1.out.2.1 (HS.out.ev H1.out.2.2.1) hw (by
        have h1 := HST.out.2.2.2
        have h2 := HN.out
        simp only [List.length_append] at h2 ⊢
        omega) (by rw [H1.out.2.2.1.l]; exact hl)
      rw [hc1] at CC
      have CC := Lib.hid CC
      clear e1 HH1
      go_upto_region 115 with (first | (go_at_call 56; refine CC.out.mono ?_; rintro e w5 h5; rcases h5 with ⟨hok, K5, rfl, h5, e5⟩ | ⟨hok, rfl, hb⟩) | fail)
      · have HR : Hid (cd ++ comp d cd.length s = code ++ catC (comp d) code.length (ss.take (i + 1)) ∧ Cs w5 B (.iface T X) K5 (cd ++ comp d cd.length s) (cd ++ comp d cd.length s).length ∧ Ev K w w5 K5 ∧ catF (comp d) (fits K.lim d) code.length (ss.take (i + 1))) := Lib.hid ⟨by rw [HST.out.1, ← List.append_assoc, ← H1.out.1], h5, H1.out.2.2.1.trans e5, HST.out.2.1.2 ⟨H1.out.2.2.2, by rw [H1.out.2.2.1.l] at hok; exact hok⟩⟩
        clear hok h5 e5 CC hq c2 c7
        go_wp2
        go_roundw
        case rel => exact ⟨i + 1, K5, _, by omega, by go_num, HR⟩
        case measure => simp [intOf]; omega
      · have HF : Hid (¬ (catF (comp d) (fits K.lim d) code.length ss ∧ fits K.lim d (code.length + (catC (comp d) code.length ss).length + 1) s ∧ (code.length + (catC (comp d) code.length ss ++ starC (comp d) (code.length + (catC (comp d) code.length ss).length) s).length) * 40 ≤ K.lim) ∧ Below B w w5) := Lib.hid ⟨fun h => hok (by rw [H1.out.2.2.1.l]; exact HST.out.2.2.1 h.1), (H1.out.2.2.1.below H.out).trans hb⟩
        clear hok hb CC hq c2 c7
        go_wp2
        go_returns
        exact .inr ⟨HF.out.1, rfl, HF.out.2⟩
    · obtain rfl : i = mn := by omega
      have c1 := HH1.c1
      have c3 := HH1.c3
      have c4 := HH1.c4
      have c5 := HH1.c5
      have c6 := HH1.c6
      have hbl : p.block < wr.heap.size := HH1.bl
      have e9 : ss.take i = ss := List.take_of_length_le (by rw [hsl.out.1]; exact Nat.le_refl _)
      have e1 : code.length + (catC (comp d) code.length ss).length = cd.length := by rw [H1.out.1, e9]; simp
      have CS := Lib.hid (show Calls Tryd.prog 56 #[.pointer (some ⟨K.C, 0, none⟩), .pointer (some ⟨wr.heap.size, 0, none⟩)] (wr.alloc (.cells #[.int .u8 14, .int .u16 0, .slice (some ad) 1 sc, .pointer none, .slice ra rs.length rc, .int .i32 0, .int .i32 0, .int .i64 0, .int .i64 0, .int .i64 0, .string ⟨#[]⟩] 88)).drew (Done w B (.iface T X) K code (catC (comp d) code.length ss ++ starC (comp d) (code.length + (catC (comp d) code.length ss).length) s) (catF (comp d) (fits K.lim d) code.length ss ∧ fits K.lim d (code.length + (catC (comp d) code.length ss).length + 1) s ∧ (code.length + (catC (comp d) code.length ss ++ starC (comp d) (code.length + (catC (comp d) code.length ss).length) s).length) * 40 ≤ K.lim)) from by
        have hcd : cd = code ++ catC (comp d) code.length ss := by rw [← e9]; exact H1.out.1
        have h2 := HN.out
        have h9 := star_new IH.out H1.out.2.1 s ad q sc ra rs.length rc (HQ.out.go H1.out.2.2.1.fr H1.out.2.2.1.o) (HS.out.ev H1.out.2.2.1) hw (by rw [e1] at h2; simp only [List.length_append] at h2 ⊢; omega) (by rw [H1.out.2.2.1.l]; exact hl)
        rw [hc1] at h9
        refine h9.mono (fun e w' hd => ?_)
        have hF := H1.out.2.2.2
        rw [e9] at hF
        rw [e1]
        refine Done.join H.out H1.out.2.2.1 hcd hd ?_
        rw [H1.out.2.2.1.l, List.length_append]
        exact ⟨fun h => ⟨h.2.1, by have := h.2.2; omega⟩, fun h => ⟨hF, h.1, by have := h.2; omega⟩⟩)
      clear e9 e1
      clear HH1
      go_wp2_with fail
      refine wp_region_ks (fun W => W.cell? ⟨p.block, p.off + 1, none⟩ = some (.int .u16 0) ∧ W.cell? ⟨p.block, p.off + 2, none⟩ = some (.slice (some ad) 1 sc) ∧ W.cell? ⟨p.block, p.off + 3, none⟩ = some (.pointer none) ∧ W.cell? ⟨p.block, p.off + 4, none⟩ = some (.slice ra rs.length rc) ∧ W.cell? ⟨p.block, p.off + 5, none⟩ = some (.int .i32 0) ∧ W.cell? ⟨p.block, p.off + 6, none⟩ = some (.int .i32 0)) [22] (by kernel_rfl) ?_
      simp only [List.size_toArray, List.length_cons, List.length_nil, Nat.reduceAdd]
      refine ks_pure (i := 0) (oi := ?oi0) (v := ?v0) ?hi0 (by kernel_rfl) (by kernel_rfl) (by kernel_rfl) ?hQ0 ?hy0 ?rest0
      case hi0 =>
        simp only [List.getElem?_toArray, List.getElem?_cons_zero]
        rfl
      case hQ0 => exact fun _ _ _ h => h
      case hy0 =>
        refine yields_if (by rfl) (fun W hW => ?_)
        try dsimp only at hW
        go_simp
        first | done | with_reducible rfl
      simp only [Act.put, List.setIfInBounds_toArray, List.set_cons_zero, List.set_cons_succ]
      refine ks_pure (i := 1) (oi := ?oi1) (v := ?v1) ?hi1 (by kernel_rfl) (by kernel_rfl) (by kernel_rfl) ?hQ1 ?hy1 ?rest1
      case hi1 =>
        simp only [List.getElem?_toArray, List.getElem?_cons_succ, List.getElem?_cons_zero]
        rfl
      case hQ1 => exact fun _ _ _ h => h
      case hy1 =>
        refine yields_if (by rfl) (fun W hW => ?_)
        try dsimp only at hW
        go_simp
        first | done | with_reducible rfl
      simp only [Act.put, List.setIfInBounds_toArray, List.set_cons_zero, List.set_cons_succ]
      refine ks_pure (i := 2) (oi := ?oi2) (v := ?v2) ?hi2 (by kernel_rfl) (by kernel_rfl) (by kernel_rfl) ?hQ2 ?hy2 ?rest2
      case hi2 =>
        simp only [List.getElem?_toArray, List.getElem?_cons_succ, List.getElem?_cons_zero]
        rfl
      case hQ2 => exact fun _ _ _ h => h
      case hy2 =>
        refine yields_if (by rfl) (fun W hW => ?_)
        try dsimp only at hW
        go_simp
        first | done | with_reducible rfl
      simp only [Act.put, List.setIfInBounds_toArray, List.set_cons_zero, List.set_cons_succ]
      refine ks_via [20] (i := 3) (oi := ?oi3) (v := ?v3) ?hi3 (by kernel_rfl) (by kernel_rfl) (by kernel_rfl) (by kernel_rfl) (by kernel_rfl) ?hQ3 ?hS3 ?hy3 ?rest3
      case hi3 =>
        simp only [List.getElem?_toArray, List.getElem?_cons_succ, List.getElem?_cons_zero]
        rfl
      case hQ3 => exact fun _ _ _ h => h
      case hS3 => exact ⟨c1, c2, c3, c4, c5, c6⟩
      case hy3 =>
        refine yields_if (by rfl) (fun W hW => ?_)
        obtain ⟨hW1, hW2, hW3, hW4, hW5, hW6⟩ := hW
        go_simp
        first | done | with_reducible rfl
      simp only [Act.put, List.setIfInBounds_toArray, List.set_cons_zero, List.set_cons_succ]
      refine ks_pure (i := 4) (oi := ?oi4) (v := ?v4) ?hi4 (by kernel_rfl) (by kernel_rfl) (by kernel_rfl) ?hQ4 ?hy4 ?rest4
      case hi4 =>
        simp only [List.getElem?_toArray, List.getElem?_cons_succ, List.getElem?_cons_zero]
        rfl
      case hQ4 => exact fun _ _ _ h => h
      case hy4 =>
        refine yields_if (by rfl) (fun W hW => ?_)
        try dsimp only at hW
        go_simp
        first | done | with_reducible rfl
      simp only [Act.put, List.setIfInBounds_toArray, List.set_cons_zero, List.set_cons_succ]
      refine ks_pure (i := 5) (oi := ?oi5) (v := ?v5) ?hi5 (by kernel_rfl) (by kernel_rfl) (by kernel_rfl) ?hQ5 ?hy5 ?rest5
      case hi5 =>
        simp only [List.getElem?_toArray, List.getElem?_cons_succ, List.getElem?_cons_zero]
        rfl
      case hQ5 => exact fun _ _ _ h => h
      case hy5 =>
        refine yields_if (by rfl) (fun W hW => ?_)
        try dsimp only at hW
        go_simp
        first | done | with_reducible rfl
      simp only [Act.put, List.setIfInBounds_toArray, List.set_cons_zero, List.set_cons_succ]
      refine ks_pure (i := 6) (oi := ?oi6) (v := ?v6) ?hi6 (by kernel_rfl) (by kernel_rfl) (by kernel_rfl) ?hQ6 ?hy6 ?rest6
      case hi6 =>
        simp only [List.getElem?_toArray, List.getElem?_cons_succ, List.getElem?_cons_zero]
        rfl
      case hQ6 => exact fun _ _ _ h => h
      case hy6 =>
        refine yields_if (by rfl) (fun W hW => ?_)
        try dsimp only at hW
        go_simp
        first | done | with_reducible rfl
      simp only [Act.put, List.setIfInBounds_toArray, List.set_cons_zero, List.set_cons_succ]
      refine ks_via [20] (i := 7) (oi := ?oi7) (v := ?v7) ?hi7 (by kernel_rfl) (by kernel_rfl) (by kernel_rfl) (by kernel_rfl) (by kernel_rfl) ?hQ7 ?hS7 ?hy7 ?rest7
      case hi7 =>
        simp only [List.getElem?_toArray, List.getElem?_cons_succ, List.getElem?_cons_zero]
        rfl
      case hQ7 => exact fun _ _ _ h => h
      case hS7 => exact ⟨c1, c2, c3, c4, c5, c6⟩
      case hy7 =>
        refine yields_if (by rfl) (fun W hW => ?_)
        obtain ⟨hW1, hW2, hW3, hW4, hW5, hW6⟩ := hW
        go_simp
        first | done | with_reducible rfl
      simp only [Act.put, List.setIfInBounds_toArray, List.set_cons_zero, List.set_cons_succ]
      refine ks_pure (i := 8) (oi := ?oi8) (v := ?v8) ?hi8 (by kernel_rfl) (by kernel_rfl) (by kernel_rfl) ?hQ8 ?hy8 ?rest8
      case hi8 =>
        simp only [List.getElem?_toArray, List.getElem?_cons_succ, List.getElem?_cons_zero]
        rfl
      case hQ8 => exact fun _ _ _ h => h
      case hy8 =>
        refine yields_if (by rfl) (fun W hW => ?_)
        try dsimp only at hW
        go_simp
        first | done | with_reducible rfl
      simp only [Act.put, List.setIfInBounds_toArray, List.set_cons_zero, List.set_cons_succ]
      refine ks_pure (i := 9) (oi := ?oi9) (v := ?v9) ?hi9 (by kernel_rfl) (by kernel_rfl) (by kernel_rfl) ?hQ9 ?hy9 ?rest9
      case hi9 =>
        simp only [List.getElem?_toArray, List.getElem?_cons_succ, List.getElem?_cons_zero]
        rfl
      case hQ9 => exact fun _ _ _ h => h
      case hy9 =>
        refine yields_if (by rfl) (fun W hW => ?_)
        try dsimp only at hW
        go_simp
        first | done | with_reducible rfl
      simp only [Act.put, List.setIfInBounds_toArray, List.set_cons_zero, List.set_cons_succ]
      refine ks_pure (i := 10) (oi := ?oi10) (v := ?v10) ?hi10 (by kernel_rfl) (by kernel_rfl) (by kernel_rfl) ?hQ10 ?hy10 ?rest10
      case hi10 =>
        simp only [List.getElem?_toArray, List.getElem?_cons_succ, List.getElem?_cons_zero]
        rfl
      case hQ10 => exact fun _ _ _ h => h
      case hy10 =>
        refine yields_if (by rfl) (fun W hW => ?_)
        try dsimp only at hW
        go_simp
        first | done | with_reducible rfl
      simp only [Act.put, List.setIfInBounds_toArray, List.set_cons_zero, List.set_cons_succ]
      refine ks_via [20] (i := 11) (oi := ?oi11) (v := ?v11) ?hi11 (by kernel_rfl) (by kernel_rfl) (by kernel_rfl) (by kernel_rfl) (by kernel_rfl) ?hQ11 ?hS11 ?hy11 ?rest11
      case hi11 =>
        simp only [List.getElem?_toArray, List.getElem?_cons_succ, List.getElem?_cons_zero]
        rfl
      case hQ11 => exact fun _ _ _ h => h
      case hS11 => exact ⟨c1, c2, c3, c4, c5, c6⟩
      case hy11 =>
        refine yields_if (by rfl) (fun W hW => ?_)
        obtain ⟨hW1, hW2, hW3, hW4, hW5, hW6⟩ := hW
        go_simp
        first | done | with_reducible rfl
      simp only [Act.put, List.setIfInBounds_toArray, List.set_cons_zero, List.set_cons_succ]
      refine ks_pure (i := 12) (oi := ?oi12) (v := ?v12) ?hi12 (by kernel_rfl) (by kernel_rfl) (by kernel_rfl) ?hQ12 ?hy12 ?rest12
      case hi12 =>
        simp only [List.getElem?_toArray, List.getElem?_cons_succ, List.getElem?_cons_zero]
        rfl
      case hQ12 => exact fun _ _ _ h => h
      case hy12 =>
        refine yields_if (by rfl) (fun W hW => ?_)
        try dsimp only at hW
        go_simp
        first | done | with_reducible rfl
      simp only [Act.put, List.setIfInBounds_toArray, List.set_cons_zero, List.set_cons_succ]
      refine ks_pure (i := 13) (oi := ?oi13) (v := ?v13) ?hi13 (by kernel_rfl) (by kernel_rfl) (by kernel_rfl) ?hQ13 ?hy13 ?rest13
      case hi13 =>
        simp only [List.getElem?_toArray, List.getElem?_cons_succ, List.getElem?_cons_zero]
        rfl
      case hQ13 => exact fun _ _ _ h => h
      case hy13 =>
        refine yields_if (by rfl) (fun W hW => ?_)
        try dsimp only at hW
        go_simp
        first | done | with_reducible rfl
      simp only [Act.put, List.setIfInBounds_toArray, List.set_cons_zero, List.set_cons_succ]
      refine ks_pure (i := 14) (oi := ?oi14) (v := ?v14) ?hi14 (by kernel_rfl) (by kernel_rfl) (by kernel_rfl) ?hQ14 ?hy14 ?rest14
      case hi14 =>
        simp only [List.getElem?_toArray, List.getElem?_cons_succ, List.getElem?_cons_zero]
        rfl
      case hQ14 => exact fun _ _ _ h => h
      case hy14 =>
        refine yields_if (by rfl) (fun W hW => ?_)
        try dsimp only at hW
        go_simp
        first | done | with_reducible rfl
      simp only [Act.put, List.setIfInBounds_toArray, List.set_cons_zero, List.set_cons_succ]
      refine ks_via [20] (i := 15) (oi := ?oi15) (v := ?v15) ?hi15 (by kernel_rfl) (by kernel_rfl) (by kernel_rfl) (by kernel_rfl) (by kernel_rfl) ?hQ15 ?hS15 ?hy15 ?rest15
      case hi15 =>
        simp only [List.getElem?_toArray, List.getElem?_cons_succ, List.getElem?_cons_zero]
        rfl
      case hQ15 => exact fun _ _ _ h => h
      case hS15 => exact ⟨c1, c2, c3, c4, c5, c6⟩
      case hy15 =>
        refine yields_if (by rfl) (fun W hW => ?_)
        obtain ⟨hW1, hW2, hW3, hW4, hW5, hW6⟩ := hW
        go_simp
        first | done | with_reducible rfl
      simp only [Act.put, List.setIfInBounds_toArray, List.set_cons_zero, List.set_cons_succ]
      refine ks_pure (i := 16) (oi := ?oi16) (v := ?v16) ?hi16 (by kernel_rfl) (by kernel_rfl) (by kernel_rfl) ?hQ16 ?hy16 ?rest16
      case hi16 =>
        simp only [List.getElem?_toArray, List.getElem?_cons_succ, List.getElem?_cons_zero]
        rfl
      case hQ16 => exact fun _ _ _ h => h
      case hy16 =>
        refine yields_if (by rfl) (fun W hW => ?_)
        try dsimp only at hW
        go_simp
        first | done | with_reducible rfl
      simp only [Act.put, List.setIfInBounds_toArray, List.set_cons_zero, List.set_cons_succ]
      refine ks_pure (i := 17) (oi := ?oi17) (v := ?v17) ?hi17 (by kernel_rfl) (by kernel_rfl) (by kernel_rfl) ?hQ17 ?hy17 ?rest17
      case hi17 =>
        simp only [List.getElem?_toArray, List.getElem?_cons_succ, List.getElem?_cons_zero]
        rfl
      case hQ17 => exact fun _ _ _ h => h
      case hy17 =>
        refine yields_if (by rfl) (fun W hW => ?_)
        try dsimp only at hW
        go_simp
        first | done | with_reducible rfl
      simp only [Act.put, List.setIfInBounds_toArray, List.set_cons_zero, List.set_cons_succ]
      refine ks_pure (i := 18) (oi := ?oi18) (v := ?v18) ?hi18 (by kernel_rfl) (by kernel_rfl) (by kernel_rfl) ?hQ18 ?hy18 ?rest18
      case hi18 =>
        simp only [List.getElem?_toArray, List.getElem?_cons_succ, List.getElem?_cons_zero]
        rfl
      case hQ18 => exact fun _ _ _ h => h
      case hy18 =>
        refine yields_if (by rfl) (fun W hW => ?_)
        try dsimp only at hW
        go_simp
        first | done | with_reducible rfl
      simp only [Act.put, List.setIfInBounds_toArray, List.set_cons_zero, List.set_cons_succ]
      refine ks_via [20] (i := 19) (oi := ?oi19) (v := ?v19) ?hi19 (by kernel_rfl) (by kernel_rfl) (by kernel_rfl) (by kernel_rfl) (by kernel_rfl) ?hQ19 ?hS19 ?hy19 ?rest19
      case hi19 =>
        simp only [List.getElem?_toArray, List.getElem?_cons_succ, List.getElem?_cons_zero]
        rfl
      case hQ19 => exact fun _ _ _ h => h
      case hS19 => exact ⟨c1, c2, c3, c4, c5, c6⟩
      case hy19 =>
        refine yields_if (by rfl) (fun W hW => ?_)
        obtain ⟨hW1, hW2, hW3, hW4, hW5, hW6⟩ := hW
        go_simp
        first | done | with_reducible rfl
      simp only [Act.put, List.setIfInBounds_toArray, List.set_cons_zero, List.set_cons_succ]
      refine ks_pure (i := 20) (oi := ?oi20) (v := ?v20) ?hi20 (by kernel_rfl) (by kernel_rfl) (by kernel_rfl) ?hQ20 ?hy20 ?rest20
      case hi20 =>
        simp only [List.getElem?_toArray, List.getElem?_cons_succ, List.getElem?_cons_zero]
        rfl
      case hQ20 => exact fun _ _ _ h => h
      case hy20 =>
        refine yields_if (by rfl) (fun W hW => ?_)
        try dsimp only at hW
        go_simp
        first | done | with_reducible rfl
      simp only [Act.put, List.setIfInBounds_toArray, List.set_cons_zero, List.set_cons_succ]
      have ka : ∀ o j, (wr.alloc o).drew.cell? ⟨p.block, p.off + j, none⟩ = wr.drew.cell? ⟨p.block, p.off + j, none⟩ := fun o j => World.cell?_of_block (w := wr.drew) (w' := (wr.alloc o).drew) (a := ⟨p.block, p.off + j, none⟩) (Below.heap_alloc wr o p.block hbl)
      refine ks_one (i := 21) (o := ?o21) ?ho21 (by kernel_rfl) (fun K9 hK => ?_)
      case ho21 =>
        simp only [List.getElem?_toArray, List.getElem?_cons_succ, List.getElem?_cons_zero]
        rfl
      go_simp
      refine hK _ _ (fun _ hS => by simpa only [ka] using hS) ?_
      clear hK K9 ka
      try simp only [Act.put, List.setIfInBounds_toArray, List.set_cons_zero, List.set_cons_succ]
      refine ks_one (i := 22) (o := ?o22) ?ho22 (by kernel_rfl) (fun K9 hK => ?_)
      case ho22 =>
        simp only [List.getElem?_toArray, List.getElem?_cons_succ, List.getElem?_cons_zero]
        rfl
      go_simp
      refine hK _ _ (by simp) ?_
      clear hK K9
      try simp only [Act.put, List.setIfInBounds_toArray, List.set_cons_zero, List.set_cons_succ]
      refine ks_done (by kernel_rfl) ?_ _
      simp only [Exit.then]
      rename_i hK1
      refine hK1 _ _ ?_
      clear hK1
      clear c1 c2 c3 c4 c5 c6 hq c7
      go_wp2_with (first | (go_at_call 56; refine CS.out.mono ?_; rintro e w5 h5; obtain ⟨r, rfl⟩ := h5.ret; have H5 := Lib.hid h5; clear h5 CS) | fail)
      go_ret
      exact H5.out
end

end Go.Proofs.YtbkpgfccghombaaDoor.rx

/-! Regular expressions: the compiler: ways beside each other. Conditions: as stated. -/
namespace Go.Proofs.YtbkpgfccghombaaDoor.rx
open Go.ChangeShapes Go.WideShapes Go.ChangeAt Go.RowKit
set_option linter.unusedVariables false

section
variable {w : World} {B n : Nat} {eT : Value} {T : TypeId} {X : Value} {K : Ks} {code : List Ins}
set_option maxRecDepth 100000 in
set_option maxHeartbeats 6400000 in
theorem c_alt {mm d : Nat} (IH : CompOk B (.iface T X) mm d) (h : Cs w B (.iface T X) K code code.length) (p : Addr) (subs : List Rx) (rs : List Int) (mn mx : Int) (hN : Nd w K.O (d + 1) (.nd 19 rs mn mx subs) p) (hw : ∀ s ∈ subs, wf mm d s) (hl3 : subs.length ≤ 1000000) (hne : subs ≠ []) (hn : (code ++ altE (comp d) code.length subs).length ≤ 900000000000) (hl : K.lim ≤ 1000000000000) :
    Calls Tryd.prog 56 #[.pointer (some ⟨K.C, 0, none⟩), .pointer (some p)] w (Done w B (.iface T X) K code (altE (comp d) code.length subs) (altF (comp d) (fits K.lim d) code.length subs ∧ (code.length + (altE (comp d) code.length subs).length) * 40 ≤ K.lim)) := by
  obtain ⟨i0, hi0, hz0, hz1, hz2⟩ := info_parts infoU
  obtain ⟨ra, rc, sa, sc, s0, r0, r1, qs, hH, g2, g3, g4⟩ := hN
  obtain ⟨m, hm⟩ : ∃ m, subs.length = m + 1 := ⟨subs.length - 1, by have : subs.length ≠ 0 := fun e => hne (List.length_eq_zero_iff.1 e); omega⟩
  have mixed : Tryd.prog.follows .mixedOrders = true := by kernel_rfl
  have HN := Lib.hid hn
  have H := Lib.hid h
  have HG := Lib.hid (And.intro g2 (And.intro g3 g4))
  have IH := Lib.hid IH
  have HW := Lib.hid hw
  rw [hm] at hH
  have HH := Lib.hid hH
  have HM := Lib.hid hm
  have hm1 : m + 1 ≤ subs.length := by omega
  have hm2 : subs.length ≤ m + 1 := by omega
  have hm6 : m ≤ 999999 := by omega
  have hcc : code.length ≤ 900000000000 := by simp at hn; omega
  have hmk := fun w => run_jumps m (by omega) w
  have hq0 : ((m : Int) + 1 == 0) = false := by simp; omega
  have J3 := Lib.hid (jr_new w m (by unfold maxLen; omega))
  have b3 : Below w.heap.size w (w.alloc (.cells (madeCells #[.int .u64 0] m) 33)) := (Below.refl _ _).alloc (Nat.le_refl _) _
  have C3 := Lib.hid (H.out.new b3)
  have E3 := Lib.hid ((Es.of_below K b3).ev)
  obtain ⟨-, -, c0, c1, c2, -, -, -, -, -, -, -⟩ := hH
  clear h g2 g3 g4 hn hw hne hm b3
  go_enter Tryd.func56, Tryd.ntmps56
  go_wp2_with fail
  clear c0 c1 c2
  refine name_world ?_
  intro w3 hw3
  have J3 := Lib.hid (show Jr w3 w.heap.size (.slice (some ⟨w.heap.size, 0, none⟩) 0 m) [] by rw [hw3]; exact J3.out)
  have C3 := Lib.hid (show Cs w3 B (.iface T X) K code code.length by rw [hw3]; exact C3.out)
  have E3 := Lib.hid (show Ev K w w3 K by rw [hw3]; exact E3.out)
  clear hw3
  go_loopw [16, 17, 18, 19, 20, 21, 22] (fun v5 v6 _ _ _ _ _ wr => ∃ (i : Nat) (K1 : Ks) (c' : Nat) (a' : Option Addr) (cd : List Ins), i ≤ m ∧ v6 = .int .i64 i ∧ v5 = .slice a' i c' ∧ Hid (cd = code ++ altP (comp d) 0 code.length (subs.take i) ∧ Cs wr B (.iface T X) K1 cd cd.length ∧ Ev K w wr K1 ∧ Jr wr w.heap.size v5 (altJ (comp d) code.length (subs.take i)) ∧ altPF (comp d) (fits K.lim d) code.length (subs.take i))) (fun _ v6 _ _ _ _ _ _ => m - (intOf v6).toNat)
  case atStart => exact ⟨0, K, m, _, code, by omega, rfl, rfl, Lib.hid ⟨by simp [altP], C3.out, E3.out, by simpa [altJ] using J3.out, by simp [altPF]⟩⟩
  case round =>
    obtain ⟨i, K1, c', a', cd, hi, rfl, rfl, H1⟩ := hrel
    have hc1 : K1.C = K.C := H1.out.2.2.1.c
    have c2 := (HH.out.go H1.out.2.2.1.fr H1.out.2.2.1.o).c2
    have hcl : cd.length ≤ 900000000000 := Nat.le_trans (alt_preE (comp d) H1.out.1 (by omega)) HN.out
    have hps : i < subs.length := by omega
    have HG1 := HG.out.1.ev H1.out.2.2.1
    obtain ⟨ad, had, hq, hS⟩ := subs_at HG1 HG.out.2.1 (fun x hx => (HG.out.2.2 x hx).ev H1.out.2.2.1) i hps
    subst had
    have HS := Lib.hid hS
    clear HG1 hS
    generalize qs[i]'(by have := HG.out.2.1; omega) = q at *
    have e1 : code.length + (altP (comp d) 0 code.length (subs.take i)).length = cd.length := by rw [H1.out.1]; simp
    have HP1 := Lib.hid e1
    clear e1
    by_cases hlt : i < m
    · have SP := split_any H1.out.2.1 (by omega)
      rw [hc1] at SP
      have CSP := Lib.hid SP
      clear SP
      go_upto_region 66 with (first | (go_at_call 70; refine CSP.out.mono ?_; rintro e w4 ⟨K4, rfl, h4, e4⟩; have H4 := Lib.hid h4; have E4 := Lib.hid (H1.out.2.2.1.trans e4.ev); have J4 := Lib.hid (H1.out.2.2.2.1.ev H1.out.2.1 e4.ev); have HS4 := Lib.hid (HS.out.ev e4.ev); have hc4 : K4.C = K.C := e4.c.trans hc1; clear h4 e4 CSP c2 hq) | fail)
      obtain ⟨cd1, hcd1⟩ : ∃ c, c = cd ++ [Ins.sp 0 0] := ⟨_, rfl⟩
      rw [← hcd1] at H4
      have HC1 : Hid (cd1.length = cd.length + 1) := Lib.hid (by rw [hcd1]; simp)
      have hcl1 : cd1.length ≤ 900000000001 := by rw [HC1.out]; omega
      have HCD := Lib.hid hcd1
      clear hcd1
      have T := top_any H4.out (by omega)
      rw [hc4] at T
      have CT := Lib.hid T
      clear T
      go_upto_region 67 with (first | (go_at_call 71; refine CT.out.mono ?_; rintro e w5 ⟨rfl, rfl⟩; clear CT) | fail)
      have HAR := Lib.hid (alt_round (comp d) (s := subs[i]) (X := comp d cd1.length subs[i]) H1.out.1 (by rw [HC1.out]))
      rw [← List.take_succ_eq_append_getElem hps, ← HCD.out] at HAR
      have hcl3 : (cd1 ++ comp d cd1.length subs[i]).length + 1 ≤ 900000000000 := by
        have h4 := alt_preE (comp d) HAR.out.1 (l := subs) (by omega)
        have h5 := HN.out
        rw [List.length_set, List.length_append] at h4
        simp only [List.length_cons, List.length_nil] at h4
        omega
      have CC := IH.out w4 K4 cd1 subs[i] q H4.out HS4.out (HW.out _ (List.getElem_mem hps)) (by omega) (by rw [E4.out.l]; exact hl)
      rw [hc4] at CC
      have CC := Lib.hid CC
      go_upto_region 68 with (first | (go_at_call 56; refine CC.out.mono ?_; rintro e w5 h5; rcases h5 with ⟨hok, K5, rfl, h5, e5⟩ | ⟨hok, rfl, hb⟩) | fail)
      · have H5 := Lib.hid h5
        have E5 := Lib.hid (E4.out.trans e5)
        have J5 := Lib.hid (J4.out.ev H4.out e5)
        have hc5 : K5.C = K.C := e5.c.trans hc4
        have HOK : Hid (altPF (comp d) (fits K.lim d) code.length (subs.take (i + 1))) := Lib.hid (by
          rw [List.take_succ_eq_append_getElem hps, altPF_snoc, HP1.out, ← HC1.out]
          rw [E4.out.l] at hok
          exact ⟨H1.out.2.2.2.2, hok⟩)
        clear h5 e5 CC J4 E4 HS4 hok
        obtain ⟨cd2, hcd2⟩ : ∃ c, c = cd1 ++ comp d cd1.length subs[i] := ⟨_, rfl⟩
        rw [← hcd2] at H5 HAR hcl3
        have HCD5 : Hid (cd.length < cd2.length ∧ cd2[cd.length]? = some (.sp 0 0)) := Lib.hid (by rw [hcd2, HCD.out]; simp)
        clear hcd2
        have JP := jump_any H5.out (by omega)
        rw [hc5] at JP
        have CJ := Lib.hid JP
        clear JP
        have HAJ : Hid ((altJ (comp d) code.length (subs.take i)).length = i) := Lib.hid (by rw [altJ_len, List.length_take]; omega)
        generalize hjs : altJ (comp d) code.length (subs.take i) = js at *
        clear hjs
        go_upto_region 71 with (first | (go_at_call 72; refine CJ.out.mono ?_; rintro e w6 ⟨K6, rfl, h6, e6⟩; have H6 := Lib.hid h6; have J6 := Lib.hid (J5.out.ev H5.out e6.ev); have EX := Lib.hid (E5.out.trans e6.ev); have hc6 : K6.C = K.C := e6.c.trans hc5; clear h6 e6 CJ J5 E5) | (at_builtin; refine append1_at w6 #[.int .u64 (cd2.length : Nat)] rfl (.tmp 269) (.tmp 272) 101 rfl w.heap.size 33 i0 _ 1 8 Tryd.underlying101 hi0 hz0 hz1 hz2 rfl (by omega) rfl (.slice a' i c') i (jvs js) rfl (by have := J6.out; unfold Jr at this; rw [HAJ.out] at this; exact this) w6.heap.size rfl rfl (by simp [Value.oneCell']) (by unfold maxLen; omega) (by omega) (EX.out.fr.size) ?_; intro v7 w7 ho7 hg7 _ hat7; obtain ⟨a7, c7, rfl⟩ := own_value ho7; have J7 := Lib.hid (Jr.snoc (js := js) (by rw [HAJ.out]; exact ho7)); have H7 := Lib.hid (H6.out.jr_grown J6.out H.out.hw hg7); have E7 := Lib.hid (EX.out.jr_grown J6.out (Nat.le_refl _) hg7); clear ho7 hg7 hat7 J6 H6 EX) | fail)
        have T7 := top_any H7.out (by simp; omega)
        rw [hc6] at T7
        have CT := Lib.hid T7
        clear T7
        go_upto_region 72 with (first | (go_at_call 71; refine CT.out.mono ?_; rintro e w8 ⟨rfl, rfl⟩; clear CT) | fail)
        have ST := sets_any H7.out (by simp; omega) cd.length cd1.length (cd2.length + 1) 0 0 (by simp; have := HCD5.out.1; omega) (by have h1 := HCD5.out; rw [List.getElem_append_left h1.1]; rw [List.getElem?_eq_getElem h1.1] at h1; injection h1.2)
        rw [hc6] at ST
        simp only [Int.natCast_succ] at ST
        have CS := Lib.hid ST
        clear ST
        go_upto_region 63 with (first | (go_at_call 73; refine CS.out.mono ?_; rintro e w8 ⟨rfl, h8, e8⟩; have H8 := Lib.hid h8; have E8 := Lib.hid (E7.out.trans e8.ev); have J8 := Lib.hid (J7.out.ev H7.out e8.ev); clear CS h8 e8 J7 E7 H7) | fail)
        go_wp2
        go_roundw
        case rel => exact ⟨i + 1, K6, c7, a7, (cd2 ++ [Ins.jp 0]).set cd.length (.sp cd1.length (cd2.length + 1)), by omega, by go_num, rfl, Lib.hid ⟨by rw [HC1.out]; exact HAR.out.1, by rw [List.length_set]; exact H8.out, E8.out, by rw [HAR.out.2]; exact J8.out, HOK.out⟩⟩
        case measure => simp [intOf]; omega
      · have HF : Hid (¬ (altF (comp d) (fits K.lim d) code.length subs ∧ (code.length + (altE (comp d) code.length subs).length) * 40 ≤ K.lim) ∧ Below B w w5) := Lib.hid ⟨fun h => hok (by
          have := alt_at (comp d) (fits K.lim d) h.1 i (by omega)
          rw [HP1.out] at this
          rw [E4.out.l, HC1.out]
          exact this), (E4.out.below H.out).trans hb⟩
        clear hok hb CC
        go_wp2
        go_returns
        exact .inr ⟨HF.out.1, rfl, HF.out.2⟩
    · obtain rfl : i = m := by omega
      have ED : Ev K1 wr (wr.drewN 1) K1 := (Ev.refl K1 wr).drewN 1
      have HS := Lib.hid (HS.out.ev ED)
      have H1 := Lib.hid (show cd = code ++ altP (comp d) 0 code.length (subs.take i) ∧ Cs (wr.drewN 1) B (.iface T X) K1 cd cd.length ∧ Ev K w (wr.drewN 1) K1 ∧ Jr (wr.drewN 1) w.heap.size (.slice a' i c') (altJ (comp d) code.length (subs.take i)) ∧ altPF (comp d) (fits K.lim d) code.length (subs.take i) from ⟨H1.out.1, H1.out.2.1.drewN 1, H1.out.2.2.1.trans ED, H1.out.2.2.2.1.ev H1.out.2.1 ED, H1.out.2.2.2.2⟩)
      clear ED
      have HAE := Lib.hid (alt_end (comp d) (s := subs[i]) (X := comp d cd.length subs[i]) H1.out.1 rfl)
      have e9 : subs.take (i + 1) = subs := List.take_of_length_le (by omega)
      rw [← List.take_succ_eq_append_getElem hps, e9] at HAE
      clear e9
      have hcl5 : (cd ++ comp d cd.length subs[i]).length ≤ 900000000000 := by
        have h1 := congrArg List.length HAE.out
        rw [setJ_len] at h1
        rw [h1]
        exact HN.out
      have CC := IH.out (wr.drewN 1) K1 cd subs[i] q H1.out.2.1 HS.out (HW.out _ (List.getElem_mem hps)) hcl5 (by rw [H1.out.2.2.1.l]; exact hl)
      rw [hc1] at CC
      have CC := Lib.hid CC
      have hwi : IntKind.i64.wrap (i : Int) = i := by rw [IntKind.wrap_i64]; omega
      have hi0' : (0 : Int) ≤ i := by omega
      have hi1' : (i : Int) < (i : Int) + 1 := by omega
      go_wp2_with fail
      refine wp_region_ks (fun W => W.cell? ⟨p.block, p.off + 2, none⟩ = some (.slice (some ad) (i + 1) sc) ∧ W.cell? (ad.add i) = some (.pointer (some q))) [13] (by kernel_rfl) ?_
      simp only [List.size_toArray, List.length_cons, List.length_nil, Nat.reduceAdd]
      refine ks_pure (i := 0) (oi := ?oi0b) (v := ?v0b) ?hi0b (by kernel_rfl) (by kernel_rfl) (by kernel_rfl) ?hQ0b ?hy0b ?rest0b
      case hi0b =>
        simp only [List.getElem?_toArray, List.getElem?_cons_zero]
        rfl
      case hQ0b => exact fun _ _ _ h => h
      case hy0b =>
        refine yields_if (by rfl) (fun W hW => ?_)
        try dsimp only at hW
        go_simp
        first | done | with_reducible rfl
      simp only [Act.put, List.setIfInBounds_toArray, List.set_cons_zero, List.set_cons_succ]
      refine ks_pure (i := 1) (oi := ?oi1b) (v := ?v1b) ?hi1b (by kernel_rfl) (by kernel_rfl) (by kernel_rfl) ?hQ1b ?hy1b ?rest1b
      case hi1b =>
        simp only [List.getElem?_toArray, List.getElem?_cons_succ, List.getElem?_cons_zero]
        rfl
      case hQ1b => exact fun _ _ _ h => h
      case hy1b =>
        refine yields_if (by rfl) (fun W hW => ?_)
        try dsimp only at hW
        go_simp
        first | done | with_reducible rfl
      simp only [Act.put, List.setIfInBounds_toArray, List.set_cons_zero, List.set_cons_succ]
      refine ks_pure (i := 2) (oi := ?oi2b) (v := ?v2b) ?hi2b (by kernel_rfl) (by kernel_rfl) (by kernel_rfl) ?hQ2b ?hy2b ?rest2b
      case hi2b =>
        simp only [List.getElem?_toArray, List.getElem?_cons_succ, List.getElem?_cons_zero]
        rfl
      case hQ2b => exact fun _ _ _ h => h
      case hy2b =>
        refine yields_if (by rfl) (fun W hW => ?_)
        try dsimp only at hW
        go_simp
        first | done | with_reducible rfl
      simp only [Act.put, List.setIfInBounds_toArray, List.set_cons_zero, List.set_cons_succ]
      refine ks_pure (i := 3) (oi := ?oi3b) (v := ?v3b) ?hi3b (by kernel_rfl) (by kernel_rfl) (by kernel_rfl) ?hQ3b ?hy3b ?rest3b
      case hi3b =>
        simp only [List.getElem?_toArray, List.getElem?_cons_succ, List.getElem?_cons_zero]
        rfl
      case hQ3b => exact fun _ _ _ h => h
      case hy3b =>
        refine yields_if (by rfl) (fun W hW => ?_)
        try dsimp only at hW
        go_simp
        first | done | with_reducible rfl
      simp only [Act.put, List.setIfInBounds_toArray, List.set_cons_zero, List.set_cons_succ]
      refine ks_via [11, 12] (i := 4) (oi := ?oi4b) (v := ?v4b) ?hi4b (by kernel_rfl) (by kernel_rfl) (by kernel_rfl) (by kernel_rfl) (by kernel_rfl) ?hQ4b ?hS4b ?hy4b ?rest4b
      case hi4b =>
        simp only [List.getElem?_toArray, List.getElem?_cons_succ, List.getElem?_cons_zero]
        rfl
      case hQ4b => exact fun _ _ _ h => h
      case hS4b => exact ⟨c2, hq⟩
      case hy4b =>
        refine yields_if (by rfl) (fun W hW => ?_)
        try dsimp only at hW
        go_simp
        first | done | with_reducible rfl
      simp only [Act.put, List.setIfInBounds_toArray, List.set_cons_zero, List.set_cons_succ]
      refine ks_pure (i := 5) (oi := ?oi5b) (v := ?v5b) ?hi5b (by kernel_rfl) (by kernel_rfl) (by kernel_rfl) ?hQ5b ?hy5b ?rest5b
      case hi5b =>
        simp only [List.getElem?_toArray, List.getElem?_cons_succ, List.getElem?_cons_zero]
        rfl
      case hQ5b => exact fun _ _ _ h => h
      case hy5b =>
        refine yields_if (by rfl) (fun W hW => ?_)
        try dsimp only at hW
        go_simp
        first | done | with_reducible rfl
      simp only [Act.put, List.setIfInBounds_toArray, List.set_cons_zero, List.set_cons_succ]
      refine ks_pure (i := 6) (oi := ?oi6b) (v := ?v6b) ?hi6b (by kernel_rfl) (by kernel_rfl) (by kernel_rfl) ?hQ6b ?hy6b ?rest6b
      case hi6b =>
        simp only [List.getElem?_toArray, List.getElem?_cons_succ, List.getElem?_cons_zero]
        rfl
      case hQ6b => exact fun _ _ _ h => h
      case hy6b =>
        refine yields_if (by rfl) (fun W hW => ?_)
        try dsimp only at hW
        go_simp
        first | done | with_reducible rfl
      simp only [Act.put, List.setIfInBounds_toArray, List.set_cons_zero, List.set_cons_succ]
      refine ks_pure (i := 7) (oi := ?oi7b) (v := ?v7b) ?hi7b (by kernel_rfl) (by kernel_rfl) (by kernel_rfl) ?hQ7b ?hy7b ?rest7b
      case hi7b =>
        simp only [List.getElem?_toArray, List.getElem?_cons_succ, List.getElem?_cons_zero]
        rfl
      case hQ7b => exact fun _ _ _ h => h
      case hy7b =>
        refine yields_if (by rfl) (fun W hW => ?_)
        try dsimp only at hW
        go_simp
        first | done | with_reducible rfl
      simp only [Act.put, List.setIfInBounds_toArray, List.set_cons_zero, List.set_cons_succ]
      refine ks_via [9, 10, 11, 12] (i := 8) (oi := ?oi8b) (v := ?v8b) ?hi8b (by kernel_rfl) (by kernel_rfl) (by kernel_rfl) (by kernel_rfl) (by kernel_rfl) ?hQ8b ?hS8b ?hy8b ?rest8b
      case hi8b =>
        simp only [List.getElem?_toArray, List.getElem?_cons_succ, List.getElem?_cons_zero]
        rfl
      case hQ8b => exact fun _ _ _ h => h
      case hS8b => exact ⟨c2, hq⟩
      case hy8b =>
        refine yields_if (by rfl) (fun W hW => ?_)
        try dsimp only at hW
        go_simp
        first | done | with_reducible rfl
      simp only [Act.put, List.setIfInBounds_toArray, List.set_cons_zero, List.set_cons_succ]
      refine ks_pure (i := 9) (oi := ?oi9b) (v := ?v9b) ?hi9b (by kernel_rfl) (by kernel_rfl) (by kernel_rfl) ?hQ9b ?hy9b ?rest9b
      case hi9b =>
        simp only [List.getElem?_toArray, List.getElem?_cons_succ, List.getElem?_cons_zero]
        rfl
      case hQ9b => exact fun _ _ _ h => h
      case hy9b =>
        refine yields_if (by rfl) (fun W hW => ?_)
        try dsimp only at hW
        go_simp
        first | done | with_reducible rfl
      simp only [Act.put, List.setIfInBounds_toArray, List.set_cons_zero, List.set_cons_succ]
      refine ks_pure (i := 10) (oi := ?oi10b) (v := ?v10b) ?hi10b (by kernel_rfl) (by kernel_rfl) (by kernel_rfl) ?hQ10b ?hy10b ?rest10b
      case hi10b =>
        simp only [List.getElem?_toArray, List.getElem?_cons_succ, List.getElem?_cons_zero]
        rfl
      case hQ10b => exact fun _ _ _ h => h
      case hy10b =>
        refine yields_if (by rfl) (fun W hW => ?_)
        try dsimp only at hW
        go_simp
        first | done | with_reducible rfl
      simp only [Act.put, List.setIfInBounds_toArray, List.set_cons_zero, List.set_cons_succ]
      refine ks_pure (i := 11) (oi := ?oi11b) (v := ?v11b) ?hi11b (by kernel_rfl) (by kernel_rfl) (by kernel_rfl) ?hQ11b ?hy11b ?rest11b
      case hi11b =>
        simp only [List.getElem?_toArray, List.getElem?_cons_succ, List.getElem?_cons_zero]
        rfl
      case hQ11b => exact fun _ _ _ h => h
      case hy11b =>
        refine yields_if (by rfl) (fun W hW => ?_)
        try dsimp only at hW
        go_simp
        first | done | with_reducible rfl
      simp only [Act.put, List.setIfInBounds_toArray, List.set_cons_zero, List.set_cons_succ]
      refine ks_take (i := 12) (oi := ?oi12b) (v := ?v12b) ?hi12b (by kernel_rfl) (by kernel_rfl) (by kernel_rfl) (by kernel_rfl) ?hQ12b ?hS12b ?hy12b ?rest12b
      case hi12b =>
        simp only [List.getElem?_toArray, List.getElem?_cons_succ, List.getElem?_cons_zero]
        rfl
      case hQ12b => exact fun _ _ _ h => h
      case hS12b => exact ⟨c2, hq⟩
      case hy12b =>
        refine yields_if (by rfl) (fun W hW => ?_)
        try dsimp only at hW
        go_simp
        first | done | with_reducible rfl
      simp only [Act.put, List.setIfInBounds_toArray, List.set_cons_zero, List.set_cons_succ]
      refine ks_one (i := 13) (o := ?o13b) ?ho13b (by kernel_rfl) (fun K9 hK => ?_)
      case ho13b =>
        simp only [List.getElem?_toArray, List.getElem?_cons_succ, List.getElem?_cons_zero]
        rfl
      go_simp
      refine CC.out.mono ?_
      rintro e w5 h5
      obtain ⟨rv, rfl⟩ := h5.ret
      have H5 := Lib.hid h5
      clear h5 CC
      refine hK _ _ (by simp) ?_
      clear hK K9
      try simp only [Act.put, List.setIfInBounds_toArray, List.set_cons_zero, List.set_cons_succ]
      refine ks_pure (i := 14) (oi := ?oi14b) (v := ?v14b) ?hi14b (by kernel_rfl) (by kernel_rfl) (by kernel_rfl) ?hQ14b ?hy14b ?rest14b
      case hi14b =>
        simp only [List.getElem?_toArray, List.getElem?_cons_succ, List.getElem?_cons_zero]
        rfl
      case hQ14b => exact fun _ _ _ h => h
      case hy14b =>
        refine yields_if (by rfl) (fun W hW => ?_)
        try dsimp only at hW
        go_simp
        first | done | with_reducible rfl
      simp only [Act.put, List.setIfInBounds_toArray, List.set_cons_zero, List.set_cons_succ]
      refine ks_done (by kernel_rfl) ?_ _
      simp only [Exit.then]
      rename_i hK1
      refine hK1 _ _ ?_
      clear hK1 hwi hi0' hi1' c2 hq
      rcases H5.out with ⟨hok, K5, e5, h5, ev5⟩ | ⟨hok, e5, hb⟩
      · injection e5 with e5
        subst e5
        have HOK : Hid (altF (comp d) (fits K.lim d) code.length subs) := Lib.hid (by
          rw [alt_last (comp d) (fits K.lim d) HM.out, HP1.out]
          rw [H1.out.2.2.1.l] at hok
          exact ⟨H1.out.2.2.2.2, hok⟩)
        have H6 := Lib.hid h5
        have E5 := Lib.hid (H1.out.2.2.1.trans ev5)
        have J5 := Lib.hid (H1.out.2.2.2.1.ev H1.out.2.1 ev5)
        have hc5 : K5.C = K.C := ev5.c.trans hc1
        clear h5 ev5 hok H5
        obtain ⟨cd5, hcd5⟩ : ∃ c, c = cd ++ comp d cd.length subs[i] := ⟨_, rfl⟩
        rw [← hcd5] at H6 HAE hcl5
        have HJ : Hid (∀ k, k < i → ∃ j, (altJ (comp d) code.length (subs.take i))[k]? = some j ∧ j < (setJ cd5.length ((altJ (comp d) code.length (subs.take i)).take k) cd5).length ∧ (∃ x, (setJ cd5.length ((altJ (comp d) code.length (subs.take i)).take k) cd5)[j]? = some (.jp x)) ∧
            setJ cd5.length ((altJ (comp d) code.length (subs.take i)).take (k + 1)) cd5 = (setJ cd5.length ((altJ (comp d) code.length (subs.take i)).take k) cd5).set j (.jp cd5.length)) := Lib.hid (fun k hk => by
          have := alt_jp (comp d) (X := comp d cd.length subs[i]) H1.out.1 k (by rw [List.length_take]; omega) cd5.length
          rw [← hcd5] at this
          exact this)
        clear hcd5
        have HAJ : Hid ((altJ (comp d) code.length (subs.take i)).length = i) := Lib.hid (by rw [altJ_len, List.length_take]; omega)
        have hi9 : i ≤ 999999 := by omega
        generalize altJ (comp d) code.length (subs.take i) = js at *
        have k1 := H6.out.cells.2.1
        rw [hc5] at k1
        go_wp2_with fail
        clear k1
        go_loopw [26, 306] (fun _ v8 wq => ∃ (k : Nat) (K6 : Ks), k ≤ i ∧ v8 = .int .i64 k ∧ K6.C = K.C ∧ Hid (Cs wq B (.iface T X) K6 (setJ cd5.length (js.take k) cd5) (setJ cd5.length (js.take k) cd5).length ∧ Ev K w wq K6 ∧ Jr wq w.heap.size (.slice a' i c') js)) (fun _ v8 _ => i - (intOf v8).toNat)
        case atStart => exact ⟨0, K5, by omega, rfl, hc5, Lib.hid ⟨by simpa [setJ] using H6.out, E5.out, J5.out⟩⟩
        case round =>
          obtain ⟨k, K6, hk, rfl, hc6, H7⟩ := hrel
          have jrow : wr.ownsRow w.heap.size 33 1 (.slice a' i c') i (jvs js) := by
            have := H7.out.2.2
            unfold Jr at this
            rw [HAJ.out] at this
            exact this
          by_cases hlt2 : k < i
          · obtain ⟨j2, hj, hjl, ⟨z, hz⟩, hset⟩ := HJ.out k hlt2
            obtain ⟨ad6, had6, -, hcell6⟩ := sl_of_own jrow k (.int .u64 (j2 : Nat)) (by rw [jvs, List.getElem?_map, hj]; rfl)
            have SJ := setj_any H7.out.1 (by rw [setJ_len]; omega) j2 cd5.length z hjl (by rw [List.getElem?_eq_getElem hjl] at hz; injection hz)
            rw [hc6] at SJ
            have CS := Lib.hid SJ
            have HSET := Lib.hid hset
            clear SJ hset hj hjl hz jrow
            subst had6
            go_wp2_with (first | (go_at_call 74; refine CS.out.mono ?_; rintro e w8 ⟨rfl, h8, e8⟩; have H8 := Lib.hid h8; have E8 := Lib.hid (H7.out.2.1.trans e8.ev); have J8 := Lib.hid (H7.out.2.2.ev H7.out.1 e8.ev); have hc8 := hc6; clear CS h8 e8) | fail)
            go_roundw
            case rel => exact ⟨k + 1, K6, by omega, by go_num, hc6, Lib.hid ⟨by rw [HSET.out, List.length_set]; exact H8.out, E8.out, J8.out⟩⟩
            case measure => simp [intOf]; omega
          · obtain rfl : k = i := by omega
            have CK := Lib.hid (show Calls Tryd.prog 75 #[.pointer (some ⟨K.C, 0, none⟩)] wr (Done w B (.iface T X) K code (altE (comp d) code.length subs) (altF (comp d) (fits K.lim d) code.length subs ∧ (code.length + (altE (comp d) code.length subs).length) * 40 ≤ K.lim)) from by
              have h1 := H7.out.1
              rw [List.take_of_length_le (by rw [HAJ.out]; exact Nat.le_refl _), HAE.out] at h1
              exact Done.size h1 H7.out.2.1 hl HN.out ⟨fun h => h.2, fun h => ⟨HOK.out, h⟩⟩ (H7.out.2.1.below H.out))
            clear jrow
            go_wp2_with (first | (go_at_call 75; refine CK.out.mono ?_; rintro e w9 h9; obtain ⟨r, rfl⟩ := h9.ret; have H9 := Lib.hid h9; clear h9 CK) | fail)
            go_ret
            exact H9.out
      · injection e5 with e5
        subst e5
        have HF : Hid (¬ (altF (comp d) (fits K.lim d) code.length subs ∧ (code.length + (altE (comp d) code.length subs).length) * 40 ≤ K.lim) ∧ Below B w w5) := Lib.hid ⟨fun h => hok (by
          have := (alt_last (comp d) (fits K.lim d) HM.out).1 h.1
          rw [HP1.out] at this
          rw [H1.out.2.2.1.l]
          exact this.2), (H1.out.2.2.1.below H.out).trans hb⟩
        clear hok hb H5
        go_wp2
        go_ret
        exact .inr ⟨HF.out.1, rfl, HF.out.2⟩
end

end Go.Proofs.YtbkpgfccghombaaDoor.rx
