/-
  FnStateFor: a state with one arc is encoded. Conditions: as stated.
-/
import Derived.Test.YtjonmfaeonldcaaDoorStM
namespace Go.Proofs.YtjonmfaeonldcaaDoor.fnStateFor
open Go.ChangeShapes Go.WideShapes Go.ChangeAt Go.RowKit
set_option linter.unusedVariables false

/-- the one arc's cells -/
theorem Cx.one {x : Wb} {d : Nd} {W : World} {rv : Value} {out : List Int} {y : Arc} (h : Cx x d W rv out) (hl : d.l = [y]) {ad : Addr} (had : d.a = some ad) :
    W.cell? ad = some (.int .u64 y.2.1) ∧ W.cell? ⟨ad.block, ad.off + 1, none⟩ = some (.int .i64 y.2.2) ∧ W.cell? ⟨ad.block, ad.off + 2, none⟩ = some (.int .u8 y.1) := by
  obtain ⟨ad', had', a0, a1, a2⟩ := h.arc 0 (by rw [hl]; exact Nat.zero_lt_one)
  have e0 : d.l[0]'(by rw [hl]; exact Nat.zero_lt_one) = y := by simp only [hl]; rfl
  rw [e0] at a0 a1 a2
  rw [had] at had'
  injection had' with had'
  subst had'
  rw [Nat.zero_mul, show ad.add 0 = ad by simp [Addr.add]] at a0 a1 a2
  exact ⟨a0, a1, a2⟩
theorem Cx.node1 {x : Wb} {d : Nd} {W : World} {rv : Value} {out : List Int} {y : Arc} (h : Cx x d W rv out) (hl : d.l = [y]) {ad : Addr} (had : d.a = some ad) : W.cell? ⟨d.nb, 1, none⟩ = some (.slice (some ad) 1 d.c) := by
  have := h.cells.n1
  rw [hl, had] at this
  exact this

/-- the writer goes on under the encoder -/
theorem Cx.step {x : Wb} {d : Nd} {W w1 : World} {rv rv1 : Value} {out out1 : List Int} (h : Cx x d W rv out) (hE : En w1 x rv1 out1) (hV : Ev x W rv w1 rv1) : Cx x d w1 rv1 out1 ∧ Ev x W rv w1 rv1 := ⟨h.go hE hV, hV⟩

set_option maxRecDepth 100000 in
set_option maxHeartbeats 3200000 in
theorem one_any {x : Wb} {d : Nd} {W : World} {rv : Value} {out : List Int} {y : Arc} (h : Cx x d W rv out) (hl : d.l = [y]) (hi : 0 ≤ y.1 ∧ y.1 ≤ 255) (ho : 0 ≤ y.2.1 ∧ y.2.1 ≤ 18446744073709551615) (ha : 0 ≤ y.2.2 ∧ y.2.2 ≤ out.length) (hlim : out.length ≤ 10000000) :
    Calls Tryd.prog 32 #[.pointer (some ⟨d.eb, 0, none⟩), .pointer (some ⟨d.nb, 0, none⟩)] W (Wd x d W rv (out ++ oneB cd out.length y)) := by
  obtain ⟨ad, had, -, -, -⟩ := h.arc 0 (by rw [hl]; exact Nat.zero_lt_one)
  obtain ⟨i, o, a⟩ := y
  simp only at hi ho ha
  obtain ⟨S, hS⟩ : ∃ S : Nat, S = out.length := ⟨_, rfl⟩
  rw [← hS] at ha hlim ⊢
  have dl := dlt_any S a ha.1 ha.2 (by omega)
  have hd0 : 0 ≤ dlt S a ∧ dlt S a ≤ 10000000 := by unfold dlt; split <;> omega
  obtain ⟨D, hD⟩ : ∃ D, D = dlt S a := ⟨_, rfl⟩
  rw [← hD] at dl hd0
  have hB : oneB cd S (i, o, a) = pk o (oSize o) ++ (pk D (szN D) ++ ([16 * (szN D : Int) + oSize o] ++ finB cd i 0)) := by rw [hD]; rfl
  have CD := Lib.hid dl
  have CP1 := Lib.hid (psz_any o ho.1 ho.2)
  have CP2 := Lib.hid (psz_any D hd0.1 (by omega))
  have hz := szN_bd D
  have ho8 := oSize_le o
  have CS := Lib.hid (eps_any (szN D) (oSize o) hz.2 ho8)
  have HL := Lib.hid hl
  have HA := Lib.hid had
  have HS := Lib.hid hS
  have HBB := Lib.hid hB
  have W1 := Lib.hid (fun w1 rv1 (hE : En w1 x rv1 (out ++ pk o (oSize o))) => wpk_any hE D (szN D) hz.2 hd0.1 (by omega) (by rw [List.length_append, pk_len]; omega))
  have W2 := Lib.hid (fun w1 rv1 (hE : En w1 x rv1 (out ++ pk o (oSize o) ++ pk D (szN D))) => wwb_any hE (16 * (szN D : Int) + oSize o) (by simp only [List.length_append, pk_len]; omega))
  have W3 := Lib.hid (fun w1 rv1 (hC : Cx x d w1 rv1 (out ++ pk o (oSize o) ++ pk D (szN D) ++ [16 * (szN D : Int) + oSize o])) => one1_any hC HL.out hi.1 hi.2 0 (.inl rfl) (by simp only [List.length_append, pk_len, List.length_cons, List.length_nil]; omega))
  have HO : Hid (out ++ pk o (oSize o) ++ pk D (szN D) ++ [16 * (szN D : Int) + oSize o] ++ finB cd i 0 = out ++ oneB cd S (i, o, a)) := Lib.hid (by rw [hB]; simp only [List.append_assoc])
  obtain ⟨Q, hQ⟩ : ∃ Q, Q = (out ++ oneB cd S (i, o, a)).length := ⟨_, rfl⟩
  have HQ := Lib.hid hQ
  have H := Lib.hid h
  obtain ⟨hE, hk, -, -, -⟩ := h.cells
  have hn1 := h.node1 hl had
  obtain ⟨a0, a1, a2⟩ := h.one hl had
  rw [← hS] at hk
  have hSb : (S : Int) ≤ 10000000 := by omega
  clear dl hD hB hl had hS h hd0 hQ
  generalize szN D = Z at *
  by_cases h0 : o = 0
  · have HZ : oSize o = 0 := if_pos h0
    subst h0
    rw [HZ] at CS W1 W2 W3 HO
    have HC1 : Hid (Cx x d W rv (out ++ pk 0 0) ∧ Ev x W rv W rv) := Lib.hid ⟨by simpa [pk] using H.out, Ev.refl _ _ _⟩
    clear HZ CP1
    go_enter Tryd.func32, Tryd.ntmps32
    have hs1 := HC1.out.1.cells
    obtain ⟨gE, -, -, -, -⟩ := hs1
    have gn1 := HC1.out.1.node1 HL.out HA.out
    obtain ⟨-, ga1, -⟩ := HC1.out.1.one HL.out HA.out
    have W1' := Lib.hid (W1.out _ _ HC1.out.1.en)
    go_wp2_with (first | (go_at_call 42; refine (CD.out _).mono ?_; rintro e w9 ⟨rfl, rfl⟩) | (go_at_call 41; refine (CP2.out _).mono ?_; rintro e w9 ⟨rfl, rfl⟩) | fail)
    refine W1'.out.mono ?_
    rintro e w2 ⟨rv2, rfl, hE2, hV2⟩
    have HC2 := Lib.hid (⟨HC1.out.1.go hE2 hV2, HC1.out.2.trans hV2⟩ : Cx x d w2 rv2 _ ∧ Ev x W rv w2 rv2)
    have W2' := Lib.hid (W2.out _ _ hE2)
    obtain ⟨fE, -, -, -, -⟩ := HC2.out.1.cells
    clear hE2 hV2 gE gn1 ga1 W1'
    go_wp2_with (first | (go_at_call 45; refine (CS.out _).mono ?_; rintro e w9 ⟨rfl, rfl⟩) | fail)
    refine W2'.out.mono ?_
    rintro e w3 ⟨rv3, rfl, hE3, hV3⟩
    have HC3 := Lib.hid (⟨HC2.out.1.go hE3 hV3, HC2.out.2.trans hV3⟩ : Cx x d w3 rv3 _ ∧ Ev x W rv w3 rv3)
    have W3' := Lib.hid (W3.out _ _ HC3.out.1)
    clear hE3 hV3 fE W2'
    go_wp2_with fail
    refine W3'.out.mono ?_
    rintro e w4 ⟨rv4, he, hC4, hV4⟩
    rw [HO.out] at hC4 he
    rw [← HQ.out] at he
    subst he
    have HC4 := Lib.hid (⟨hC4, HC3.out.2.trans hV4⟩ : Cx x d w4 rv4 _ ∧ Ev x W rv w4 rv4)
    clear hC4 hV4 W3'
    go_wp2
    go_ret2
    exact ⟨rv4, by rw [← HQ.out]; rfl, HC4.out.1, HC4.out.2⟩
  · have HZ : oSize o = szN o := if_neg h0
    rw [HZ] at CS W1 W2 W3 HO
    have hob : (o != 0) = true := by rw [bne_iff_ne]; exact h0
    have hz8 := szN_bd o
    have CW := Lib.hid (fun w1 rv1 (hE : En w1 x rv1 out) => wpk_any hE o (szN o) hz8.2 ho.1 ho.2 (by have := HS.out; omega))
    clear HZ hz8 ho8
    generalize szN o = Y at *
    go_enter Tryd.func32, Tryd.ntmps32
    go_wp2_with (first | (go_at_call 41; refine (CP1.out _).mono ?_; rintro e w9 ⟨rfl, rfl⟩) | fail)
    go_wp2
    refine wp_region_still_tail 12 (by kernel_rfl) (by kernel_rfl) ?_
    simp only [List.take_succ_cons, List.take_zero, List.drop_succ_cons, List.drop_zero]
    change wpStill _ _ (World.drew _) _ _ _
    repeat still_step
    refine wpStill_nil ?_
    change wpList _ _ _ _ _ (World.drew _)
    go_wp2_with fail
    refine (CW.out _ rv (H.out.drewN 1).en).mono ?_
    rintro e w1 ⟨rv1, rfl, hE1, hV1⟩
    have HC1 := Lib.hid (⟨H.out.go hE1 ((Ev.refl_fr ((Fr.refl _ W).drewN 1)).trans hV1), (Ev.refl_fr ((Fr.refl _ W).drewN 1)).trans hV1⟩ : Cx x d w1 rv1 (out ++ pk o Y) ∧ Ev x W rv w1 rv1)
    clear hE1 hV1 CW
    have hs1 := HC1.out.1.cells
    obtain ⟨gE, -, -, -, -⟩ := hs1
    have gn1 := HC1.out.1.node1 HL.out HA.out
    obtain ⟨-, ga1, -⟩ := HC1.out.1.one HL.out HA.out
    have W1' := Lib.hid (W1.out _ _ HC1.out.1.en)
    go_wp2_with (first | (go_at_call 42; refine (CD.out _).mono ?_; rintro e w9 ⟨rfl, rfl⟩) | (go_at_call 41; refine (CP2.out _).mono ?_; rintro e w9 ⟨rfl, rfl⟩) | fail)
    refine W1'.out.mono ?_
    rintro e w2 ⟨rv2, rfl, hE2, hV2⟩
    have HC2 := Lib.hid (⟨HC1.out.1.go hE2 hV2, HC1.out.2.trans hV2⟩ : Cx x d w2 rv2 _ ∧ Ev x W rv w2 rv2)
    have W2' := Lib.hid (W2.out _ _ hE2)
    obtain ⟨fE, -, -, -, -⟩ := HC2.out.1.cells
    clear hE2 hV2 gE gn1 ga1 W1'
    go_wp2_with (first | (go_at_call 45; refine (CS.out _).mono ?_; rintro e w9 ⟨rfl, rfl⟩) | fail)
    refine W2'.out.mono ?_
    rintro e w3 ⟨rv3, rfl, hE3, hV3⟩
    have HC3 := Lib.hid (⟨HC2.out.1.go hE3 hV3, HC2.out.2.trans hV3⟩ : Cx x d w3 rv3 _ ∧ Ev x W rv w3 rv3)
    have W3' := Lib.hid (W3.out _ _ HC3.out.1)
    clear hE3 hV3 fE W2'
    go_wp2_with fail
    refine W3'.out.mono ?_
    rintro e w4 ⟨rv4, he, hC4, hV4⟩
    rw [HO.out] at hC4 he
    rw [← HQ.out] at he
    subst he
    have HC4 := Lib.hid (⟨hC4, HC3.out.2.trans hV4⟩ : Cx x d w4 rv4 _ ∧ Ev x W rv w4 rv4)
    clear hC4 hV4 W3'
    go_wp2
    go_ret2
    exact ⟨rv4, by rw [← HQ.out]; rfl, HC4.out.1, HC4.out.2⟩

end Go.Proofs.YtjonmfaeonldcaaDoor.fnStateFor
