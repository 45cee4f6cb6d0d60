/-
  FnStateFor: a state with any number of arcs is encoded. Conditions: as stated.
-/
import Derived.Test.YtjonmfaeonldcaaDoorStO
namespace Go.Proofs.YtjonmfaeonldcaaDoor.fnStateFor
open Go.ChangeShapes Go.WideShapes Go.ChangeAt Go.RowKit
set_option linter.unusedVariables false

/-- what is asked of the arcs -/
def okArcs (S : Nat) (l : List Arc) : Prop := ∀ y ∈ l, (0 ≤ y.1 ∧ y.1 ≤ 255) ∧ (0 ≤ y.2.1 ∧ y.2.1 ≤ 18446744073709551615) ∧ (0 ≤ y.2.2 ∧ y.2.2 ≤ S)
theorem val_i64 {a b : Int} (h : a = b) : (Value.int .i64 a) = .int .i64 b := by rw [h]
theorem val_bool {a b : Bool} (h : a = b) : (Value.bool a) = .bool b := by rw [h]

theorem map_flat (l : List Arc) : l.map (·.1) = l.flatMap (fun x => [x.1]) := by
  induction l with
  | nil => rfl
  | cons x l ih => simp [ih]
/-- the state of the walk: the bytes that are there -/
def Go_ (x : Wb) (d : Nd) (W : World) (rv : Value) (out : List Int) (wx : World) : Prop := ∃ rv1, Cx x d wx rv1 out ∧ Ev x W rv wx rv1

theorem tail_fin {f : Bool} {n S T os : Nat} {out A B2 B3 B4 X : List Int} (hB : X = A ++ (B2 ++ (B3 ++ (B4 ++ ([16 * (T : Int) + os] ++ (cntB n ++ [(numB n : Int) + if f then 64 else 0])))))) (hS : S = out.length) (hs : S ≤ 10000000) (hA : A.length ≤ 8) (h2 : B2.length ≤ 256 * 8) (h3 : B3.length ≤ 256 * 8) (h4 : B4.length ≤ 256 * 8) :
    (out ++ (A ++ (B2 ++ (B3 ++ B4)))).length ≤ 1000000000 ∧ (out ++ (A ++ (B2 ++ (B3 ++ B4))) ++ [16 * (T : Int) + os]).length ≤ 1000000000 ∧ (out ++ (A ++ (B2 ++ (B3 ++ B4))) ++ [16 * (T : Int) + os] ++ cntB n).length ≤ 1000000000 ∧
      out ++ (A ++ (B2 ++ (B3 ++ B4))) ++ [16 * (T : Int) + os] ++ cntB n ++ [(numB n : Int) + if f then 64 else 0] = out ++ X ∧ (1 ≤ (out ++ X).length ∧ (out ++ X).length ≤ 1000000000) := by
  have hc : (cntB n).length ≤ 1 := by unfold cntB; split <;> simp
  subst hB hS
  simp only [List.length_append, List.length_cons, List.length_nil]
  refine ⟨by omega, by omega, by omega, by simp only [List.append_assoc], by omega, by omega⟩

set_option maxRecDepth 100000 in
set_option maxHeartbeats 12800000 in
theorem many_any {x : Wb} {eb nb c : Nat} {f : Bool} {o : Int} {a : Option Addr} {l : List Arc} {W : World} {rv : Value} {out : List Int} (h : Cx x ⟨eb, nb, f, o, a, c, l⟩ W rv out) (S : Nat) (hS : S = out.length) (hl : l.length ≤ 256) (ho : 0 ≤ o ∧ o ≤ 18446744073709551615) (ha : okArcs S l) (hlim : S ≤ 10000000) :
    Calls Tryd.prog 30 #[.pointer (some ⟨eb, 0, none⟩), .pointer (some ⟨nb, 0, none⟩)] W (Wd x ⟨eb, nb, f, o, a, c, l⟩ W rv (out ++ manyB S f o l)) := by
  have H := Lib.hid h
  have HS := Lib.hid hS
  have HA := Lib.hid ha
  obtain ⟨hE, hk, hn0, hn1, hn2⟩ := h.cells
  simp only at hE hk hn0 hn1 hn2
  rw [← hS] at hk
  have CP := Lib.hid (psz_any o ho.1 ho.2)
  have hSb : (S : Int) ≤ 10000000 := by omega
  have hpo := szN_bd o
  clear h hS ha
  go_enter Tryd.func30, Tryd.ntmps30
  go_wp2_with (first | (go_at_call 41; refine (CP.out _).mono ?_; rintro e w9 ⟨rfl, rfl⟩) | fail)
  go_loop [7, 8, 9, 48] (fun s7 s8 s9 s48 => ∃ i : Nat, i ≤ l.length ∧ s48 = .int .i64 i ∧ s7 = .int .i64 (tszL S (l.take i)) ∧ s8 = .int .i64 (oszL o (l.take i)) ∧ s9 = .bool (anyO o (l.take i))) (fun _ _ _ s => l.length - (intOf s).toNat)
  case atStart => exact ⟨0, by omega, rfl, rfl, rfl, rfl⟩
  case round =>
    obtain ⟨i, hi, rfl, rfl, rfl, rfl⟩ := hrel
    by_cases hlt : i < l.length
    · obtain ⟨ad, had, a0, a1, a2⟩ := H.out.arc i hlt
      simp only at had a0 a1 a2
      have ht := tszL_snoc S l i hlt
      have hos := oszL_snoc o l i hlt
      have han := anyO_snoc o l i hlt
      have hb1 := tszL_le S (l.take i)
      have hb2 := oszL_le o (l.take i)
      obtain ⟨⟨h1, h2⟩, ⟨h3, h4⟩, h5, h6⟩ := HA.out _ (List.getElem_mem hlt)
      generalize l[i] = y at *
      obtain ⟨yi, yo, ya⟩ := y
      simp only at *
      have CD := Lib.hid (dlt_any S ya h5 h6 (by omega))
      have hd0 : 0 ≤ dlt S ya ∧ dlt S ya ≤ 10000000 := by unfold dlt; split <;> omega
      generalize dlt S ya = D at *
      have CP1 := Lib.hid (psz_any D hd0.1 (by omega))
      have CP2 := Lib.hid (psz_any yo h3 h4)
      have hz1 := szN_bd D
      have hz2 := szN_bd yo
      have HT := Lib.hid ht
      have HO := Lib.hid hos
      have HN := Lib.hid han
      rw [had] at hn1
      clear had
      generalize szN D = Z1 at *
      generalize szN yo = Z2 at *
      generalize tszL S (l.take i) = T1 at *
      generalize oszL o (l.take i) = T2 at *
      generalize anyO o (l.take i) = T3 at *
      clear ht hos han
      obtain ⟨yb, hyb⟩ : ∃ yb, (yo != 0) = yb := ⟨_, rfl⟩
      have HN2 := HN.out
      rw [hyb] at HN2
      have HN3 := Lib.hid HN2
      clear HN HN2
      cases T3 <;> cases yb
      all_goals as_aux_lemma =>
        go_wp2_with (first | (go_at_call 42; refine (CD.out _).mono ?_; rintro e w9 ⟨rfl, rfl⟩) | (go_at_call 41; (first | ((with_reducible refine (CP1.out _).mono ?_); rintro e w9 ⟨rfl, rfl⟩) | ((with_reducible refine (CP2.out _).mono ?_); rintro e w9 ⟨rfl, rfl⟩))) | fail)
        all_goals
          go_round
          case rel => exact ⟨i + 1, by omega, by go_num, val_i64 (by rw [HT.out]; omega), val_i64 (by rw [HO.out]; omega), val_bool HN3.out.symm⟩
          case measure => simp [intOf]; omega
    · obtain rfl : i = l.length := by omega
      rw [List.take_length] at *
      have hb1 := tszL_le S l
      obtain ⟨os, hos⟩ : ∃ os, os = osz o l := ⟨_, rfl⟩
      have hb3 := osz_le o l
      rw [← hos] at hb3
      have HOS := Lib.hid (show os = if anyO o l = true then oszL o l else 0 from hos)
      have HB : Hid (manyB S f o l = (if f then pk o os else []) ++ (revB (fun x => pk x.2.1 os) l 0 ++ (revB (fun x => pk (dlt S x.2.2) (tszL S l)) l 0 ++ (revB (fun x => [x.1]) l 0 ++ ([16 * (tszL S l : Int) + os] ++ (cntB l.length ++ [(numB l.length : Int) + if f then 64 else 0])))))) :=
        Lib.hid (by rw [hos]; simp only [manyB, revB_zero, map_flat])
      clear hos
      generalize tszL S l = T at *
      generalize oszL o l = O at *
      generalize anyO o l = b at *
      have L2 := revB_len (fun x => pk x.2.1 os) 8 (fun x => by rw [pk_len]; exact hb3) l
      have L3 := revB_len (fun x => pk (dlt S x.2.2) T) 8 (fun x => by rw [pk_len]; exact hb1) l
      have L4 := revB_len (fun x : Arc => [x.1]) 8 (fun x => by simp) l
      have LA : (if f then pk o os else []).length ≤ 8 := by split <;> simp [pk_len]; exact hb3
      obtain ⟨A, hA⟩ : ∃ A, A = (if f then pk o os else []) := ⟨_, rfl⟩
      rw [← hA] at HB LA
      have HAA := Lib.hid hA
      have HL := Lib.hid (And.intro L2 (And.intro L3 (And.intro L4 LA)))
      clear L2 L3 L4 LA hA
      go_upto_if 95 with (fail)
      go_cut [8] (fun s8 wx => s8 = .int .i64 os ∧ W = wx)
      case first =>
        cases b
        all_goals as_aux_lemma =>
          have h9 := HOS.out
          simp at h9
          subst h9
          go_wp2
          go_meet
          case rel => exact ⟨rfl, rfl⟩
      case rest =>
        obtain ⟨rfl, rfl⟩ := hcut
        go_upto_if 96 with (fail)
        go_cut [] (fun wx => Hid (Go_ x ⟨eb, nb, f, o, a, c, l⟩ W rv (out ++ (A ++ revB (fun x => pk x.2.1 os) l 0)) wx))
        case first => as_aux_lemma =>
          cases b
          · have h9 := HOS.out
            simp at h9
            subst h9
            have hA0 : A = [] := by rw [HAA.out]; split <;> rfl
            have hR0 : revB (fun x => pk x.2.1 0) l 0 = [] := by simp [revB, pk]
            have HX := Lib.hid (show out ++ (A ++ revB (fun x => pk x.2.1 0) l 0) = out by rw [hA0, hR0]; simp)
            clear hA0 hR0
            go_wp2
            go_meet
            case rel => exact Lib.hid (by rw [HX.out]; exact ⟨rv, H.out, Ev.refl _ _ _⟩)
          · go_upto_if 100 with (fail)
            go_cut [] (fun wx => Hid (Go_ x ⟨eb, nb, f, o, a, c, l⟩ W rv (out ++ A) wx))
            case first => as_aux_lemma =>
              cases f
              · have HX := Lib.hid (show out ++ A = out by rw [HAA.out]; simp)
                go_wp2
                go_meet
                case rel => exact Lib.hid (by rw [HX.out]; exact ⟨rv, H.out, Ev.refl _ _ _⟩)
              · have HX := Lib.hid (show A = pk o os by rw [HAA.out]; simp)
                have CW := wpk_any (H.out.drewN 1).en o os hb3 ho.1 ho.2 (by have := HS.out; omega)
                rw [← HX.out] at CW
                have CW := Lib.hid CW
                go_wp2
                refine wp_region_still_tail 9 (by kernel_rfl) (by kernel_rfl) ?_
                simp only [List.take_succ_cons, List.take_zero, List.drop_succ_cons, List.drop_zero]
                change wpStill _ _ (World.drew _) _ _ _
                repeat still_step
                refine wpStill_nil ?_
                change wpList _ _ _ _ _ (World.drew _)
                go_wp2_with fail
                refine CW.out.mono ?_
                rintro e w1 ⟨rv1, rfl, hE1, hV1⟩
                have HC1 : Hid (Go_ x ⟨eb, nb, true, o, a, c, l⟩ W rv (out ++ A) w1) := Lib.hid ⟨rv1, H.out.go hE1 ((Ev.refl_fr ((Fr.refl _ W).drewN 1)).trans hV1), (Ev.refl_fr ((Fr.refl _ W).drewN 1)).trans hV1⟩
                clear hE1 hV1 CW
                go_wp2
                go_meet
                case rel => exact HC1
            case rest =>
              have HG0 : Hid (Go_ x ⟨eb, nb, f, o, a, c, l⟩ W rv (out ++ (A ++ revB (fun x => pk x.2.1 os) l l.length)) wc) := Lib.hid (by rw [revB_end, List.append_nil]; exact hcut.out)
              obtain ⟨rv1, HC1, HV1⟩ := hcut.out
              obtain ⟨-, -, -, gn1, -⟩ := HC1.cells
              simp only at gn1
              clear hcut HC1 HV1 hE hk hn0 hn1 hn2
              go_wp2
              go_loopw [15] (fun s15 wr => ∃ m : Nat, m ≤ l.length ∧ s15 = .int .i64 ((m : Int) - 1) ∧ Hid (Go_ x ⟨eb, nb, f, o, a, c, l⟩ W rv (out ++ (A ++ revB (fun x => pk x.2.1 os) l m)) wr)) (fun s _ => (intOf s + 1).toNat)
              case atStart => exact ⟨l.length, Nat.le_refl _, rfl, HG0⟩
              case round => as_aux_lemma =>
                obtain ⟨m, hm, rfl, HG⟩ := hrel
                clear gn1
                rcases Nat.eq_zero_or_pos m with h0 | h0
                · subst h0
                  go_wp2
                  go_meet
                  case rel => exact HG
                · obtain ⟨m', rfl⟩ : ∃ m', m = m' + 1 := ⟨m - 1, by omega⟩
                  obtain ⟨rv1, HC1, HV1⟩ := HG.out
                  obtain ⟨ad, had, a0, a1, a2⟩ := HC1.arc m' (by simp only; omega)
                  obtain ⟨gE, -, -, gn1, -⟩ := HC1.cells
                  simp only at had a0 a1 a2 gE gn1
                  obtain ⟨⟨h1, h2⟩, ⟨h3, h4⟩, h5, h6⟩ := HA.out _ (List.getElem_mem (show m' < l.length by omega))
                  have hst := revB_step (fun x => pk x.2.1 os) l m' (by omega)
                  generalize l[m'] = y at *
                  obtain ⟨yi, yo, ya⟩ := y
                  simp only at a0 a1 a2 h3 h4 hst
                  have hb := HL.out.1 (m' + 1)
                  have CW := wpk_any (HC1.drewN 1).en yo os hb3 h3 h4 (by have := HS.out; have := HL.out.2.2.2; simp only [List.length_append]; omega)
                  rw [List.append_assoc, List.append_assoc, ← hst] at CW
                  have CW := Lib.hid CW
                  have HC := Lib.hid (And.intro HC1 HV1)
                  rw [had] at gn1
                  have e : (((m' + 1 : Nat) : Int) - 1) = (m' : Int) := by omega
                  have hml : (m' : Int) < (l.length : Int) := by omega
                  rw [e]
                  clear HC1 HV1 HG hst had a1 a2 e hb HG0
                  go_wp2
                  refine wp_region_still_tail 13 (by kernel_rfl) (by kernel_rfl) ?_
                  simp only [List.take_succ_cons, List.take_zero, List.drop_succ_cons, List.drop_zero]
                  change wpStill _ _ (World.drew _) _ _ _
                  repeat still_step
                  refine wpStill_nil ?_
                  change wpList _ _ _ _ _ (World.drew _)
                  go_wp2_with fail
                  refine CW.out.mono ?_
                  rintro e w1 ⟨rv2, rfl, hE1, hV1⟩
                  have hV2 := (Ev.refl_fr ((Fr.refl (Own x rv1) wr).drewN 1)).trans hV1
                  have HG2 : Hid (Go_ x ⟨eb, nb, f, o, a, c, l⟩ W rv (out ++ (A ++ revB (fun x => pk x.2.1 os) l m')) w1) := Lib.hid ⟨rv2, HC.out.1.go hE1 hV2, HC.out.2.trans hV2⟩
                  clear hE1 hV1 hV2 CW
                  go_wp2
                  go_roundw
                  case rel => exact ⟨m', by omega, rfl, HG2⟩
                  case measure => simp [intOf]
        case rest =>
          obtain ⟨rv1, HC1, HV1⟩ := hcut.out
          have HC := Lib.hid (⟨HC1, HV1⟩ : Cx x ⟨eb, nb, f, o, a, c, l⟩ wc rv1 _ ∧ Ev x W rv wc rv1)
          clear HC1 HV1
          obtain ⟨-, -, -, gn1, -⟩ := HC.out.1.cells
          simp only at gn1
          have HG0 : Hid (Go_ x ⟨eb, nb, f, o, a, c, l⟩ W rv (out ++ (A ++ (revB (fun x => pk x.2.1 os) l 0 ++ revB (fun x => pk (dlt S x.2.2) T) l l.length))) wc) := Lib.hid (by rw [revB_end, List.append_nil]; exact hcut.out)
          clear hE hk hn0 hn1 hn2 HC hcut
          go_wp2
          go_loopw [17] (fun s17 wr => ∃ m : Nat, m ≤ l.length ∧ s17 = .int .i64 ((m : Int) - 1) ∧ Hid (Go_ x ⟨eb, nb, f, o, a, c, l⟩ W rv (out ++ (A ++ (revB (fun x => pk x.2.1 os) l 0 ++ revB (fun x => pk (dlt S x.2.2) T) l m))) wr)) (fun s _ => (intOf s + 1).toNat)
          case atStart => exact ⟨l.length, Nat.le_refl _, rfl, HG0⟩
          case round =>
            obtain ⟨m, hm, rfl, HG⟩ := hrel
            clear gn1 HG0
            rcases Nat.eq_zero_or_pos m with h0 | h0
            · subst h0
              rw [show (((0 : Nat) : Int) - 1) = -1 from rfl]
              obtain ⟨rv1, HC1, HV1⟩ := HG.out
              obtain ⟨-, -, -, gn1, -⟩ := HC1.cells
              simp only at gn1
              have HG0 : Hid (Go_ x ⟨eb, nb, f, o, a, c, l⟩ W rv (out ++ (A ++ (revB (fun x => pk x.2.1 os) l 0 ++ (revB (fun x => pk (dlt S x.2.2) T) l 0 ++ revB (fun x => [x.1]) l l.length)))) wr) := Lib.hid (by rw [revB_end, List.append_nil]; exact HG.out)
              clear HC1 HV1 HG
              go_wp2
              go_loopw [20] (fun s20 wr => ∃ m : Nat, m ≤ l.length ∧ s20 = .int .i64 ((m : Int) - 1) ∧ Hid (Go_ x ⟨eb, nb, f, o, a, c, l⟩ W rv (out ++ (A ++ (revB (fun x => pk x.2.1 os) l 0 ++ (revB (fun x => pk (dlt S x.2.2) T) l 0 ++ revB (fun x => [x.1]) l m)))) wr)) (fun s _ => (intOf s + 1).toNat)
              case atStart => exact ⟨l.length, Nat.le_refl _, rfl, HG0⟩
              case round =>
                obtain ⟨m, hm, rfl, HG⟩ := hrel
                clear gn1 HG0
                rcases Nat.eq_zero_or_pos m with h0 | h0
                · subst h0
                  rw [show (((0 : Nat) : Int) - 1) = -1 from rfl]
                  have HF := Lib.hid (tail_fin (f := f) (n := l.length) HB.out HS.out (by omega) HL.out.2.2.2 (Nat.le_trans (HL.out.1 0) (Nat.mul_le_mul_right 8 hl)) (Nat.le_trans (HL.out.2.1 0) (Nat.mul_le_mul_right 8 hl)) (Nat.le_trans (HL.out.2.2.1 0) (Nat.mul_le_mul_right 8 hl)))
                  generalize (revB (fun x => pk x.2.1 os) l 0 ++ (revB (fun x => pk (dlt S x.2.2) T) l 0 ++ revB (fun x => [x.1]) l 0)) = BB at *
                  obtain ⟨rv1, HC1, HV1⟩ := HG.out
                  obtain ⟨gE, -, -, -, -⟩ := HC1.cells
                  simp only at gE
                  have CS := Lib.hid (eps_any T os hb1 hb3)
                  have CN := Lib.hid (ent_any l.length hl)
                  have CW := Lib.hid (wwb_any HC1.en (16 * (T : Int) + os) HF.out.1)
                  have HC := Lib.hid (And.intro HC1 HV1)
                  clear HC1 HV1 HG
                  go_wp2_with (first | (go_at_call 45; refine (CS.out _).mono ?_; rintro e w9 ⟨rfl, rfl⟩) | fail)
                  refine CW.out.mono ?_
                  rintro e w1 ⟨rv2, rfl, hE1, hV1⟩
                  have HC2 := Lib.hid (And.intro (HC.out.1.go hE1 hV1) (HC.out.2.trans hV1))
                  obtain ⟨gE, -, -, gn1, -⟩ := HC2.out.1.cells
                  simp only at gE gn1
                  clear hE1 hV1 CW HC
                  go_upto_if 217 with (first | (go_at_call 46; refine (CN.out _).mono ?_; rintro e w9 ⟨rfl, rfl⟩) | fail)
                  go_cut [] (fun wx => Hid (Go_ x ⟨eb, nb, f, o, a, c, l⟩ W rv (out ++ (A ++ BB) ++ [16 * (T : Int) + os] ++ cntB l.length) wx))
                  case first => as_aux_lemma =>
                    have hlf := HF.out.2.1
                    by_cases hz : numB l.length = 0
                    · have hzb : (((numB l.length : Nat) : Int) == 0) = true := by rw [beq_iff_eq]; omega
                      by_cases h256 : l.length = 256
                      · have h2b : ((l.length : Int) == 256) = true := by rw [beq_iff_eq]; omega
                        have CX := wwb_any HC2.out.1.en 1 hlf
                        have e1 : cntB l.length = [1] := by unfold cntB; rw [if_pos hz, if_pos h256]
                        rw [← e1] at CX
                        have CX := Lib.hid CX
                        clear hz e1 hlf h256
                        generalize numB l.length = nq at *
                        go_wp2_with fail
                        refine CX.out.mono ?_
                        rintro e w2 ⟨rv3, rfl, hE2, hV2⟩
                        have HC3 : Hid (Go_ x ⟨eb, nb, f, o, a, c, l⟩ W rv _ w2) := Lib.hid ⟨rv3, HC2.out.1.go hE2 hV2, HC2.out.2.trans hV2⟩
                        clear hE2 hV2 CX
                        go_wp2
                        go_meet
                        case rel => exact HC3
                      · have h2b : ((l.length : Int) == 256) = false := by rw [beq_eq_false_iff_ne]; omega
                        have CX := wwb_any (HC2.out.1.drewN 1).en l.length hlf
                        have e1 : cntB l.length = [(l.length : Int)] := by unfold cntB; rw [if_pos hz, if_neg h256]
                        rw [← e1] at CX
                        have CX := Lib.hid CX
                        have h255 : (l.length : Int) ≤ 255 := by omega
                        clear hz e1 hlf h256
                        generalize numB l.length = nq at *
                        go_wp2
                        refine wp_region_still_tail 10 (by kernel_rfl) (by kernel_rfl) ?_
                        simp only [List.take_succ_cons, List.take_zero, List.drop_succ_cons, List.drop_zero]
                        change wpStill _ _ (World.drew _) _ _ _
                        repeat still_step
                        refine wpStill_nil ?_
                        change wpList _ _ _ _ _ (World.drew _)
                        go_wp2_with fail
                        refine CX.out.mono ?_
                        rintro e w2 ⟨rv3, rfl, hE2, hV2⟩
                        have hV3 := (Ev.refl_fr ((Fr.refl (Own x rv2) w1).drewN 1)).trans hV2
                        have HC3 : Hid (Go_ x ⟨eb, nb, f, o, a, c, l⟩ W rv _ w2) := Lib.hid ⟨rv3, HC2.out.1.go hE2 hV3, HC2.out.2.trans hV3⟩
                        clear hE2 hV2 hV3 CX
                        go_wp2
                        go_meet
                        case rel => exact HC3
                    · have hzb : (((numB l.length : Nat) : Int) == 0) = false := by rw [beq_eq_false_iff_ne]; omega
                      have e1 : cntB l.length = [] := by unfold cntB; rw [if_neg hz]
                      have HC3 : Hid (Go_ x ⟨eb, nb, f, o, a, c, l⟩ W rv (out ++ (A ++ BB) ++ [16 * (T : Int) + os] ++ cntB l.length) w1) := Lib.hid (by rw [e1, List.append_nil]; exact ⟨rv2, HC2.out⟩)
                      clear hz e1 hlf
                      generalize numB l.length = nq at *
                      go_wp2
                      go_meet
                      case rel => exact HC3
                  case rest => as_aux_lemma =>
                    obtain ⟨rv3, HC1, HV1⟩ := hcut.out
                    have HC := Lib.hid (And.intro HC1 HV1)
                    obtain ⟨gE, -, gn0, gn1, gn2⟩ := HC1.cells
                    simp only at gE gn2
                    have hor : bits .or .u8 (numB l.length) 64 = (numB l.length : Int) + 64 := nB_or ⟨numB l.length, by have := numB_le l.length; omega⟩
                    obtain ⟨Q, hQ⟩ : ∃ Q, Q = (out ++ manyB S f o l).length := ⟨_, rfl⟩
                    have hQb : 1 ≤ Q ∧ Q ≤ 1000000000 := by rw [hQ]; exact HF.out.2.2.2.2
                    have CX := wwb_any HC1.en ((numB l.length : Int) + if f then 64 else 0) HF.out.2.2.1
                    rw [HF.out.2.2.2.1] at CX
                    have HQ := Lib.hid hQ
                    clear HC1 HV1 gn0 gn1 hcut hQ
                    cases f
                    rotate_left
                    · have hx : ((numB l.length : Int) + if (true : Bool) = true then 64 else 0) = (numB l.length : Int) + 64 := by simp
                      rw [hx] at CX
                      have CX := Lib.hid CX
                      clear hx
                      go_wp2_with fail
                      refine CX.out.mono ?_
                      rintro e w2 ⟨rv4, rfl, hE2, hV2⟩
                      have HC3 := Lib.hid (And.intro (HC.out.1.go hE2 hV2) (HC.out.2.trans hV2))
                      obtain ⟨fE, fk, -, -, -⟩ := HC3.out.1.cells
                      simp only at fE
                      rw [← HQ.out] at fk
                      clear hE2 hV2 CX
                      go_wp2
                      go_ret2
                      exact ⟨rv4, by rw [← HQ.out]; rfl, HC3.out.1, HC3.out.2⟩
                    · have hx : ((numB l.length : Int) + if (false : Bool) = true then 64 else 0) = (numB l.length : Int) := by simp
                      rw [hx] at CX
                      have CX := Lib.hid CX
                      clear hx
                      go_wp2_with fail
                      refine CX.out.mono ?_
                      rintro e w2 ⟨rv4, rfl, hE2, hV2⟩
                      have HC3 := Lib.hid (And.intro (HC.out.1.go hE2 hV2) (HC.out.2.trans hV2))
                      obtain ⟨fE, fk, -, -, -⟩ := HC3.out.1.cells
                      simp only at fE
                      rw [← HQ.out] at fk
                      clear hE2 hV2 CX
                      go_wp2
                      go_ret2
                      exact ⟨rv4, by rw [← HQ.out]; rfl, HC3.out.1, HC3.out.2⟩
                · as_aux_lemma =>
                  obtain ⟨m', rfl⟩ : ∃ m', m = m' + 1 := ⟨m - 1, by omega⟩
                  obtain ⟨rv1, HC1, HV1⟩ := HG.out
                  obtain ⟨ad, had, a0, a1, a2⟩ := HC1.arc m' (by simp only; omega)
                  obtain ⟨gE, -, -, gn1, -⟩ := HC1.cells
                  simp only at had a0 a1 a2 gE gn1
                  obtain ⟨⟨h1, h2⟩, ⟨h3, h4⟩, h5, h6⟩ := HA.out _ (List.getElem_mem (show m' < l.length by omega))
                  have hst := revB_step (fun x => [x.1]) l m' (by omega)
                  generalize l[m'] = y at *
                  obtain ⟨yi, yo, ya⟩ := y
                  simp only at a0 a1 a2 hst
                  have hb := HL.out.1 0
                  have hb2 := HL.out.2.1 0
                  have hb4 := HL.out.2.2.1 (m' + 1)
                  have CW := wwb_any (HC1.drewN 1).en yi (by have := HS.out; have := HL.out.2.2.2; simp only [List.length_append]; omega)
                  rw [List.append_assoc, List.append_assoc, List.append_assoc, List.append_assoc, ← hst] at CW
                  have CW := Lib.hid CW
                  have HC := Lib.hid (And.intro HC1 HV1)
                  rw [had] at gn1
                  have e : (((m' + 1 : Nat) : Int) - 1) = (m' : Int) := by omega
                  have hml : (m' : Int) < (l.length : Int) := by omega
                  rw [e]
                  clear HC1 HV1 HG hst had a0 a1 e hb hb2 hb4
                  go_wp2
                  refine wp_region_still_tail 12 (by kernel_rfl) (by kernel_rfl) ?_
                  simp only [List.take_succ_cons, List.take_zero, List.drop_succ_cons, List.drop_zero]
                  change wpStill _ _ (World.drew _) _ _ _
                  repeat still_step
                  refine wpStill_nil ?_
                  change wpList _ _ _ _ _ (World.drew _)
                  go_wp2_with fail
                  refine CW.out.mono ?_
                  rintro e w1 ⟨rv2, rfl, hE1, hV1⟩
                  have hV2 := (Ev.refl_fr ((Fr.refl (Own x rv1) wr).drewN 1)).trans hV1
                  have HG2 : Hid (Go_ x ⟨eb, nb, f, o, a, c, l⟩ W rv (out ++ (A ++ (revB (fun x => pk x.2.1 os) l 0 ++ (revB (fun x => pk (dlt S x.2.2) T) l 0 ++ revB (fun x => [x.1]) l m')))) w1) := Lib.hid ⟨rv2, HC.out.1.go hE1 hV2, HC.out.2.trans hV2⟩
                  clear hE1 hV1 hV2 CW
                  go_wp2
                  go_roundw
                  case rel => exact ⟨m', by omega, rfl, HG2⟩
                  case measure => simp [intOf]
            · as_aux_lemma =>
              obtain ⟨m', rfl⟩ : ∃ m', m = m' + 1 := ⟨m - 1, by omega⟩
              obtain ⟨rv1, HC1, HV1⟩ := HG.out
              obtain ⟨ad, had, a0, a1, a2⟩ := HC1.arc m' (by simp only; omega)
              obtain ⟨gE, -, -, gn1, -⟩ := HC1.cells
              simp only at had a0 a1 a2 gE gn1
              obtain ⟨⟨h1, h2⟩, ⟨h3, h4⟩, h5, h6⟩ := HA.out _ (List.getElem_mem (show m' < l.length by omega))
              have hst := revB_step (fun x => pk (dlt S x.2.2) T) l m' (by omega)
              generalize l[m'] = y at *
              obtain ⟨yi, yo, ya⟩ := y
              simp only at a0 a1 a2 h5 h6 hst
              have hb := HL.out.1 0
              have hb2 := HL.out.2.1 (m' + 1)
              have CD := Lib.hid (dlt_any S ya h5 h6 (by omega))
              have hd0 : 0 ≤ dlt S ya ∧ dlt S ya ≤ 10000000 := by unfold dlt; split <;> omega
              generalize dlt S ya = D at *
              have CW := wpk_any HC1.en D T hb1 hd0.1 (by omega) (by have := HS.out; have := HL.out.2.2.2; simp only [List.length_append]; omega)
              rw [List.append_assoc, List.append_assoc, List.append_assoc, ← hst] at CW
              have CW := Lib.hid CW
              have HC := Lib.hid (And.intro HC1 HV1)
              rw [had] at gn1
              have e : (((m' + 1 : Nat) : Int) - 1) = (m' : Int) := by omega
              have hml : (m' : Int) < (l.length : Int) := by omega
              rw [e]
              clear HC1 HV1 HG hst had a0 a2 e hb hb2
              go_wp2_with (first | (go_at_call 42; refine (CD.out _).mono ?_; rintro e w9 ⟨rfl, rfl⟩) | fail)
              refine CW.out.mono ?_
              rintro e w1 ⟨rv2, rfl, hE1, hV1⟩
              have HG2 : Hid (Go_ x ⟨eb, nb, f, o, a, c, l⟩ W rv (out ++ (A ++ (revB (fun x => pk x.2.1 os) l 0 ++ revB (fun x => pk (dlt S x.2.2) T) l m'))) w1) := Lib.hid ⟨rv2, HC.out.1.go hE1 hV1, HC.out.2.trans hV1⟩
              clear hE1 hV1 CW
              go_wp2
              go_roundw
              case rel => exact ⟨m', by omega, rfl, HG2⟩
              case measure => simp [intOf]

end Go.Proofs.YtjonmfaeonldcaaDoor.fnStateFor
