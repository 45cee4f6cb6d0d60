/-
  Regular expressions: the compiler: an expression again and again, with a most. Conditions: as stated.
-/
import Derived.Test.YtbkpgfccghombaaDoorM04
import Derived.Test.YtbkpgfccghombaaDoorM05
namespace Go.Proofs.YtbkpgfccghombaaDoor.rx
open Go.ChangeShapes Go.WideShapes Go.ChangeAt Go.RowKit
set_option linter.unusedVariables false

section
variable {w : World} {B n : Nat} {eT : Value} {T : TypeId} {X : Value} {K : Ks} {code : List Ins}
theorem Jr.low {b b' : Nat} {v : Value} {js : List Nat} (h : Jr w b v js) (hb : b' ≤ b) : Jr w b' v js := by
  rcases h with ⟨h1, h2 | ⟨g, cap, cur, e, hg, h3⟩⟩
  · exact ⟨h1, .inl h2⟩
  · exact ⟨h1, .inr ⟨g, cap, cur, e, Nat.le_trans hb hg, h3⟩⟩
theorem Jr.kept {b : Nat} {v v2 : Value} {js : List Nat} {w' : World} (h : Jr w b v2 js) (hg : w.grownBy w' v.ownBlock) (ha : Apart v2 v) : Jr w' b v2 js := World.ownsRow.kept h hg ha.kept
set_option maxRecDepth 100000 in
set_option maxHeartbeats 12800000 in
theorem c_repX {m d : Nat} (IH : CompOk B (.iface T X) m d) (h : Cs w B (.iface T X) K code code.length) (p : Addr) (s : Rx) (rs : List Int) (mn u : Nat) (hN : Nd w K.O (d + 1) (.nd 17 rs mn ((mn + u : Nat) : Int) [s]) p) (hw : wf m d s) (hmn : mn ≤ 1000) (hu : u ≤ 1000) (hn : (code ++ repC (comp d) code.length s mn ((mn + u : Nat) : Int)).length ≤ 900000000000) (hl : K.lim ≤ 1000000000000) :
    Calls Tryd.prog 56 #[.pointer (some ⟨K.C, 0, none⟩), .pointer (some p)] w (Done w B (.iface T X) K code (repC (comp d) code.length s mn ((mn + u : Nat) : Int)) (catF (comp d) (fits K.lim d) code.length (List.replicate mn s) ∧ optF (comp d) (fits K.lim d) (code.length + (catC (comp d) code.length (List.replicate mn s)).length) s u ∧ (code.length + (repC (comp d) code.length s mn ((mn + u : Nat) : Int)).length) * 40 ≤ K.lim)) := by
  obtain ⟨ra, rc, ad, sc, s0, r0, r1, q, hH, hq, hadl, hadO, hS⟩ := one_sub hN
  have e1 : repC (comp d) code.length s mn ((mn + u : Nat) : Int) = catC (comp d) code.length (List.replicate mn s) ++ optE (comp d) (code.length + (catC (comp d) code.length (List.replicate mn s)).length) s u := by
    have h1 : ¬ (((mn + u : Nat) : Int) < 0) := by omega
    have h2 : (((mn + u : Nat) : Int) - (mn : Int)).toNat = u := by omega
    unfold repC
    rw [if_neg h1, h2, Int.toNat_natCast]
  have hm1 : (((mn + u : Nat) : Int) == -1) = false := by simp; omega
  obtain ⟨mx, hmx⟩ : ∃ mx, mx = mn + u := ⟨_, rfl⟩
  rw [← hmx] at hN hm1 hn e1 hH ⊢
  have HMX := Lib.hid hmx
  have hmx2 : mx ≤ 2000 := by omega
  have hmx3 : mn ≤ mx := by omega
  clear hmx
  rw [e1] at hn ⊢
  have HN := Lib.hid hn
  have H := Lib.hid h
  have HS := Lib.hid hS
  have HH := Lib.hid hH
  have HQ := Lib.hid (show CellO w K.O ad (.pointer (some q)) from ⟨hadl, hadO, hq⟩)
  have IH := Lib.hid IH
  obtain ⟨-, -, c0, c1, c2, -, -, -, -, -, c8, -⟩ := hH
  clear h hS hn hN hq hadl hadO e1
  obtain ⟨ss, hss⟩ : ∃ ss, ss = List.replicate mn s := ⟨_, rfl⟩
  have hsl : Hid (ss.length = mn ∧ ∀ i (h : i < ss.length), ss[i] = s) := Lib.hid (by subst hss; simp)
  rw [← hss] at HN ⊢
  clear hss
  go_enter Tryd.func56, Tryd.ntmps56
  go_wp2_with fail
  clear c0 c1 c2 c8
  go_loopw [44, 45] (fun v8 _ wr => ∃ (i : Nat) (K1 : Ks) (cd : List Ins), i ≤ mn ∧ v8 = .int .i64 i ∧ Hid (cd = code ++ catC (comp d) code.length (ss.take i) ∧ Cs wr B (.iface T X) K1 cd cd.length ∧ Ev K w wr K1 ∧ catF (comp d) (fits K.lim d) code.length (ss.take i))) (fun v8 _ _ => mn - (intOf v8).toNat)
  case atStart => exact ⟨0, K, code, by omega, rfl, Lib.hid ⟨by simp [catC], H.out, Ev.refl K w, by simp [catF]⟩⟩
  case round =>
    obtain ⟨i, K1, cd, hi, rfl, H1⟩ := hrel
    have hc1 : K1.C = K.C := H1.out.2.2.1.c
    have HH1 := HH.out.go H1.out.2.2.1.fr H1.out.2.2.1.o
    have c7 := HH1.c7
    have c2 := HH1.c2
    have hq := (HQ.out.go H1.out.2.2.1.fr H1.out.2.2.1.o).2.2
    by_cases hlt : i < mn
    · have hli : i < ss.length := by rw [hsl.out.1]; exact hlt
      have HST := Lib.hid (cat_step (comp d) (fits K.lim d) ss code.length i hli)
      rw [hsl.out.2 i hli] at HST
      have e1 : code.length + (catC (comp d) code.length (ss.take i)).length = cd.length := by rw [H1.out.1]; simp
      rw [e1] at HST
      have CC := IH.out wr K1 cd s q H1.out.2.1 (HS.out.ev H1.out.2.2.1) hw (by
        have h1 := HST.out.2.2.2
        have h2 := HN.out
        simp only [List.length_append] at h2 ⊢
        omega) (by rw [H1.out.2.2.1.l]; exact hl)
      rw [hc1] at CC
      have CC := Lib.hid CC
      clear e1 HH1
      go_upto_region 123 with (first | (go_at_call 56; refine CC.out.mono ?_; rintro e w5 h5; rcases h5 with ⟨hok, K5, rfl, h5, e5⟩ | ⟨hok, rfl, hb⟩) | fail)
      · have HR : Hid (cd ++ comp d cd.length s = code ++ catC (comp d) code.length (ss.take (i + 1)) ∧ Cs w5 B (.iface T X) K5 (cd ++ comp d cd.length s) (cd ++ comp d cd.length s).length ∧ Ev K w w5 K5 ∧ catF (comp d) (fits K.lim d) code.length (ss.take (i + 1))) := Lib.hid ⟨by rw [HST.out.1, ← List.append_assoc, ← H1.out.1], h5, H1.out.2.2.1.trans e5, HST.out.2.1.2 ⟨H1.out.2.2.2, by rw [H1.out.2.2.1.l] at hok; exact hok⟩⟩
        clear hok h5 e5 CC hq c2 c7
        go_wp2
        go_roundw
        case rel => exact ⟨i + 1, K5, _, by omega, by go_num, HR⟩
        case measure => simp [intOf]; omega
      · have HF : Hid (¬ (catF (comp d) (fits K.lim d) code.length ss ∧ optF (comp d) (fits K.lim d) (code.length + (catC (comp d) code.length ss).length) s u ∧ (code.length + (catC (comp d) code.length ss ++ optE (comp d) (code.length + (catC (comp d) code.length ss).length) s u).length) * 40 ≤ K.lim) ∧ Below B w w5) := Lib.hid ⟨fun h => hok (by rw [H1.out.2.2.1.l]; exact HST.out.2.2.1 h.1), (H1.out.2.2.1.below H.out).trans hb⟩
        clear hok hb CC hq c2 c7
        go_wp2
        go_returns
        exact .inr ⟨HF.out.1, rfl, HF.out.2⟩
    · obtain rfl : i = mn := by omega
      have c8 := HH1.c8
      have hbl : p.block < wr.heap.size := HH1.bl
      have hu2 : ((mx : Int) - (i : Int)) = (u : Int) := by have := HMX.out; omega
      have hwu : IntKind.i64.wrap ((mx : Int) - (i : Int)) = (u : Int) := by rw [IntKind.wrap_i64]; omega
      have hw64 : wrap64 ((mx : Int) - (i : Int)) = (u : Int) := by rw [hu2]; unfold wrap64; omega
      clear hu2
      have hmk := fun w => run_jumps u (by omega) w
      clear HH1
      go_wp2_with fail
      refine wp_region_ks (fun W => W.cell? ⟨p.block, p.off + 7, none⟩ = some (.int .i64 i) ∧ W.cell? ⟨p.block, p.off + 8, none⟩ = some (.int .i64 mx)) [9] (by kernel_rfl) ?_
      simp only [List.size_toArray, List.length_cons, List.length_nil, Nat.reduceAdd]
      refine ks_pure (i := 0) (oi := ?oi0) (v := ?v0) ?hi0 (by kernel_rfl) (by kernel_rfl) (by kernel_rfl) ?hQ0 ?hy0 ?rest0
      case hi0 =>
        simp only [List.getElem?_toArray, List.getElem?_cons_zero]
        rfl
      case hQ0 => exact fun _ _ _ h => h
      case hy0 =>
        refine yields_if (by rfl) (fun W hW => ?_)
        try dsimp only at hW
        go_simp
        first | done | with_reducible rfl
      simp only [Act.put, List.setIfInBounds_toArray, List.set_cons_zero, List.set_cons_succ]
      refine ks_pure (i := 1) (oi := ?oi1) (v := ?v1) ?hi1 (by kernel_rfl) (by kernel_rfl) (by kernel_rfl) ?hQ1 ?hy1 ?rest1
      case hi1 =>
        simp only [List.getElem?_toArray, List.getElem?_cons_succ, List.getElem?_cons_zero]
        rfl
      case hQ1 => exact fun _ _ _ h => h
      case hy1 =>
        refine yields_if (by rfl) (fun W hW => ?_)
        try dsimp only at hW
        go_simp
        first | done | with_reducible rfl
      simp only [Act.put, List.setIfInBounds_toArray, List.set_cons_zero, List.set_cons_succ]
      refine ks_pure (i := 2) (oi := ?oi2) (v := ?v2) ?hi2 (by kernel_rfl) (by kernel_rfl) (by kernel_rfl) ?hQ2 ?hy2 ?rest2
      case hi2 =>
        simp only [List.getElem?_toArray, List.getElem?_cons_succ, List.getElem?_cons_zero]
        rfl
      case hQ2 => exact fun _ _ _ h => h
      case hy2 =>
        refine yields_if (by rfl) (fun W hW => ?_)
        try dsimp only at hW
        go_simp
        first | done | with_reducible rfl
      simp only [Act.put, List.setIfInBounds_toArray, List.set_cons_zero, List.set_cons_succ]
      refine ks_via [8] (i := 3) (oi := ?oi3) (v := ?v3) ?hi3 (by kernel_rfl) (by kernel_rfl) (by kernel_rfl) (by kernel_rfl) (by kernel_rfl) ?hQ3 ?hS3 ?hy3 ?rest3
      case hi3 =>
        simp only [List.getElem?_toArray, List.getElem?_cons_succ, List.getElem?_cons_zero]
        rfl
      case hQ3 => exact fun _ _ _ h => h
      case hS3 => exact ⟨c7, c8⟩
      case hy3 =>
        refine yields_if (by rfl) (fun W hW => ?_)
        obtain ⟨hW1, hW2⟩ := hW
        go_simp
        first | done | with_reducible rfl
      simp only [Act.put, List.setIfInBounds_toArray, List.set_cons_zero, List.set_cons_succ]
      refine ks_pure (i := 4) (oi := ?oi4) (v := ?v4) ?hi4 (by kernel_rfl) (by kernel_rfl) (by kernel_rfl) ?hQ4 ?hy4 ?rest4
      case hi4 =>
        simp only [List.getElem?_toArray, List.getElem?_cons_succ, List.getElem?_cons_zero]
        rfl
      case hQ4 => exact fun _ _ _ h => h
      case hy4 =>
        refine yields_if (by rfl) (fun W hW => ?_)
        try dsimp only at hW
        go_simp
        first | done | with_reducible rfl
      simp only [Act.put, List.setIfInBounds_toArray, List.set_cons_zero, List.set_cons_succ]
      refine ks_pure (i := 5) (oi := ?oi5) (v := ?v5) ?hi5 (by kernel_rfl) (by kernel_rfl) (by kernel_rfl) ?hQ5 ?hy5 ?rest5
      case hi5 =>
        simp only [List.getElem?_toArray, List.getElem?_cons_succ, List.getElem?_cons_zero]
        rfl
      case hQ5 => exact fun _ _ _ h => h
      case hy5 =>
        refine yields_if (by rfl) (fun W hW => ?_)
        try dsimp only at hW
        go_simp
        first | done | with_reducible rfl
      simp only [Act.put, List.setIfInBounds_toArray, List.set_cons_zero, List.set_cons_succ]
      refine ks_pure (i := 6) (oi := ?oi6) (v := ?v6) ?hi6 (by kernel_rfl) (by kernel_rfl) (by kernel_rfl) ?hQ6 ?hy6 ?rest6
      case hi6 =>
        simp only [List.getElem?_toArray, List.getElem?_cons_succ, List.getElem?_cons_zero]
        rfl
      case hQ6 => exact fun _ _ _ h => h
      case hy6 =>
        refine yields_if (by rfl) (fun W hW => ?_)
        try dsimp only at hW
        go_simp
        first | done | with_reducible rfl
      simp only [Act.put, List.setIfInBounds_toArray, List.set_cons_zero, List.set_cons_succ]
      refine ks_via [8] (i := 7) (oi := ?oi7) (v := ?v7) ?hi7 (by kernel_rfl) (by kernel_rfl) (by kernel_rfl) (by kernel_rfl) (by kernel_rfl) ?hQ7 ?hS7 ?hy7 ?rest7
      case hi7 =>
        simp only [List.getElem?_toArray, List.getElem?_cons_succ, List.getElem?_cons_zero]
        rfl
      case hQ7 => exact fun _ _ _ h => h
      case hS7 => exact ⟨c7, c8⟩
      case hy7 =>
        refine yields_if (by rfl) (fun W hW => ?_)
        obtain ⟨hW1, hW2⟩ := hW
        go_simp
        first | done | with_reducible rfl
      simp only [Act.put, List.setIfInBounds_toArray, List.set_cons_zero, List.set_cons_succ]
      refine ks_pure (i := 8) (oi := ?oi8) (v := ?v8) ?hi8 (by kernel_rfl) (by kernel_rfl) (by kernel_rfl) ?hQ8 ?hy8 ?rest8
      case hi8 =>
        simp only [List.getElem?_toArray, List.getElem?_cons_succ, List.getElem?_cons_zero]
        rfl
      case hQ8 => exact fun _ _ _ h => h
      case hy8 =>
        refine yields_if (by rfl) (fun W hW => ?_)
        try dsimp only at hW
        go_simp
        first | done | with_reducible rfl
      simp only [Act.put, List.setIfInBounds_toArray, List.set_cons_zero, List.set_cons_succ]
      refine ks_one (i := 9) (o := ?o9) ?ho9 (by kernel_rfl) (fun K9 hK => ?_)
      case ho9 =>
        simp only [List.getElem?_toArray, List.getElem?_cons_succ, List.getElem?_cons_zero]
        rfl
      go_simp
      try rw [hmk]
      go_simp
      refine hK _ _ (by simp) ?_
      clear hK K9
      try simp only [Act.put, List.setIfInBounds_toArray, List.set_cons_zero, List.set_cons_succ]
      refine ks_pure (i := 10) (oi := ?oi10) (v := ?v10) ?hi10 (by kernel_rfl) (by kernel_rfl) (by kernel_rfl) ?hQ10 ?hy10 ?rest10
      case hi10 =>
        simp only [List.getElem?_toArray, List.getElem?_cons_succ, List.getElem?_cons_zero]
        rfl
      case hQ10 => exact fun _ _ _ h => h
      case hy10 =>
        refine yields_if (by rfl) (fun W hW => ?_)
        try dsimp only at hW
        go_simp
        first | done | with_reducible rfl
      simp only [Act.put, List.setIfInBounds_toArray, List.set_cons_zero, List.set_cons_succ]
      refine ks_done (by kernel_rfl) ?_ _
      simp only [Exit.then]
      rename_i hK1
      refine hK1 _ _ ?_
      clear hK1
      clear c7 c8 c2 hq
      refine name_world ?_
      intro w2 hw2
      have b2 : Below wr.heap.size wr w2 := by rw [hw2]; exact below_drewN ((Below.refl _ _).alloc (Nat.le_refl _) _) 1
      have hs2 : w2.heap.size = wr.heap.size + 1 := by rw [hw2]; show (wr.alloc _).heap.size = _; simp
      have J2 := Lib.hid (show Jr w2 wr.heap.size (.slice (some ⟨wr.heap.size, 0, none⟩) 0 u) [] by rw [hw2]; exact jr_new wr u (by unfold maxLen; omega))
      have C2 := Lib.hid (H1.out.2.1.new b2)
      have E2 := Lib.hid (H1.out.2.2.1.trans (Es.of_below K1 b2).ev)
      have HH2 := HH.out.go E2.out.fr E2.out.o
      have c7 := HH2.c7
      have c8 := HH2.c8
      have hbl2 : p.block < w2.heap.size := HH2.bl
      clear HH2 hw2 b2
      go_wp2_with fail
      refine wp_region_ks (fun W => W.cell? ⟨p.block, p.off + 7, none⟩ = some (.int .i64 i) ∧ W.cell? ⟨p.block, p.off + 8, none⟩ = some (.int .i64 mx)) [9] (by kernel_rfl) ?_
      simp only [List.size_toArray, List.length_cons, List.length_nil, Nat.reduceAdd]
      refine ks_pure (i := 0) (oi := ?oi0c) (v := ?v0c) ?hi0c (by kernel_rfl) (by kernel_rfl) (by kernel_rfl) ?hQ0c ?hy0c ?rest0c
      case hi0c =>
        simp only [List.getElem?_toArray, List.getElem?_cons_zero]
        rfl
      case hQ0c => exact fun _ _ _ h => h
      case hy0c =>
        refine yields_if (by rfl) (fun W hW => ?_)
        try dsimp only at hW
        go_simp
        first | done | with_reducible rfl
      simp only [Act.put, List.setIfInBounds_toArray, List.set_cons_zero, List.set_cons_succ]
      refine ks_pure (i := 1) (oi := ?oi1c) (v := ?v1c) ?hi1c (by kernel_rfl) (by kernel_rfl) (by kernel_rfl) ?hQ1c ?hy1c ?rest1c
      case hi1c =>
        simp only [List.getElem?_toArray, List.getElem?_cons_succ, List.getElem?_cons_zero]
        rfl
      case hQ1c => exact fun _ _ _ h => h
      case hy1c =>
        refine yields_if (by rfl) (fun W hW => ?_)
        try dsimp only at hW
        go_simp
        first | done | with_reducible rfl
      simp only [Act.put, List.setIfInBounds_toArray, List.set_cons_zero, List.set_cons_succ]
      refine ks_pure (i := 2) (oi := ?oi2c) (v := ?v2c) ?hi2c (by kernel_rfl) (by kernel_rfl) (by kernel_rfl) ?hQ2c ?hy2c ?rest2c
      case hi2c =>
        simp only [List.getElem?_toArray, List.getElem?_cons_succ, List.getElem?_cons_zero]
        rfl
      case hQ2c => exact fun _ _ _ h => h
      case hy2c =>
        refine yields_if (by rfl) (fun W hW => ?_)
        try dsimp only at hW
        go_simp
        first | done | with_reducible rfl
      simp only [Act.put, List.setIfInBounds_toArray, List.set_cons_zero, List.set_cons_succ]
      refine ks_via [8] (i := 3) (oi := ?oi3c) (v := ?v3c) ?hi3c (by kernel_rfl) (by kernel_rfl) (by kernel_rfl) (by kernel_rfl) (by kernel_rfl) ?hQ3c ?hS3c ?hy3c ?rest3c
      case hi3c =>
        simp only [List.getElem?_toArray, List.getElem?_cons_succ, List.getElem?_cons_zero]
        rfl
      case hQ3c => exact fun _ _ _ h => h
      case hS3c => exact ⟨c7, c8⟩
      case hy3c =>
        refine yields_if (by rfl) (fun W hW => ?_)
        obtain ⟨hW1, hW2⟩ := hW
        go_simp
        first | done | with_reducible rfl
      simp only [Act.put, List.setIfInBounds_toArray, List.set_cons_zero, List.set_cons_succ]
      refine ks_pure (i := 4) (oi := ?oi4c) (v := ?v4c) ?hi4c (by kernel_rfl) (by kernel_rfl) (by kernel_rfl) ?hQ4c ?hy4c ?rest4c
      case hi4c =>
        simp only [List.getElem?_toArray, List.getElem?_cons_succ, List.getElem?_cons_zero]
        rfl
      case hQ4c => exact fun _ _ _ h => h
      case hy4c =>
        refine yields_if (by rfl) (fun W hW => ?_)
        try dsimp only at hW
        go_simp
        first | done | with_reducible rfl
      simp only [Act.put, List.setIfInBounds_toArray, List.set_cons_zero, List.set_cons_succ]
      refine ks_pure (i := 5) (oi := ?oi5c) (v := ?v5c) ?hi5c (by kernel_rfl) (by kernel_rfl) (by kernel_rfl) ?hQ5c ?hy5c ?rest5c
      case hi5c =>
        simp only [List.getElem?_toArray, List.getElem?_cons_succ, List.getElem?_cons_zero]
        rfl
      case hQ5c => exact fun _ _ _ h => h
      case hy5c =>
        refine yields_if (by rfl) (fun W hW => ?_)
        try dsimp only at hW
        go_simp
        first | done | with_reducible rfl
      simp only [Act.put, List.setIfInBounds_toArray, List.set_cons_zero, List.set_cons_succ]
      refine ks_pure (i := 6) (oi := ?oi6c) (v := ?v6c) ?hi6c (by kernel_rfl) (by kernel_rfl) (by kernel_rfl) ?hQ6c ?hy6c ?rest6c
      case hi6c =>
        simp only [List.getElem?_toArray, List.getElem?_cons_succ, List.getElem?_cons_zero]
        rfl
      case hQ6c => exact fun _ _ _ h => h
      case hy6c =>
        refine yields_if (by rfl) (fun W hW => ?_)
        try dsimp only at hW
        go_simp
        first | done | with_reducible rfl
      simp only [Act.put, List.setIfInBounds_toArray, List.set_cons_zero, List.set_cons_succ]
      refine ks_via [8] (i := 7) (oi := ?oi7c) (v := ?v7c) ?hi7c (by kernel_rfl) (by kernel_rfl) (by kernel_rfl) (by kernel_rfl) (by kernel_rfl) ?hQ7c ?hS7c ?hy7c ?rest7c
      case hi7c =>
        simp only [List.getElem?_toArray, List.getElem?_cons_succ, List.getElem?_cons_zero]
        rfl
      case hQ7c => exact fun _ _ _ h => h
      case hS7c => exact ⟨c7, c8⟩
      case hy7c =>
        refine yields_if (by rfl) (fun W hW => ?_)
        obtain ⟨hW1, hW2⟩ := hW
        go_simp
        first | done | with_reducible rfl
      simp only [Act.put, List.setIfInBounds_toArray, List.set_cons_zero, List.set_cons_succ]
      refine ks_pure (i := 8) (oi := ?oi8c) (v := ?v8c) ?hi8c (by kernel_rfl) (by kernel_rfl) (by kernel_rfl) ?hQ8c ?hy8c ?rest8c
      case hi8c =>
        simp only [List.getElem?_toArray, List.getElem?_cons_succ, List.getElem?_cons_zero]
        rfl
      case hQ8c => exact fun _ _ _ h => h
      case hy8c =>
        refine yields_if (by rfl) (fun W hW => ?_)
        try dsimp only at hW
        go_simp
        first | done | with_reducible rfl
      simp only [Act.put, List.setIfInBounds_toArray, List.set_cons_zero, List.set_cons_succ]
      refine ks_one (i := 9) (o := ?o9c) ?ho9c (by kernel_rfl) (fun K9 hK => ?_)
      case ho9c =>
        simp only [List.getElem?_toArray, List.getElem?_cons_succ, List.getElem?_cons_zero]
        rfl
      go_simp
      try rw [hmk]
      go_simp
      refine hK _ _ (by simp) ?_
      clear hK K9
      try simp only [Act.put, List.setIfInBounds_toArray, List.set_cons_zero, List.set_cons_succ]
      refine ks_pure (i := 10) (oi := ?oi10c) (v := ?v10c) ?hi10c (by kernel_rfl) (by kernel_rfl) (by kernel_rfl) ?hQ10c ?hy10c ?rest10c
      case hi10c =>
        simp only [List.getElem?_toArray, List.getElem?_cons_succ, List.getElem?_cons_zero]
        rfl
      case hQ10c => exact fun _ _ _ h => h
      case hy10c =>
        refine yields_if (by rfl) (fun W hW => ?_)
        try dsimp only at hW
        go_simp
        first | done | with_reducible rfl
      simp only [Act.put, List.setIfInBounds_toArray, List.set_cons_zero, List.set_cons_succ]
      refine ks_done (by kernel_rfl) ?_ _
      simp only [Exit.then]
      rename_i hK1
      refine hK1 _ _ ?_
      clear hK1
      refine name_world ?_
      intro w3 hw3
      have b3 : Below w2.heap.size w2 w3 := by rw [hw3]; exact below_drewN ((Below.refl _ _).alloc (Nat.le_refl _) _) 1
      have J3 := Lib.hid (show Jr w3 w2.heap.size (.slice (some ⟨w2.heap.size, 0, none⟩) 0 u) [] by rw [hw3]; exact jr_new w2 u (by unfold maxLen; omega))
      have J2 := Lib.hid (J2.out.ev C2.out (Es.of_below K1 b3).ev)
      have C3 := Lib.hid (C2.out.new b3)
      have E3 := Lib.hid (E2.out.trans (Es.of_below K1 b3).ev)
      have HH3 := HH.out.go E3.out.fr E3.out.o
      have c7 := HH3.c7
      have hs33 : w2.heap.size ≤ w3.heap.size := b3.size
      clear HH3 hw3 b3 c8
      have J3 := Lib.hid (show Jr w3 wr.heap.size (.slice (some ⟨wr.heap.size + 1, 0, none⟩) 0 u) [] by rw [← hs2]; exact J3.out.low (by omega))
      obtain ⟨i0, hi0, hz0, hz1, hz2⟩ := info_parts infoU
      have hs3 : wr.heap.size ≤ w2.heap.size := by omega
      have hne : Hid (wr.heap.size ≠ w2.heap.size) := Lib.hid (by omega)
      have HWR := Lib.hid (show w.heap.size ≤ wr.heap.size from H1.out.2.2.1.fr.size)
      have hcl : cd.length ≤ 900000000000 := by
        have h2 := HN.out
        have e9 : ss.take i = ss := List.take_of_length_le (by rw [hsl.out.1]; exact Nat.le_refl _)
        have h3 := H1.out.1
        rw [e9] at h3
        rw [h3]
        simp only [List.length_append] at h2 ⊢
        omega
      have HCL : Hid (code.length + (catC (comp d) code.length ss).length = cd.length) := Lib.hid (by
        have e9 : ss.take i = ss := List.take_of_length_le (by rw [hsl.out.1]; exact Nat.le_refl _)
        have h3 := H1.out.1
        rw [e9] at h3
        rw [h3, List.length_append])
      go_wp2_with fail
      clear c7
      obtain ⟨b0, hb0⟩ : ∃ b0, b0 = wr.heap.size := ⟨_, rfl⟩
      have J2 := Lib.hid (show Jr w3 b0 (.slice (some ⟨wr.heap.size, 0, none⟩) 0 u) [] by rw [hb0]; exact J2.out)
      have J3 := Lib.hid (show Jr w3 b0 (.slice (some ⟨wr.heap.size + 1, 0, none⟩) 0 u) [] by rw [hb0]; exact J3.out)
      have HWR := Lib.hid (show w.heap.size ≤ b0 by rw [hb0]; exact HWR.out)
      have HB0 := Lib.hid (show B ≤ b0 by rw [hb0]; exact H1.out.2.1.hw)
      have HB3 := Lib.hid (show b0 ≤ w3.heap.size by rw [hb0]; exact Nat.le_trans hs3 hs33)
      clear hb0
      go_loopw [46, 47, 48, 49] (fun v46 v47 v48 _ wq => ∃ (k j : Nat) (K5 : Ks) (c46 c47 : Nat) (a46 a47 : Option Addr) (ce : List Ins), j ≤ mx ∧ v48 = .int .i64 j ∧ v46 = .slice a46 k c46 ∧ v47 = .slice a47 k c47 ∧ k ≤ u ∧ Hid (j = i + k) ∧ Hid (ce = cd ++ optP (comp d) s cd.length k ∧ Cs wq B (.iface T X) K5 ce ce.length ∧ Ev K w wq K5 ∧ Jr wq b0 v46 (optS (comp d) s cd.length k) ∧ Jr wq b0 v47 ((optS (comp d) s cd.length k).map (· + 1)) ∧ Apart v46 v47 ∧ optF (comp d) (fits K.lim d) cd.length s k ∧ b0 ≤ wq.heap.size)) (fun _ _ v48 _ _ => mx - (intOf v48).toNat)
      case atStart => exact ⟨0, i, K1, u, u, _, _, cd, hmx3, rfl, rfl, rfl, by omega, Lib.hid rfl, Lib.hid ⟨by simp [optP], C3.out, E3.out, J2.out, J3.out, fun k h1 h2 => by
        simp [Value.ownBlock] at h1 h2
        omega, trivial, HB3.out⟩⟩
      case round =>
        obtain ⟨k, j, K5, c46, c47, a46, a47, ce, hj, rfl, rfl, rfl, hku, HJ, H5⟩ := hrel
        have hc5 : K5.C = K.C := H5.out.2.2.1.c
        have HH5 := HH.out.go H5.out.2.2.1.fr H5.out.2.2.1.o
        have c8 := HH5.c8
        have c2 := HH5.c2
        have hq := (HQ.out.go H5.out.2.2.1.fr H5.out.2.2.1.o).2.2
        by_cases hlt : j < mx
        · have hk : k < u := by have h1 := HJ.out; have h2 := HMX.out; omega
          have HST := Lib.hid (optP_snoc (comp d) s k cd.length)
          have hce : ce.length + 1 + (comp d (ce.length + 1) s).length ≤ 900000000000 ∧ ce.length = cd.length + (optP (comp d) s cd.length k).length := by
            have e9 : ss.take i = ss := List.take_of_length_le (by rw [hsl.out.1]; exact Nat.le_refl _)
            have h3 := H1.out.1
            rw [e9] at h3
            have h4 : cd.length = code.length + (catC (comp d) code.length ss).length := by rw [h3]; simp
            have h5 : ce.length = cd.length + (optP (comp d) s cd.length k).length := by rw [H5.out.1]; simp
            have h6 := optP_le (comp d) s u cd.length (k + 1) (by omega)
            rw [HST.out, ← h5] at h6
            have h7 := HN.out
            rw [← h4] at h7
            simp only [List.length_append, List.length_cons] at h6 h7
            rw [optE_len, ← optP_len] at h7
            exact ⟨by omega, h5⟩
          obtain ⟨hce1, hce2⟩ := hce
          have HCE := Lib.hid hce2
          have HCE1 := Lib.hid hce1
          have hce3 : ce.length ≤ 900000000000 := by omega
          clear hce1 hce2 HH5
          have SP := split_any H5.out.2.1 (by omega)
          rw [hc5] at SP
          have CSP := Lib.hid SP
          clear SP
          have HSL : Hid ((optS (comp d) s cd.length k).length = k) := Lib.hid (optS_len _ _ _ _)
          have HSN := Lib.hid (optS_snoc (comp d) s k cd.length)
          generalize optS (comp d) s cd.length k = js at *
          go_upto_region 131 with (first | (go_at_call 70; refine CSP.out.mono ?_; rintro e w6 ⟨K6, rfl, h6, e6⟩; have H6 := Lib.hid h6; have J46 := Lib.hid (H5.out.2.2.2.1.ev H5.out.2.1 e6.ev); have J47 := Lib.hid (H5.out.2.2.2.2.1.ev H5.out.2.1 e6.ev); have EX := Lib.hid (H5.out.2.2.1.trans e6.ev); have HSZ := Lib.hid e6.fr.size; have hc6 : K6.C = K.C := e6.c.trans hc5; clear h6 e6 CSP c8 c2 hq) | (at_builtin; refine append1_at w6 #[.int .u64 (ce.length : Nat)] rfl (.tmp 499) (.tmp 502) 101 rfl b0 33 i0 _ 1 8 Tryd.underlying101 hi0 hz0 hz1 hz2 rfl (by omega) rfl (.slice a46 k c46) k (jvs js) rfl (by have := J46.out; unfold Jr at this; rw [HSL.out] at this; exact this) w6.heap.size rfl rfl (by simp [Value.oneCell']) (by unfold maxLen; omega) (by omega) (Nat.le_trans H5.out.2.2.2.2.2.2.2 HSZ.out) ?_; intro v7 w7 ho7 hg7 _ hat7; obtain ⟨a7, c7, rfl⟩ := own_value ho7; have J7 := Lib.hid (Jr.snoc (js := js) (by rw [HSL.out]; exact ho7)); have H7 := Lib.hid (H6.out.jr_grown J46.out HB0.out hg7); have E7 := Lib.hid (EX.out.jr_grown J46.out HWR.out hg7); have HSZ7 := Lib.hid (Nat.le_trans HSZ.out hg7.size); have J47b := Lib.hid (J47.out.kept hg7 H5.out.2.2.2.2.2.1.symm); have AP7 := Lib.hid (show Apart (.slice a7 (k + 1) c7) (.slice a47 k c47) from (Apart.next H5.out.2.2.2.2.2.1.symm (own_block_lt J47.out) hat7).symm); clear ho7 hg7 hat7 J46 J47 H6 EX) | fail)
          have k1 := H7.out.cells.2.1
          rw [hc6] at k1
          simp only [List.length_append, List.length_cons, List.length_nil, Nat.zero_add] at k1
          have hcc2 : (ce.length : Int) + 1 ≤ 900000000001 := by omega
          have HSM : Hid ((js.map (· + 1)).length = k) := Lib.hid (by rw [List.length_map]; exact HSL.out)
          have HB7 := Lib.hid (show b0 ≤ w7.heap.size from Nat.le_trans H5.out.2.2.2.2.2.2.2 HSZ7.out)
          go_upto_region 132 with (first | (at_builtin; refine append1_at w7 #[.int .u64 ((ce.length + 1 : Nat) : Int)] rfl (.tmp 504) (.tmp 511) 101 rfl b0 33 i0 _ 1 8 Tryd.underlying101 hi0 hz0 hz1 hz2 rfl (by omega) rfl (.slice a47 k c47) k (jvs (js.map (· + 1))) rfl (by have := J47b.out; unfold Jr at this; rw [HSM.out] at this; exact this) w7.heap.size rfl rfl (by simp [Value.oneCell']) (by unfold maxLen; omega) (by omega) HB7.out ?_; intro v8 w8 ho8 hg8 _ hat8; obtain ⟨a8, c8, rfl⟩ := own_value ho8; have J8 := Lib.hid (Jr.snoc (js := js.map (· + 1)) (by rw [HSM.out]; exact ho8)); have H8 := Lib.hid (H7.out.jr_grown J47b.out HB0.out hg8); have E8 := Lib.hid (E7.out.jr_grown J47b.out HWR.out hg8); have J7b := Lib.hid (J7.out.kept hg8 AP7.out); have hsz8 := hg8.size; have AP8 := Lib.hid (show Apart (.slice a7 (k + 1) c7) (.slice a8 (k + 1) c8) from Apart.next AP7.out (own_block_lt J7.out) hat8); clear ho8 hg8 hat8 J7 J47b H7 E7 AP7 k1) | fail)
          have HH8 := HH.out.go E8.out.fr E8.out.o
          have c2 := HH8.c2
          have hq := (HQ.out.go E8.out.fr E8.out.o).2.2
          have HS8 := Lib.hid (HS.out.ev E8.out)
          have hlen : Hid ((ce ++ [Ins.sp 0 0]).length = ce.length + 1) := Lib.hid (by simp)
          have CC := IH.out w8 K6 (ce ++ [.sp 0 0]) s q H8.out HS8.out hw (by
            have h1 := HCE1.out
            rw [List.length_append, hlen.out]; exact h1) (by rw [E8.out.l]; exact hl)
          rw [hc6] at CC
          have CC := Lib.hid CC
          have HCN := Lib.hid (show (ce ++ [Ins.sp 0 0]) ++ comp d (ce ++ [Ins.sp 0 0]).length s = cd ++ optP (comp d) s cd.length (k + 1) from by
            have e := H5.out.1
            rw [HST.out, hlen.out, HCE.out]
            rw [e]
            simp)
          clear HH8 hcc2
          go_upto_region 133 with (first | (go_at_call 56; refine CC.out.mono ?_; rintro e w9 h9; rcases h9 with ⟨hok, K9, rfl, h9, e9⟩ | ⟨hok, rfl, hb⟩) | fail)
          · have HR := Lib.hid (show Cs w9 B (.iface T X) K9 ((ce ++ [Ins.sp 0 0]) ++ comp d (ce ++ [Ins.sp 0 0]).length s) ((ce ++ [Ins.sp 0 0]) ++ comp d (ce ++ [Ins.sp 0 0]).length s).length ∧ Ev K w w9 K9 ∧ Jr w9 b0 (.slice a7 (k + 1) c7) (optS (comp d) s cd.length (k + 1)) ∧ Jr w9 b0 (.slice a8 (k + 1) c8) ((optS (comp d) s cd.length (k + 1)).map (· + 1)) ∧ Apart (.slice a7 (k + 1) c7) (.slice a8 (k + 1) c8) ∧ optF (comp d) (fits K.lim d) cd.length s (k + 1) ∧ b0 ≤ w9.heap.size from ⟨h9, E8.out.trans e9, by
              rw [HSN.out, ← HCE.out]
              exact J7b.out.ev H8.out e9, by
              rw [HSN.out, ← HCE.out, List.map_append]
              exact J8.out.ev H8.out e9, AP8.out, (optF_snoc _ _ _ _ _).2 ⟨H5.out.2.2.2.2.2.2.1, by
              rw [hlen.out, HCE.out, E8.out.l] at hok
              exact hok⟩, Nat.le_trans HB7.out (Nat.le_trans hsz8 e9.fr.size)⟩)
            clear hok h9 e9 CC hq c2
            go_wp2
            go_roundw
            case rel => exact ⟨k + 1, j + 1, K9, c7, c8, a7, a8, _, by omega, by go_num, rfl, rfl, by omega, Lib.hid (by have := HJ.out; omega), Lib.hid ⟨HCN.out, HR.out⟩⟩
            case measure => simp [intOf]; omega
          · have HF : Hid (¬ (catF (comp d) (fits K.lim d) code.length ss ∧ optF (comp d) (fits K.lim d) (code.length + (catC (comp d) code.length ss).length) s u ∧ (code.length + (catC (comp d) code.length ss ++ optE (comp d) (code.length + (catC (comp d) code.length ss).length) s u).length) * 40 ≤ K.lim) ∧ Below B w w9) := Lib.hid ⟨fun h => hok (by
              have h1 := h.2.1
              rw [HCL.out] at h1
              have h2 := ((optF_snoc _ _ _ _ _).1 (optF_le _ _ s u cd.length (k + 1) hk h1)).2
              rw [hlen.out, HCE.out, E8.out.l]
              exact h2), (E8.out.below H.out).trans hb⟩
            clear hok hb CC hq c2
            go_wp2
            go_returns
            exact .inr ⟨HF.out.1, rfl, HF.out.2⟩
        · have hku2 : k = u := by have h1 := HJ.out; have h2 := HMX.out; omega
          subst hku2
          obtain rfl : j = mx := by omega
          clear HH5 c2 hq hmk
          have hce2 : ce.length = cd.length + (optP (comp d) s cd.length k).length := by rw [H5.out.1, List.length_append]
          have hcel : ce.length ≤ 900000000000 := by
            have h7 := HN.out
            rw [HCL.out] at h7
            have h8 := HCL.out
            simp only [List.length_append] at h7
            rw [optE_len, ← optP_len] at h7
            omega
          have HE9 := Lib.hid (show setS ce.length (optS (comp d) s cd.length k) ce = code ++ (catC (comp d) code.length ss ++ optE (comp d) (code.length + (catC (comp d) code.length ss).length) s k) from by
            have e9 : ss.take i = ss := List.take_of_length_le (by rw [hsl.out.1]; exact Nat.le_refl _)
            have h3 := H1.out.1
            rw [e9] at h3
            rw [opt_end (comp d) H5.out.1, HCL.out, ← List.append_assoc, ← h3])
          have HOK := Lib.hid (show catF (comp d) (fits K.lim d) code.length ss ∧ optF (comp d) (fits K.lim d) (code.length + (catC (comp d) code.length ss).length) s k from ⟨by
            have e9 : ss.take i = ss := List.take_of_length_le (by rw [hsl.out.1]; exact Nat.le_refl _)
            have h3 := H1.out.2.2.2
            rw [e9] at h3
            exact h3, by rw [HCL.out]; exact H5.out.2.2.2.2.2.2.1⟩)
          have HJ2 := Lib.hid (fun kk (hk : kk < k) => opt_sp (comp d) H5.out.1 kk hk ce.length)
          have HSL : Hid ((optS (comp d) s cd.length k).length = k) := Lib.hid (optS_len _ _ _ _)
          generalize optS (comp d) s cd.length k = js at *
          have k1 := H5.out.2.1.cells.2.1
          rw [hc5] at k1
          clear hce2
          go_wp2_with fail
          clear k1 c8
          go_loopw [51] (fun v51 wq => ∃ (kk : Nat) (K6 : Ks), kk ≤ k ∧ v51 = .int .i64 kk ∧ K6.C = K.C ∧ Hid (Cs wq B (.iface T X) K6 (setS ce.length (js.take kk) ce) (setS ce.length (js.take kk) ce).length ∧ Ev K w wq K6 ∧ Jr wq b0 (.slice a46 k c46) js ∧ Jr wq b0 (.slice a47 k c47) (js.map (· + 1)))) (fun v51 _ => k - (intOf v51).toNat)
          case atStart => exact ⟨0, K5, by omega, rfl, hc5, Lib.hid ⟨by simpa [setS] using H5.out.2.1, H5.out.2.2.1, H5.out.2.2.2.1, H5.out.2.2.2.2.1⟩⟩
          case round =>
            obtain ⟨kk, K6, hkk, rfl, hc6, H7⟩ := hrel
            by_cases hlt2 : kk < k
            · have ED : Ev K6 wr (wr.drewN 1) K6 := (Ev.refl K6 wr).drewN 1
              have H7d := Lib.hid (show Cs (wr.drewN 1) B (.iface T X) K6 (setS ce.length (js.take kk) ce) (setS ce.length (js.take kk) ce).length ∧ Ev K w (wr.drewN 1) K6 ∧ Jr (wr.drewN 1) b0 (.slice a46 k c46) js ∧ Jr (wr.drewN 1) b0 (.slice a47 k c47) (js.map (· + 1)) from ⟨H7.out.1.drewN 1, H7.out.2.1.trans ED, H7.out.2.2.1.ev H7.out.1 ED, H7.out.2.2.2.ev H7.out.1 ED⟩)
              clear ED
              obtain ⟨j2, hj, hjl, ⟨z1, z2, hz⟩, hset⟩ := HJ2.out kk hlt2
              have jrow1 : wr.ownsRow b0 33 1 (.slice a46 k c46) k (jvs js) := by
                have := H7.out.2.2.1
                unfold Jr at this
                rw [HSL.out] at this
                exact this
              have jrow2 : wr.ownsRow b0 33 1 (.slice a47 k c47) k (jvs (js.map (· + 1))) := by
                have := H7.out.2.2.2
                unfold Jr at this
                rw [List.length_map, HSL.out] at this
                exact this
              obtain ⟨ad6, had6, -, hcell6⟩ := sl_of_own jrow1 kk (.int .u64 (j2 : Nat)) (by rw [jvs, List.getElem?_map, hj]; rfl)
              obtain ⟨ad7, had7, -, hcell7⟩ := sl_of_own jrow2 kk (.int .u64 ((j2 + 1 : Nat) : Int)) (by rw [jvs, List.getElem?_map, List.getElem?_map, hj]; rfl)
              have SJ := sets_any H7d.out.1 (by rw [setS_len]; omega) j2 (j2 + 1) ce.length z1 z2 hjl (by rw [List.getElem?_eq_getElem hjl] at hz; injection hz)
              rw [hc6] at SJ
              have HSET := Lib.hid hset
              generalize hj3 : j2 + 1 = j3 at *
              have CS := Lib.hid SJ
              clear SJ hset hj hjl hz jrow1 jrow2 hj3
              subst had6 had7
              go_wp2_with fail
              refine wp_region_ks (fun W => W.cell? (ad6.add kk) = some (.int .u64 (j2 : Nat)) ∧ W.cell? (ad7.add kk) = some (.int .u64 (j3 : Nat))) [10] (by kernel_rfl) ?_
              simp only [List.size_toArray, List.length_cons, List.length_nil, Nat.reduceAdd]
              refine ks_pure (i := 0) (oi := ?oi0d) (v := ?v0d) ?hi0d (by kernel_rfl) (by kernel_rfl) (by kernel_rfl) ?hQ0d ?hy0d ?rest0d
              case hi0d =>
                simp only [List.getElem?_toArray, List.getElem?_cons_zero]
                rfl
              case hQ0d => exact fun _ _ _ h => h
              case hy0d =>
                refine yields_if (by rfl) (fun W hW => ?_)
                try dsimp only at hW
                go_simp
                first | done | with_reducible rfl
              simp only [Act.put, List.setIfInBounds_toArray, List.set_cons_zero, List.set_cons_succ]
              refine ks_pure (i := 1) (oi := ?oi1d) (v := ?v1d) ?hi1d (by kernel_rfl) (by kernel_rfl) (by kernel_rfl) ?hQ1d ?hy1d ?rest1d
              case hi1d =>
                simp only [List.getElem?_toArray, List.getElem?_cons_succ, List.getElem?_cons_zero]
                rfl
              case hQ1d => exact fun _ _ _ h => h
              case hy1d =>
                refine yields_if (by rfl) (fun W hW => ?_)
                try dsimp only at hW
                go_simp
                first | done | with_reducible rfl
              simp only [Act.put, List.setIfInBounds_toArray, List.set_cons_zero, List.set_cons_succ]
              refine ks_pure (i := 2) (oi := ?oi2d) (v := ?v2d) ?hi2d (by kernel_rfl) (by kernel_rfl) (by kernel_rfl) ?hQ2d ?hy2d ?rest2d
              case hi2d =>
                simp only [List.getElem?_toArray, List.getElem?_cons_succ, List.getElem?_cons_zero]
                rfl
              case hQ2d => exact fun _ _ _ h => h
              case hy2d =>
                refine yields_if (by rfl) (fun W hW => ?_)
                try dsimp only at hW
                go_simp
                first | done | with_reducible rfl
              simp only [Act.put, List.setIfInBounds_toArray, List.set_cons_zero, List.set_cons_succ]
              refine ks_pure (i := 3) (oi := ?oi3d) (v := ?v3d) ?hi3d (by kernel_rfl) (by kernel_rfl) (by kernel_rfl) ?hQ3d ?hy3d ?rest3d
              case hi3d =>
                simp only [List.getElem?_toArray, List.getElem?_cons_succ, List.getElem?_cons_zero]
                rfl
              case hQ3d => exact fun _ _ _ h => h
              case hy3d =>
                refine yields_if (by rfl) (fun W hW => ?_)
                try dsimp only at hW
                go_simp
                first | done | with_reducible rfl
              simp only [Act.put, List.setIfInBounds_toArray, List.set_cons_zero, List.set_cons_succ]
              refine ks_take (i := 4) (oi := ?oi4d) (v := ?v4d) ?hi4d (by kernel_rfl) (by kernel_rfl) (by kernel_rfl) (by kernel_rfl) ?hQ4d ?hS4d ?hy4d ?rest4d
              case hi4d =>
                simp only [List.getElem?_toArray, List.getElem?_cons_succ, List.getElem?_cons_zero]
                rfl
              case hQ4d => exact fun _ _ _ h => h
              case hS4d => exact ⟨hcell6, hcell7⟩
              case hy4d =>
                refine yields_if (by rfl) (fun W hW => ?_)
                obtain ⟨hW1, hW2⟩ := hW
                go_simp
                first | done | with_reducible rfl
              simp only [Act.put, List.setIfInBounds_toArray, List.set_cons_zero, List.set_cons_succ]
              refine ks_pure (i := 5) (oi := ?oi5d) (v := ?v5d) ?hi5d (by kernel_rfl) (by kernel_rfl) (by kernel_rfl) ?hQ5d ?hy5d ?rest5d
              case hi5d =>
                simp only [List.getElem?_toArray, List.getElem?_cons_succ, List.getElem?_cons_zero]
                rfl
              case hQ5d => exact fun _ _ _ h => h
              case hy5d =>
                refine yields_if (by rfl) (fun W hW => ?_)
                try dsimp only at hW
                go_simp
                first | done | with_reducible rfl
              simp only [Act.put, List.setIfInBounds_toArray, List.set_cons_zero, List.set_cons_succ]
              refine ks_pure (i := 6) (oi := ?oi6d) (v := ?v6d) ?hi6d (by kernel_rfl) (by kernel_rfl) (by kernel_rfl) ?hQ6d ?hy6d ?rest6d
              case hi6d =>
                simp only [List.getElem?_toArray, List.getElem?_cons_succ, List.getElem?_cons_zero]
                rfl
              case hQ6d => exact fun _ _ _ h => h
              case hy6d =>
                refine yields_if (by rfl) (fun W hW => ?_)
                try dsimp only at hW
                go_simp
                first | done | with_reducible rfl
              simp only [Act.put, List.setIfInBounds_toArray, List.set_cons_zero, List.set_cons_succ]
              refine ks_pure (i := 7) (oi := ?oi7d) (v := ?v7d) ?hi7d (by kernel_rfl) (by kernel_rfl) (by kernel_rfl) ?hQ7d ?hy7d ?rest7d
              case hi7d =>
                simp only [List.getElem?_toArray, List.getElem?_cons_succ, List.getElem?_cons_zero]
                rfl
              case hQ7d => exact fun _ _ _ h => h
              case hy7d =>
                refine yields_if (by rfl) (fun W hW => ?_)
                try dsimp only at hW
                go_simp
                first | done | with_reducible rfl
              simp only [Act.put, List.setIfInBounds_toArray, List.set_cons_zero, List.set_cons_succ]
              refine ks_take (i := 8) (oi := ?oi8d) (v := ?v8d) ?hi8d (by kernel_rfl) (by kernel_rfl) (by kernel_rfl) (by kernel_rfl) ?hQ8d ?hS8d ?hy8d ?rest8d
              case hi8d =>
                simp only [List.getElem?_toArray, List.getElem?_cons_succ, List.getElem?_cons_zero]
                rfl
              case hQ8d => exact fun _ _ _ h => h
              case hS8d => exact ⟨hcell6, hcell7⟩
              case hy8d =>
                refine yields_if (by rfl) (fun W hW => ?_)
                obtain ⟨hW1, hW2⟩ := hW
                go_simp
                first | done | with_reducible rfl
              simp only [Act.put, List.setIfInBounds_toArray, List.set_cons_zero, List.set_cons_succ]
              refine ks_pure (i := 9) (oi := ?oi9d) (v := ?v9d) ?hi9d (by kernel_rfl) (by kernel_rfl) (by kernel_rfl) ?hQ9d ?hy9d ?rest9d
              case hi9d =>
                simp only [List.getElem?_toArray, List.getElem?_cons_succ, List.getElem?_cons_zero]
                rfl
              case hQ9d => exact fun _ _ _ h => h
              case hy9d =>
                refine yields_if (by rfl) (fun W hW => ?_)
                try dsimp only at hW
                go_simp
                first | done | with_reducible rfl
              simp only [Act.put, List.setIfInBounds_toArray, List.set_cons_zero, List.set_cons_succ]
              refine ks_one (i := 10) (o := ?o10d) ?ho10d (by kernel_rfl) (fun K9 hK => ?_)
              case ho10d =>
                simp only [List.getElem?_toArray, List.getElem?_cons_succ, List.getElem?_cons_zero]
                rfl
              go_simp
              refine CS.out.mono ?_
              rintro e w8 ⟨rfl, h8, e8⟩
              have H8 := Lib.hid h8
              have E8 := Lib.hid (H7d.out.2.1.trans e8.ev)
              have J8a := Lib.hid (H7d.out.2.2.1.ev H7d.out.1 e8.ev)
              have J8b := Lib.hid (H7d.out.2.2.2.ev H7d.out.1 e8.ev)
              clear CS h8 e8 hcell6 hcell7
              refine hK _ _ (by simp) ?_
              clear hK K9
              try simp only [Act.put, List.setIfInBounds_toArray, List.set_cons_zero, List.set_cons_succ]
              refine ks_done (by kernel_rfl) ?_ _
              try simp only [Exit.then]
              rename_i hK1
              refine hK1 _ _ ?_
              clear hK1
              go_wp2
              go_roundw
              case rel => exact ⟨kk + 1, K6, by omega, by go_num, hc6, Lib.hid ⟨by rw [HSET.out, List.length_set]; exact H8.out, E8.out, J8a.out, J8b.out⟩⟩
              case measure => simp [intOf]; omega
            · obtain rfl : kk = k := by omega
              have CK := Lib.hid (show Calls Tryd.prog 75 #[.pointer (some ⟨K.C, 0, none⟩)] wr (Done w B (.iface T X) K code (catC (comp d) code.length ss ++ optE (comp d) (code.length + (catC (comp d) code.length ss).length) s kk) (catF (comp d) (fits K.lim d) code.length ss ∧ optF (comp d) (fits K.lim d) (code.length + (catC (comp d) code.length ss).length) s kk ∧ (code.length + (catC (comp d) code.length ss ++ optE (comp d) (code.length + (catC (comp d) code.length ss).length) s kk).length) * 40 ≤ K.lim)) from by
                have h1 := H7.out.1
                rw [List.take_of_length_le (by rw [HSL.out]; exact Nat.le_refl _), HE9.out] at h1
                exact Done.size h1 H7.out.2.1 hl HN.out ⟨fun h => h.2.2, fun h => ⟨HOK.out.1, HOK.out.2, h⟩⟩ (H7.out.2.1.below H.out))
              go_wp2_with (first | (go_at_call 75; refine CK.out.mono ?_; rintro e w9 h9; obtain ⟨r, rfl⟩ := h9.ret; have H9 := Lib.hid h9; clear h9 CK) | fail)
              go_ret
              exact H9.out
end

end Go.Proofs.YtbkpgfccghombaaDoor.rx
