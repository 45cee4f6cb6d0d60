/-
  FnStateFor: a state with one arc is read: atSingle. Conditions: as stated.
-/
import Derived.Test.YtjonmfaeonldcaaDoorStT
import Derived.StillTailTactics
import Derived.Shelf.RegionOpenPlain
import Derived.Deep.DeepCutAuto
namespace Go.Proofs.YtjonmfaeonldcaaDoor.fnStateFor
open Go.ChangeShapes Go.WideShapes Go.ChangeAt Go.RowKit
set_option linter.unusedVariables false

set_option maxRecDepth 100000 in
set_option maxHeartbeats 6400000 in
theorem atsF100 {W : World} {N g n cap t b2 b3 zs os : Nat} {D : List Int} {i dl o : Int} (hB : Blk W N 78 (stL g n cap t t (.int .i64 0) (.int .u8 0) (.bool false) (.int .u64 0) (.int .u64 0) (.int .i64 0) (.int .i64 0)))
    (hD : Dt W g D) (hn : n = D.length) (hT : ∀ w, Fr (fun k => k = N) W w → Tabs w) (hg : g < W.heap.size) (hgN : g ≠ N) (h0 : 0 ≤ i) (h1 : i ≤ 255) (hc : cd i ≠ 0) (ht : At D t [128 + 0 + cd i]) (h16 : 16 ≤ t) (hcap : n ≤ cap) (hmax : n ≤ 100000000)
    (hp : At D b2 [16 * (zs : Int) + os]) (hk : At D b3 (pk dl zs)) (hz : 1 ≤ zs ∧ zs ≤ 8) (ho : os = 0) (e1 : t = b2 + 1) (e2 : b2 = b3 + zs) (hdl : 0 ≤ dl ∧ dl < 256 ^ zs) (ha : dl = 0) :
    Calls Tryd.prog 37 #[.pointer (some ⟨N, 0, none⟩), .slice (some ⟨g, 0, none⟩) n cap, .int .i64 t] W (OneS W N g n cap t i 0 0) := by
  have hcb := cd_bd i h0 h1
  have hby := hD.byte ht
  obtain ⟨q1, q2, q3⟩ := hdr_of 0 (cd i) (.inl rfl) hcb.1 hcb.2
  have htn : (t : Int) < (n : Int) := by have := ht.len; simp at this; omega
  have mixed : Tryd.prog.follows .mixedOrders = true := by kernel_rfl
  have HB0 := Lib.hid hB
  obtain ⟨c0, c1, c2, c3, c4, c5, c6, c7, c8, c9, f⟩ := stC hB
  have hcz : (cd i == 0) = false := by rw [beq_eq_false_iff_ne]; exact hc
  have CDC := Lib.hid (fun w (hb : Fr (fun k => k = N) W w) => cd_back i h0 h1 hc w (hT w hb))
  have hby3 := hD.byte hp
  have r1 : (t : Int) - 1 = (b2 : Int) := by omega
  have hb2 : (b2 : Int) < (n : Int) := by omega
  have r3 : (b2 : Int) - (zs : Int) = (b3 : Int) := by omega
  have r4 : (b3 : Int) + (zs : Int) = (b2 : Int) := by omega
  have r5 : b2 - b3 = zs := by omega
  have wb2 : IntKind.i64.wrap (b2 : Int) = (b2 : Int) := by rw [IntKind.wrap_i64]; omega
  have wb3 : IntKind.i64.wrap (b3 : Int) = (b3 : Int) := by rw [IntKind.wrap_i64]; omega
  have hs1 : (b3 : Int) ≤ (b2 : Int) := by omega
  have hs2 : (b2 : Int) ≤ (cap : Int) := by omega
  have hs3 : ¬ cap = b3 := by omega
  have CDP := Lib.hid (dps_any zs os hz.2 (by omega))
  have CR1 := Lib.hid (fun w (hb : Fr (fun k => k = N) W w) => rpu_any (c := cap - b3) hD hk hz.2 hdl.1 hdl.2 w (hb.cell_ne hg hgN))
  have hdz : (dl != 0) = false := by rw [bne_eq_false_iff_eq]; exact ha
  have hdn := hdl.1
  subst ho
  generalize 128 + 0 + cd i = hh at *
  obtain rfl : dl = 0 := ha
  clear hD hn ht hT hc hB hp hk e1 e2 hdl
  generalize (16 * (zs : Int) + ((0 : Nat) : Int)) = pb at *
  go_enter Tryd.func37, Tryd.ntmps37
  go_upto_region 13 with (first | (go_at_call 49; refine (CDC.out _ ?_).mono ?_; (repeat (with_reducible (first | exact Fr.refl _ _ | exact Fr.refl _ _ | refine Fr.set ?_ _ _ (by rfl) | apply Fr.drewN | apply Fr.drew))); rintro e w9 ⟨rfl, rfl⟩) | (go_at_call 50; refine (CDP.out _).mono ?_; rintro e w9 ⟨rfl, rfl⟩) | fail)
  refine name_world ?_
  intro w1 hw1
  have HX := Lib.hid (show Blk w1 N 78 (stL g n cap t b2 (.int .i64 1) (.int .u8 i) (.bool false) (.int .u64 0) (.int .u64 0) (.int .i64 zs) (.int .i64 ((0 : Nat) : Int))) ∧ Fr (fun k => k = N) W w1 by
    rw [hw1]
    exact cut_end (by
      apply Exists.intro
      refine ⟨?_, ?_⟩
      · (repeat (with_reducible (first | exact HB0.out | apply Blk.set_ | apply Blk.drewN | apply Blk.drew)))
      · rfl) (by (repeat (with_reducible (first | exact Fr.refl _ _ | exact Fr.refl _ _ | refine Fr.set ?_ _ _ (by rfl) | apply Fr.drewN | apply Fr.drew)))))
  have HB1 := Lib.hid HX.out.1
  have HW1 := Lib.hid HX.out.2
  clear c0 c1 c2 c3 c4 c5 c6 c7 c8 c9 f HB0 HX hw1
  obtain ⟨c0, c1, c2, c3, c4, c5, c6, c7, c8, c9, f⟩ := stC HB1.out
  go_cut [] (fun wx => Hid (Blk wx N 78 (stL g n cap t b3 (.int .i64 1) (.int .u8 i) (.bool false) (.int .u64 0) (.int .u64 0) (.int .i64 zs) (.int .i64 ((0 : Nat) : Int))) ∧ Fr (fun k => k = N) W wx))
  case first => as_aux_lemma =>
    refine wp_region_still_tail 11 (by kernel_rfl) (by kernel_rfl) ?_
    simp only [List.take_succ_cons, List.take_zero, List.drop_succ_cons, List.drop_zero]
    change wpStill _ _ (World.drew _) _ _ _
    repeat still_step
    refine wpStill_nil ?_
    change wpList _ _ _ _ _ (World.drew _)
    go_wp2
    all_goals
      go_meet
      case rel => exact Lib.hid (cut_end (by
        apply Exists.intro
        refine ⟨?_, ?_⟩
        · (repeat (with_reducible (first | exact HB1.out | apply Blk.set_ | apply Blk.drewN | apply Blk.drew)))
        · rfl) (by (repeat (with_reducible (first | exact Fr.refl _ _ | exact HW1.out | refine Fr.set ?_ _ _ (by rfl) | apply Fr.drewN | apply Fr.drew)))))
  case rest =>
  have HB2 := Lib.hid hcut.out.1
  have HW2 := Lib.hid hcut.out.2
  clear c0 c1 c2 c3 c4 c5 c6 c7 c8 c9 f HB1 HW1 hcut
  obtain ⟨c0, c1, c2, c3, c4, c5, c6, c7, c8, c9, f⟩ := stC HB2.out
  go_upto_region 14 with (first | fail)
  go_cut [] (fun wx => Hid (Blk wx N 78 (stL g n cap t b3 (.int .i64 1) (.int .u8 i) (.bool false) (.int .u64 0) (.int .u64 0) (.int .i64 zs) (.int .i64 ((0 : Nat) : Int))) ∧ Fr (fun k => k = N) W wx))
  case first => as_aux_lemma =>
    go_region_held3 (fun w => w.cell? ⟨N, 2, none⟩ = some (.int .i64 b3) ∧ w.cell? ⟨N, 8, none⟩ = some (.int .i64 zs)) (first | exact ⟨(HB2.out.set_ 6 _).cell 2, (HB2.out.set_ 6 _).cell 8⟩ | go_keep) (first | (go_at_call 51; refine (CR1.out _ ?_).mono ?_; (repeat (with_reducible (first | exact Fr.refl _ _ | exact HW2.out | refine Fr.set ?_ _ _ (by rfl) | apply Fr.drewN | apply Fr.drew))); rintro e w9 ⟨rfl, rfl⟩))
    go_wp2_with fail
    all_goals
      go_meet
      case rel => exact Lib.hid (cut_end (by
        apply Exists.intro
        refine ⟨?_, ?_⟩
        · (repeat (with_reducible (first | exact HB2.out | apply Blk.set_ | apply Blk.drewN | apply Blk.drew)))
        · rfl) (by (repeat (with_reducible (first | exact Fr.refl _ _ | exact HW2.out | refine Fr.set ?_ _ _ (by rfl) | apply Fr.drewN | apply Fr.drew)))))
  case rest =>
  have HB3 := Lib.hid hcut.out.1
  have HW3 := Lib.hid hcut.out.2
  clear c0 c1 c2 c3 c4 c5 c6 c7 c8 c9 f HB2 HW2 hcut
  obtain ⟨c0, c1, c2, c3, c4, c5, c6, c7, c8, c9, f⟩ := stC HB3.out
  go_wp2
  go_ret
  refine one_end (bot := b3) (x3 := .int .i64 1) (x5 := .bool false) (x8 := .int .i64 zs) (x9 := (.int .i64 ((0 : Nat) : Int))) rfl (cut_end (by
    apply Exists.intro
    refine ⟨?_, ?_⟩
    · (repeat (with_reducible (first | exact HB3.out | apply Blk.set_ | apply Blk.drewN | apply Blk.drew)))
    · rfl) (by (repeat (with_reducible (first | exact Fr.refl _ _ | exact HW3.out | refine Fr.set ?_ _ _ (by rfl) | apply Fr.drewN | apply Fr.drew)))))

set_option maxRecDepth 100000 in
set_option maxHeartbeats 6400000 in
theorem atsF101 {W : World} {N g n cap t b2 b3 zs os : Nat} {D : List Int} {i dl o : Int} (hB : Blk W N 78 (stL g n cap t t (.int .i64 0) (.int .u8 0) (.bool false) (.int .u64 0) (.int .u64 0) (.int .i64 0) (.int .i64 0)))
    (hD : Dt W g D) (hn : n = D.length) (hT : ∀ w, Fr (fun k => k = N) W w → Tabs w) (hg : g < W.heap.size) (hgN : g ≠ N) (h0 : 0 ≤ i) (h1 : i ≤ 255) (hc : cd i ≠ 0) (ht : At D t [128 + 0 + cd i]) (h16 : 16 ≤ t) (hcap : n ≤ cap) (hmax : n ≤ 100000000)
    (hp : At D b2 [16 * (zs : Int) + os]) (hk : At D b3 (pk dl zs)) (hz : 1 ≤ zs ∧ zs ≤ 8) (ho : os = 0) (e1 : t = b2 + 1) (e2 : b2 = b3 + zs) (hdl : 0 ≤ dl ∧ dl < 256 ^ zs) (ha : dl ≠ 0) (hds : dl ≤ b3) :
    Calls Tryd.prog 37 #[.pointer (some ⟨N, 0, none⟩), .slice (some ⟨g, 0, none⟩) n cap, .int .i64 t] W (OneS W N g n cap t i ((b3 : Int) - dl) 0) := by
  have hcb := cd_bd i h0 h1
  have hby := hD.byte ht
  obtain ⟨q1, q2, q3⟩ := hdr_of 0 (cd i) (.inl rfl) hcb.1 hcb.2
  have htn : (t : Int) < (n : Int) := by have := ht.len; simp at this; omega
  have mixed : Tryd.prog.follows .mixedOrders = true := by kernel_rfl
  have HB0 := Lib.hid hB
  obtain ⟨c0, c1, c2, c3, c4, c5, c6, c7, c8, c9, f⟩ := stC hB
  have hcz : (cd i == 0) = false := by rw [beq_eq_false_iff_ne]; exact hc
  have CDC := Lib.hid (fun w (hb : Fr (fun k => k = N) W w) => cd_back i h0 h1 hc w (hT w hb))
  have hby3 := hD.byte hp
  have r1 : (t : Int) - 1 = (b2 : Int) := by omega
  have hb2 : (b2 : Int) < (n : Int) := by omega
  have r3 : (b2 : Int) - (zs : Int) = (b3 : Int) := by omega
  have r4 : (b3 : Int) + (zs : Int) = (b2 : Int) := by omega
  have r5 : b2 - b3 = zs := by omega
  have wb2 : IntKind.i64.wrap (b2 : Int) = (b2 : Int) := by rw [IntKind.wrap_i64]; omega
  have wb3 : IntKind.i64.wrap (b3 : Int) = (b3 : Int) := by rw [IntKind.wrap_i64]; omega
  have hs1 : (b3 : Int) ≤ (b2 : Int) := by omega
  have hs2 : (b2 : Int) ≤ (cap : Int) := by omega
  have hs3 : ¬ cap = b3 := by omega
  have CDP := Lib.hid (dps_any zs os hz.2 (by omega))
  have CR1 := Lib.hid (fun w (hb : Fr (fun k => k = N) W w) => rpu_any (c := cap - b3) hD hk hz.2 hdl.1 hdl.2 w (hb.cell_ne hg hgN))
  have hdz : (dl != 0) = true := by rw [bne_iff_ne]; exact ha
  have hdn := hdl.1
  subst ho
  generalize 128 + 0 + cd i = hh at *
  clear hD hn ht hT hc hB hp hk e1 e2 hdl ha
  generalize (16 * (zs : Int) + ((0 : Nat) : Int)) = pb at *
  go_enter Tryd.func37, Tryd.ntmps37
  go_upto_region 13 with (first | (go_at_call 49; refine (CDC.out _ ?_).mono ?_; (repeat (with_reducible (first | exact Fr.refl _ _ | exact Fr.refl _ _ | refine Fr.set ?_ _ _ (by rfl) | apply Fr.drewN | apply Fr.drew))); rintro e w9 ⟨rfl, rfl⟩) | (go_at_call 50; refine (CDP.out _).mono ?_; rintro e w9 ⟨rfl, rfl⟩) | fail)
  refine name_world ?_
  intro w1 hw1
  have HX := Lib.hid (show Blk w1 N 78 (stL g n cap t b2 (.int .i64 1) (.int .u8 i) (.bool false) (.int .u64 0) (.int .u64 0) (.int .i64 zs) (.int .i64 ((0 : Nat) : Int))) ∧ Fr (fun k => k = N) W w1 by
    rw [hw1]
    exact cut_end (by
      apply Exists.intro
      refine ⟨?_, ?_⟩
      · (repeat (with_reducible (first | exact HB0.out | apply Blk.set_ | apply Blk.drewN | apply Blk.drew)))
      · rfl) (by (repeat (with_reducible (first | exact Fr.refl _ _ | exact Fr.refl _ _ | refine Fr.set ?_ _ _ (by rfl) | apply Fr.drewN | apply Fr.drew)))))
  have HB1 := Lib.hid HX.out.1
  have HW1 := Lib.hid HX.out.2
  clear c0 c1 c2 c3 c4 c5 c6 c7 c8 c9 f HB0 HX hw1
  obtain ⟨c0, c1, c2, c3, c4, c5, c6, c7, c8, c9, f⟩ := stC HB1.out
  go_cut [] (fun wx => Hid (Blk wx N 78 (stL g n cap t b3 (.int .i64 1) (.int .u8 i) (.bool false) (.int .u64 0) (.int .u64 0) (.int .i64 zs) (.int .i64 ((0 : Nat) : Int))) ∧ Fr (fun k => k = N) W wx))
  case first => as_aux_lemma =>
    refine wp_region_still_tail 11 (by kernel_rfl) (by kernel_rfl) ?_
    simp only [List.take_succ_cons, List.take_zero, List.drop_succ_cons, List.drop_zero]
    change wpStill _ _ (World.drew _) _ _ _
    repeat still_step
    refine wpStill_nil ?_
    change wpList _ _ _ _ _ (World.drew _)
    go_wp2
    all_goals
      go_meet
      case rel => exact Lib.hid (cut_end (by
        apply Exists.intro
        refine ⟨?_, ?_⟩
        · (repeat (with_reducible (first | exact HB1.out | apply Blk.set_ | apply Blk.drewN | apply Blk.drew)))
        · rfl) (by (repeat (with_reducible (first | exact Fr.refl _ _ | exact HW1.out | refine Fr.set ?_ _ _ (by rfl) | apply Fr.drewN | apply Fr.drew)))))
  case rest =>
  have HB2 := Lib.hid hcut.out.1
  have HW2 := Lib.hid hcut.out.2
  clear c0 c1 c2 c3 c4 c5 c6 c7 c8 c9 f HB1 HW1 hcut
  obtain ⟨c0, c1, c2, c3, c4, c5, c6, c7, c8, c9, f⟩ := stC HB2.out
  go_upto_region 14 with (first | fail)
  go_cut [] (fun wx => Hid (Blk wx N 78 (stL g n cap t b3 (.int .i64 1) (.int .u8 i) (.bool false) (.int .u64 dl) (.int .u64 0) (.int .i64 zs) (.int .i64 ((0 : Nat) : Int))) ∧ Fr (fun k => k = N) W wx))
  case first => as_aux_lemma =>
    go_region_held3 (fun w => w.cell? ⟨N, 2, none⟩ = some (.int .i64 b3) ∧ w.cell? ⟨N, 8, none⟩ = some (.int .i64 zs)) (first | exact ⟨(HB2.out.set_ 6 _).cell 2, (HB2.out.set_ 6 _).cell 8⟩ | go_keep) (first | (go_at_call 51; refine (CR1.out _ ?_).mono ?_; (repeat (with_reducible (first | exact Fr.refl _ _ | exact HW2.out | refine Fr.set ?_ _ _ (by rfl) | apply Fr.drewN | apply Fr.drew))); rintro e w9 ⟨rfl, rfl⟩))
    go_wp2_with fail
    all_goals
      go_meet
      case rel => exact Lib.hid (cut_end (by
        apply Exists.intro
        refine ⟨?_, ?_⟩
        · (repeat (with_reducible (first | exact HB2.out | apply Blk.set_ | apply Blk.drewN | apply Blk.drew)))
        · rfl) (by (repeat (with_reducible (first | exact Fr.refl _ _ | exact HW2.out | refine Fr.set ?_ _ _ (by rfl) | apply Fr.drewN | apply Fr.drew)))))
  case rest =>
  have HB3 := Lib.hid hcut.out.1
  have HW3 := Lib.hid hcut.out.2
  clear c0 c1 c2 c3 c4 c5 c6 c7 c8 c9 f HB2 HW2 hcut
  obtain ⟨c0, c1, c2, c3, c4, c5, c6, c7, c8, c9, f⟩ := stC HB3.out
  go_upto_region 20 with (first | fail)
  go_cut [] (fun wx => Hid (Blk wx N 78 (stL g n cap t b3 (.int .i64 1) (.int .u8 i) (.bool false) (.int .u64 ((b3 : Int) - dl)) (.int .u64 0) (.int .i64 zs) (.int .i64 ((0 : Nat) : Int))) ∧ Fr (fun k => k = N) W wx))
  case first => as_aux_lemma =>
    refine wp_region_still_tail 13 (by kernel_rfl) (by kernel_rfl) ?_
    simp only [List.take_succ_cons, List.take_zero, List.drop_succ_cons, List.drop_zero]
    change wpStill _ _ (World.drew _) _ _ _
    repeat still_step
    refine wpStill_nil ?_
    change wpList _ _ _ _ _ (World.drew _)
    go_wp2
    all_goals
      go_meet
      case rel => exact Lib.hid (cut_end (by
        apply Exists.intro
        refine ⟨?_, ?_⟩
        · (repeat (with_reducible (first | exact HB3.out | apply Blk.set_ | apply Blk.drewN | apply Blk.drew)))
        · rfl) (by (repeat (with_reducible (first | exact Fr.refl _ _ | exact HW3.out | refine Fr.set ?_ _ _ (by rfl) | apply Fr.drewN | apply Fr.drew)))))
  case rest =>
  have HB4 := Lib.hid hcut.out.1
  have HW4 := Lib.hid hcut.out.2
  clear c0 c1 c2 c3 c4 c5 c6 c7 c8 c9 f HB3 HW3 hcut
  obtain ⟨c0, c1, c2, c3, c4, c5, c6, c7, c8, c9, f⟩ := stC HB4.out
  go_wp2
  go_ret
  refine one_end (bot := b3) (x3 := .int .i64 1) (x5 := .bool false) (x8 := .int .i64 zs) (x9 := (.int .i64 ((0 : Nat) : Int))) rfl (cut_end (by
    apply Exists.intro
    refine ⟨?_, ?_⟩
    · (repeat (with_reducible (first | exact HB4.out | apply Blk.set_ | apply Blk.drewN | apply Blk.drew)))
    · rfl) (by (repeat (with_reducible (first | exact Fr.refl _ _ | exact HW4.out | refine Fr.set ?_ _ _ (by rfl) | apply Fr.drewN | apply Fr.drew)))))

set_option maxRecDepth 100000 in
set_option maxHeartbeats 6400000 in
theorem atsF110 {W : World} {N g n cap t b2 b3 b4 zs os : Nat} {D : List Int} {i dl o : Int} (hB : Blk W N 78 (stL g n cap t t (.int .i64 0) (.int .u8 0) (.bool false) (.int .u64 0) (.int .u64 0) (.int .i64 0) (.int .i64 0)))
    (hD : Dt W g D) (hn : n = D.length) (hT : ∀ w, Fr (fun k => k = N) W w → Tabs w) (hg : g < W.heap.size) (hgN : g ≠ N) (h0 : 0 ≤ i) (h1 : i ≤ 255) (hc : cd i ≠ 0) (ht : At D t [128 + 0 + cd i]) (h16 : 16 ≤ t) (hcap : n ≤ cap) (hmax : n ≤ 100000000)
    (hp : At D b2 [16 * (zs : Int) + os]) (hk : At D b3 (pk dl zs)) (hz : 1 ≤ zs ∧ zs ≤ 8) (ho : 1 ≤ os ∧ os ≤ 8) (e1 : t = b2 + 1) (e2 : b2 = b3 + zs) (hdl : 0 ≤ dl ∧ dl < 256 ^ zs) (hq : At D b4 (pk o os)) (e3 : b3 = b4 + os) (hoo : 0 ≤ o ∧ o < 256 ^ os) (ha : dl = 0) :
    Calls Tryd.prog 37 #[.pointer (some ⟨N, 0, none⟩), .slice (some ⟨g, 0, none⟩) n cap, .int .i64 t] W (OneS W N g n cap t i 0 o) := by
  have hcb := cd_bd i h0 h1
  have hby := hD.byte ht
  obtain ⟨q1, q2, q3⟩ := hdr_of 0 (cd i) (.inl rfl) hcb.1 hcb.2
  have htn : (t : Int) < (n : Int) := by have := ht.len; simp at this; omega
  have mixed : Tryd.prog.follows .mixedOrders = true := by kernel_rfl
  have HB0 := Lib.hid hB
  obtain ⟨c0, c1, c2, c3, c4, c5, c6, c7, c8, c9, f⟩ := stC hB
  have hcz : (cd i == 0) = false := by rw [beq_eq_false_iff_ne]; exact hc
  have CDC := Lib.hid (fun w (hb : Fr (fun k => k = N) W w) => cd_back i h0 h1 hc w (hT w hb))
  have hby3 := hD.byte hp
  have r1 : (t : Int) - 1 = (b2 : Int) := by omega
  have hb2 : (b2 : Int) < (n : Int) := by omega
  have r3 : (b2 : Int) - (zs : Int) = (b3 : Int) := by omega
  have r4 : (b3 : Int) + (zs : Int) = (b2 : Int) := by omega
  have r5 : b2 - b3 = zs := by omega
  have wb2 : IntKind.i64.wrap (b2 : Int) = (b2 : Int) := by rw [IntKind.wrap_i64]; omega
  have wb3 : IntKind.i64.wrap (b3 : Int) = (b3 : Int) := by rw [IntKind.wrap_i64]; omega
  have hs1 : (b3 : Int) ≤ (b2 : Int) := by omega
  have hs2 : (b2 : Int) ≤ (cap : Int) := by omega
  have hs3 : ¬ cap = b3 := by omega
  have CDP := Lib.hid (dps_any zs os hz.2 (by omega))
  have CR1 := Lib.hid (fun w (hb : Fr (fun k => k = N) W w) => rpu_any (c := cap - b3) hD hk hz.2 hdl.1 hdl.2 w (hb.cell_ne hg hgN))
  have hdz : (dl != 0) = false := by rw [bne_eq_false_iff_eq]; exact ha
  have hdn := hdl.1
  have r6 : (b3 : Int) - (os : Int) = (b4 : Int) := by omega
  have r7 : (b4 : Int) + (os : Int) = (b3 : Int) := by omega
  have r8 : b3 - b4 = os := by omega
  have wb4 : IntKind.i64.wrap (b4 : Int) = (b4 : Int) := by rw [IntKind.wrap_i64]; omega
  have hs4 : (b4 : Int) ≤ (b3 : Int) := by omega
  have hs5 : (b3 : Int) ≤ (cap : Int) := by omega
  have hs6 : ¬ cap = b4 := by omega
  have hos : (0 : Int) < (os : Int) := by omega
  have CR2 := Lib.hid (fun w (hb : Fr (fun k => k = N) W w) => rpu_any (c := cap - b4) hD hq ho.2 hoo.1 hoo.2 w (hb.cell_ne hg hgN))
  generalize 128 + 0 + cd i = hh at *
  obtain rfl : dl = 0 := ha
  clear hD hn ht hT hc hB hp hk e1 e2 hdl hq e3 hoo ho
  generalize (16 * (zs : Int) + (os : Int)) = pb at *
  go_enter Tryd.func37, Tryd.ntmps37
  go_upto_region 13 with (first | (go_at_call 49; refine (CDC.out _ ?_).mono ?_; (repeat (with_reducible (first | exact Fr.refl _ _ | exact Fr.refl _ _ | refine Fr.set ?_ _ _ (by rfl) | apply Fr.drewN | apply Fr.drew))); rintro e w9 ⟨rfl, rfl⟩) | (go_at_call 50; refine (CDP.out _).mono ?_; rintro e w9 ⟨rfl, rfl⟩) | fail)
  refine name_world ?_
  intro w1 hw1
  have HX := Lib.hid (show Blk w1 N 78 (stL g n cap t b2 (.int .i64 1) (.int .u8 i) (.bool false) (.int .u64 0) (.int .u64 0) (.int .i64 zs) (.int .i64 os)) ∧ Fr (fun k => k = N) W w1 by
    rw [hw1]
    exact cut_end (by
      apply Exists.intro
      refine ⟨?_, ?_⟩
      · (repeat (with_reducible (first | exact HB0.out | apply Blk.set_ | apply Blk.drewN | apply Blk.drew)))
      · rfl) (by (repeat (with_reducible (first | exact Fr.refl _ _ | exact Fr.refl _ _ | refine Fr.set ?_ _ _ (by rfl) | apply Fr.drewN | apply Fr.drew)))))
  have HB1 := Lib.hid HX.out.1
  have HW1 := Lib.hid HX.out.2
  clear c0 c1 c2 c3 c4 c5 c6 c7 c8 c9 f HB0 HX hw1
  obtain ⟨c0, c1, c2, c3, c4, c5, c6, c7, c8, c9, f⟩ := stC HB1.out
  go_cut [] (fun wx => Hid (Blk wx N 78 (stL g n cap t b3 (.int .i64 1) (.int .u8 i) (.bool false) (.int .u64 0) (.int .u64 0) (.int .i64 zs) (.int .i64 os)) ∧ Fr (fun k => k = N) W wx))
  case first => as_aux_lemma =>
    refine wp_region_still_tail 11 (by kernel_rfl) (by kernel_rfl) ?_
    simp only [List.take_succ_cons, List.take_zero, List.drop_succ_cons, List.drop_zero]
    change wpStill _ _ (World.drew _) _ _ _
    repeat still_step
    refine wpStill_nil ?_
    change wpList _ _ _ _ _ (World.drew _)
    go_wp2
    all_goals
      go_meet
      case rel => exact Lib.hid (cut_end (by
        apply Exists.intro
        refine ⟨?_, ?_⟩
        · (repeat (with_reducible (first | exact HB1.out | apply Blk.set_ | apply Blk.drewN | apply Blk.drew)))
        · rfl) (by (repeat (with_reducible (first | exact Fr.refl _ _ | exact HW1.out | refine Fr.set ?_ _ _ (by rfl) | apply Fr.drewN | apply Fr.drew)))))
  case rest =>
  have HB2 := Lib.hid hcut.out.1
  have HW2 := Lib.hid hcut.out.2
  clear c0 c1 c2 c3 c4 c5 c6 c7 c8 c9 f HB1 HW1 hcut
  obtain ⟨c0, c1, c2, c3, c4, c5, c6, c7, c8, c9, f⟩ := stC HB2.out
  go_upto_region 14 with (first | fail)
  go_cut [] (fun wx => Hid (Blk wx N 78 (stL g n cap t b3 (.int .i64 1) (.int .u8 i) (.bool false) (.int .u64 0) (.int .u64 0) (.int .i64 zs) (.int .i64 os)) ∧ Fr (fun k => k = N) W wx))
  case first => as_aux_lemma =>
    go_region_held3 (fun w => w.cell? ⟨N, 2, none⟩ = some (.int .i64 b3) ∧ w.cell? ⟨N, 8, none⟩ = some (.int .i64 zs)) (first | exact ⟨(HB2.out.set_ 6 _).cell 2, (HB2.out.set_ 6 _).cell 8⟩ | go_keep) (first | (go_at_call 51; refine (CR1.out _ ?_).mono ?_; (repeat (with_reducible (first | exact Fr.refl _ _ | exact HW2.out | refine Fr.set ?_ _ _ (by rfl) | apply Fr.drewN | apply Fr.drew))); rintro e w9 ⟨rfl, rfl⟩))
    go_wp2_with fail
    all_goals
      go_meet
      case rel => exact Lib.hid (cut_end (by
        apply Exists.intro
        refine ⟨?_, ?_⟩
        · (repeat (with_reducible (first | exact HB2.out | apply Blk.set_ | apply Blk.drewN | apply Blk.drew)))
        · rfl) (by (repeat (with_reducible (first | exact Fr.refl _ _ | exact HW2.out | refine Fr.set ?_ _ _ (by rfl) | apply Fr.drewN | apply Fr.drew)))))
  case rest =>
  have HB3 := Lib.hid hcut.out.1
  have HW3 := Lib.hid hcut.out.2
  clear c0 c1 c2 c3 c4 c5 c6 c7 c8 c9 f HB2 HW2 hcut
  obtain ⟨c0, c1, c2, c3, c4, c5, c6, c7, c8, c9, f⟩ := stC HB3.out
  go_upto_region 16 with (first | fail)
  go_cut [] (fun wx => Hid (Blk wx N 78 (stL g n cap t b4 (.int .i64 1) (.int .u8 i) (.bool false) (.int .u64 0) (.int .u64 0) (.int .i64 zs) (.int .i64 os)) ∧ Fr (fun k => k = N) W wx))
  case first => as_aux_lemma =>
    refine wp_region_still_tail 11 (by kernel_rfl) (by kernel_rfl) ?_
    simp only [List.take_succ_cons, List.take_zero, List.drop_succ_cons, List.drop_zero]
    change wpStill _ _ (World.drew _) _ _ _
    repeat still_step
    refine wpStill_nil ?_
    change wpList _ _ _ _ _ (World.drew _)
    go_wp2
    all_goals
      go_meet
      case rel => exact Lib.hid (cut_end (by
        apply Exists.intro
        refine ⟨?_, ?_⟩
        · (repeat (with_reducible (first | exact HB3.out | apply Blk.set_ | apply Blk.drewN | apply Blk.drew)))
        · rfl) (by (repeat (with_reducible (first | exact Fr.refl _ _ | exact HW3.out | refine Fr.set ?_ _ _ (by rfl) | apply Fr.drewN | apply Fr.drew)))))
  case rest =>
  have HB4 := Lib.hid hcut.out.1
  have HW4 := Lib.hid hcut.out.2
  clear c0 c1 c2 c3 c4 c5 c6 c7 c8 c9 f HB3 HW3 hcut
  obtain ⟨c0, c1, c2, c3, c4, c5, c6, c7, c8, c9, f⟩ := stC HB4.out
  go_upto_region 17 with (first | fail)
  go_cut [] (fun wx => Hid (Blk wx N 78 (stL g n cap t b4 (.int .i64 1) (.int .u8 i) (.bool false) (.int .u64 0) (.int .u64 o) (.int .i64 zs) (.int .i64 os)) ∧ Fr (fun k => k = N) W wx))
  case first => as_aux_lemma =>
    go_region_held3 (fun w => w.cell? ⟨N, 2, none⟩ = some (.int .i64 b4) ∧ w.cell? ⟨N, 9, none⟩ = some (.int .i64 os)) (first | exact ⟨(HB4.out.set_ 7 _).cell 2, (HB4.out.set_ 7 _).cell 9⟩ | go_keep) (first | (go_at_call 51; refine (CR2.out _ ?_).mono ?_; (repeat (with_reducible (first | exact Fr.refl _ _ | exact HW4.out | refine Fr.set ?_ _ _ (by rfl) | apply Fr.drewN | apply Fr.drew))); rintro e w9 ⟨rfl, rfl⟩))
    go_wp2_with fail
    all_goals
      go_meet
      case rel => exact Lib.hid (cut_end (by
        apply Exists.intro
        refine ⟨?_, ?_⟩
        · (repeat (with_reducible (first | exact HB4.out | apply Blk.set_ | apply Blk.drewN | apply Blk.drew)))
        · rfl) (by (repeat (with_reducible (first | exact Fr.refl _ _ | exact HW4.out | refine Fr.set ?_ _ _ (by rfl) | apply Fr.drewN | apply Fr.drew)))))
  case rest =>
  have HB5 := Lib.hid hcut.out.1
  have HW5 := Lib.hid hcut.out.2
  clear c0 c1 c2 c3 c4 c5 c6 c7 c8 c9 f HB4 HW4 hcut
  obtain ⟨c0, c1, c2, c3, c4, c5, c6, c7, c8, c9, f⟩ := stC HB5.out
  go_wp2
  go_ret
  refine one_end (bot := b4) (x3 := .int .i64 1) (x5 := .bool false) (x8 := .int .i64 zs) (x9 := (.int .i64 os)) rfl (cut_end (by
    apply Exists.intro
    refine ⟨?_, ?_⟩
    · (repeat (with_reducible (first | exact HB5.out | apply Blk.set_ | apply Blk.drewN | apply Blk.drew)))
    · rfl) (by (repeat (with_reducible (first | exact Fr.refl _ _ | exact HW5.out | refine Fr.set ?_ _ _ (by rfl) | apply Fr.drewN | apply Fr.drew)))))

set_option maxRecDepth 100000 in
set_option maxHeartbeats 6400000 in
theorem atsF111 {W : World} {N g n cap t b2 b3 b4 zs os : Nat} {D : List Int} {i dl o : Int} (hB : Blk W N 78 (stL g n cap t t (.int .i64 0) (.int .u8 0) (.bool false) (.int .u64 0) (.int .u64 0) (.int .i64 0) (.int .i64 0)))
    (hD : Dt W g D) (hn : n = D.length) (hT : ∀ w, Fr (fun k => k = N) W w → Tabs w) (hg : g < W.heap.size) (hgN : g ≠ N) (h0 : 0 ≤ i) (h1 : i ≤ 255) (hc : cd i ≠ 0) (ht : At D t [128 + 0 + cd i]) (h16 : 16 ≤ t) (hcap : n ≤ cap) (hmax : n ≤ 100000000)
    (hp : At D b2 [16 * (zs : Int) + os]) (hk : At D b3 (pk dl zs)) (hz : 1 ≤ zs ∧ zs ≤ 8) (ho : 1 ≤ os ∧ os ≤ 8) (e1 : t = b2 + 1) (e2 : b2 = b3 + zs) (hdl : 0 ≤ dl ∧ dl < 256 ^ zs) (hq : At D b4 (pk o os)) (e3 : b3 = b4 + os) (hoo : 0 ≤ o ∧ o < 256 ^ os) (ha : dl ≠ 0) (hds : dl ≤ b4) :
    Calls Tryd.prog 37 #[.pointer (some ⟨N, 0, none⟩), .slice (some ⟨g, 0, none⟩) n cap, .int .i64 t] W (OneS W N g n cap t i ((b4 : Int) - dl) o) := by
  have hcb := cd_bd i h0 h1
  have hby := hD.byte ht
  obtain ⟨q1, q2, q3⟩ := hdr_of 0 (cd i) (.inl rfl) hcb.1 hcb.2
  have htn : (t : Int) < (n : Int) := by have := ht.len; simp at this; omega
  have mixed : Tryd.prog.follows .mixedOrders = true := by kernel_rfl
  have HB0 := Lib.hid hB
  obtain ⟨c0, c1, c2, c3, c4, c5, c6, c7, c8, c9, f⟩ := stC hB
  have hcz : (cd i == 0) = false := by rw [beq_eq_false_iff_ne]; exact hc
  have CDC := Lib.hid (fun w (hb : Fr (fun k => k = N) W w) => cd_back i h0 h1 hc w (hT w hb))
  have hby3 := hD.byte hp
  have r1 : (t : Int) - 1 = (b2 : Int) := by omega
  have hb2 : (b2 : Int) < (n : Int) := by omega
  have r3 : (b2 : Int) - (zs : Int) = (b3 : Int) := by omega
  have r4 : (b3 : Int) + (zs : Int) = (b2 : Int) := by omega
  have r5 : b2 - b3 = zs := by omega
  have wb2 : IntKind.i64.wrap (b2 : Int) = (b2 : Int) := by rw [IntKind.wrap_i64]; omega
  have wb3 : IntKind.i64.wrap (b3 : Int) = (b3 : Int) := by rw [IntKind.wrap_i64]; omega
  have hs1 : (b3 : Int) ≤ (b2 : Int) := by omega
  have hs2 : (b2 : Int) ≤ (cap : Int) := by omega
  have hs3 : ¬ cap = b3 := by omega
  have CDP := Lib.hid (dps_any zs os hz.2 (by omega))
  have CR1 := Lib.hid (fun w (hb : Fr (fun k => k = N) W w) => rpu_any (c := cap - b3) hD hk hz.2 hdl.1 hdl.2 w (hb.cell_ne hg hgN))
  have hdz : (dl != 0) = true := by rw [bne_iff_ne]; exact ha
  have hdn := hdl.1
  have r6 : (b3 : Int) - (os : Int) = (b4 : Int) := by omega
  have r7 : (b4 : Int) + (os : Int) = (b3 : Int) := by omega
  have r8 : b3 - b4 = os := by omega
  have wb4 : IntKind.i64.wrap (b4 : Int) = (b4 : Int) := by rw [IntKind.wrap_i64]; omega
  have hs4 : (b4 : Int) ≤ (b3 : Int) := by omega
  have hs5 : (b3 : Int) ≤ (cap : Int) := by omega
  have hs6 : ¬ cap = b4 := by omega
  have hos : (0 : Int) < (os : Int) := by omega
  have CR2 := Lib.hid (fun w (hb : Fr (fun k => k = N) W w) => rpu_any (c := cap - b4) hD hq ho.2 hoo.1 hoo.2 w (hb.cell_ne hg hgN))
  generalize 128 + 0 + cd i = hh at *
  clear hD hn ht hT hc hB hp hk e1 e2 hdl ha hq e3 hoo ho
  generalize (16 * (zs : Int) + (os : Int)) = pb at *
  go_enter Tryd.func37, Tryd.ntmps37
  go_upto_region 13 with (first | (go_at_call 49; refine (CDC.out _ ?_).mono ?_; (repeat (with_reducible (first | exact Fr.refl _ _ | exact Fr.refl _ _ | refine Fr.set ?_ _ _ (by rfl) | apply Fr.drewN | apply Fr.drew))); rintro e w9 ⟨rfl, rfl⟩) | (go_at_call 50; refine (CDP.out _).mono ?_; rintro e w9 ⟨rfl, rfl⟩) | fail)
  refine name_world ?_
  intro w1 hw1
  have HX := Lib.hid (show Blk w1 N 78 (stL g n cap t b2 (.int .i64 1) (.int .u8 i) (.bool false) (.int .u64 0) (.int .u64 0) (.int .i64 zs) (.int .i64 os)) ∧ Fr (fun k => k = N) W w1 by
    rw [hw1]
    exact cut_end (by
      apply Exists.intro
      refine ⟨?_, ?_⟩
      · (repeat (with_reducible (first | exact HB0.out | apply Blk.set_ | apply Blk.drewN | apply Blk.drew)))
      · rfl) (by (repeat (with_reducible (first | exact Fr.refl _ _ | exact Fr.refl _ _ | refine Fr.set ?_ _ _ (by rfl) | apply Fr.drewN | apply Fr.drew)))))
  have HB1 := Lib.hid HX.out.1
  have HW1 := Lib.hid HX.out.2
  clear c0 c1 c2 c3 c4 c5 c6 c7 c8 c9 f HB0 HX hw1
  obtain ⟨c0, c1, c2, c3, c4, c5, c6, c7, c8, c9, f⟩ := stC HB1.out
  go_cut [] (fun wx => Hid (Blk wx N 78 (stL g n cap t b3 (.int .i64 1) (.int .u8 i) (.bool false) (.int .u64 0) (.int .u64 0) (.int .i64 zs) (.int .i64 os)) ∧ Fr (fun k => k = N) W wx))
  case first => as_aux_lemma =>
    refine wp_region_still_tail 11 (by kernel_rfl) (by kernel_rfl) ?_
    simp only [List.take_succ_cons, List.take_zero, List.drop_succ_cons, List.drop_zero]
    change wpStill _ _ (World.drew _) _ _ _
    repeat still_step
    refine wpStill_nil ?_
    change wpList _ _ _ _ _ (World.drew _)
    go_wp2
    all_goals
      go_meet
      case rel => exact Lib.hid (cut_end (by
        apply Exists.intro
        refine ⟨?_, ?_⟩
        · (repeat (with_reducible (first | exact HB1.out | apply Blk.set_ | apply Blk.drewN | apply Blk.drew)))
        · rfl) (by (repeat (with_reducible (first | exact Fr.refl _ _ | exact HW1.out | refine Fr.set ?_ _ _ (by rfl) | apply Fr.drewN | apply Fr.drew)))))
  case rest =>
  have HB2 := Lib.hid hcut.out.1
  have HW2 := Lib.hid hcut.out.2
  clear c0 c1 c2 c3 c4 c5 c6 c7 c8 c9 f HB1 HW1 hcut
  obtain ⟨c0, c1, c2, c3, c4, c5, c6, c7, c8, c9, f⟩ := stC HB2.out
  go_upto_region 14 with (first | fail)
  go_cut [] (fun wx => Hid (Blk wx N 78 (stL g n cap t b3 (.int .i64 1) (.int .u8 i) (.bool false) (.int .u64 dl) (.int .u64 0) (.int .i64 zs) (.int .i64 os)) ∧ Fr (fun k => k = N) W wx))
  case first => as_aux_lemma =>
    go_region_held3 (fun w => w.cell? ⟨N, 2, none⟩ = some (.int .i64 b3) ∧ w.cell? ⟨N, 8, none⟩ = some (.int .i64 zs)) (first | exact ⟨(HB2.out.set_ 6 _).cell 2, (HB2.out.set_ 6 _).cell 8⟩ | go_keep) (first | (go_at_call 51; refine (CR1.out _ ?_).mono ?_; (repeat (with_reducible (first | exact Fr.refl _ _ | exact HW2.out | refine Fr.set ?_ _ _ (by rfl) | apply Fr.drewN | apply Fr.drew))); rintro e w9 ⟨rfl, rfl⟩))
    go_wp2_with fail
    all_goals
      go_meet
      case rel => exact Lib.hid (cut_end (by
        apply Exists.intro
        refine ⟨?_, ?_⟩
        · (repeat (with_reducible (first | exact HB2.out | apply Blk.set_ | apply Blk.drewN | apply Blk.drew)))
        · rfl) (by (repeat (with_reducible (first | exact Fr.refl _ _ | exact HW2.out | refine Fr.set ?_ _ _ (by rfl) | apply Fr.drewN | apply Fr.drew)))))
  case rest =>
  have HB3 := Lib.hid hcut.out.1
  have HW3 := Lib.hid hcut.out.2
  clear c0 c1 c2 c3 c4 c5 c6 c7 c8 c9 f HB2 HW2 hcut
  obtain ⟨c0, c1, c2, c3, c4, c5, c6, c7, c8, c9, f⟩ := stC HB3.out
  go_upto_region 16 with (first | fail)
  go_cut [] (fun wx => Hid (Blk wx N 78 (stL g n cap t b4 (.int .i64 1) (.int .u8 i) (.bool false) (.int .u64 dl) (.int .u64 0) (.int .i64 zs) (.int .i64 os)) ∧ Fr (fun k => k = N) W wx))
  case first => as_aux_lemma =>
    refine wp_region_still_tail 11 (by kernel_rfl) (by kernel_rfl) ?_
    simp only [List.take_succ_cons, List.take_zero, List.drop_succ_cons, List.drop_zero]
    change wpStill _ _ (World.drew _) _ _ _
    repeat still_step
    refine wpStill_nil ?_
    change wpList _ _ _ _ _ (World.drew _)
    go_wp2
    all_goals
      go_meet
      case rel => exact Lib.hid (cut_end (by
        apply Exists.intro
        refine ⟨?_, ?_⟩
        · (repeat (with_reducible (first | exact HB3.out | apply Blk.set_ | apply Blk.drewN | apply Blk.drew)))
        · rfl) (by (repeat (with_reducible (first | exact Fr.refl _ _ | exact HW3.out | refine Fr.set ?_ _ _ (by rfl) | apply Fr.drewN | apply Fr.drew)))))
  case rest =>
  have HB4 := Lib.hid hcut.out.1
  have HW4 := Lib.hid hcut.out.2
  clear c0 c1 c2 c3 c4 c5 c6 c7 c8 c9 f HB3 HW3 hcut
  obtain ⟨c0, c1, c2, c3, c4, c5, c6, c7, c8, c9, f⟩ := stC HB4.out
  go_upto_region 17 with (first | fail)
  go_cut [] (fun wx => Hid (Blk wx N 78 (stL g n cap t b4 (.int .i64 1) (.int .u8 i) (.bool false) (.int .u64 dl) (.int .u64 o) (.int .i64 zs) (.int .i64 os)) ∧ Fr (fun k => k = N) W wx))
  case first => as_aux_lemma =>
    go_region_held3 (fun w => w.cell? ⟨N, 2, none⟩ = some (.int .i64 b4) ∧ w.cell? ⟨N, 9, none⟩ = some (.int .i64 os)) (first | exact ⟨(HB4.out.set_ 7 _).cell 2, (HB4.out.set_ 7 _).cell 9⟩ | go_keep) (first | (go_at_call 51; refine (CR2.out _ ?_).mono ?_; (repeat (with_reducible (first | exact Fr.refl _ _ | exact HW4.out | refine Fr.set ?_ _ _ (by rfl) | apply Fr.drewN | apply Fr.drew))); rintro e w9 ⟨rfl, rfl⟩))
    go_wp2_with fail
    all_goals
      go_meet
      case rel => exact Lib.hid (cut_end (by
        apply Exists.intro
        refine ⟨?_, ?_⟩
        · (repeat (with_reducible (first | exact HB4.out | apply Blk.set_ | apply Blk.drewN | apply Blk.drew)))
        · rfl) (by (repeat (with_reducible (first | exact Fr.refl _ _ | exact HW4.out | refine Fr.set ?_ _ _ (by rfl) | apply Fr.drewN | apply Fr.drew)))))
  case rest =>
  have HB5 := Lib.hid hcut.out.1
  have HW5 := Lib.hid hcut.out.2
  clear c0 c1 c2 c3 c4 c5 c6 c7 c8 c9 f HB4 HW4 hcut
  obtain ⟨c0, c1, c2, c3, c4, c5, c6, c7, c8, c9, f⟩ := stC HB5.out
  go_upto_region 20 with (first | fail)
  go_cut [] (fun wx => Hid (Blk wx N 78 (stL g n cap t b4 (.int .i64 1) (.int .u8 i) (.bool false) (.int .u64 ((b4 : Int) - dl)) (.int .u64 o) (.int .i64 zs) (.int .i64 os)) ∧ Fr (fun k => k = N) W wx))
  case first => as_aux_lemma =>
    refine wp_region_still_tail 13 (by kernel_rfl) (by kernel_rfl) ?_
    simp only [List.take_succ_cons, List.take_zero, List.drop_succ_cons, List.drop_zero]
    change wpStill _ _ (World.drew _) _ _ _
    repeat still_step
    refine wpStill_nil ?_
    change wpList _ _ _ _ _ (World.drew _)
    go_wp2
    all_goals
      go_meet
      case rel => exact Lib.hid (cut_end (by
        apply Exists.intro
        refine ⟨?_, ?_⟩
        · (repeat (with_reducible (first | exact HB5.out | apply Blk.set_ | apply Blk.drewN | apply Blk.drew)))
        · rfl) (by (repeat (with_reducible (first | exact Fr.refl _ _ | exact HW5.out | refine Fr.set ?_ _ _ (by rfl) | apply Fr.drewN | apply Fr.drew)))))
  case rest =>
  have HB6 := Lib.hid hcut.out.1
  have HW6 := Lib.hid hcut.out.2
  clear c0 c1 c2 c3 c4 c5 c6 c7 c8 c9 f HB5 HW5 hcut
  obtain ⟨c0, c1, c2, c3, c4, c5, c6, c7, c8, c9, f⟩ := stC HB6.out
  go_wp2
  go_ret
  refine one_end (bot := b4) (x3 := .int .i64 1) (x5 := .bool false) (x8 := .int .i64 zs) (x9 := (.int .i64 os)) rfl (cut_end (by
    apply Exists.intro
    refine ⟨?_, ?_⟩
    · (repeat (with_reducible (first | exact HB6.out | apply Blk.set_ | apply Blk.drewN | apply Blk.drew)))
    · rfl) (by (repeat (with_reducible (first | exact Fr.refl _ _ | exact HW6.out | refine Fr.set ?_ _ _ (by rfl) | apply Fr.drewN | apply Fr.drew)))))

end Go.Proofs.YtjonmfaeonldcaaDoor.fnStateFor
