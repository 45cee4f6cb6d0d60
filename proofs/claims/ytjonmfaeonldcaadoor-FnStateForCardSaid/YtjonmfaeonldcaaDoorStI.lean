/-
  FnStateFor: bufio.Writer: Write of sixteen bytes. Conditions: as stated.
-/
import Derived.Test.YtjonmfaeonldcaaDoorStH
import Derived.Deep.LoopGhost
namespace Go.Proofs.YtjonmfaeonldcaaDoor.fnStateFor
open Go.ChangeShapes Go.WideShapes Go.ChangeAt Go.RowKit
set_option linter.unusedVariables false

section
variable {W : World} {x : Wb} {rv : Value} {fl bu rest : List Int} {cnt : Int}
theorem u_split (h : En0 W x rv fl bu rest cnt) : Blk W x.u 5 (by8 (bu ++ rest)) := h.u
/-- bytes are copied behind what is buffered -/
theorem En0.puts (h : En0 W x rv fl bu rest cnt) (cs : List Int) (hl : cs.length ≤ rest.length) {M : Array Value} (hM : M = (by8 (bu ++ cs ++ rest.drop cs.length)).toArray) (n : Int) (hn : n = ((bu ++ cs).length : Nat)) :
    En0 ((W.setRow x.u M).setCell ⟨x.f, 2, none⟩ (.int .i64 n)) x rv fl (bu ++ cs) (rest.drop cs.length) cnt := by
  subst hM hn
  have ho : ∀ k, k ≠ x.u → (W.setRow x.u (by8 (bu ++ cs ++ rest.drop cs.length)).toArray).heap[k]? = W.heap[k]? := fun k hk => setRow_other W x.u k _ hk
  have hf : Fr (fun k => k = x.u) W (W.setRow x.u (by8 (bu ++ cs ++ rest.drop cs.length)).toArray) := ⟨rfl, rfl, rfl, by simp [World.setRow], fun k _ hk => ho k hk⟩
  obtain ⟨lr, hb⟩ := h.b
  refine { bf := ⟨⟨lr, (hf.blk hb h.bu_).far h.bf_ _⟩, own_set (hf.own h.row (fun k hk e => h.ru (e ▸ hk))) _ _ h.rf, h.bf.z⟩, w := (hf.blk h.w h.wu).far h.wf _, f := (hf.blk h.f h.fu).set_ 2 _, u := ?_, len := by have := h.len; simp; omega, ru := h.ru }
  have h1 : Blk (W.setRow x.u (by8 (bu ++ cs ++ rest.drop cs.length)).toArray) x.u 5 (by8 (bu ++ cs ++ rest.drop cs.length)) := setRow_heap W x.u _ _ _ _ h.u
  exact h1.far (fun e => h.fu e.symm) _
theorem En0.set2 (h : En0 W x rv fl bu rest cnt) (z : Int) (hz : z = (bu.length : Nat)) : En0 (W.setCell ⟨x.f, 2, none⟩ (.int .i64 z)) x rv fl bu rest cnt := by
  subst hz
  obtain ⟨lr, hb⟩ := h.b
  exact { bf := ⟨⟨lr, hb.far h.bf_ _⟩, own_set h.row _ _ h.rf, h.bf.z⟩, w := h.w.far h.wf _, f := h.f.set_ 2 _, u := h.u.far (fun e => h.fu e.symm) _, len := h.len, ru := h.ru }
theorem copy_u (h : En0 W x rv fl bu rest cnt) {a : Addr} {cs : List Int} {c k : Nat} (hk : k = Nat.min cs.length rest.length) (hs : ∀ j v, (by8 cs)[j]? = some v → W.cell? (a.add j) = some v) :
    ∃ M, M = (by8 (bu ++ cs.take k ++ rest.drop k)).toArray ∧ (Builtin.copy_ #[34, 34] 3 #[.slice (some ⟨x.u, bu.length, none⟩) rest.length rest.length, .slice (some a) cs.length c]).run Tryd.prog W =
      .ok (.int .i64 k) (W.setRow x.u M) := by
  have hk1 : k ≤ cs.length := by rw [hk]; exact Nat.min_le_left _ _
  have hk2 : k ≤ rest.length := by rw [hk]; exact Nat.min_le_right _ _
  have hl : (by8 (cs.take k)).length = k := by rw [by8_len, List.length_take]; omega
  have hx := run_copy_row (P := Tryd.prog) W 34 34 3 5 x.u bu.length rest.length rest.length a cs.length c (by8 (bu ++ rest)).toArray 5 (by8 (cs.take k)) Tryd.underlying34 info1 h.u (by rw [hl]; exact hk)
    (fun j v hj => by
      have hj' : j < (by8 (cs.take k)).length := (List.getElem?_eq_some_iff.1 hj).1
      rw [hl] at hj'
      refine hs j v ?_
      simp only [by8, List.map_take] at hj ⊢
      rw [List.getElem?_take, if_pos hj'] at hj
      exact hj) (by rw [hl]; simp [by8]; omega) (one8 _)
  rw [hl] at hx
  refine ⟨_, rfl, ?_⟩
  have e : (by8 (bu ++ rest)).toArray.toList.take bu.length ++ by8 (cs.take k) ++ (by8 (bu ++ rest)).toArray.toList.drop (bu.length + k) = by8 (bu ++ cs.take k ++ rest.drop k) := by
    simp only [by8, List.map_append, List.map_take, List.map_drop, List.append_assoc]
    rw [List.take_left' (by simp), show bu.length + k = (List.map (Value.int .u8) bu).length + k by simp, List.drop_append]
    simp
  rw [e] at hx
  exact hx
end

theorem copy_u' {W : World} {x : Wb} {rv : Value} {fl bu rest : List Int} {cnt : Int} (h : En0 W x rv fl bu rest cnt) {a : Addr} {cs : List Int} {c k : Nat} (hk : k = Nat.min cs.length rest.length) (hs : ∀ j v, (by8 cs)[j]? = some v → W.cell? (a.add j) = some v)
    {M : Array Value} (hM : M = (by8 (bu ++ cs.take k ++ rest.drop k)).toArray) : (Builtin.copy_ #[34, 34] 3 #[.slice (some ⟨x.u, bu.length, none⟩) rest.length rest.length, .slice (some a) cs.length c]).run Tryd.prog W =
      .ok (.int .i64 k) (W.setRow x.u M) := by
  obtain ⟨M', hM', h1⟩ := copy_u h hk hs (c := c)
  rw [hM, ← hM']
  exact h1

theorem setRow_fr {O : Nat → Prop} {a w : World} (h : Fr O a w) {g : Nat} (hg : O g) (M : Array Value) : Fr O a (w.setRow g M) :=
  ⟨h.os, h.tape, h.output, by simpa [World.setRow] using h.size, fun k hk hn => (setRow_other w g k M (by rintro rfl; exact hn hg)).trans (h.block k hk hn)⟩

/-- what the loop of Write keeps: k bytes are taken -/
structure Bw (x : Wb) (W : World) (rv : Value) (g k : Nat) (out cs : List Int) (cnt : Int) (wr : World) (rv' : Value) (fl bu rest : List Int) : Prop where
  e : En0 wr x rv' fl bu rest cnt
  ev : Ev x W rv wr rv'
  out : fl ++ bu = out ++ cs.take k
  src : Blk wr g 5 (by8 cs)
  own : ¬ Own x rv' g

set_option maxRecDepth 100000 in
set_option maxHeartbeats 3200000 in
theorem bw_any {W : World} {x : Wb} {rv : Value} {fl bu rest : List Int} {cnt : Int} {g : Nat} {cs : List Int} (h : En0 W x rv fl bu rest cnt) {out : List Int} (hout : fl ++ bu = out) (hc : cs.length = 16) (hg : Blk W g 5 (by8 cs)) (ho : ¬ Own x rv g) (hlim : fl.length + bu.length ≤ 100000000) :
    Calls Tryd.prog 40 #[.pointer (some ⟨x.f, 0, none⟩), .slice (some ⟨g, 0, none⟩) 16 16] W (Wr0 x W rv (out ++ cs) cnt (.tuple #[.int .i64 16, .nilIface])) := by
  have HC := Lib.hid hc
  have H0 := Lib.hid (⟨h, Ev.refl _ _ _, by simp [hout], hg, ho⟩ : Bw x W rv g 0 out cs cnt W rv fl bu rest)
  have HLIM := Lib.hid (show out.length ≤ 100000000 by rw [← hout]; simpa using hlim)
  clear hout h hc hg ho hlim
  go_enter Tryd.func40, Tryd.ntmps40
  go_wp2
  go_loopg [1, 4] 1 (fun gg p nn wx => ∃ (k : Nat) (rv' : Value) (fl' bu' rest' : List Int), k < 16 ∧ p = .slice (some ⟨g, k, none⟩) (16 - k) (16 - k) ∧ nn = .int .i64 k ∧ Hid (Bw x W rv g k out cs cnt wx rv' fl' bu' rest') ∧ (gg = 0 → 16 ≤ rest'.length))
  case atStart => exact ⟨0, rv, fl, bu, rest, by omega, rfl, rfl, H0, fun h => by omega⟩
  case round =>
    obtain ⟨k, rv', fl', bu', rest', hk, rfl, rfl, HB, hgg⟩ := hrel
    obtain ⟨c0, c1, c2, c3, f2⟩ := f_cells HB.out.e
    have CA := Lib.hid (avail_any HB.out.e)
    have CB := Lib.hid (fun n => bufd_any (HB.out.e.drewN n))
    have hlen := HB.out.e.len
    have hsrc : ∀ n j v, (by8 (cs.drop k))[j]? = some v → (wr.drewN n).cell? ((⟨g, k, none⟩ : Addr).add j) = some v := fun n j v hj => by
      have e : ((⟨g, k, none⟩ : Addr).add j) = ⟨g, k + j, none⟩ := by
        unfold Addr.add
        by_cases h0 : j = 0 <;> simp [h0]
      rw [e]
      have h1 := (HB.out.src.drewN n).cell (k + j)
      rw [h1]
      simp only [by8, List.map_drop, List.getElem?_drop] at hj ⊢
      exact hj
    have hdl : (cs.drop k).length = 16 - k := by rw [List.length_drop, HC.out]
    by_cases hroom : 16 - k ≤ rest'.length
    · have hlt : ¬ ((rest'.length : Int) < 16 - (k : Int)) := by omega
      obtain ⟨M, hM⟩ : ∃ M, M = (by8 (bu' ++ (cs.drop k).take (16 - k) ++ rest'.drop (16 - k))).toArray := ⟨_, rfl⟩
      have hcp : ∀ n, _ := fun n => copy_u' (HB.out.e.drewN n) (a := ⟨g, k, none⟩) (cs := cs.drop k) (c := 16 - k) (k := 16 - k) (by rw [hdl]; exact (Nat.min_eq_left hroom).symm) (hsrc n) hM
      have HM := Lib.hid hM
      clear hM
      rw [hdl] at hcp
      have HD := Lib.hid hdl
      have r1 : 4096 - bu'.length = rest'.length := by omega
      have r2 : ¬ 4096 = bu'.length := by omega
      have r3 : (bu'.length : Int) ≤ 4096 := by omega
      have r4 : (k : Int) + ((16 - k : Nat) : Int) = 16 := by omega
      have hd2 : ∀ n, ((wr.drewN n).setRow x.u M).cell? ⟨x.f, 2, none⟩ = some (.int .i64 bu'.length) := fun n => (World.cell?_of_block (setRow_other _ _ _ _ HB.out.e.fu)).trans c2
      have he2 : ∀ n, ((wr.drewN n).setRow x.u M).frozen? ⟨x.f, 2, none⟩ = false := fun n => (World.frozen?_of_block (setRow_other _ _ _ _ HB.out.e.fu)).trans f2
      clear hsrc hdl hlen
      go_wp2_with fail
      refine CA.out.mono ?_
      rintro e w1 ⟨rfl, n1, rfl⟩
      go_wp2
      refine wp_region_still_tail 10 (by kernel_rfl) (by kernel_rfl) ?_
      simp only [List.take_succ_cons, List.take_zero, List.drop_succ_cons, List.drop_zero]
      change wpStill _ _ (World.drew _) _ _ _
      repeat still_step
      refine wpStill_nil ?_
      change wpList _ _ _ _ _ (World.drew _)
      go_wp2
      go_ret2
      have hT : (cs.drop k).take (16 - k) = cs.drop k := List.take_of_length_le (by rw [HD.out]; exact Nat.le_refl _)
      have hM := HM.out
      rw [hT] at hM
      refine ⟨rv', fl', bu' ++ cs.drop k, rest'.drop (16 - k), rfl, ?_, ?_, ?_⟩
      · rw [← List.append_assoc, HB.out.out, List.append_assoc, List.take_append_drop]
      · have h1 := (HB.out.e.drewN (n1 + 1)).puts (cs.drop k) (by rw [HD.out]; exact hroom) (M := M) (by rw [HD.out]; exact hM) ((bu'.length : Int) + ((16 - k : Nat) : Int)) (by rw [List.length_append, HD.out]; omega)
        rw [HD.out] at h1
        exact h1
      · exact HB.out.ev.fr_ ((setRow_fr (((Fr.refl _ _).drewN _)) (.inr (.inr (.inr (.inl rfl)))) _).set _ _ (.inr (.inr (.inl rfl))))
    · have hgk : gk ≠ 0 := fun e => by have := hgg e; omega
      have hgt : (rest'.length : Int) < 16 - (k : Int) := by omega
      have hb1 : ((bu'.length : Int) == 0) = false := by rw [beq_eq_false_iff_ne]; omega
      have hb0 : ¬ (bu'.length : Int) = 0 := by omega
      obtain ⟨m, hm⟩ : ∃ m, m = rest'.length := ⟨_, rfl⟩
      obtain ⟨M, hM⟩ : ∃ M, M = (by8 (bu' ++ (cs.drop k).take m ++ rest'.drop m)).toArray := ⟨_, rfl⟩
      have hcp : ∀ n, _ := fun n => copy_u' (HB.out.e.drewN n) (a := ⟨g, k, none⟩) (cs := cs.drop k) (c := 16 - k) (k := m) (by rw [hdl, hm]; exact (Nat.min_eq_right (by omega)).symm) (hsrc n) hM
      rw [hdl, ← hm] at hcp
      have HM := Lib.hid hM
      have HMM := Lib.hid hm
      have HD := Lib.hid hdl
      have r1 : 4096 - bu'.length = m := by omega
      have r3 : (bu'.length : Int) ≤ 4096 := by omega
      have hd2 : ∀ n, ((wr.drewN n).setRow x.u M).cell? ⟨x.f, 2, none⟩ = some (.int .i64 bu'.length) := fun n => (World.cell?_of_block (setRow_other _ _ _ _ HB.out.e.fu)).trans c2
      have he2 : ∀ n, ((wr.drewN n).setRow x.u M).frozen? ⟨x.f, 2, none⟩ = false := fun n => (World.frozen?_of_block (setRow_other _ _ _ _ HB.out.e.fu)).trans f2
      clear hM hm hdl hsrc
      by_cases hm0 : m = 0
      · have hbl : bu'.length = 4096 := by omega
        have hl0 : rest' = [] := List.eq_nil_of_length_eq_zero (by rw [← HMM.out]; exact hm0)
        subst hl0
        have hcp0 : ∀ (d : Option Addr) (w : World), (Builtin.copy_ #[34, 34] 3 #[.slice d 0 0, .slice (some ⟨g, k, none⟩) (16 - k) (16 - k)]).run Tryd.prog w = .ok (.int .i64 0) w := fun d w =>
          run_copy_none w 34 34 3 5 d (some ⟨g, k, none⟩) 0 0 (16 - k) (16 - k) Tryd.underlying34 info1 (by simp)
        have HP := Lib.hid (fun n => show En0 ((wr.drewN n).setCell ⟨x.f, 2, none⟩ (.int .i64 4096)) x rv' fl' bu' [] cnt by
          have h1 := (HB.out.e.drewN n).set2 4096 (by rw [hbl]; rfl)
          exact h1)
        have hol := HLIM.out
        have hlo : fl'.length + bu'.length ≤ 100000016 := by
          have := congrArg List.length HB.out.out
          simp only [List.length_append, List.length_take, HC.out] at this
          omega
        have CF := Lib.hid (fun n => flush_some (HP.out n) (by omega) (by omega))
        have HV := Lib.hid (fun n => HB.out.ev.fr_ ((((Fr.refl (Own x rv') wr).drewN n)).set ⟨x.f, 2, none⟩ (.int .i64 4096) (.inr (.inr (.inl rfl)))))
        have HO := Lib.hid HB.out.out
        rw [hbl] at c2 CB
        have HK := Lib.hid hk
        clear hlen hlo hol HP hd2 he2 hcp r1 r3 hbl hb0 hb1 hgt hroom
        have hgt : (0 : Int) < 16 - (k : Int) := by omega
        go_wp2_with fail
        refine CA.out.mono ?_
        rintro e w1 ⟨rfl, n1, rfl⟩
        go_wp2_with fail
        refine (CB.out n1).mono ?_
        rintro e w1 ⟨rfl, rfl⟩
        go_wp2
        refine wp_region_still_tail 10 (by kernel_rfl) (by kernel_rfl) ?_
        simp only [List.take_succ_cons, List.take_zero, List.drop_succ_cons, List.drop_zero]
        change wpStill _ _ (World.drew _) _ _ _
        repeat still_step
        refine wpStill_nil ?_
        change wpList _ _ _ _ _ (World.drew _)
        go_wp2_with fail
        refine (CF.out (n1 + 1)).mono ?_
        rintro e w2 ⟨rv2, rest2, rfl, hE2, hV2⟩
        have hS2 := (HV.out (n1 + 1)).trans hV2
        rw [HO.out] at hE2
        have hl4 := hE2.len
        have HB2 := Lib.hid (⟨⟨hE2, hS2, by simp, (hS2.blk H0.out.src H0.out.own).1, (hS2.blk H0.out.src H0.out.own).2⟩, by simp at hl4; omega⟩ : Bw x W rv g k out cs cnt w2 rv2 (out ++ cs.take k) [] rest2 ∧ 16 ≤ rest2.length)
        clear hE2 hV2 hS2 hl4
        go_wp2
        go_roundg 0
        case measure => omega
        case rel => exact ⟨k, rv2, out ++ cs.take k, [], rest2, HK.out, rfl, rfl, Lib.hid HB2.out.1, fun _ => HB2.out.2⟩
      · have r2 : ¬ 4096 = bu'.length := by omega
        have hTl : ((cs.drop k).take m).length = m := by rw [List.length_take, HD.out]; omega
        have hDl : rest'.drop m = [] := List.drop_eq_nil_of_le (by rw [HMM.out]; exact Nat.le_refl _)
        have HP := Lib.hid (fun n => show En0 (((wr.drewN n).setRow x.u M).setCell ⟨x.f, 2, none⟩ (.int .i64 ((bu'.length : Int) + (m : Int)))) x rv' fl' (bu' ++ (cs.drop k).take m) [] cnt by
          have h1 := (HB.out.e.drewN n).puts ((cs.drop k).take m) (by rw [hTl, HMM.out]; exact Nat.le_refl _) (M := M) (by rw [hTl]; exact HM.out) ((bu'.length : Int) + (m : Int)) (by rw [List.length_append, hTl]; omega)
          rw [hTl, hDl] at h1
          exact h1)
        have hol := HLIM.out
        have hlo : fl'.length + bu'.length ≤ 100000016 := by
          have := congrArg List.length HB.out.out
          simp only [List.length_append, List.length_take, HC.out] at this
          omega
        have CF := Lib.hid (fun n => flush_some (HP.out n) (by rw [List.length_append]; omega) (by rw [List.length_append, hTl]; omega))
        have HV := Lib.hid (fun n => HB.out.ev.fr_ ((setRow_fr (g := x.u) (((Fr.refl (Own x rv') wr).drewN n)) (.inr (.inr (.inr (.inl rfl)))) M).set ⟨x.f, 2, none⟩ (.int .i64 ((bu'.length : Int) + (m : Int))) (.inr (.inr (.inl rfl)))))
        have hO : fl' ++ (bu' ++ (cs.drop k).take m) = out ++ cs.take (k + m) := by
          rw [← List.append_assoc, HB.out.out, List.append_assoc, List.take_add]
        have HO := Lib.hid hO
        have r5 : (m : Int) ≤ 16 - (k : Int) := by omega
        have r6 : ¬ 16 - k = m := by omega
        have r7 : k + m < 16 := by omega
        have r8 : 16 - k - m = 16 - (k + m) := by omega
        clear hlen hTl hDl hol hlo hO HP
        go_wp2_with fail
        refine CA.out.mono ?_
        rintro e w1 ⟨rfl, n1, rfl⟩
        go_wp2_with fail
        refine (CB.out n1).mono ?_
        rintro e w1 ⟨rfl, rfl⟩
        go_wp2
        refine wp_region_still_tail 10 (by kernel_rfl) (by kernel_rfl) ?_
        simp only [List.take_succ_cons, List.take_zero, List.drop_succ_cons, List.drop_zero]
        change wpStill _ _ (World.drew _) _ _ _
        repeat still_step
        refine wpStill_nil ?_
        change wpList _ _ _ _ _ (World.drew _)
        go_wp2_with fail
        refine (CF.out (n1 + 1)).mono ?_
        rintro e w2 ⟨rv2, rest2, rfl, hE2, hV2⟩
        have hS2 := (HV.out (n1 + 1)).trans hV2
        rw [HO.out] at hE2
        have hl4 := hE2.len
        have HB2 := Lib.hid (⟨⟨hE2, hS2, by simp, (hS2.blk H0.out.src H0.out.own).1, (hS2.blk H0.out.src H0.out.own).2⟩, by simp at hl4; omega⟩ : Bw x W rv g (k + m) out cs cnt w2 rv2 (out ++ cs.take (k + m)) [] rest2 ∧ 16 ≤ rest2.length)
        clear hE2 hV2 hS2 hl4
        go_wp2
        go_roundg 0
        case measure => omega
        case rel => exact ⟨k + m, rv2, out ++ cs.take (k + m), [], rest2, r7, rfl, by go_num, Lib.hid HB2.out.1, fun _ => HB2.out.2⟩

end Go.Proofs.YtjonmfaeonldcaaDoor.fnStateFor
