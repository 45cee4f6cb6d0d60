/-
  FnStateFor: a state that was written is found and asked: impl.StateFor; the law. Conditions: the tables of short codes, as listed.
-/
import Derived.Test.YtjonmfaeonldcaaDoorStAt
import Derived.Test.YtjonmfaeonldcaaDoorStEnc

import Derived.Deep.RegionHeld3
namespace Go.Proofs.YtjonmfaeonldcaaDoor.fnStateFor
open Go.ChangeShapes Go.WideShapes Go.ChangeAt Go.RowKit
set_option linter.unusedVariables false

/-! plain: the state at a place -/
theorem getD_take {l : List Int} {i j : Nat} (h : j < i) : (l.take i).getD j 0 = l.getD j 0 := by
  rw [List.getD_eq_getElem?_getD, List.getD_eq_getElem?_getD, List.getElem?_take_of_lt h]
theorem numOf_at {As : List Int} (hp : ∀ y ∈ As, 16 ≤ y) (hr : ∀ i j, i < j → j < As.length → As.getD i 0 < As.getD j 0) {t : Nat} (ht : t < As.length) : numOf As (As.getD t 0) = t := by
  have hm : As.getD t 0 ∈ As := mem_getD ht
  have h16 := hp _ hm
  unfold numOf
  rw [if_neg (by omega), dif_pos hm]
  congr 1
  rw [List.findIdx_eq ht]
  refine ⟨?_, fun j hj => ?_⟩
  · rw [List.getD_eq_getElem?_getD, List.getElem?_eq_getElem ht]
    simp
  · have h1 := hr j t hj ht
    have e : As[j] = As.getD j 0 := by rw [List.getD_eq_getElem?_getD, List.getElem?_eq_getElem (by omega)]; rfl
    rw [e]
    rw [beq_eq_false_iff_ne]
    omega
theorem numOf_adr {As : List Int} (hp : ∀ y ∈ As, 16 ≤ y) (hr : ∀ i j, i < j → j < As.length → As.getD i 0 < As.getD j 0) {i : Nat} {t : Int} (h0 : -1 ≤ t) (ht : t < i) (hi : i ≤ As.length) : numOf As (adr (As.take i) t) = t := by
  unfold adr
  split
  · unfold numOf; rw [if_pos rfl]; omega
  · obtain ⟨m, rfl⟩ := Int.eq_ofNat_of_zero_le (show 0 ≤ t by omega)
    show numOf As ((As.take i).getD m 0) = _
    rw [getD_take (by omega)]
    exact numOf_at hp hr (by omega)
theorem numOf_one {As : List Int} (hp : ∀ y ∈ As, 16 ≤ y) : numOf As 1 = -2 := by
  unfold numOf
  rw [if_neg (by omega), dif_neg]
  intro h
  have := hp _ h
  omega
theorem rise_lt {l : List Arc} (h : ∀ k (h : k + 1 < l.length), l[k].1 < l[k + 1].1) : ∀ j k (hj : j < l.length) (hk : k < l.length), k < j → l[k].1 < l[j].1
  | 0, k, hj, hk, hkj => absurd hkj (by omega)
  | j + 1, k, hj, hk, hkj => by
    have h1 := h j hj
    rcases Nat.lt_or_ge k j with h2 | h2
    · have := rise_lt h j k (by omega) hk h2
      omega
    · obtain rfl : k = j := by omega
      exact h1

/-- the state i, as it lies in the bytes -/
structure Sti (ls : List LS) (i : Nat) (s : LS) (S t : Nat) : Prop where
  s16 : 16 ≤ S
  at_ : At (E ls ls.length).1 S (stB cd S s.f s.o (arcsOf ((E ls ls.length).2.take i) s.sta) (lastOf ((E ls ls.length).2.take i)))
  tl : t + 1 = S + (stB cd S s.f s.o (arcsOf ((E ls ls.length).2.take i) s.sta) (lastOf ((E ls ls.length).2.take i))).length
  te : (E ls ls.length).2.getD i 0 = t
  m : (arcsOf ((E ls ls.length).2.take i) s.sta).length ≤ 256
  ok : ∀ x ∈ arcsOf ((E ls ls.length).2.take i) s.sta, okArc S x
  r : ∀ j k (hj : j < (arcsOf ((E ls ls.length).2.take i) s.sta).length) (hk : k < (arcsOf ((E ls ls.length).2.take i) s.sta).length), k < j → (arcsOf ((E ls ls.length).2.take i) s.sta)[j].1 ≠ (arcsOf ((E ls ls.length).2.take i) s.sta)[k].1
  la : ∀ y, arcsOf ((E ls ls.length).2.take i) s.sta = [y] → y.2.1 = 0 ∧ y.2.2 = lastOf ((E ls ls.length).2.take i) → y.2.2 = (S : Int) - 1
  p : ∀ y ∈ (E ls ls.length).2, 16 ≤ y
  ri : ∀ i j, i < j → j < (E ls ls.length).2.length → (E ls ls.length).2.getD i 0 < (E ls ls.length).2.getD j 0
  n : (E ls ls.length).2.length = ls.length
  bt : ∀ x ∈ s.l, -1 ≤ x.2.2 ∧ x.2.2 < i

theorem sti_of {w : World} {B : Nat} {ls : List LS} (hok : oksL ls) {i : Nat} (hi : i < ls.length) (hg : goodLS w B ls[i]) : ∃ S t, Sti ls i ls[i] S t := by
  have P := E_P ls hok ls.length (Nat.le_refl _)
  have hn : (E ls ls.length).2.length = ls.length := by have := P.n; simp at this; omega
  have hst := P.st i (by simp; exact hi)
  obtain ⟨o1, o2, o3, o4, o5⟩ := hok i hi
  simp only [List.getElem_take, List.getElem_map] at hst
  obtain ⟨S, a1, a2, a3, a4, a5⟩ := hst
  have hlen := (stB_len cd S ls[i].f ls[i].o (arcsOf ((E ls ls.length).2.take i) ls[i].sta) (lastOf ((E ls ls.length).2.take i)) (by rw [arcsOf_len]; exact o1)).1
  have hp : ∀ y ∈ (E ls ls.length).2, 16 ≤ y := fun y hy => (P.lo y hy).1
  refine ⟨S, S + (stB cd S ls[i].f ls[i].o (arcsOf ((E ls ls.length).2.take i) ls[i].sta) (lastOf ((E ls ls.length).2.take i))).length - 1, ⟨a1, a2, by omega, ?_, by rw [arcsOf_len]; exact o1, ?_, ?_, ?_, hp, P.rise, hn, o4⟩⟩
  · show (E ls ls.length).2.getD i 0 = _
    have a3' : (E ls ls.length).2.getD i 0 = ((S + (stB cd S ls[i].f ls[i].o (arcsOf ((E ls ls.length).2.take i) ls[i].sta) (lastOf ((E ls ls.length).2.take i))).length : Nat) : Int) - 1 := a3
    rw [a3']
    omega
  · intro y hy
    rw [arcsOf_eq] at hy
    obtain ⟨x, hx, rfl⟩ := List.mem_map.1 hy
    have g := hg.g x hx
    have b := o4 x hx
    refine ⟨g.1, g.2.1, ?_⟩
    show 0 ≤ adr _ x.2.2 ∧ adr _ x.2.2 < _
    unfold adr
    split
    · omega
    · rw [getD_take (by omega)]
      have h1 := a4 x.2.2.toNat (by omega)
      have h2 := hp _ (mem_getD (l := (E ls ls.length).2) (k := x.2.2.toNat) (by omega))
      omega
  · intro j k hj hk hkj
    rw [arcsOf_len] at hj hk
    rw [arcs_get _ _ _ hj, arcs_get _ _ _ hk]
    have := rise_lt o5 j k hj hk hkj
    show (ls[i].l[j]).1 ≠ (ls[i].l[k]).1
    have e : (ls[i].l[k]).1 < (ls[i].l[j]).1 := this
    omega
  · intro y hy h
    by_cases h0 : i = 0
    · subst h0
      exfalso
      have h2 := h.2
      have hm : y ∈ arcsOf ((E ls ls.length).2.take 0) ls[0].sta := by rw [hy]; simp
      rw [arcsOf_eq] at hm
      obtain ⟨x, hx, rfl⟩ := List.mem_map.1 hm
      have b := o4 x hx
      have e : adr ((E ls ls.length).2.take 0) x.2.2 = 0 := by unfold adr; rw [if_pos (by omega)]
      have h3 : adr ((E ls ls.length).2.take 0) x.2.2 = lastOf ((E ls ls.length).2.take 0) := h2
      rw [e] at h3
      simp [lastOf] at h3
    · rw [h.2]; exact a5 h0

theorem E_len2 (ls : List LS) (hl : ls.length ≤ 2000) (hok : oksL ls) : (E ls ls.length).1.length ≤ 50000000 := by
  have P := E_P ls hok ls.length (Nat.le_refl _)
  have h3 := P.dmax
  simp at h3
  omega

/-! the walks -/
theorem ndec_any (a : Option Addr) (n c : Nat) (w : World) : Calls Tryd.prog 20 #[.slice a n c] w fun e w' => e = .returned (.pointer (some ⟨w.heap.size, 0, none⟩)) ∧ w' = w.alloc (.cells #[.slice a n c] 81) := by
  go_enter Tryd.func20, Tryd.ntmps20
  go_wp2
  go_ret
  exact ⟨rfl, rfl⟩
theorem zdec_any (a : Option Addr) (n c : Nat) (w : World) : Calls Tryd.prog 10 #[.slice a n c] w fun e w' => e = .returned (.pointer (some ⟨w.heap.size, 0, none⟩)) ∧ w' = w.alloc (.cells #[.slice a n c] 81) := by
  go_enter Tryd.func10, Tryd.ntmps10
  go_wp2_with (go_at_call 20; refine (ndec_any _ _ _ _).mono ?_; rintro e w1 ⟨rfl, rfl⟩)
  go_ret
  exact ⟨rfl, rfl⟩

def SatS (l : List Arc) (W : World) (e : Ending) (w' : World) : Prop := e = .returned (.tuple #[.iface 75 (.pointer (some ⟨W.heap.size, 0, none⟩)), .nilIface]) ∧ Below W.heap.size W w' ∧ Rd w' W.heap.size l
set_option maxRecDepth 100000 in
theorem sat_any {W : World} {d g n cap t : Nat} {l : List Arc} (h0 : W.cell? ⟨d, 0, none⟩ = some (.slice (some ⟨g, 0, none⟩) n cap))
    (hC : Calls Tryd.prog 25 #[.pointer (some ⟨W.heap.size, 0, none⟩), .slice (some ⟨g, 0, none⟩) n cap, .int .i64 t] (W.alloc (.cells zeroL.toArray 78)) (RdS W.heap.size l (W.alloc (.cells zeroL.toArray 78)))) :
    Calls Tryd.prog 19 #[.pointer (some ⟨d, 0, none⟩), .int .i64 t, .nilIface] W (SatS l W) := by
  have hta : ∀ w, (Instr.typeAssert .nilIface 39 75 true).run Tryd.prog w = .ok (.tuple #[.pointer none, .bool false]) w := fun w => by kernel_rfl
  have HC := Lib.hid (hC.mono (fun e w' q => show e = .returned .nilIface ∧ Hid (Below W.heap.size W w' ∧ Rd w' W.heap.size l) from ⟨q.1, Lib.hid ⟨((Below.refl _ _).alloc (Nat.le_refl _) _).trans (q.2.1.below (fun k hk e => by omega) (by simp)), q.2.2⟩⟩))
  have h1 : (W.alloc (.cells #[.slice none 0 0, .int .i64 0, .int .i64 0, .int .i64 0, .int .u8 0, .bool false, .int .u64 0, .int .u64 0, .int .i64 0, .int .i64 0, .bool false, .int .i64 0, .int .i64 0, .int .i64 0, .int .i64 0, .int .i64 0, .int .i64 0, .int .i64 0] 78)).cell? ⟨d, 0, none⟩ = some (.slice (some ⟨g, 0, none⟩) n cap) :=
    (((Below.refl _ W).alloc (Nat.le_refl _) (.cells #[.slice none 0 0, .int .i64 0, .int .i64 0, .int .i64 0, .int .u8 0, .bool false, .int .u64 0, .int .u64 0, .int .i64 0, .int .i64 0, .bool false, .int .i64 0, .int .i64 0, .int .i64 0, .int .i64 0, .int .i64 0, .int .i64 0, .int .i64 0] 78)).cell (p := ⟨d, 0, none⟩) (World.block_lt_of_cell? W _ h0)).trans h0
  clear hC
  go_enter Tryd.func19, Tryd.ntmps19
  go_wp2_with (go_at_call 25; refine HC.out.mono ?_; rintro e w1 ⟨rfl, hq⟩)
  go_ret2
  exact ⟨rfl, hq.out⟩
theorem zsat_any {W : World} {d g n cap t : Nat} {l : List Arc} (h0 : W.cell? ⟨d, 0, none⟩ = some (.slice (some ⟨g, 0, none⟩) n cap))
    (hC : Calls Tryd.prog 25 #[.pointer (some ⟨W.heap.size, 0, none⟩), .slice (some ⟨g, 0, none⟩) n cap, .int .i64 t] (W.alloc (.cells zeroL.toArray 78)) (RdS W.heap.size l (W.alloc (.cells zeroL.toArray 78)))) :
    Calls Tryd.prog 9 #[.pointer (some ⟨d, 0, none⟩), .int .i64 t] W (SatS l W) := by
  have HC := Lib.hid (sat_any h0 hC)
  clear hC h0
  go_enter Tryd.func9, Tryd.ntmps9
  go_wp2_with (go_at_call 19; refine HC.out.mono ?_; rintro e w1 ⟨rfl, hq1, hq2⟩)
  go_ret2
  exact ⟨rfl, hq1, hq2⟩

theorem zdec_new (a : Option Addr) (n c : Nat) (w : World) : Calls Tryd.prog 10 #[.slice a n c] w fun e w' => ∃ d, e = .returned (.pointer (some ⟨d, 0, none⟩)) ∧ w'.cell? ⟨d, 0, none⟩ = some (.slice a n c) ∧ Below w.heap.size w w' :=
  (zdec_any a n c w).mono (fun e w' ⟨h1, h2⟩ => ⟨_, h1, by subst h2; exact (Blk.new w 81 [.slice a n c]).cell 0, by subst h2; exact (Below.refl _ _).alloc (Nat.le_refl _) _⟩)

def SfS (W : World) (p q o : Int) (e : Ending) (w' : World) : Prop := e = .returned (.tuple #[.int .i64 p, .int .i64 q, .int .u64 o, .bool true]) ∧ Below W.heap.size W w'

def EncR2 (w : World) (ls : List LS) (e : Ending) (w' : World) : Prop :=
  ∃ (g cap : Nat) (aa : Option Addr) (ca : Nat) (F : List Int) (n : Nat), e = .returned (.tuple #[.slice (some ⟨g, 0, none⟩) n cap, .slice aa (E ls ls.length).2.length ca, .bool true]) ∧ Hid (n = ((E ls ls.length).1 ++ F).length) ∧
    Dt w' g ((E ls ls.length).1 ++ F) ∧ F.length = 16 ∧ n ≤ cap ∧ Sl w' w'.heap.size aa ((E ls ls.length).2.map (.int .i64)) ∧ g < w'.heap.size ∧ Below w.heap.size w w'
theorem EncR.two {w w' : World} {ls : List LS} {e : Ending} (h : EncR w ls e w') : EncR2 w ls e w' := by
  obtain ⟨g, cap, aa, ca, F, h1, h2, h3, h4, h5, h6, h7⟩ := h
  exact ⟨g, cap, aa, ca, F, _, h1, Lib.hid rfl, h2, h3, h4, h5, h6, h7⟩

set_option maxRecDepth 100000 in
set_option maxHeartbeats 3200000 in
theorem sf_any (a : Option Addr) (c : Nat) (ls : List LS) (w : World) (hl : ls.length ≤ 2000) (hg : ∀ s ∈ ls, goodLS w w.heap.size s) (hs : Sl w w.heap.size a (ls.flatMap lsc)) (hok : oksL ls) (hT : Tabs w)
    (i : Nat) (hi : i < ls.length) (b p q o : Int) (hC : ∀ w N, Rd w N (arcsOf ((E ls ls.length).2.take i) ls[i].sta) → Calls Tryd.prog 87 #[.pointer (some ⟨N, 0, none⟩), .int .u8 b] w fun e w' => e = .returned (.tuple #[.int .i64 p, .int .i64 q, .int .u64 o]) ∧ ∃ n, w' = w.drewN n) :
    Calls Tryd.prog 6 #[.slice a ls.length c, .int .i64 i, .int .u8 b] w (SfS w p (numOf (E ls ls.length).2 q) o) := by
  obtain ⟨S, t, hst⟩ := sti_of hok hi (hg _ (List.getElem_mem hi))
  have CE := Lib.hid ((encd_any a c ls w hl hg hs hok hT).mono (fun e w' h => h.two))
  have HST := Lib.hid hst
  have HC := Lib.hid hC
  have HT := Lib.hid hT
  have HD := Lib.hid (E_len2 ls hl hok)
  have hi2 : (i : Int) < (ls.length : Int) := by omega
  have hi3 : ¬ (ls.length : Int) ≤ (i : Int) := by omega
  clear hst hg hs hok hC hT
  go_enter Tryd.func6, Tryd.ntmps6
  go_wp2_with (go_at_call 8; refine CE.out.mono ?_; rintro e w1 ⟨g, cap, aa, ca, F, nn, rfl, hnn, hDt, hF, hcap, hSl, hgl, hb1⟩)
  have HN := Lib.hid HST.out.n
  obtain ⟨ad, rfl, hab, hac⟩ := hSl i (.int .i64 t) (by
    rw [List.getElem?_map]
    have h1 := HST.out.te
    rw [List.getD_eq_getElem?_getD, List.getElem?_eq_getElem (by rw [HN.out]; exact hi)] at h1
    rw [List.getElem?_eq_getElem (by rw [HN.out]; exact hi)]
    simpa using h1)
  have hAl : (i : Int) < ((E ls ls.length).2.length : Int) := by rw [HN.out]; exact hi2
  have CN := Lib.hid (fun (W : World) (z : Int) (h : Below w1.heap.size w1 W) => number_any (some ad) ca (E ls ls.length).2 z W ((hSl.below h).more h.size) (by rw [HN.out]; omega) (fun y hy => by have := HST.out.p y hy; omega))
  have CZ := Lib.hid (fun (W : World) (d : Nat) (h0 : W.cell? ⟨d, 0, none⟩ = some (.slice (some ⟨g, 0, none⟩) nn cap)) (h : Below w1.heap.size w1 W) =>
    zsat_any (l := arcsOf ((E ls ls.length).2.take i) ls[i].sta) (t := t) h0 (by
      have hgW : g < W.heap.size := Nat.lt_of_lt_of_le hgl h.size
      have hb : Below w1.heap.size w1 (W.alloc (.cells zeroL.toArray 78)) := h.alloc h.size _
      refine state_any (f := ls[i].f) (o := ls[i].o) (S := S) (Blk.new W 78 zeroL) ⟨fun j hj => (hb.cell (p := ⟨g, j, none⟩) hgl).trans (hDt.c j hj)⟩ hnn.out (by simp; omega) (by omega) hcap ?_ HST.out.s16 (fun w2 hf => ?_) HST.out.at_.more HST.out.tl HST.out.m HST.out.ok HST.out.r HST.out.la
      · rw [hnn.out, List.length_append, hF]; have := HD.out; omega
      · exact HT.out.below (hb1.trans ((hb.trans (hf.below (B := w1.heap.size) (fun k hk e => by have := h.size; omega) (by have := h.size; simp; omega))).mono hb1.size)) (Nat.le_refl _)))
  have HB1 := Lib.hid hb1
  have HAC := Lib.hid hac
  clear hDt hF hcap hSl hgl hb1 CE HN HD
  go_upto_region 4 with (fail)
  go_region_held3 (fun W => W.cell? (ad.add i) = some (.int .i64 t)) (first | exact HAC.out | exact (HB3.out.cell (p := ad.add i) (by rw [block_add]; exact hab)).trans HAC.out | exact (HB2.out.cell (p := ad.add i) (by rw [block_add]; exact hab)).trans HAC.out | go_keep) (first
    | (go_at_call 10; refine (zdec_new _ _ _ _).mono ?_; rintro e w2 ⟨d, rfl, hd, hb2⟩; have HD2 := Lib.hid hd; have HB2 := Lib.hid (show Below w1.heap.size w1 w2 from ⟨hb2.os, hb2.tape, hb2.output, hb2.size, hb2.block⟩); clear hd hb2)
    | (go_at_call 9; refine (CZ.out _ _ HD2.out HB2.out).mono ?_; rintro e w3 ⟨rfl, hb3, hR3⟩; have HB3 := Lib.hid (HB2.out.trans (hb3.mono HB2.out.size)); have HR3 := Lib.hid hR3; clear hb3 hR3))
  go_wp2_with (first
    | (go_at_call 87; refine (HC.out _ _ HR3.out).mono ?_; rintro e w4 ⟨rfl, n4, h4⟩; have H4 := Lib.hid h4; have CN4 := Lib.hid (CN.out w4 q (by rw [h4]; exact below_drewN HB3.out _)); clear h4)
    | (go_at_call 11; refine CN4.out.mono ?_; rintro e w5 ⟨rfl, rfl⟩)
    | fail)
  go_returns
  exact ⟨rfl, by rw [H4.out]; exact HB1.out.trans ((below_drewN HB3.out _).mono HB1.out.size)⟩

end Go.Proofs.YtjonmfaeonldcaaDoor.fnStateFor
