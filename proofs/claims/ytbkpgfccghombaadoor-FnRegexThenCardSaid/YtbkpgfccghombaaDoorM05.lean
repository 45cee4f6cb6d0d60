/-
  Parts of the proof in one text: RxV, RxY. Conditions: as each states.
-/
import Derived.Test.YtbkpgfccghombaaDoorM04
/-! Regular expressions: the compiler: the plain cases. Conditions: as stated. -/
namespace Go.Proofs.YtbkpgfccghombaaDoor.rx
open Go.ChangeShapes Go.WideShapes Go.ChangeAt Go.RowKit
set_option linter.unusedVariables false


section
variable {w : World} {B n : Nat} {eT : Value} {T : TypeId} {X : Value} {K : Ks} {code : List Ins}
/-- the compiler does what it should with expressions of at most d levels -/
def CompOk (B : Nat) (eT : Value) (m d : Nat) : Prop := ∀ (w : World) (K : Ks) (code : List Ins) (r : Rx) (p : Addr), Cs w B eT K code code.length → Nd w K.O d r p → wf m d r → (code ++ comp d code.length r).length ≤ 900000000000 → K.lim ≤ 1000000000000 →
  Calls Tryd.prog 56 #[.pointer (some ⟨K.C, 0, none⟩), .pointer (some p)] w (Done w B eT K code (comp d code.length r) (fits K.lim d code.length r))

set_option maxRecDepth 100000 in
set_option maxHeartbeats 3200000 in
theorem c_empty (h : Cs w B eT K code code.length) (p : Addr) (c0 : w.cell? p = some (.int .u8 2)) (c1 : w.cell? ⟨p.block, p.off + 1, none⟩ = some (.int .u16 0)) :
    Calls Tryd.prog 56 #[.pointer (some ⟨K.C, 0, none⟩), .pointer (some p)] w fun e w' => e = .returned .nilIface ∧ w' = w := by
  clear h
  go_enter Tryd.func56, Tryd.ntmps56
  go_wp2
  go_ret
  exact ⟨rfl, rfl⟩

set_option maxRecDepth 100000 in
set_option maxHeartbeats 3200000 in
theorem c_cls (h : Cs w B eT K code code.length) (p : Addr) (ra : Option Addr) (rc : Nat) (l : List Int) (c0 : w.cell? p = some (.int .u8 4)) (c1 : w.cell? ⟨p.block, p.off + 1, none⟩ = some (.int .u16 0)) (hl8 : l.length ≤ 1000000) (hr : CellO w K.O ⟨p.block, p.off + 4, none⟩ (.slice ra l.length rc)) (hl : SlO w K.O ra (rvs l)) (hk : okPairs l) (hn : (code ++ clsC code.length (pairs l)).length ≤ 999999999999) :
    Calls Tryd.prog 56 #[.pointer (some ⟨K.C, 0, none⟩), .pointer (some p)] w fun e w' => ∃ K', e = .returned .nilIface ∧ Cs w' B eT K' (code ++ clsC code.length (pairs l)) (code ++ clsC code.length (pairs l)).length ∧ Ev K w w' K' := by
  have CC := Lib.hid (cls_any h p ra rc l hl8 hr hl hk hn)
  clear h hr hl hk hn
  go_enter Tryd.func56, Tryd.ntmps56
  go_wp2_with (first | (go_at_call 69; refine CC.out.mono ?_; rintro e w1 ⟨K1, rfl, h1⟩; have H1 := Lib.hid h1; clear h1) | fail)
  go_ret
  exact ⟨K1, rfl, H1.out⟩

/-- what is behind the switch -/
theorem Done.size {w1 : World} {out : List Ins} {K1 : Ks} (hc : Cs w1 B eT K1 (code ++ out) (code ++ out).length) (ev : Ev K w w1 K1) (hl : K.lim ≤ 1000000000000) (hn : (code ++ out).length ≤ 900000000000) {ok : Prop} (hok : ok ↔ (code.length + out.length) * 40 ≤ K.lim) (hb : Below B w w1) :
    Calls Tryd.prog 75 #[.pointer (some ⟨K.C, 0, none⟩)] w1 (Done w B eT K code out ok) := by
  have e1 : (code ++ out).length = code.length + out.length := by simp
  by_cases hf : (code.length + out.length) * 40 ≤ K.lim
  · have := check_ok hc (by omega) (by rw [ev.l]; omega) (by rw [ev.l, e1]; exact hf)
    rw [ev.c] at this
    refine this.mono ?_
    rintro e w2 ⟨rfl, m, rfl⟩
    exact .inl ⟨hok.2 hf, K1, rfl, hc.drewN m, ev.drewN m⟩
  · have := check_big hc (by omega) (by rw [ev.l]; omega) (by rw [ev.l, e1]; omega)
    rw [ev.c] at this
    refine this.mono ?_
    rintro e w2 ⟨rfl, m, rfl⟩
    exact .inr ⟨fun h => hf (hok.1 h), rfl, below_drewN hb m⟩
/-- the part of an expression that has one -/
theorem one_sub {O : Nat → Prop} {d op : Nat} {rs : List Int} {mn mx : Int} {s : Rx} {p : Addr} (h : Nd w O (d + 1) (.nd op rs mn mx [s]) p) :
    ∃ ra rc ad sc s0 r0 r1 q, NdH w O p op rs mn mx 1 ra rc (some ad) sc s0 r0 r1 ∧ w.cell? ad = some (.pointer (some q)) ∧ ad.block < w.heap.size ∧ ¬ O ad.block ∧ Nd w O d s q := by
  obtain ⟨ra, rc, sa, sc, s0, r0, r1, qs, h1, h2, h3, h4⟩ := h
  obtain ⟨q, rfl⟩ : ∃ q, qs = [q] := by
    match qs, h3 with
    | [q], _ => exact ⟨q, rfl⟩
  obtain ⟨ad, rfl, g1, g2, g3⟩ := h2 0 (.pointer (some q)) rfl
  refine ⟨ra, rc, ad, sc, s0, r0, r1, q, h1, ?_, g1, g2, h4 (s, q) (by simp)⟩
  have e : ad.add 0 = ad := by simp [Addr.add]
  rw [e] at g3
  exact g3

set_option maxRecDepth 100000 in
set_option maxHeartbeats 3200000 in
theorem c_capt {m d : Nat} (IH : CompOk B (.iface T X) m d) (h : Cs w B (.iface T X) K code code.length) (p : Addr) (s : Rx) (rs : List Int) (mn mx : Int) (hN : Nd w K.O (d + 1) (.nd 13 rs mn mx [s]) p) (hw : wf m d s) (hn : (code ++ comp d code.length s).length ≤ 900000000000) (hl : K.lim ≤ 1000000000000) :
    Calls Tryd.prog 56 #[.pointer (some ⟨K.C, 0, none⟩), .pointer (some p)] w (Done w B (.iface T X) K code (comp d code.length s) (fits K.lim d code.length s)) := by
  obtain ⟨ra, rc, ad, sc, s0, r0, r1, q, hH, hq, -, -, hS⟩ := one_sub hN
  have CC := Lib.hid (IH w K code s q h hS hw hn hl)
  obtain ⟨-, -, c0, c1, c2, -, -, -, -, -, -, -⟩ := hH
  clear h hS hw hn IH hN
  go_enter Tryd.func56, Tryd.ntmps56
  go_wp2_with (first | (go_at_call 56; refine CC.out.mono ?_; rintro e w1 h1; have H1 := Lib.hid h1; obtain ⟨r, rfl⟩ := h1.ret; clear h1) | fail)
  go_ret
  exact H1.out

set_option maxRecDepth 100000 in
set_option maxHeartbeats 3200000 in
theorem c_plus {m d : Nat} (IH : CompOk B (.iface T X) m d) (h : Cs w B (.iface T X) K code code.length) (p : Addr) (s : Rx) (rs : List Int) (mn mx : Int) (hN : Nd w K.O (d + 1) (.nd 15 rs mn mx [s]) p) (hw : wf m d s) (hn : (code ++ plusC (comp d) code.length s).length ≤ 900000000000) (hl : K.lim ≤ 1000000000000) :
    Calls Tryd.prog 56 #[.pointer (some ⟨K.C, 0, none⟩), .pointer (some p)] w (Done w B (.iface T X) K code (plusC (comp d) code.length s) (fits K.lim d code.length s ∧ (code.length + (plusC (comp d) code.length s).length) * 40 ≤ K.lim)) := by
  obtain ⟨ra, rc, ad, sc, s0, r0, r1, q, hH, hq, -, -, hS⟩ := one_sub hN
  have e1 : (code ++ plusC (comp d) code.length s).length = (code ++ comp d code.length s).length + 1 := by simp [plusC]; omega
  have CC := Lib.hid (IH w K code s q h hS hw (by omega) hl)
  have CT := Lib.hid (top_any h (by simp at hn; omega))
  have HE := Lib.hid e1
  have HN := Lib.hid hn
  have H := Lib.hid h
  obtain ⟨-, -, c0, c1, c2, -, -, -, -, -, -, -⟩ := hH
  clear h hS hw hn IH hN e1
  go_enter Tryd.func56, Tryd.ntmps56
  go_upto_region 103 with (first | (go_at_call 71; refine CT.out.mono ?_; rintro e w1 ⟨rfl, rfl⟩; clear CT) | fail)
  go_upto_region 104 with (first | (go_at_call 56; refine CC.out.mono ?_; rintro e w1 h1; rcases h1 with ⟨hok, K1, rfl, h1, e1⟩ | ⟨hok, rfl, hb⟩) | fail)
  · have H1 := Lib.hid h1
    have E1 := Lib.hid e1
    have hc1 : K1.C = K.C := e1.c
    clear h1 e1
    obtain ⟨o1, ho1⟩ : ∃ o, o = comp d code.length s := ⟨_, rfl⟩
    have HL : Hid ((code ++ o1).length + 1 ≤ 900000000000) := Lib.hid (by have := HN.out; rw [ho1]; rw [HE.out] at this; exact this)
    rw [← ho1] at H1
    have HP : Hid (plusC (comp d) code.length s = o1 ++ [.sp code.length ((code ++ o1).length + 1)]) := Lib.hid (by unfold plusC; rw [← ho1]; simp)
    clear ho1
    have hcl : (code ++ o1).length ≤ 900000000000 := by have := HL.out; omega
    obtain ⟨cd1, hcd1⟩ : ∃ c, c = code ++ o1 := ⟨_, rfl⟩
    rw [← hcd1] at H1 hcl HP
    have HCD := Lib.hid hcd1
    clear hcd1
    have SP := split_any H1.out (by omega)
    rw [hc1] at SP
    have CSP := Lib.hid SP
    clear SP CC
    go_upto_region 107 with (first | (go_at_call 70; refine CSP.out.mono ?_; rintro e w4 ⟨K4, rfl, h4, e4⟩; have H4 := Lib.hid h4; have E4 := Lib.hid (E1.out.trans e4.ev); have hc4 : K4.C = K.C := e4.c.trans hc1; clear h4 e4 CSP) | fail)
    have T7 := top_any H4.out (by simp; omega)
    rw [hc4] at T7
    have CT := Lib.hid T7
    clear T7
    go_upto_region 108 with (first | (go_at_call 71; refine CT.out.mono ?_; rintro e w8 ⟨rfl, rfl⟩; clear CT) | fail)
    have ST := sets_any H4.out (by simp; omega) cd1.length code.length (cd1.length + 1) 0 0 (by simp) (by simp)
    rw [hc4] at ST
    simp only [Int.natCast_succ] at ST
    have CS := Lib.hid ST
    clear ST
    have hlw := H.out.hw
    have CK := Lib.hid (show ∀ (w8 : World), SetIn w4 B (.iface T X) K4 ((cd1 ++ [Ins.sp 0 0]).set cd1.length (.sp code.length (cd1.length + 1))) (cd1 ++ [Ins.sp 0 0]).length (.returned (.tuple #[])) w8 → Calls Tryd.prog 75 #[.pointer (some ⟨K.C, 0, none⟩)] w8 (Done w B (.iface T X) K code (plusC (comp d) code.length s) (fits K.lim d code.length s ∧ (code.length + (plusC (comp d) code.length s).length) * 40 ≤ K.lim)) from fun w8 h8 => by
      obtain ⟨-, h8, e8⟩ := h8
      have e9 : (cd1 ++ [Ins.sp 0 0]).set cd1.length (.sp code.length (cd1.length + 1)) = code ++ plusC (comp d) code.length s := by rw [HP.out, ← List.append_assoc, ← HCD.out]; simp
      have e10 : (cd1 ++ [Ins.sp 0 0]).length = (code ++ plusC (comp d) code.length s).length := by rw [← e9]; simp
      rw [e9, e10] at h8
      have E8 := E4.out.trans e8.ev
      exact Done.size h8 E8 hl HN.out ⟨fun h => h.2, fun h => ⟨hok, h⟩⟩ (E8.below H.out))
    go_wp2_with (first | (go_at_call 73; refine CS.out.mono ?_; rintro e w8 h8; obtain rfl := h8.1; have CK2 := Lib.hid (CK.out w8 h8); clear CS h8 CK) | (go_at_call 75; refine CK2.out.mono ?_; rintro e w9 h9; obtain ⟨r, rfl⟩ := h9.ret; have H9 := Lib.hid h9; clear h9 CK2) | fail)
    go_ret
    exact H9.out
  · go_wp2
    go_ret
    exact .inr ⟨fun h => hok h.1, rfl, hb⟩

set_option maxRecDepth 100000 in
set_option maxHeartbeats 3200000 in
theorem c_quest {m d : Nat} (IH : CompOk B (.iface T X) m d) (h : Cs w B (.iface T X) K code code.length) (p : Addr) (s : Rx) (rs : List Int) (mn mx : Int) (hN : Nd w K.O (d + 1) (.nd 16 rs mn mx [s]) p) (hw : wf m d s) (hn : (code ++ questC (comp d) code.length s).length ≤ 900000000000) (hl : K.lim ≤ 1000000000000) :
    Calls Tryd.prog 56 #[.pointer (some ⟨K.C, 0, none⟩), .pointer (some p)] w (Done w B (.iface T X) K code (questC (comp d) code.length s) (fits K.lim d (code.length + 1) s ∧ (code.length + (questC (comp d) code.length s).length) * 40 ≤ K.lim)) := by
  obtain ⟨ra, rc, ad, sc, s0, r0, r1, q, hH, hq, hadl, hadO, hS⟩ := one_sub hN
  have hcl : code.length ≤ 900000000000 := by simp at hn; omega
  have CSP := Lib.hid (split_any h (by omega))
  have HN := Lib.hid hn
  have H := Lib.hid h
  have HS := Lib.hid hS
  have HH := Lib.hid hH
  have HQ := Lib.hid (show CellO w K.O ad (.pointer (some q)) from ⟨hadl, hadO, hq⟩)
  have IH := Lib.hid IH
  obtain ⟨-, -, c0, c1, c2, -, -, -, -, -, -, -⟩ := hH
  clear h hS hn hN hq hadl hadO
  go_enter Tryd.func56, Tryd.ntmps56
  go_upto_region 84 with (first | (go_at_call 70; refine CSP.out.mono ?_; rintro e w4 ⟨K4, rfl, h4, e4⟩; have H4 := Lib.hid h4; have HH4 := HH.out.go e4.ev.fr e4.ev.o; have c2 := HH4.c2; have hq := (HQ.out.go e4.ev.fr e4.ev.o).2.2; have HS4 := Lib.hid (HS.out.ev e4.ev); have E4 := Lib.hid e4.ev; have hc4 : K4.C = K.C := e4.c; clear h4 e4 CSP HH4) | fail)
  obtain ⟨cd1, hcd1⟩ : ∃ c, c = code ++ [Ins.sp 0 0] := ⟨_, rfl⟩
  rw [← hcd1] at H4
  have HCD := Lib.hid hcd1
  have HC1 : Hid (cd1.length = code.length + 1) := Lib.hid (by rw [hcd1]; simp)
  have hcl1 : cd1.length ≤ 900000000001 := by rw [HC1.out]; omega
  clear hcd1
  have T7 := top_any H4.out (by omega)
  rw [hc4] at T7
  have CT := Lib.hid T7
  clear T7
  go_upto_region 85 with (first | (go_at_call 71; refine CT.out.mono ?_; rintro e w8 ⟨rfl, rfl⟩; clear CT) | fail)
  have HB : Hid ((cd1 ++ comp d cd1.length s).length = (code ++ questC (comp d) code.length s).length) := Lib.hid (by
    rw [HC1.out, HCD.out]; simp [questC])
  have CC := IH.out w4 K4 cd1 s q H4.out HS4.out hw (by rw [HB.out]; exact HN.out) (by rw [E4.out.l]; exact hl)
  rw [hc4] at CC
  have CC := Lib.hid CC
  go_upto_region 86 with (first | (go_at_call 56; refine CC.out.mono ?_; rintro e w5 h5; rcases h5 with ⟨hok, K5, rfl, h5, e5⟩ | ⟨hok, rfl, hb⟩) | fail)
  · have H5 := Lib.hid h5
    have E5 := Lib.hid (E4.out.trans e5)
    have hc5 : K5.C = K.C := e5.c.trans hc4
    clear h5 e5 CC c2 hq
    obtain ⟨o1, ho1⟩ : ∃ o, o = comp d cd1.length s := ⟨_, rfl⟩
    rw [← ho1] at H5 HB
    have HP : Hid (questC (comp d) code.length s = .sp (code.length + 1) ((cd1 ++ o1).length) :: o1) := Lib.hid (by rw [HC1.out] at ho1; unfold questC; rw [← ho1, List.length_append, HC1.out])
    clear ho1
    have hcl5 : (cd1 ++ o1).length ≤ 900000000000 := by rw [HB.out]; exact HN.out
    obtain ⟨cd2, hcd2⟩ : ∃ c, c = cd1 ++ o1 := ⟨_, rfl⟩
    rw [← hcd2] at H5 hcl5 HP
    have HCD2 := Lib.hid hcd2
    clear hcd2
    have T7 := top_any H5.out (by omega)
    rw [hc5] at T7
    have CT := Lib.hid T7
    clear T7
    go_upto_region 89 with (first | (go_at_call 71; refine CT.out.mono ?_; rintro e w8 ⟨rfl, rfl⟩; clear CT) | fail)
    have ST := sets_any H5.out (by omega) code.length cd1.length cd2.length 0 0 (by rw [HCD2.out, HCD.out]; simp) (by simp [HCD2.out, HCD.out])
    rw [hc5] at ST
    have CS := Lib.hid ST
    clear ST
    have CK := Lib.hid (show ∀ (w8 : World), SetIn w5 B (.iface T X) K5 (cd2.set code.length (.sp cd1.length cd2.length)) cd2.length (.returned (.tuple #[])) w8 → Calls Tryd.prog 75 #[.pointer (some ⟨K.C, 0, none⟩)] w8 (Done w B (.iface T X) K code (questC (comp d) code.length s) (fits K.lim d (code.length + 1) s ∧ (code.length + (questC (comp d) code.length s).length) * 40 ≤ K.lim)) from fun w8 h8 => by
      obtain ⟨-, h8, e8⟩ := h8
      have e9 : cd2.set code.length (.sp cd1.length cd2.length) = code ++ questC (comp d) code.length s := by rw [HP.out, HC1.out]; rw [HCD2.out, HCD.out]; simp
      have e10 : cd2.length = (code ++ questC (comp d) code.length s).length := by rw [← e9]; simp
      rw [e9, e10] at h8
      have E8 := E5.out.trans e8.ev
      refine Done.size h8 E8 hl HN.out ⟨fun h => h.2, fun h => ⟨?_, h⟩⟩ (E8.below H.out)
      rw [E4.out.l, HC1.out] at hok
      exact hok)
    go_wp2_with (first | (go_at_call 73; refine CS.out.mono ?_; rintro e w8 h8; obtain rfl := h8.1; have CK2 := Lib.hid (CK.out w8 h8); clear CS h8 CK) | (go_at_call 75; refine CK2.out.mono ?_; rintro e w9 h9; obtain ⟨r, rfl⟩ := h9.ret; have H9 := Lib.hid h9; clear h9 CK2) | fail)
    go_ret
    exact H9.out
  · have HF : Hid (¬ (fits K.lim d (code.length + 1) s ∧ (code.length + (questC (comp d) code.length s).length) * 40 ≤ K.lim) ∧ Below B w w5) := Lib.hid ⟨fun h => hok (by rw [E4.out.l, HC1.out]; exact h.1), (E4.out.below H.out).trans hb⟩
    clear hok hb CC c2 hq
    go_wp2
    go_ret
    exact .inr ⟨HF.out.1, rfl, HF.out.2⟩
end

end Go.Proofs.YtbkpgfccghombaaDoor.rx

/-! Regular expressions: the compiler: parts one behind the other. Conditions: as stated. -/
namespace Go.Proofs.YtbkpgfccghombaaDoor.rx
open Go.ChangeShapes Go.WideShapes Go.ChangeAt Go.RowKit
set_option linter.unusedVariables false

section
variable {w : World} {B n : Nat} {eT : Value} {T : TypeId} {X : Value} {K : Ks} {code : List Ins}
/-- the parts' addresses -/
theorem subs_at {O : Nat → Prop} {d : Nat} {subs : List Rx} {qs : List Addr} {sa : Option Addr} (h2 : SlO w O sa (pvs qs)) (h3 : qs.length = subs.length) (h4 : ∀ x ∈ subs.zip qs, Nd w O d x.1 x.2) (i : Nat) (hi : i < subs.length) :
    ∃ ad, sa = some ad ∧ w.cell? (ad.add i) = some (.pointer (some (qs[i]'(by omega)))) ∧ Nd w O d subs[i] (qs[i]'(by omega)) := by
  have hq : i < qs.length := by omega
  obtain ⟨ad, e, -, -, h⟩ := h2 i (.pointer (some qs[i])) (by rw [pvs, List.getElem?_map, List.getElem?_eq_getElem hq]; rfl)
  refine ⟨ad, e, h, h4 (subs[i], qs[i]) ?_⟩
  have : (subs.zip qs)[i]'(by rw [List.length_zip]; omega) = (subs[i], qs[i]) := by simp
  rw [← this]
  exact List.getElem_mem _

set_option maxRecDepth 100000 in
set_option maxHeartbeats 3200000 in
theorem c_cat {m d : Nat} (IH : CompOk B (.iface T X) m d) (h : Cs w B (.iface T X) K code code.length) (p : Addr) (subs : List Rx) (rs : List Int) (mn mx : Int) (hN : Nd w K.O (d + 1) (.nd 18 rs mn mx subs) p) (hw : ∀ s ∈ subs, wf m d s) (hl3 : subs.length ≤ 1000000) (hn : (code ++ catC (comp d) code.length subs).length ≤ 900000000000) (hl : K.lim ≤ 1000000000000) :
    Calls Tryd.prog 56 #[.pointer (some ⟨K.C, 0, none⟩), .pointer (some p)] w (Done w B (.iface T X) K code (catC (comp d) code.length subs) (catF (comp d) (fits K.lim d) code.length subs)) := by
  obtain ⟨ra, rc, sa, sc, s0, r0, r1, qs, hH, g2, g3, g4⟩ := hN
  have HN := Lib.hid hn
  have H := Lib.hid h
  have HG := Lib.hid (And.intro g2 (And.intro g3 g4))
  have IH := Lib.hid IH
  have HW := Lib.hid hw
  obtain ⟨-, -, c0, c1, c2, -, -, -, -, -, -, -⟩ := hH
  clear h g2 g3 g4 hn hw
  go_enter Tryd.func56, Tryd.ntmps56
  go_wp2_with fail
  clear c0 c1 c2
  go_loopw [14, 15, 216] (fun _ _ v8 wr => ∃ (i : Nat) (K1 : Ks) (cd : List Ins), i ≤ subs.length ∧ v8 = .int .i64 i ∧ Hid (cd = code ++ catC (comp d) code.length (subs.take i) ∧ Cs wr B (.iface T X) K1 cd cd.length ∧ Ev K w wr K1 ∧ catF (comp d) (fits K.lim d) code.length (subs.take i))) (fun _ _ v8 _ => subs.length - (intOf v8).toNat)
  case atStart => exact ⟨0, K, code, by omega, rfl, Lib.hid ⟨by simp [catC], H.out, Ev.refl K w, by simp [catF]⟩⟩
  case round =>
    obtain ⟨i, K1, cd, hi, rfl, H1⟩ := hrel
    have hc1 : K1.C = K.C := H1.out.2.2.1.c
    by_cases hlt : i < subs.length
    · have HST := Lib.hid (cat_step (comp d) (fits K.lim d) subs code.length i hlt)
      have e1 : code.length + (catC (comp d) code.length (subs.take i)).length = cd.length := by rw [H1.out.1]; simp
      rw [e1] at HST
      have HG1 := HG.out.1.ev H1.out.2.2.1
      obtain ⟨ad, had, hq, hS⟩ := subs_at HG1 HG.out.2.1 (fun x hx => (HG.out.2.2 x hx).ev H1.out.2.2.1) i hlt
      subst had
      have CC := IH.out wr K1 cd subs[i] _ H1.out.2.1 hS (HW.out _ (List.getElem_mem hlt)) (by
        have h1 := HST.out.2.2.2
        have h2 := HN.out
        rw [List.length_append] at h2 ⊢
        omega) (by rw [H1.out.2.2.1.l]; exact hl)
      rw [hc1] at CC
      have CC := Lib.hid CC
      clear e1 HG1 hS
      generalize qs[i]'(by have := HG.out.2.1; omega) = q at *
      go_upto_region 53 with (first | (go_at_call 56; refine CC.out.mono ?_; rintro e w5 h5; rcases h5 with ⟨hok, K5, rfl, h5, e5⟩ | ⟨hok, rfl, hb⟩) | fail)
      · have HR : Hid (cd ++ comp d cd.length subs[i] = code ++ catC (comp d) code.length (subs.take (i + 1)) ∧ Cs w5 B (.iface T X) K5 (cd ++ comp d cd.length subs[i]) (cd ++ comp d cd.length subs[i]).length ∧ Ev K w w5 K5 ∧ catF (comp d) (fits K.lim d) code.length (subs.take (i + 1))) := Lib.hid ⟨by rw [HST.out.1, ← List.append_assoc, ← H1.out.1], h5, H1.out.2.2.1.trans e5, HST.out.2.1.2 ⟨H1.out.2.2.2, by rw [H1.out.2.2.1.l] at hok; exact hok⟩⟩
        clear hok h5 e5 CC hq
        go_wp2
        go_roundw
        case rel => exact ⟨i + 1, K5, _, by omega, by go_num, HR⟩
        case measure => simp [intOf]; omega
      · have HF : Hid (¬ catF (comp d) (fits K.lim d) code.length subs ∧ Below B w w5) := Lib.hid ⟨fun h => hok (by rw [H1.out.2.2.1.l]; exact HST.out.2.2.1 h), (H1.out.2.2.1.below H.out).trans hb⟩
        clear hok hb CC hq
        go_wp2
        go_returns
        exact .inr ⟨HF.out.1, rfl, HF.out.2⟩
    · obtain rfl : i = subs.length := by omega
      have HF : Hid (∃ K', Cs wr B (.iface T X) K' (code ++ catC (comp d) code.length subs) (code ++ catC (comp d) code.length subs).length ∧ Ev K w wr K') := Lib.hid ⟨K1, by
        have h1 := H1.out.2.1
        rw [H1.out.1, List.take_of_length_le (Nat.le_refl _)] at h1
        exact h1, H1.out.2.2.1⟩
      have HO : Hid (catF (comp d) (fits K.lim d) code.length subs) := Lib.hid (by
        have h1 := H1.out.2.2.2
        rw [List.take_of_length_le (Nat.le_refl _)] at h1
        exact h1)
      go_wp2
      go_returns
      obtain ⟨K9, h9⟩ := HF.out
      exact .inl ⟨HO.out, K9, rfl, h9⟩
end

end Go.Proofs.YtbkpgfccghombaaDoor.rx
