/-
  FnStateFor: what a state's encoding leans on; the end of a state with one arc. Conditions: as stated.
-/
import Derived.Test.YtjonmfaeonldcaaDoorStL
namespace Go.Proofs.YtjonmfaeonldcaaDoor.fnStateFor
open Go.ChangeShapes Go.WideShapes Go.ChangeAt Go.RowKit
set_option linter.unusedVariables false

def tc (x : Arc) : List Value := [.int .u64 x.2.1, .int .i64 x.2.2, .int .u8 x.1]
theorem tc_len (x : Arc) : (tc x).length = 3 := rfl

/-- the node whose state is encoded, the encoder, the tables -/
structure Nd where
  (eb nb : Nat)
  f : Bool
  o : Int
  a : Option Addr
  c : Nat
  l : List Arc
structure Cx (x : Wb) (d : Nd) (W : World) (rv : Value) (out : List Int) : Prop where
  en : En W x rv out
  ec : Ec W x d.eb rv
  n : Blk W d.nb 70 [.int .u64 d.o, .slice d.a d.l.length d.c, .bool d.f, .pointer none]
  no : ¬ Own x rv d.nb
  t : Sl W W.heap.size d.a (d.l.flatMap tc)
  to : ∀ ad, d.a = some ad → 0 < d.l.length → ¬ Own x rv ad.block
  tb : ∀ W' rv', Ev x W rv W' rv' → Tabs W'
theorem Ev.not_own {x : Wb} {W W' : World} {rv rv' : Value} {g : Nat} (h : Ev x W rv W' rv') (hg : g < W.heap.size) (hn : ¬ Own x rv g) : ¬ Own x rv' g := fun hO => hn (by
  rcases hO with e | e | e | e | e
  · exact .inl e
  · exact .inr (.inl e)
  · exact .inr (.inr (.inl e))
  · exact .inr (.inr (.inr (.inl e)))
  · rcases h.sub g e with e | e
    · exact .inr (.inr (.inr (.inr e)))
    · omega)
theorem Cx.go {x : Wb} {d : Nd} {W W' : World} {rv rv' : Value} {out out' : List Int} (h : Cx x d W rv out) (he : En W' x rv' out') (hv : Ev x W rv W' rv') : Cx x d W' rv' out' where
  en := he
  ec := h.ec.go hv
  n := (hv.blk h.n h.no).1
  no := (hv.blk h.n h.no).2
  t := by
    rcases Nat.eq_zero_or_pos d.l.length with h0 | h0
    · rw [List.eq_nil_of_length_eq_zero h0]
      exact Sl.nil
    · exact (hv.fr.sl h.t (fun a e => h.to a e h0) (Nat.le_refl _)).more hv.fr.size
  to := fun ad e h0 => by
    obtain ⟨ad', e', hb, _⟩ := h.t 0 (.int .u64 (d.l[0]).2.1) (by
      have := flat_get tc 3 tc_len d.l 0 0 (by omega)
      simp only [Nat.zero_mul, Nat.zero_add] at this
      rw [this, List.getElem?_eq_getElem h0]
      rfl)
    rw [e] at e'
    injection e' with e'
    subst e'
    exact hv.not_own hb (h.to _ e h0)
  tb := fun W2 rv2 h2 => h.tb W2 rv2 (hv.trans h2)

theorem Cx.drewN {x : Wb} {d : Nd} {W : World} {rv : Value} {out : List Int} (h : Cx x d W rv out) (n : Nat) : Cx x d (W.drewN n) rv out :=
  h.go (by obtain ⟨fl, bu, rest, ho, hE⟩ := h.en; exact ⟨fl, bu, rest, ho, hE.drewN n⟩) (Ev.refl_fr ((Fr.refl _ _).drewN n))
theorem Cx.same {x : Wb} {d : Nd} {W : World} {rv : Value} {out : List Int} (h : Cx x d W rv out) : Tabs W := h.tb W rv (Ev.refl _ _ _)

/-- the cells that are read -/
structure Cs (x : Wb) (d : Nd) (W : World) (out : List Int) : Prop where
  e : W.cell? ⟨d.eb, 0, none⟩ = some (.pointer (some ⟨x.w, 0, none⟩))
  k : W.cell? ⟨x.w, 1, none⟩ = some (.int .i64 out.length)
  n0 : W.cell? ⟨d.nb, 0, none⟩ = some (.int .u64 d.o)
  n1 : W.cell? ⟨d.nb, 1, none⟩ = some (.slice d.a d.l.length d.c)
  n2 : W.cell? ⟨d.nb, 2, none⟩ = some (.bool d.f)
theorem Cx.cells {x : Wb} {d : Nd} {W : World} {rv : Value} {out : List Int} (h : Cx x d W rv out) : Cs x d W out := by
  obtain ⟨fl, bu, rest, ho, hE⟩ := h.en
  exact ⟨h.ec.e.cell 0, hE.w.cell 1, h.n.cell 0, h.n.cell 1, h.n.cell 2⟩
/-- an arc's cells -/
theorem Cx.arc {x : Wb} {d : Nd} {W : World} {rv : Value} {out : List Int} (h : Cx x d W rv out) (i : Nat) (hi : i < d.l.length) :
    ∃ ad, d.a = some ad ∧ W.cell? (ad.add (i * 3)) = some (.int .u64 d.l[i].2.1) ∧ W.cell? ⟨(ad.add (i * 3)).block, (ad.add (i * 3)).off + 1, none⟩ = some (.int .i64 d.l[i].2.2) ∧ W.cell? ⟨(ad.add (i * 3)).block, (ad.add (i * 3)).off + 2, none⟩ = some (.int .u8 d.l[i].1) := by
  have g : ∀ j v, j < 3 → (tc d.l[i])[j]? = some v → (d.l.flatMap tc)[i * 3 + j]? = some v := fun j v hj e => by
    rw [flat_get tc 3 tc_len d.l i j hj, List.getElem?_eq_getElem hi]
    exact e
  obtain ⟨ad, e0, hb, h0⟩ := h.t _ _ (g 0 _ (by omega) rfl)
  obtain ⟨ad', e, _, h1⟩ := h.t _ _ (g 1 _ (by omega) rfl)
  obtain rfl : ad = ad' := by rw [e0] at e; injection e
  obtain ⟨ad', e, _, h2⟩ := h.t _ _ (g 2 _ (by omega) rfl)
  obtain rfl : ad = ad' := by rw [e0] at e; injection e
  exact ⟨ad, e0, h0, cell_off h1, cell_off h2⟩

/-- a call at the encoder with a state: the bytes are added, the answer is their last place -/
def Wd (x : Wb) (d : Nd) (W : World) (rv : Value) (out : List Int) (e : Ending) (W' : World) : Prop :=
  ∃ rv', e = .returned (.tuple #[.int .i64 ((out.length : Int) - 1), .nilIface]) ∧ Cx x d W' rv' out ∧ Ev x W rv W' rv'

theorem or_fin : ∀ (n : Fin 2) (c : Fin 64), bits .or .u8 (bits .or .u8 128 (64 * (n.val : Int))) (c.val : Int) = 128 + 64 * (n.val : Int) + (c.val : Int) := by decide +kernel
theorem or_hdr (nx c : Int) (hn : nx = 0 ∨ nx = 64) (h0 : 0 ≤ c) (h1 : c ≤ 63) : bits .or .u8 (bits .or .u8 128 nx) c = 128 + nx + c := by
  obtain ⟨m, rfl⟩ := Int.eq_ofNat_of_zero_le h0
  rcases hn with rfl | rfl
  · exact or_fin 0 ⟨m, by omega⟩
  · exact or_fin 1 ⟨m, by omega⟩

set_option maxRecDepth 100000 in
set_option maxHeartbeats 1600000 in
theorem one1_any {x : Wb} {d : Nd} {W : World} {rv : Value} {out : List Int} {y : Arc} (h : Cx x d W rv out) (hl : d.l = [y]) (h0 : 0 ≤ y.1) (h1 : y.1 ≤ 255) (nx : Int) (hn : nx = 0 ∨ nx = 64) (hlim : out.length ≤ 100000000) :
    Calls Tryd.prog 31 #[.pointer (some ⟨d.eb, 0, none⟩), .pointer (some ⟨d.nb, 0, none⟩), .int .u8 nx] W (Wd x d W rv (out ++ finB cd y.1 nx)) := by
  have CE := Lib.hid (cd_any y.1 h0 h1 W h.same)
  have hor := or_hdr nx (cd y.1) hn (cd_bd _ h0 h1).1 (cd_bd _ h0 h1).2
  have HL := Lib.hid hl
  have H := Lib.hid h
  obtain ⟨hE, hk, hn0, hn1, hn2⟩ := h.cells
  obtain ⟨ad, had, a0, a1, a2⟩ := h.arc 0 (by rw [hl]; exact Nat.zero_lt_one)
  have e0 : d.l[0]'(by rw [hl]; exact Nat.zero_lt_one) = y := by simp only [hl]; rfl
  rw [e0] at a0 a1 a2
  rw [Nat.zero_mul, show ad.add 0 = ad by simp [Addr.add]] at a0 a1 a2
  rw [hl, had] at hn1
  have HF := Lib.hid (show finB cd y.1 nx = (if cd y.1 = 0 then [y.1] else []) ++ [128 + nx + cd y.1] from rfl)
  have hfl := finB_len cd y.1 nx
  obtain ⟨Q, hQ⟩ : ∃ Q, Q = (out ++ finB cd y.1 nx).length := ⟨_, rfl⟩
  have HQ := Lib.hid hQ
  have hqb : ∀ q, Q = q → 1 ≤ q ∧ q ≤ 1000000000 := fun q e => by subst e; rw [hQ, List.length_append]; omega
  clear hQ hfl
  by_cases hc : cd y.1 = 0
  · have C1 := Lib.hid (fun k => wwb_any (h.drewN k).en y.1 (by omega))
    have C2 := (fun w1 rv1 (hE : En w1 x rv1 (out ++ [y.1])) => wwb_any hE (128 + nx + cd y.1) (by simp; omega))
    rw [show out ++ [y.1] ++ [128 + nx + cd y.1] = out ++ finB cd y.1 nx by rw [HF.out, if_pos hc]; simp] at C2
    have hcb : (cd y.1 == 0) = true := by rw [beq_iff_eq]; exact hc
    have C2 := Lib.hid C2
    clear hc
    clear h hl e0
    go_enter Tryd.func31, Tryd.ntmps31
    go_wp2_with fail
    refine CE.out.mono ?_
    rintro e w1 ⟨rfl, rfl⟩
    go_wp2
    refine wp_region_still_tail 11 (by kernel_rfl) (by kernel_rfl) ?_
    simp only [List.take_succ_cons, List.take_zero, List.drop_succ_cons, List.drop_zero]
    change wpStill _ _ (World.drew _) _ _ _
    repeat still_step
    refine wpStill_nil ?_
    change wpList _ _ _ _ _ (World.drew _)
    go_wp2_with fail
    refine (C1.out 1).mono ?_
    rintro e w1 ⟨rv1, rfl, hE1, hV1⟩
    have H1 := Lib.hid (⟨H.out.go hE1 ((Ev.refl_fr ((Fr.refl _ W).drewN 1)).trans hV1), (Ev.refl_fr ((Fr.refl _ W).drewN 1)).trans hV1⟩ : Cx x d w1 rv1 _ ∧ Ev x W rv w1 rv1)
    obtain ⟨gE, gk, -, -, -⟩ := H1.out.1.cells
    have C2' := Lib.hid (C2.out w1 rv1 hE1)
    clear hE1 hV1 gk C2
    go_wp2_with fail
    refine C2'.out.mono ?_
    rintro e w2 ⟨rv2, rfl, hE2, hV2⟩
    have H2 := Lib.hid (⟨H1.out.1.go hE2 hV2, H1.out.2.trans hV2⟩ : Cx x d w2 rv2 _ ∧ Ev x W rv w2 rv2)
    obtain ⟨fE, fk, -, -, -⟩ := H2.out.1.cells
    have hq := HQ.out
    generalize (out ++ finB cd y.1 nx).length = q at fk hq
    have hq2 := hqb q hq
    have HQ2 := Lib.hid hq
    clear hE2 hV2 hq hqb
    go_wp2
    go_ret2
    exact ⟨rv2, by rw [← HQ.out, HQ2.out]; rfl, H2.out.1, H2.out.2⟩
  · have hcb : (cd y.1 == 0) = false := by rw [beq_eq_false_iff_ne]; exact hc
    have C1 := wwb_any h.en (128 + nx + cd y.1) (by omega)
    rw [show out ++ [128 + nx + cd y.1] = out ++ finB cd y.1 nx by rw [HF.out, if_neg hc]; rfl] at C1
    have C1 := Lib.hid C1
    clear h hl e0
    go_enter Tryd.func31, Tryd.ntmps31
    go_wp2_with fail
    refine CE.out.mono ?_
    rintro e w1 ⟨rfl, rfl⟩
    go_wp2_with fail
    refine C1.out.mono ?_
    rintro e w1 ⟨rv1, rfl, hE1, hV1⟩
    have H1 := Lib.hid (⟨H.out.go hE1 hV1, hV1⟩ : Cx x d w1 rv1 _ ∧ Ev x W rv w1 rv1)
    obtain ⟨gE, gk, -, -, -⟩ := H1.out.1.cells
    have hq := HQ.out
    generalize (out ++ finB cd y.1 nx).length = q at gk hq
    have hq2 := hqb q hq
    have HQ2 := Lib.hid hq
    clear hE1 hV1 hq hqb
    go_wp2
    go_ret2
    exact ⟨rv1, by rw [← HQ.out, HQ2.out]; rfl, H1.out.1, H1.out.2⟩

end Go.Proofs.YtjonmfaeonldcaaDoor.fnStateFor
