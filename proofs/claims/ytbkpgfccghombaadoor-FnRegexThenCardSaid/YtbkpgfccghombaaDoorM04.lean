/-
  Parts of the proof in one text: RxQ, RxR, RxAlt, RxJ, Upto, RxS, RxT, RxU, RxX, RepA. Conditions: as each states.
-/
import Derived.Test.YtbkpgfccghombaaDoorM03
import Derived.Test.YtbkpgfccghombaaDoorM00
import Derived.Deep.DeepCutAuto
import Derived.Lib.JoinLaws
import Derived.OrdersHeld
import Derived.RegionTactic
import Derived.StillTail
/-! Regular expressions: the compiler: the ranges of bytes of a sequence. Conditions: as stated. -/
namespace Go.Proofs.YtbkpgfccghombaaDoor.rx
open Go.ChangeShapes Go.WideShapes Go.ChangeAt Go.RowKit
set_option linter.unusedVariables false

/-- a slice that is read, and does not lie in blocks of O -/
def SlO (w : World) (O : Nat → Prop) (a : Option Addr) (xs : List Value) : Prop := ∀ j v, xs[j]? = some v → ∃ ad, a = some ad ∧ ad.block < w.heap.size ∧ ¬ O ad.block ∧ w.cell? (ad.add j) = some v
/-- a cell that is read -/
def CellO (w : World) (O : Nat → Prop) (p : Addr) (v : Value) : Prop := p.block < w.heap.size ∧ ¬ O p.block ∧ w.cell? p = some v
section
variable {w w' : World} {O O' : Nat → Prop} {B n : Nat} {eT : Value} {K K' : Ks} {code : List Ins} {a : Option Addr} {xs : List Value}
theorem fr_cell (h : Fr O w w') {p : Addr} (hp : p.block < w.heap.size) (hO : ¬ O p.block) : w'.cell? p = w.cell? p := World.cell?_of_block (h.block _ hp hO)
theorem far_of (ho : ∀ k, O' k → O k ∨ w.heap.size ≤ k) {k : Nat} (hk : k < w.heap.size) (hO : ¬ O k) : ¬ O' k := fun e => by
  rcases ho k e with e | e
  · exact hO e
  · omega
theorem Es.far (h : Es K w w' K') {k : Nat} (hk : k < w.heap.size) (hO : ¬ K.P k) : ¬ K'.P k := far_of h.o hk hO
theorem SlO.go (hs : SlO w O a xs) (h : Fr O w w') (ho : ∀ k, O' k → O k ∨ w.heap.size ≤ k) : SlO w' O' a xs := fun j v hv => by
  obtain ⟨ad, e, h1, h2, h3⟩ := hs j v hv
  exact ⟨ad, e, Nat.lt_of_lt_of_le h1 h.size, far_of ho h1 h2, (fr_cell h (p := ad.add j) (by rw [block_add]; exact h1) (by rw [block_add]; exact h2)).trans h3⟩
theorem SlO.es (hs : SlO w K.P a xs) (h : Es K w w' K') : SlO w' K'.P a xs := hs.go h.fr h.o
theorem SlO.ev (hs : SlO w K.O a xs) (h : Ev K w w' K') : SlO w' K'.O a xs := hs.go h.fr h.o
theorem SlO.less (hs : SlO w O a xs) (h : ∀ k, O' k → O k) : SlO w O' a xs := fun j v hv => by
  obtain ⟨ad, e, h1, h2, h3⟩ := hs j v hv
  exact ⟨ad, e, h1, fun e => h2 (h _ e), h3⟩
theorem CellO.go {p : Addr} {v : Value} (hs : CellO w O p v) (h : Fr O w w') (ho : ∀ k, O' k → O k ∨ w.heap.size ≤ k) : CellO w' O' p v := ⟨Nat.lt_of_lt_of_le hs.1 h.size, far_of ho hs.1 hs.2.1, (fr_cell h hs.1 hs.2.1).trans hs.2.2⟩
theorem SlO.of_blk {g : Nat} {t : TypeId} (h : Blk w g t xs) (hO : ¬ O g) : SlO w O (some ⟨g, 0, none⟩) xs := fun j v hv => by
  obtain ⟨ad, e, h1, h2⟩ := h.sl h.lt j v hv
  obtain rfl : (⟨g, 0, none⟩ : Addr) = ad := by injection e
  exact ⟨_, rfl, h1, hO, h2⟩
theorem SlO.pair {ps : List (Int × Int)} (h : SlO w O a (prvs ps)) (i : Nat) (hi : i < ps.length) :
    ∃ ad, a = some ad ∧ w.cell? (ad.add (i * 2)) = some (.int .u8 ps[i].1) ∧ w.cell? ⟨(ad.add (i * 2)).block, (ad.add (i * 2)).off + 1, none⟩ = some (.int .u8 ps[i].2) := by
  have g : ∀ j v, j < 2 → (prv ps[i])[j]? = some v → (prvs ps)[i * 2 + j]? = some v := fun j v hj e => by
    rw [prvs, flat_get prv 2 prv_len ps i j hj, List.getElem?_eq_getElem hi]
    exact e
  obtain ⟨ad, rfl, _, _, h0⟩ := h _ _ (g 0 _ (by omega) rfl)
  obtain ⟨ad', e, _, _, h1⟩ := h _ _ (g 1 _ (by omega) rfl)
  obtain rfl : ad = ad' := by injection e
  exact ⟨ad, rfl, h0, cell_off h1⟩

/-- the instructions of a sequence -/
def rgs (ps : List (Int × Int)) : List Ins := ps.map fun x => .rg x.1 x.2
theorem rgs_take (ps : List (Int × Int)) (i : Nat) (h : i < ps.length) : rgs (ps.take (i + 1)) = rgs (ps.take i) ++ [.rg ps[i].1 ps[i].2] := by
  simp only [rgs]
  rw [List.take_succ_eq_append_getElem h, List.map_append]
  rfl
theorem rgs_len (ps : List (Int × Int)) : (rgs ps).length = ps.length := by simp [rgs]

set_option maxRecDepth 100000 in
set_option maxHeartbeats 3200000 in
theorem utf_any (h : Cs w B eT K code code.length) (ps : List (Int × Int)) (c : Nat) (hs : SlO w K.P a (prvs ps)) (hl : ps.length ≤ 1000000) (hn : code.length ≤ 1099511627776) :
    Calls Tryd.prog 68 #[.pointer (some ⟨K.C, 0, none⟩), .slice a ps.length c] w (Longer w B eT K (code ++ rgs ps) (.tuple #[])) := by
  obtain ⟨i0, hi, hz0, hz1, hz2⟩ := info_parts infoP
  have H := Lib.hid h
  have HS := Lib.hid hs
  have hC : Hid (K.C = K.C) := Lib.hid rfl
  clear h hs
  go_enter Tryd.func68, Tryd.ntmps68
  go_wp2
  go_loopw [5, 6, 9] (fun _ _ k wr => ∃ (i : Nat) (K1 : Ks), i ≤ ps.length ∧ k = .int .i64 i ∧ Hid (Cs wr B eT K1 (code ++ rgs (ps.take i)) (code ++ rgs (ps.take i)).length ∧ Es K w wr K1)) (fun _ _ k _ => ps.length - (intOf k).toNat)
  case atStart => exact ⟨0, K, by omega, rfl, Lib.hid ⟨by simpa [rgs] using H.out, Es.refl _ _⟩⟩
  case round =>
    obtain ⟨i, K1, hii, rfl, H1⟩ := hrel
    by_cases hlt : i < ps.length
    · obtain ⟨ad, rfl, d0, d1⟩ := (HS.out.es H1.out.2).pair i hlt
      have HT := Lib.hid (rgs_take ps i hlt)
      have hcl : (rgs (ps.take i)).length = i := by rw [rgs_len, List.length_take]; omega
      have HL := Lib.hid (show (code ++ rgs (ps.take i)).length = code.length + i by rw [List.length_append, hcl])
      generalize hp : ps[i] = p at *
      have HP := Lib.hid hp
      clear hp
      obtain ⟨x, y⟩ := p
      simp only at d0 d1
      obtain ⟨cd, hcd⟩ : ∃ cd, cd = code ++ rgs (ps.take i) := ⟨_, rfl⟩
      have HCD := Lib.hid hcd
      rw [← hcd] at H1 HL
      have hcl2 : cd.length ≤ 1099512627776 := by rw [HL.out]; omega
      clear hcd hcl
      obtain ⟨wo, hwo⟩ : ∃ wo : World, wo = wr := ⟨wr, rfl⟩
      subst hwo
      have hb0 : Below wo.heap.size wo (wo.alloc (.cells #[.int .u8 x, .int .u8 y] 192)) := (Below.refl _ _).alloc (Nat.le_refl _) _
      have HA := Lib.hid (H1.out.1.new hb0)
      have EA := Lib.hid (H1.out.2.trans (Es.of_below K1 hb0))
      have RA := Lib.hid (show Blk (wo.alloc (.cells #[.int .u8 x, .int .u8 y] 192)) wo.heap.size 192 [.int .u8 x, .int .u8 y] from Blk.new _ _ _)
      have RO := Lib.hid (show ¬ K1.P wo.heap.size from fun e => by have := (H1.out.1.O_lt _ e.o).2; omega)
      have CA := Lib.hid (alloc_any HA.out)
      have CA2 : Hid (Calls Tryd.prog 57 #[.pointer (some ⟨K.C, 0, none⟩)] (wo.alloc (.cells #[.int .u8 x, .int .u8 y] 192)) (NewIns (wo.alloc (.cells #[.int .u8 x, .int .u8 y] 192)) B eT K1 cd cd.length)) := Lib.hid (by rw [← H1.out.2.c]; exact CA.out)
      clear CA hb0
      go_upto_region 4 with (first | (go_at_call 57; refine CA2.out.mono ?_; rintro e w1 ⟨K2, rfl, h2, ev2, -, -⟩; have H2 := Lib.hid h2; have EV2 := Lib.hid ev2; obtain ⟨o0, o1⟩ := h2.opcell (i := cd.length) (by simp); simp only [List.getElem_concat_length, insC, List.getElem?_cons_zero] at o0; have R2 := Lib.hid (ev2.fr.blk RA.out RO.out); clear h2 ev2) | fail)
      have E2 := Lib.hid (EA.out.trans EV2.out)
      have RO2 := Lib.hid (EV2.out.far RA.out.lt RO.out)
      clear EV2 CA2 RA RO EA HA
      go_upto_region 5 with (fail)
      refine name_world ?_
      intro w2 hw2
      have S2 := Lib.hid (H2.out.store (i := cd.length) (by simp) 0 (by omega) (.rg 0 0) (.int .i64 3) (by simp [insC]))
      have H3 := Lib.hid (show Cs w2 B eT K2 (cd ++ [.rg 0 0]) cd.length by rw [hw2, ← mt_set]; exact S2.out.1)
      have E3 := Lib.hid (show Es K2 w1 w2 K2 by rw [hw2]; exact S2.out.2)
      have R3 := Lib.hid (E3.out.fr.blk R2.out RO2.out)
      clear S2 H2 hw2 o0 o1 R2
      have r0 := R3.out.cell 0
      have r1 := R3.out.cell 1
      obtain ⟨o0, o1⟩ := H3.out.ins (i := cd.length) (by simp) 4 (by omega)
      simp only [List.getElem_concat_length, insC, List.getElem?_cons_zero, List.getElem?_cons_succ] at o0 r0 r1
      go_upto_region 6 with (fail)
      refine name_world ?_
      intro w3 hw3
      have S3 := Lib.hid (H3.out.store (i := cd.length) (by simp) 4 (by omega) (.rg x 0) (.int .u8 x) (by simp [insC]))
      have H4 := Lib.hid (show Cs w3 B eT K2 (cd ++ [.rg x 0]) cd.length by rw [hw3]; simpa using S3.out.1)
      have E4 := Lib.hid (show Es K2 w2 w3 K2 by rw [hw3]; exact S3.out.2)
      have R4 := Lib.hid (E4.out.fr.blk R3.out RO2.out)
      clear S3 H3 hw3 o0 o1 r0 r1 R3
      have r0 := R4.out.cell 0
      have r1 := R4.out.cell 1
      obtain ⟨o0, o1⟩ := H4.out.ins (i := cd.length) (by simp) 5 (by omega)
      simp only [List.getElem_concat_length, insC, List.getElem?_cons_zero, List.getElem?_cons_succ] at o0 r0 r1
      go_upto_region 7 with (fail)
      refine name_world ?_
      intro w4 hw4
      have S4 := Lib.hid (H4.out.store (i := cd.length) (by simp) 5 (by omega) (.rg x y) (.int .u8 y) (by simp [insC]))
      have H5 := Lib.hid (show Cs w4 B eT K2 (cd ++ [.rg x y]) cd.length by rw [hw4]; simpa using S4.out.1)
      have E5 := Lib.hid (show Es K2 w3 w4 K2 by rw [hw4]; exact S4.out.2)
      have EX := Lib.hid (((E2.out.trans E3.out).trans E4.out).trans E5.out)
      clear S4 H4 hw4 o0 o1 r0 r1 R4 E2 E3 E4 E5 RO2
      have c1 := H5.out.cells.2.1
      have f1 := H5.out.c.frozen 1
      have C2 := Lib.hid (show ∀ (w3 : World) (row : Option Nat), w4.grownBy w3 row → row = (K2.v cd.length).ownBlock → w3.cell? ⟨K.C, 1, none⟩ = some (.slice K2.va cd.length K2.vc) ∧ w3.frozen? ⟨K.C, 1, none⟩ = false from fun w3 row hg e => by
        have := H5.out.c.grown hg (fun e2 => row_blk H5.out.row H5.out.c (by decide) (e ▸ e2.symm))
        rw [← EX.out.c]
        exact ⟨this.cell 1, this.frozen 1⟩)
      have PUT := Lib.hid (fun (w3 : World) (v3 : Value) ho hg hat => H5.out.put (w' := w3) (v' := v3) (by simp) ho hg hat)
      rw [EX.out.c] at c1 f1
      go_upto_region 8 with (first | (at_builtin; refine append1_at w4 #[.pointer (some (adr K2.G cd.length))] rfl (.tmp 32) (.tmp 34) 59 rfl B 67 i0 _ 1 8 Tryd.underlying59 hi hz0 hz1 hz2 rfl (by omega) rfl (.slice K2.va cd.length K2.vc) cd.length (ptrs K2.G cd.length) rfl H5.out.row w4.heap.size rfl rfl (by simp [Value.oneCell']) (by unfold maxLen; omega) (by omega) H5.out.hw ?_; intro v5 w5 ho5 hg5 _ hat5; obtain ⟨a5, c5, rfl⟩ := own_value ho5; obtain ⟨d1, d2⟩ := C2.out _ _ hg5 rfl; have P5 := Lib.hid (PUT.out _ _ ho5 hg5 hat5); clear ho5 hg5 hat5 c1 f1) | fail)
      refine name_world ?_
      intro w6 hw6
      have H6 : Hid (∃ K6, Cs w6 B eT K6 (code ++ rgs (ps.take (i + 1))) (code ++ rgs (ps.take (i + 1))).length ∧ Es K w w6 K6) := Lib.hid (by
        obtain ⟨K6, h6, ev6⟩ := P5.out
        rw [EX.out.c, ← hw6] at h6 ev6
        have e1 : code ++ rgs (ps.take (i + 1)) = cd ++ [.rg x y] := by
          rw [HT.out, HCD.out]
          simp
        refine ⟨K6, ?_, EX.out.trans ev6⟩
        rw [e1, List.length_append]
        exact h6)
      clear P5 PUT C2 EX H5 d1 d2 hw6 H1
      obtain ⟨K6, H7⟩ := H6.out
      have H7 := Lib.hid H7
      go_wp2
      go_roundw
      case rel => exact ⟨i + 1, K6, by omega, by go_num, H7⟩
      case measure => simp [intOf]; omega
    · obtain rfl : i = ps.length := by omega
      go_wp2
      go_returns
      exact ⟨K1, rfl, by simpa using H1.out.1, H1.out.2⟩
end

end Go.Proofs.YtbkpgfccghombaaDoor.rx

/-! Regular expressions: the compiler keeps the sequences that it made. Conditions: as stated. -/
namespace Go.Proofs.YtbkpgfccghombaaDoor.rx
open Go.ChangeShapes Go.WideShapes Go.ChangeAt Go.RowKit
set_option linter.unusedVariables false

/-- the blocks of the sequences' buffers -/
def Ks.Q (K : Ks) (k : Nat) : Prop := k = K.sb ∨ k = K.eb ∨ isAt K.ra k ∨ isAt K.ka k

section
variable {w : World} {B n : Nat} {eT : Value} {K : Ks} {code : List Ins}
theorem Cs.pre (h : Cs w B eT K code n) : Pre B K.Q w K.sb K.eb K.ra K.rc K.ka K.kc :=
  { nils := h.nils, hB := h.hB, hw := h.hw, fp := h.fp, fq := h.fq, pq := h.pq, hp := h.bs, hq := h.be, Op := .inl rfl, Oq := .inr (.inl rfl)
    rv := by obtain ⟨xs, hr⟩ := h.rv; exact ⟨_, _, hr⟩
    sk := by obtain ⟨xs, hr⟩ := h.sk; exact ⟨_, _, hr⟩
    Orv := fun ad e => .inr (.inr (.inl ⟨ad, e, rfl⟩)), Osk := fun ad e => .inr (.inr (.inr ⟨ad, e, rfl⟩)) }
theorem Ks.Q.o {K : Ks} {k : Nat} (h : K.Q k) : K.O k := by
  rcases h with h | h | h | h
  · exact .inr (.inl h)
  · exact .inr (.inr (.inl h))
  · exact .inr (.inr (.inr (.inr (.inr (.inl h)))))
  · exact .inr (.inr (.inr (.inr (.inr (.inr h)))))
theorem Cs.blk_Q (h : Cs w B eT K code n) {g : Nat} {t : TypeId} {l : List Value} (hb : Blk w g t l) (h1 : t ≠ 5) (h2 : 159 ≠ t) (h3 : 184 ≠ t) : ¬ K.Q g := by
  obtain ⟨xr, hr⟩ := h.rv
  obtain ⟨xk, hk⟩ := h.sk
  rintro (e | e | e | e)
  · exact h.fp.ne_blk hb h1 e
  · exact h.fq.ne_blk hb h1 e
  · exact row_blk hr hb h2 (own_isAt.2 e)
  · exact row_blk hk hb h3 (own_isAt.2 e)

/-- the sequences are made, and kept -/
theorem Cs.seqs (h : Cs w B eT K code n) {w1 : World} {rv sk : Value} {L : List Sq} {fr up : Int} (g : Got B K.Q w w1 rv sk L fr up K.sb K.eb) :
    ∃ K', rv = .slice K'.ra L.length K'.rc ∧ Cs ((w1.setCell ⟨K.C, 3, none⟩ rv).setCell ⟨K.C, 4, none⟩ sk) B eT K' code n ∧ Ev K w ((w1.setCell ⟨K.C, 3, none⟩ rv).setCell ⟨K.C, 4, none⟩ sk) K' ∧ K'.rn = L.length ∧
      SlO ((w1.setCell ⟨K.C, 3, none⟩ rv).setCell ⟨K.C, 4, none⟩ sk) K'.P K'.ra (L.map seqv) ∧ ∀ x ∈ L, SlO ((w1.setCell ⟨K.C, 3, none⟩ rv).setCell ⟨K.C, 4, none⟩ sk) K'.P (some ⟨x.1, 0, none⟩) (prvs x.2.2) := by
  obtain ⟨ra, rc, rfl⟩ := own_value g.orv
  obtain ⟨ka, kc, rfl⟩ := own_value g.osk
  let K2 : Ks := { K with ra := ra, rn := L.length, rc := rc, ka := ka, kn := 0, kc := kc }
  have C1 := g.fr.blk h.c (h.blk_Q h.c (by decide) (by decide) (by decide))
  obtain ⟨xr, hr⟩ := h.rv
  obtain ⟨xk, hk⟩ := h.sk
  have row1 := g.fr.own h.row (fun k hk1 hQ => by
    rcases hQ with e | e | e | e
    · exact h.fp.ne_row h.row (by decide) (e ▸ hk1.symm)
    · exact h.fq.ne_row h.row (by decide) (e ▸ hk1.symm)
    · exact rows_apart h.row hr (by decide) k hk1 (own_isAt.2 e)
    · exact rows_apart h.row hk (by decide) k hk1 (own_isAt.2 e))
  have pools1 : ∀ j (hj : j < K.G.length), Blk w1 K.G[j] 100 (poolC code j) := fun j hj => g.fr.blk (h.pools j hj) (h.blk_Q (h.pools j hj) (by decide) (by decide) (by decide))
  have n2 : K.sb ≠ K.C := fun e => h.fp.ne_blk h.c (by decide) e.symm
  have n3 : K.eb ≠ K.C := fun e => h.fq.ne_blk h.c (by decide) e.symm
  obtain ⟨w2, hw2⟩ : ∃ w2, w2 = (w1.setCell ⟨K.C, 3, none⟩ (.slice ra L.length rc)).setCell ⟨K.C, 4, none⟩ (.slice ka 0 kc) := ⟨_, rfl⟩
  have far2 : ∀ {g : Nat} {t : TypeId} {l : List Value}, Blk w1 g t l → g ≠ K.C → Blk w2 g t l := fun hk hn => by rw [hw2]; exact (hk.far hn _).far hn _
  have own2 : ∀ {e : TypeId} {k m : Nat} {v : Value} {xs : List Value}, w1.ownsRow B e k v m xs → e ≠ 128 → w2.ownsRow B e k v m xs := fun ho hn => by
    rw [hw2]
    exact own_far (own_far ho _ _ (row_blk ho C1 hn)) _ _ (row_blk ho C1 hn)
  have b2 : Below B w1 w2 := by rw [hw2]; exact ((Below.refl _ _).setCell (p := ⟨K.C, 3, none⟩) h.bC _).setCell (p := ⟨K.C, 4, none⟩) h.bC _
  have f2 : Fr K.O w w2 := by rw [hw2]; exact ((g.fr.mono (fun k _ e => e.o)).set _ _ (.inl rfl)).set _ _ (.inl rfl)
  have bel := g.bel.trans b2
  have hrow2 := own2 g.orv (by decide)
  have CS : Cs w2 B eT K2 code n :=
    { c := by
        have := (C1.set_ 3 (.slice ra L.length rc)).set_ 4 (.slice ka 0 kc)
        rw [hw2]
        exact this
      row := own2 row1 (by decide), pools := fun j hj => far2 (pools1 j hj) ((h.pools j hj).ne_ h.c (by decide)), nd := h.nd, gl := h.gl, gB := h.gB, pv := h.pv, n := h.n
      rv := ⟨_, hrow2⟩, sk := ⟨_, own2 g.osk (by decide)⟩
      fp := by rw [hw2]; exact four_keep (four_keep g.fp n2 _) n2 _
      fq := by rw [hw2]; exact four_keep (four_keep g.fq n3 _) n3 _
      pq := h.pq, bC := h.bC, bs := h.bs, be := h.be, nils := h.nils.below bel h.hB, hB := h.hB, hw := Nat.le_trans h.hw bel.size
      err := (bel.cell (p := ⟨_, 0, none⟩) (by simp; have := h.hB; omega)).trans h.err }
  rw [← hw2]
  have notP : ∀ {g : Nat} {t : TypeId} {l : List Value}, Blk w2 g t l → t ≠ 128 → t ≠ 100 → 67 ≠ t → ¬ K2.P g := fun hb h1 h2 h3 => by
    rintro (e | e | e)
    · exact hb.ne_ CS.c h1 e
    · obtain ⟨j, hj, e⟩ := List.getElem_of_mem e
      exact hb.ne_ (CS.pools j hj) h2 e.symm
    · exact row_blk CS.row hb h3 (own_isAt.2 e)
  refine ⟨K2, rfl, CS, ⟨f2, fun k e => ?_, rfl, rfl⟩, rfl, fun j v hv => ?_, fun x hx => ?_⟩
  · rcases e with e | e | e | e | e | e | e
    · exact .inl (.inl e)
    · exact .inl (.inr (.inl e))
    · exact .inl (.inr (.inr (.inl e)))
    · exact .inl (.inr (.inr (.inr (.inl e))))
    · exact .inl (.inr (.inr (.inr (.inr (.inl e)))))
    · exact (g.Orv k (own_isAt.2 e)).imp Ks.Q.o id
    · exact (g.Osk k (own_isAt.2 e)).imp Ks.Q.o id
  · obtain ⟨ad, e, h1, h2⟩ := sl_of_own hrow2 j v hv
    refine ⟨ad, e, h1, ?_, h2⟩
    rintro (e2 | e2 | e2)
    · exact row_blk hrow2 CS.c (by decide) (own_isAt.2 ⟨ad, e, e2⟩)
    · obtain ⟨i, hi, e3⟩ := List.getElem_of_mem e2
      exact row_blk hrow2 (CS.pools i hi) (by decide) (own_isAt.2 ⟨ad, e, e3.symm⟩)
    · exact rows_apart hrow2 CS.row (by decide) _ (own_isAt.2 ⟨ad, e, rfl⟩) (own_isAt.2 e2)
  · have hb := far2 (g.sq x hx) ((g.sq x hx).ne_ C1 (by decide))
    exact SlO.of_blk hb (notP hb (by decide) (by decide) (by decide))

end

end Go.Proofs.YtbkpgfccghombaaDoor.rx

/-! Regular expressions: pieces with jumps behind them that are laid first and set at last. Plain. Conditions: none. -/
namespace Go.Proofs.YtbkpgfccghombaaDoor.rx
set_option linter.unusedVariables false

section
variable {α : Type} (f : Nat → α → List Ins)
/-- pieces, each with a split ahead and a jump to e behind -/
def altP (e : Nat) : Nat → List α → List Ins
  | _, [] => []
  | b, s :: r => .sp (b + 1) (b + 2 + (f (b + 1) s).length) :: (f (b + 1) s ++ (.jp e :: altP e (b + 2 + (f (b + 1) s).length) r))
/-- where the jumps are -/
def altJ : Nat → List α → List Nat
  | _, [] => []
  | b, s :: r => (b + 1 + (f (b + 1) s).length) :: altJ (b + 2 + (f (b + 1) s).length) r
theorem altP_len (e e' : Nat) : ∀ (l : List α) (b : Nat), (altP f e b l).length = (altP f e' b l).length
  | [], _ => rfl
  | s :: r, b => by simp only [altP, List.length_cons, List.length_append]; rw [altP_len e e' r]
theorem altJ_len : ∀ (l : List α) (b : Nat), (altJ f b l).length = l.length
  | [], _ => rfl
  | s :: r, b => by simp only [altJ, List.length_cons]; rw [altJ_len r]
theorem altP_snoc (e : Nat) (s : α) : ∀ (l : List α) (b : Nat), altP f e b (l ++ [s]) = altP f e b l ++ (.sp (b + (altP f e b l).length + 1) (b + (altP f e b l).length + 2 + (f (b + (altP f e b l).length + 1) s).length) :: (f (b + (altP f e b l).length + 1) s ++ [.jp e]))
  | [], b => rfl
  | t :: r, b => by
    simp only [List.cons_append, altP]
    rw [altP_snoc e s r]
    have e1 : b + 2 + (f (b + 1) t).length + (altP f e (b + 2 + (f (b + 1) t).length) r).length = b + (Ins.sp (b + 1) (b + 2 + (f (b + 1) t).length) :: (f (b + 1) t ++ Ins.jp e :: altP f e (b + 2 + (f (b + 1) t).length) r)).length := by
      simp only [List.length_cons, List.length_append]; omega
    rw [e1]
    simp
theorem altJ_snoc (s : α) : ∀ (l : List α) (b : Nat), altJ f b (l ++ [s]) = altJ f b l ++ [b + (altP f 0 b l).length + 1 + (f (b + (altP f 0 b l).length + 1) s).length]
  | [], b => rfl
  | t :: r, b => by
    simp only [List.cons_append, altJ]
    rw [altJ_snoc s r]
    have e1 : b + 2 + (f (b + 1) t).length + (altP f 0 (b + 2 + (f (b + 1) t).length) r).length = b + (altP f 0 b (t :: r)).length := by
      simp only [altP, List.length_cons, List.length_append]; omega
    rw [e1]
theorem altC_snoc (e : Nat) (s : α) : ∀ (l : List α) (b : Nat), altC f e b (l ++ [s]) = altP f e b l ++ f (b + (altP f e b l).length) s
  | [], b => by simp [altC, altP]
  | [t], b => by
    simp only [List.cons_append, List.nil_append, altC, altP, List.length_cons, List.length_append, List.length_nil]
    rw [show b + ((f (b + 1) t).length + (0 + 1) + 1) = b + 2 + (f (b + 1) t).length by omega]
    simp
  | t :: u :: r, b => by
    have ih := altC_snoc e s (u :: r) (b + 2 + (f (b + 1) t).length)
    have e1 : b + 2 + (f (b + 1) t).length + (altP f e (b + 2 + (f (b + 1) t).length) (u :: r)).length = b + (altP f e b (t :: u :: r)).length := by
      simp only [altP, List.length_cons, List.length_append]; omega
    rw [e1] at ih
    show altC f e b (t :: u :: (r ++ [s])) = _
    have e2 : altC f e b (t :: u :: (r ++ [s])) = .sp (b + 1) (b + 2 + (f (b + 1) t).length) :: (f (b + 1) t ++ (.jp e :: altC f e (b + 2 + (f (b + 1) t).length) ((u :: r) ++ [s]))) := rfl
    have e3 : altP f e b (t :: u :: r) = .sp (b + 1) (b + 2 + (f (b + 1) t).length) :: (f (b + 1) t ++ (.jp e :: altP f e (b + 2 + (f (b + 1) t).length) (u :: r))) := rfl
    rw [e2, ih]
    rw [e3]
    simp
end

/-- jumps are set -/
def setJ (e : Nat) (js : List Nat) (c : List Ins) : List Ins := js.foldl (fun c j => c.set j (.jp e)) c
theorem setJ_len (e : Nat) : ∀ (js : List Nat) (c : List Ins), (setJ e js c).length = c.length
  | [], _ => rfl
  | j :: js, c => by
    show (setJ e js (c.set j (.jp e))).length = _
    rw [setJ_len e js, List.length_set]
theorem setJ_snoc (e : Nat) (js : List Nat) (j : Nat) (c : List Ins) : setJ e (js ++ [j]) c = (setJ e js c).set j (.jp e) := by simp [setJ]
/-- where a jump was, there is one -/
theorem setJ_jp (e : Nat) (m : Nat) : ∀ (js : List Nat) (c : List Ins), (∃ x, c[m]? = some (.jp x)) → ∃ x, (setJ e js c)[m]? = some (.jp x)
  | [], c, h => h
  | j :: js, c, h => by
    refine setJ_jp e m js (c.set j (.jp e)) ?_
    obtain ⟨x, hx⟩ := h
    rw [List.getElem?_set]
    split
    · rename_i hj
      subst hj
      rw [if_pos (List.getElem?_eq_some_iff.1 hx).1]
      exact ⟨e, rfl⟩
    · exact ⟨x, hx⟩
section
variable {α : Type} (f : Nat → α → List Ins)
theorem altJ_at (e : Nat) : ∀ (l : List α) (b : Nat) (pre post : List Ins), pre.length = b → ∀ j ∈ altJ f b l, (pre ++ (altP f e b l ++ post))[j]? = some (.jp e)
  | [], b, pre, post, _, j, hj => by simp [altJ] at hj
  | s :: r, b, pre, post, hb, j, hj => by
    simp only [altJ, List.mem_cons] at hj
    have e2 : pre ++ (altP f e b (s :: r) ++ post) = (pre ++ (.sp (b + 1) (b + 2 + (f (b + 1) s).length) :: (f (b + 1) s ++ [.jp e]))) ++ (altP f e (b + 2 + (f (b + 1) s).length) r ++ post) := by simp [altP]
    rcases hj with rfl | hj
    · have e3 : pre ++ (altP f e b (s :: r) ++ post) = (pre ++ (.sp (b + 1) (b + 2 + (f (b + 1) s).length) :: f (b + 1) s)) ++ (.jp e :: (altP f e (b + 2 + (f (b + 1) s).length) r ++ post)) := by simp [altP]
      rw [e3, List.getElem?_append_right (by simp; omega)]
      simp only [List.length_append, List.length_cons]
      rw [show b + 1 + (f (b + 1) s).length - (pre.length + ((f (b + 1) s).length + 1)) = 0 by omega]
      rfl
    · rw [e2]
      exact altJ_at e r (b + 2 + (f (b + 1) s).length) _ post (by simp; omega) j hj
theorem setJ_alt (e : Nat) : ∀ (l : List α) (b : Nat) (pre post : List Ins), pre.length = b → setJ e (altJ f b l) (pre ++ (altP f 0 b l ++ post)) = pre ++ (altP f e b l ++ post)
  | [], b, pre, post, _ => rfl
  | s :: r, b, pre, post, hb => by
    have e1 : pre ++ (altP f 0 b (s :: r) ++ post) = (pre ++ (.sp (b + 1) (b + 2 + (f (b + 1) s).length) :: f (b + 1) s)) ++ (.jp 0 :: (altP f 0 (b + 2 + (f (b + 1) s).length) r ++ post)) := by simp [altP]
    have e2 : (pre ++ (altP f 0 b (s :: r) ++ post)).set (b + 1 + (f (b + 1) s).length) (.jp e) = (pre ++ (.sp (b + 1) (b + 2 + (f (b + 1) s).length) :: (f (b + 1) s ++ [.jp e]))) ++ (altP f 0 (b + 2 + (f (b + 1) s).length) r ++ post) := by
      rw [e1, List.set_append_right _ _ (by simp; omega)]
      simp only [List.length_append, List.length_cons]
      rw [show b + 1 + (f (b + 1) s).length - (pre.length + ((f (b + 1) s).length + 1)) = 0 by omega]
      simp
    show setJ e (altJ f (b + 2 + (f (b + 1) s).length) r) ((pre ++ (altP f 0 b (s :: r) ++ post)).set (b + 1 + (f (b + 1) s).length) (.jp e)) = _
    rw [e2, setJ_alt e r (b + 2 + (f (b + 1) s).length) _ post (by simp; omega)]
    simp [altP]
end

end Go.Proofs.YtbkpgfccghombaaDoor.rx

/-! Regular expressions: the compiler: the row of the jumps that are set at last, beside the compiler's memory. Conditions: none. -/
namespace Go.Proofs.YtbkpgfccghombaaDoor.rx
open Go.ChangeShapes Go.WideShapes Go.ChangeAt Go.RowKit
set_option linter.unusedVariables false

section
variable {α : Type} (f : Nat → α → List Ins)
/-- one piece more: split, piece, jump; the split is set -/
theorem alt_round {code cd X : List Ins} {l : List α} {s : α} (hcd : cd = code ++ altP f 0 code.length l) (hf : f (cd.length + 1) s = X) :
    (((cd ++ [Ins.sp 0 0]) ++ X) ++ [Ins.jp 0]).set cd.length (.sp (cd.length + 1) (((cd ++ [Ins.sp 0 0]) ++ X).length + 1)) = code ++ altP f 0 code.length (l ++ [s]) ∧
    altJ f code.length (l ++ [s]) = altJ f code.length l ++ [((cd ++ [Ins.sp 0 0]) ++ X).length] := by
  have e1 : code.length + (altP f 0 code.length l).length = cd.length := by rw [hcd]; simp
  rw [altP_snoc, altJ_snoc, e1, hf]
  constructor
  · have e2 : ((cd ++ [Ins.sp 0 0]) ++ X) ++ [Ins.jp 0] = cd ++ (.sp 0 0 :: (X ++ [.jp 0])) := by simp
    have e3 : ((cd ++ [Ins.sp 0 0]) ++ X).length + 1 = cd.length + 2 + X.length := by simp; omega
    rw [e2, e3, List.set_append_right _ _ (Nat.le_refl _), Nat.sub_self, List.set_cons_zero]
    rw [← List.append_assoc, ← hcd]
  · have e3 : ((cd ++ [Ins.sp 0 0]) ++ X).length = cd.length + 1 + X.length := by simp; omega
    rw [e3]
/-- the last piece, and all jumps set -/
theorem alt_end {code cd X : List Ins} {l : List α} {s : α} (hcd : cd = code ++ altP f 0 code.length l) (hf : f cd.length s = X) :
    setJ (cd ++ X).length (altJ f code.length l) (cd ++ X) = code ++ altE f code.length (l ++ [s]) := by
  have e1 : ∀ e, code.length + (altP f e code.length l).length = cd.length := fun e => by rw [altP_len f e 0 l]; rw [hcd]; simp
  have e2 : cd ++ X = code ++ (altP f 0 code.length l ++ X) := by rw [hcd]; simp
  have e3 : code.length + (altC f 0 code.length (l ++ [s])).length = (cd ++ X).length := by
    rw [altC_snoc, e1, hf, List.length_append, List.length_append]
    have := e1 0
    omega
  unfold altE
  rw [e3, altC_snoc, e1, hf]
  conv => lhs; rw [e2]
  rw [setJ_alt f _ l code.length code X rfl, ← e2]
theorem alt_jp {code cd X : List Ins} {l : List α} (hcd : cd = code ++ altP f 0 code.length l) (k : Nat) (hk : k < l.length) (e : Nat) :
    ∃ j, (altJ f code.length l)[k]? = some j ∧ j < (setJ e ((altJ f code.length l).take k) (cd ++ X)).length ∧ (∃ x, (setJ e ((altJ f code.length l).take k) (cd ++ X))[j]? = some (.jp x)) ∧
      setJ e ((altJ f code.length l).take (k + 1)) (cd ++ X) = (setJ e ((altJ f code.length l).take k) (cd ++ X)).set j (.jp e) := by
  have hl : k < (altJ f code.length l).length := by rw [altJ_len]; exact hk
  have h1 := setJ_jp e ((altJ f code.length l)[k]) ((altJ f code.length l).take k) (cd ++ X) ⟨0, by
    have := altJ_at f 0 l code.length code X rfl ((altJ f code.length l)[k]) (List.getElem_mem hl)
    rw [hcd]
    simpa using this⟩
  refine ⟨_, List.getElem?_eq_getElem hl, ?_, h1, ?_⟩
  · obtain ⟨x, hx⟩ := h1
    exact (List.getElem?_eq_some_iff.1 hx).1
  · rw [List.take_succ_eq_append_getElem hl, setJ_snoc]
theorem alt_pre (e : Nat) : ∀ (l : List α) (b i : Nat), i < l.length → (altP f e b (l.take i)).length ≤ (altC f e b l).length
  | [], b, i, h => by simp at h
  | [s], b, i, h => by
    obtain rfl : i = 0 := by simpa using h
    simp [altP]
  | s :: t :: r, b, 0, h => by simp [altP]
  | s :: t :: r, b, i + 1, h => by
    have := alt_pre e (t :: r) (b + 2 + (f (b + 1) s).length) i (by simpa using h)
    show (altP f e b (s :: (t :: r).take i)).length ≤ (Ins.sp (b + 1) (b + 2 + (f (b + 1) s).length) :: (f (b + 1) s ++ (Ins.jp e :: altC f e (b + 2 + (f (b + 1) s).length) (t :: r)))).length
    simp only [altP, List.length_cons, List.length_append] at this ⊢
    omega
theorem alt_preE {code cd : List Ins} {l : List α} {i : Nat} (hcd : cd = code ++ altP f 0 code.length (l.take i)) (hi : i < l.length) : cd.length ≤ (code ++ altE f code.length l).length := by
  have := alt_pre f 0 l code.length i hi
  rw [hcd, List.length_append, List.length_append, altE_len]
  omega
end

def jvs (js : List Nat) : List Value := js.map fun (j : Nat) => .int .u64 (j : Int)
/-- the row of the jumps -/
def Jr (w : World) (b : Nat) (v : Value) (js : List Nat) : Prop := w.ownsRow b 33 1 v js.length (jvs js)
section
variable {w w' w0 : World} {B b n : Nat} {eT : Value} {K K' K0 : Ks} {code : List Ins} {v : Value} {js : List Nat}
theorem Cs.ne_jr (h : Cs w B eT K code n) (ho : Jr w b v js) (k : Nat) (hk : v.ownBlock = some k) : ¬ K.O k := by
  obtain ⟨xr, hr⟩ := h.rv
  obtain ⟨xk, hs⟩ := h.sk
  rintro (e | e | e | e | e | e | e)
  · exact row_blk ho h.c (by decide) (e ▸ hk)
  · exact h.fp.ne_row ho (by decide) (e ▸ hk.symm)
  · exact h.fq.ne_row ho (by decide) (e ▸ hk.symm)
  · obtain ⟨j, hj, e⟩ := List.getElem_of_mem e
    exact row_blk ho (h.pools j hj) (by decide) (e ▸ hk)
  · exact rows_apart ho h.row (by decide) k hk (own_isAt.2 e)
  · exact rows_apart ho hr (by decide) k hk (own_isAt.2 e)
  · exact rows_apart ho hs (by decide) k hk (own_isAt.2 e)
theorem Jr.ev (ho : Jr w b v js) (h : Cs w B eT K code n) (ev : Ev K w w' K') : Jr w' b v js := ev.fr.own ho (h.ne_jr ho)
theorem Cs.jr_grown (h : Cs w B eT K code n) (ho : Jr w b v js) (hb : B ≤ b) (hg : w.grownBy w' v.ownBlock) : Cs w' B eT K code n :=
  h.keep (Fr.of_grown hg (O := fun k => v.ownBlock = some k) (fun _ e => e)) (fun k hk e => h.ne_jr ho k e hk) (fun k hk e => by have := own_block_ge ho k e; omega)
theorem Es.jr_grown (ev : Es K0 w0 w K) (ho : Jr w b v js) (hb : w0.heap.size ≤ b) (hg : w.grownBy w' v.ownBlock) : Es K0 w0 w' K :=
  ⟨ev.fr.go (Fr.of_grown hg (O := fun k => v.ownBlock = some k) (fun _ e => e)) (fun k _ e => .inr (Nat.le_trans hb (own_block_ge ho k e))), ev.o, ev.same⟩
theorem Ev.jr_grown (ev : Ev K0 w0 w K) (ho : Jr w b v js) (hb : w0.heap.size ≤ b) (hg : w.grownBy w' v.ownBlock) : Ev K0 w0 w' K :=
  ⟨ev.fr.go (Fr.of_grown hg (O := fun k => v.ownBlock = some k) (fun _ e => e)) (fun k _ e => .inr (Nat.le_trans hb (own_block_ge ho k e))), ev.o, ev.c, ev.l⟩
theorem jr_new (w : World) (c : Nat) (hc : c ≤ maxLen) : Jr (w.alloc (.cells (madeCells #[.int .u64 0] c) 33)) w.heap.size (.slice (some ⟨w.heap.size, 0, none⟩) 0 c) [] :=
  ⟨rfl, .inr ⟨w.heap.size, c, _, rfl, Nat.le_refl _, heap_alloc_new w _, Nat.zero_le _, hc, by simp [size_madeCells], by simp [jvs]⟩⟩
theorem jvs_snoc (js : List Nat) (j : Nat) : jvs (js ++ [j]) = jvs js ++ [.int .u64 (j : Int)] := by simp [jvs]
theorem Jr.snoc (ho : w.ownsRow b 33 1 v (js.length + 1) (jvs js ++ #[Value.int .u64 (n : Int)].toList)) : Jr w b v (js ++ [n]) := by
  unfold Jr
  rw [jvs_snoc]
  simpa using ho
theorem infoU : (Tryd.prog.info? 33).map (fun i => (i.zero, i.size, i.bytes)) = some (some (.int .u64 0), 1, 8) := by kernel_rfl
theorem run_jumps (c : Nat) (hc : c ≤ 1000000000000) (w : World) : (Instr.makeSlice 101 (.int .i64 0) (.int .i64 (c : Int))).run Tryd.prog w = .ok (.slice (some ⟨w.heap.size, 0, none⟩) 0 c) (w.alloc (.cells (madeCells #[.int .u64 0] c) 33)) :=
  run_make_room 101 33 (.int .u64 0) 8 Tryd.underlying101 infoU rfl .i64 .i64 c (by omega) (by omega) w
end

end Go.Proofs.YtbkpgfccghombaaDoor.rx

/-! A region that draws its order, with operations (ks) that turn what it loads: what is loaded is asked to hold up to these alone; who only computes asks nothing. Conditions: as stated. -/
namespace Go.Proofs.YtbkpgfccghombaaDoor
open Go.ChangeShapes Go.WideShapes Go.ChangeAt Go.RowKit
set_option linter.unusedVariables false

section
variable {P : Program} {ops : Array Oper} {Q : Exit → Act → World → Prop} {md : Region.Mode} {S : World → Prop} {ks : List Nat}

/-- whatever order is picked; each operation but those of ks keeps S -/
def wpKs (P : Program) (md : Region.Mode) (ops : Array Oper) (Q : Exit → Act → World → Prop) (S : World → Prop) (ks : List Nat) : Nat → Array Bool → Act → World → Prop
  | 0, listed, a, w => Region.ready md ops listed = [] ∧ Q .normal a w
  | n + 1, listed, a, w => (Region.ready md ops listed = [] → Q .normal a w) ∧
      ∀ i ∈ Region.ready md ops listed, wpOp P ops Q i (fun a' w' => (i ∉ ks → S w → S w') ∧ wpKs P md ops Q S ks n (listed.setIfInBounds i true) a' w') a w

theorem any_of_ks : ∀ (n : Nat) (listed : Array Bool) (a : Act) (w : World), wpKs P md ops Q S ks n listed a w → wpAny P md ops Q n listed a w
  | 0, _, _, _, h => h
  | n + 1, _, _, _, h => ⟨h.1, fun i hi => wpOp_mono (fun a' w' h' => any_of_ks n _ a' w' h'.2) (h.2 i hi)⟩

/-- who waits for i does not come ahead of it -/
theorem ks_not_ready {i j : Nat} {listed : Array Bool} (h : Region.waitsFor md ops j i = true) (hi : i ∈ Region.ready md ops listed) : j ∉ Region.ready md ops listed := by
  intro hj
  obtain ⟨oj, hoj, e, he, hb, rfl⟩ := Region.waitsFor_spec h
  obtain ⟨h1, o, ho, -⟩ := mem_ready.1 hi
  obtain ⟨-, o', ho', hall⟩ := mem_ready.1 hj
  rw [hoj] at ho'
  injection ho' with ho'
  subst ho'
  have h2 := hall e he hb
  rcases Nat.lt_or_ge e.on listed.size with h' | h'
  · simp [h'] at h1 h2
    rw [h1] at h2
    cases h2
  · simp [Array.getElem?_eq_none h'] at h2

theorem ks_first {i : Nat} {oi : Oper} {v : Value} (hi : ops[i]? = some oi) (hsel : ∀ (j : Nat) (o : Oper) cs b, ops[j]? = some o → o.op ≠ .select cs b)
    (hQ : ∀ c a w, Q (.panic c) (a.put oi.dst v) w → Q (.panic c) a w) (hk : (ks.all fun k => Region.waitsFor md ops k i) = true) :
    ∀ (n : Nat) (listed : Array Bool) (a : Act) (w : World),
      (∀ j oj, ops[j]? = some oj → j ≠ i → listed.getD j true = false → (∀ e ∈ oj.after, Region.binds md e = true → e.on ≠ i) → oi.apart ops oj = true) →
      i ∈ Region.ready md ops listed → YieldsIf P ops S oi v a → S w →
      wpKs P md ops Q S ks n (listed.setIfInBounds i true) (a.put oi.dst v) w → wpKs P md ops Q S ks (n + 1) listed a w := by
  intro n
  induction n with
  | zero =>
    intro listed a w _ hr hy hS H
    refine ⟨fun h => (by rw [h] at hr; cases hr), fun j hj => ?_⟩
    by_cases hji : j = i
    · subst hji
      exact hy.wpOp hi hS ⟨fun _ h => h, H⟩
    · have := ready_mono hj hji
      rw [H.1] at this
      cases this
  | succ n ih =>
    intro listed a w hfree hr hy hS H
    refine ⟨fun h => (by rw [h] at hr; cases hr), fun j hj => ?_⟩
    by_cases hji : j = i
    · subst hji
      exact hy.wpOp hi hS ⟨fun _ h => h, H⟩
    · have hjk : j ∉ ks := fun e => ks_not_ready (List.all_eq_true.1 hk j e) hr hj
      have h1 := H.2 j (ready_mono hj hji)
      obtain ⟨hjun, oj, hoj, hall⟩ := mem_ready.1 hj
      have hnot : ∀ e ∈ oj.after, Region.binds md e = true → e.on ≠ i := fun e he hb heq =>
        ks_not_ready (j := j) (i := i) (by
          unfold Region.waitsFor
          rw [hoj]
          exact Array.any_eq_true'.2 ⟨e, he, by simp [hb, heq]⟩) hr hj
      have h2 := wpOp_putIf hoj (hfree j oj hoj hji hjun hnot) (fun cs b => hsel i oi cs b hi) (fun cs b => hsel j oj cs b hoj) hQ hy h1
      refine wpOp_mono (fun a' w' h3 => ?_) h2
      have hS' : S w' := h3.2.1 hjk hS
      refine ⟨fun _ _ => hS', ih (listed.setIfInBounds j true) a' w' (fun k' ok hk' hki hun hno => hfree k' ok hk' hki ?_ hno) (ready_mono hr (Ne.symm hji)) h3.1 hS' ?_⟩
      · by_cases e : j = k'
        · subst e
          exact hjun
        · rw [getD_set_ne true e] at hun
          exact hun
      · rw [Array.setIfInBounds_comm _ _ hji]
        exact h3.2.2

theorem ks_pure0 {i : Nat} {oi : Oper} {v : Value} (hi : ops[i]? = some oi) (hsel : ∀ (j : Nat) (o : Oper) cs b, ops[j]? = some o → o.op ≠ .select cs b)
    (hQ : ∀ c a w, Q (.panic c) (a.put oi.dst v) w → Q (.panic c) a w) :
    ∀ (n : Nat) (listed : Array Bool) (a : Act) (w : World),
      (∀ j oj, ops[j]? = some oj → j ≠ i → listed.getD j true = false → (∀ e ∈ oj.after, Region.binds md e = true → e.on ≠ i) → oi.apart ops oj = true) →
      i ∈ Region.ready md ops listed → YieldsIf P ops (fun _ => True) oi v a →
      wpKs P md ops Q S ks n (listed.setIfInBounds i true) (a.put oi.dst v) w → wpKs P md ops Q S ks (n + 1) listed a w := by
  intro n
  induction n with
  | zero =>
    intro listed a w _ hr hy H
    refine ⟨fun h => (by rw [h] at hr; cases hr), fun j hj => ?_⟩
    by_cases hji : j = i
    · subst hji
      exact hy.wpOp hi trivial ⟨fun _ h => h, H⟩
    · have := ready_mono hj hji
      rw [H.1] at this
      cases this
  | succ n ih =>
    intro listed a w hfree hr hy H
    refine ⟨fun h => (by rw [h] at hr; cases hr), fun j hj => ?_⟩
    by_cases hji : j = i
    · subst hji
      exact hy.wpOp hi trivial ⟨fun _ h => h, H⟩
    · have h1 := H.2 j (ready_mono hj hji)
      obtain ⟨hjun, oj, hoj, hall⟩ := mem_ready.1 hj
      have hnot : ∀ e ∈ oj.after, Region.binds md e = true → e.on ≠ i := fun e he hb heq =>
        ks_not_ready (j := j) (i := i) (by
          unfold Region.waitsFor
          rw [hoj]
          exact Array.any_eq_true'.2 ⟨e, he, by simp [hb, heq]⟩) hr hj
      have h2 := wpOp_putIf hoj (hfree j oj hoj hji hjun hnot) (fun cs b => hsel i oi cs b hi) (fun cs b => hsel j oj cs b hoj) hQ hy h1
      refine wpOp_mono (fun a' w' h3 => ?_) h2
      refine ⟨h3.2.1, ih (listed.setIfInBounds j true) a' w' (fun k' ok hk' hki hun hno => hfree k' ok hk' hki ?_ hno) (ready_mono hr (Ne.symm hji)) h3.1 ?_⟩
      · by_cases e : j = k'
        · subst e
          exact hjun
        · rw [getD_set_ne true e] at hun
          exact hun
      · rw [Array.setIfInBounds_comm _ _ hji]
        exact h3.2.2

/-- take number i first, that only computes -/
theorem ks_pure {i : Nat} {oi : Oper} {v : Value} {n : Nat} {listed : Array Bool} {a : Act} {w : World} (hi : ops[i]? = some oi)
    (hs : Region.noSelect ops = true) (hf : Region.free md ops listed i = true) (hr : (Region.ready md ops listed).contains i = true)
    (hQ : ∀ c a w, Q (.panic c) (a.put oi.dst v) w → Q (.panic c) a w) (hy : YieldsIf P ops (fun _ => True) oi v a)
    (h : wpKs P md ops Q S ks n (listed.setIfInBounds i true) (a.put oi.dst v) w) : wpKs P md ops Q S ks (n + 1) listed a w :=
  ks_pure0 hi (Region.noSelect_spec hs) hQ n listed a w (Region.free_spec hi hf) (by simpa using hr) hy h

/-- take number i first -/
theorem ks_take {i : Nat} {oi : Oper} {v : Value} {n : Nat} {listed : Array Bool} {a : Act} {w : World} (hi : ops[i]? = some oi)
    (hs : Region.noSelect ops = true) (hk : (ks.all fun k => Region.waitsFor md ops k i) = true) (hf : Region.free md ops listed i = true) (hr : (Region.ready md ops listed).contains i = true)
    (hQ : ∀ c a w, Q (.panic c) (a.put oi.dst v) w → Q (.panic c) a w) (hS : S w) (hy : YieldsIf P ops S oi v a)
    (h : wpKs P md ops Q S ks n (listed.setIfInBounds i true) (a.put oi.dst v) w) : wpKs P md ops Q S ks (n + 1) listed a w :=
  ks_first hi (Region.noSelect_spec hs) hQ hk n listed a w (Region.free_spec hi hf) (by simpa using hr) hy hS h

/-- who waits for what is not done is not ready -/
theorem ks_not_ready' {i j : Nat} {listed : Array Bool} (h : Region.waitsFor md ops j i = true) (hi : listed.getD i true = false) : j ∉ Region.ready md ops listed := by
  intro hj
  obtain ⟨oj, hoj, e, he, hb, rfl⟩ := Region.waitsFor_spec h
  obtain ⟨-, o', ho', hall⟩ := mem_ready.1 hj
  rw [hoj] at ho'
  injection ho' with ho'
  subst ho'
  have h2 := hall e he hb
  rcases Nat.lt_or_ge e.on listed.size with h' | h'
  · simp [h'] at hi h2
    rw [hi] at h2
    cases h2
  · simp [Array.getElem?_eq_none h'] at hi

theorem ks_via0 {i : Nat} {oi : Oper} {v : Value} (ms : List Nat) (hi : ops[i]? = some oi) (hsel : ∀ (j : Nat) (o : Oper) cs b, ops[j]? = some o → o.op ≠ .select cs b)
    (hQ : ∀ c a w, Q (.panic c) (a.put oi.dst v) w → Q (.panic c) a w) (hk : ((ks ++ ms).all fun k => (i :: ms).any fun m => Region.waitsFor md ops k m) = true) :
    ∀ (n : Nat) (listed : Array Bool) (a : Act) (w : World), (∀ m ∈ ms, listed.getD m true = false) →
      (∀ j oj, ops[j]? = some oj → j ≠ i → listed.getD j true = false → (∀ e ∈ oj.after, Region.binds md e = true → e.on ≠ i) → oi.apart ops oj = true) →
      i ∈ Region.ready md ops listed → YieldsIf P ops S oi v a → S w →
      wpKs P md ops Q S ks n (listed.setIfInBounds i true) (a.put oi.dst v) w → wpKs P md ops Q S ks (n + 1) listed a w := by
  intro n
  induction n with
  | zero =>
    intro listed a w _ _ hr hy hS H
    refine ⟨fun h => (by rw [h] at hr; cases hr), fun j hj => ?_⟩
    by_cases hji : j = i
    · subst hji
      exact hy.wpOp hi hS ⟨fun _ h => h, H⟩
    · have := ready_mono hj hji
      rw [H.1] at this
      cases this
  | succ n ih =>
    intro listed a w hms hfree hr hy hS H
    refine ⟨fun h => (by rw [h] at hr; cases hr), fun j hj => ?_⟩
    by_cases hji : j = i
    · subst hji
      exact hy.wpOp hi hS ⟨fun _ h => h, H⟩
    · have hun : ∀ m ∈ i :: ms, listed.getD m true = false := fun m hm => by
        rcases List.mem_cons.1 hm with rfl | hm
        · exact (mem_ready.1 hr).1
        · exact hms m hm
      have hjn : j ∉ ks ++ ms := fun e => by
        obtain ⟨m, hm, h⟩ := List.any_eq_true.1 (List.all_eq_true.1 hk j e)
        exact ks_not_ready' h (hun m hm) hj
      have hjk : j ∉ ks := fun e => hjn (List.mem_append.2 (.inl e))
      have hjm : j ∉ ms := fun e => hjn (List.mem_append.2 (.inr e))
      have h1 := H.2 j (ready_mono hj hji)
      obtain ⟨hjun, oj, hoj, hall⟩ := mem_ready.1 hj
      have hnot : ∀ e ∈ oj.after, Region.binds md e = true → e.on ≠ i := fun e he hb heq =>
        ks_not_ready (j := j) (i := i) (by
          unfold Region.waitsFor
          rw [hoj]
          exact Array.any_eq_true'.2 ⟨e, he, by simp [hb, heq]⟩) hr hj
      have h2 := wpOp_putIf hoj (hfree j oj hoj hji hjun hnot) (fun cs b => hsel i oi cs b hi) (fun cs b => hsel j oj cs b hoj) hQ hy h1
      refine wpOp_mono (fun a' w' h3 => ?_) h2
      have hS' : S w' := h3.2.1 hjk hS
      refine ⟨fun _ _ => hS', ih (listed.setIfInBounds j true) a' w' (fun m hm => ?_) (fun k' ok hk' hki hun hno => hfree k' ok hk' hki ?_ hno) (ready_mono hr (Ne.symm hji)) h3.1 hS' ?_⟩
      · have hne : j ≠ m := fun e => hjm (by rw [e]; exact hm)
        rw [getD_set_ne true hne]
        exact hms m hm
      · by_cases e : j = k'
        · subst e
          exact hjun
        · rw [getD_set_ne true e] at hun
          exact hun
      · rw [Array.setIfInBounds_comm _ _ hji]
        exact h3.2.2

/-- take number i first; who turns what is loaded waits for it, by way of others (ms) -/
theorem ks_via (ms : List Nat) {i : Nat} {oi : Oper} {v : Value} {n : Nat} {listed : Array Bool} {a : Act} {w : World} (hi : ops[i]? = some oi)
    (hs : Region.noSelect ops = true) (hk : ((ks ++ ms).all fun k => (i :: ms).any fun m => Region.waitsFor md ops k m) = true) (hms : (ms.all fun m => listed.getD m true == false) = true) (hf : Region.free md ops listed i = true) (hr : (Region.ready md ops listed).contains i = true)
    (hQ : ∀ c a w, Q (.panic c) (a.put oi.dst v) w → Q (.panic c) a w) (hS : S w) (hy : YieldsIf P ops S oi v a)
    (h : wpKs P md ops Q S ks n (listed.setIfInBounds i true) (a.put oi.dst v) w) : wpKs P md ops Q S ks (n + 1) listed a w :=
  ks_via0 ms hi (Region.noSelect_spec hs) hQ hk n listed a w (fun m hm => by have := List.all_eq_true.1 hms m hm; simpa using this) (Region.free_spec hi hf) (by simpa using hr) hy hS h

/-- number i alone may come up -/
theorem ks_one {i : Nat} {o : Oper} {n : Nat} {listed : Array Bool} {a : Act} {w : World} (ho : ops[i]? = some o) (hr : Region.ready md ops listed = [i])
    (h : ∀ K' : Act → World → Prop, (∀ a w', (i ∉ ks → S w → S w') → wpKs P md ops Q S ks n (listed.setIfInBounds i true) a w' → K' a w') → if Region.wanted o (yielded ops a.tmps) = true then Oper.wp P o a w K' Q else K' (a.put o.dst undef) w) :
    wpKs P md ops Q S ks (n + 1) listed a w :=
  ⟨fun h0 => (by rw [hr] at h0; cases h0), fun j hj => by
    rw [hr] at hj
    obtain rfl : j = i := by simpa using hj
    exact wpOp_step ho (fun K' hK => h K' (fun a w h1 h2 => hK a w ⟨h1, h2⟩))⟩

theorem ks_done {listed : Array Bool} {a : Act} {w : World} (hr : Region.ready md ops listed = []) (h : Q .normal a w) : ∀ n, wpKs P md ops Q S ks n listed a w
  | 0 => ⟨hr, h⟩
  | _ + 1 => ⟨fun _ => h, by rw [hr]; simp⟩

theorem wp_region_ks {id : Nat} {a : Act} {w : World} (S : World → Prop) (ks : List Nat) (hm : P.follows .mixedOrders = true)
    (h : wpKs P .any ops Q S ks ops.size (Array.replicate ops.size false) a w.drew) : (Code.region id ops true).wp P Q a w :=
  wp_region_any hm (any_of_ks _ _ _ _ h)

theorem yields_if {o : Oper} {v : Value} {a : Act} (hw : Region.wanted o (yielded ops a.tmps) = true) (h : ∀ w, S w → (execOp a.eval o).run P w = .ok (.value v) w) : YieldsIf P ops S o v a := .inl ⟨hw, h⟩
theorem yields_not {o : Oper} {a : Act} (hw : Region.wanted o (yielded ops a.tmps) = false) : YieldsIf P ops S o undef a := .inr ⟨hw, rfl⟩
end

end Go.Proofs.YtbkpgfccghombaaDoor

/-! Regular expressions: the compiler: a range of runes. Conditions: as stated. -/
namespace Go.Proofs.YtbkpgfccghombaaDoor.rx
open Go.ChangeShapes Go.WideShapes Go.ChangeAt Go.RowKit
set_option linter.unusedVariables false

section
variable {w : World} {B n : Nat} {eT : Value} {K : Ks} {code : List Ins}
set_option maxRecDepth 100000 in
set_option maxHeartbeats 3200000 in
theorem crange_any (h : Cs w B eT K code code.length) (a z : Int) (h0 : 0 ≤ a) (h1 : a ≤ z) (h2 : z ≤ 1114111) (hL : isL a = true) (hn : code.length ≤ 1000000000000) :
    Calls Tryd.prog 93 #[.pointer (some ⟨K.C, 0, none⟩), .int .i32 a, .int .i32 z] w fun e w' => ∃ K', e = .returned .nilIface ∧ Cs w' B eT K' (code ++ rangeC code.length (a, z)) (code ++ rangeC code.length (a, z)).length ∧ Ev K w w' K' := by
  obtain ⟨i0, hi0, hz0, hz1, hz2⟩ := info_parts infoU
  obtain ⟨c0, c1, c2, c3, c4, c5, c6⟩ := h.cells
  have f3 := h.c.frozen 3
  have f4 := h.c.frozen 4
  have CP := Lib.hid (fun m => pre_any (rn := K.rn) (kn := K.kn) (h.drewN m).pre a z h0 h1 h2)
  have hne : Hid (pieces a z ≠ []) := Lib.hid (fun e => by obtain ⟨p, hp, -⟩ := pieces_all a z a hL (Int.le_refl _) h1 h0; rw [e] at hp; cases hp)
  have H := Lib.hid h
  clear h h0 h1 h2
  go_enter Tryd.func93, Tryd.ntmps93
  go_wp2
  refine wp_region_ks (fun W => W.cell? ⟨K.C, 3, none⟩ = some (.slice K.ra K.rn K.rc) ∧ W.cell? ⟨K.C, 4, none⟩ = some (.slice K.ka K.kn K.kc) ∧ W.cell? ⟨K.C, 5, none⟩ = some (.slice (some ⟨K.sb, 0, none⟩) 4 4) ∧ W.cell? ⟨K.C, 6, none⟩ = some (.slice (some ⟨K.eb, 0, none⟩) 4 4)) [20, 27, 30] (by kernel_rfl) ?_
  simp only [List.size_toArray, List.length_cons, List.length_nil, Nat.reduceAdd]
  refine ks_pure (i := 0) (oi := ?oi0) (v := ?v0) ?hi0 (by kernel_rfl) (by kernel_rfl) (by kernel_rfl) ?hQ0 ?hy0 ?rest0
  case hi0 =>
    simp only [List.getElem?_toArray, List.getElem?_cons_zero]
    rfl
  case hQ0 => exact fun _ _ _ h => h
  case hy0 =>
    refine yields_if (by rfl) (fun W hW => ?_)
    try dsimp only at hW
    go_simp
    first | done | with_reducible rfl
  simp only [Act.put, List.setIfInBounds_toArray, List.set_cons_zero, List.set_cons_succ]
  refine ks_pure (i := 1) (oi := ?oi1) (v := ?v1) ?hi1 (by kernel_rfl) (by kernel_rfl) (by kernel_rfl) ?hQ1 ?hy1 ?rest1
  case hi1 =>
    simp only [List.getElem?_toArray, List.getElem?_cons_succ, List.getElem?_cons_zero]
    rfl
  case hQ1 => exact fun _ _ _ h => h
  case hy1 =>
    refine yields_if (by rfl) (fun W hW => ?_)
    try dsimp only at hW
    go_simp
    first | done | with_reducible rfl
  simp only [Act.put, List.setIfInBounds_toArray, List.set_cons_zero, List.set_cons_succ]
  refine ks_pure (i := 2) (oi := ?oi2) (v := ?v2) ?hi2 (by kernel_rfl) (by kernel_rfl) (by kernel_rfl) ?hQ2 ?hy2 ?rest2
  case hi2 =>
    simp only [List.getElem?_toArray, List.getElem?_cons_succ, List.getElem?_cons_zero]
    rfl
  case hQ2 => exact fun _ _ _ h => h
  case hy2 =>
    refine yields_if (by rfl) (fun W hW => ?_)
    try dsimp only at hW
    go_simp
    first | done | with_reducible rfl
  simp only [Act.put, List.setIfInBounds_toArray, List.set_cons_zero, List.set_cons_succ]
  refine ks_pure (i := 3) (oi := ?oi3) (v := ?v3) ?hi3 (by kernel_rfl) (by kernel_rfl) (by kernel_rfl) ?hQ3 ?hy3 ?rest3
  case hi3 =>
    simp only [List.getElem?_toArray, List.getElem?_cons_succ, List.getElem?_cons_zero]
    rfl
  case hQ3 => exact fun _ _ _ h => h
  case hy3 =>
    refine yields_if (by rfl) (fun W hW => ?_)
    try dsimp only at hW
    go_simp
    first | done | with_reducible rfl
  simp only [Act.put, List.setIfInBounds_toArray, List.set_cons_zero, List.set_cons_succ]
  refine ks_pure (i := 4) (oi := ?oi4) (v := ?v4) ?hi4 (by kernel_rfl) (by kernel_rfl) (by kernel_rfl) ?hQ4 ?hy4 ?rest4
  case hi4 =>
    simp only [List.getElem?_toArray, List.getElem?_cons_succ, List.getElem?_cons_zero]
    rfl
  case hQ4 => exact fun _ _ _ h => h
  case hy4 =>
    refine yields_if (by rfl) (fun W hW => ?_)
    try dsimp only at hW
    go_simp
    first | done | with_reducible rfl
  simp only [Act.put, List.setIfInBounds_toArray, List.set_cons_zero, List.set_cons_succ]
  refine ks_pure (i := 5) (oi := ?oi5) (v := ?v5) ?hi5 (by kernel_rfl) (by kernel_rfl) (by kernel_rfl) ?hQ5 ?hy5 ?rest5
  case hi5 =>
    simp only [List.getElem?_toArray, List.getElem?_cons_succ, List.getElem?_cons_zero]
    rfl
  case hQ5 => exact fun _ _ _ h => h
  case hy5 =>
    refine yields_if (by rfl) (fun W hW => ?_)
    try dsimp only at hW
    go_simp
    first | done | with_reducible rfl
  simp only [Act.put, List.setIfInBounds_toArray, List.set_cons_zero, List.set_cons_succ]
  refine ks_pure (i := 6) (oi := ?oi6) (v := ?v6) ?hi6 (by kernel_rfl) (by kernel_rfl) (by kernel_rfl) ?hQ6 ?hy6 ?rest6
  case hi6 =>
    simp only [List.getElem?_toArray, List.getElem?_cons_succ, List.getElem?_cons_zero]
    rfl
  case hQ6 => exact fun _ _ _ h => h
  case hy6 =>
    refine yields_if (by rfl) (fun W hW => ?_)
    try dsimp only at hW
    go_simp
    first | done | with_reducible rfl
  simp only [Act.put, List.setIfInBounds_toArray, List.set_cons_zero, List.set_cons_succ]
  refine ks_take (i := 7) (oi := ?oi7) (v := ?v7) ?hi7 (by kernel_rfl) (by kernel_rfl) (by kernel_rfl) (by kernel_rfl) ?hQ7 ?hS7 ?hy7 ?rest7
  case hi7 =>
    simp only [List.getElem?_toArray, List.getElem?_cons_succ, List.getElem?_cons_zero]
    rfl
  case hQ7 => exact fun _ _ _ h => h
  case hS7 => exact ⟨c3, c4, c5, c6⟩
  case hy7 =>
    refine yields_if (by rfl) (fun W hW => ?_)
    try dsimp only at hW
    go_simp
    first | done | with_reducible rfl
  simp only [Act.put, List.setIfInBounds_toArray, List.set_cons_zero, List.set_cons_succ]
  refine ks_pure (i := 8) (oi := ?oi8) (v := ?v8) ?hi8 (by kernel_rfl) (by kernel_rfl) (by kernel_rfl) ?hQ8 ?hy8 ?rest8
  case hi8 =>
    simp only [List.getElem?_toArray, List.getElem?_cons_succ, List.getElem?_cons_zero]
    rfl
  case hQ8 => exact fun _ _ _ h => h
  case hy8 =>
    refine yields_if (by rfl) (fun W hW => ?_)
    try dsimp only at hW
    go_simp
    first | done | with_reducible rfl
  simp only [Act.put, List.setIfInBounds_toArray, List.set_cons_zero, List.set_cons_succ]
  refine ks_pure (i := 9) (oi := ?oi9) (v := ?v9) ?hi9 (by kernel_rfl) (by kernel_rfl) (by kernel_rfl) ?hQ9 ?hy9 ?rest9
  case hi9 =>
    simp only [List.getElem?_toArray, List.getElem?_cons_succ, List.getElem?_cons_zero]
    rfl
  case hQ9 => exact fun _ _ _ h => h
  case hy9 =>
    refine yields_if (by rfl) (fun W hW => ?_)
    try dsimp only at hW
    go_simp
    first | done | with_reducible rfl
  simp only [Act.put, List.setIfInBounds_toArray, List.set_cons_zero, List.set_cons_succ]
  refine ks_pure (i := 10) (oi := ?oi10) (v := ?v10) ?hi10 (by kernel_rfl) (by kernel_rfl) (by kernel_rfl) ?hQ10 ?hy10 ?rest10
  case hi10 =>
    simp only [List.getElem?_toArray, List.getElem?_cons_succ, List.getElem?_cons_zero]
    rfl
  case hQ10 => exact fun _ _ _ h => h
  case hy10 =>
    refine yields_if (by rfl) (fun W hW => ?_)
    try dsimp only at hW
    go_simp
    first | done | with_reducible rfl
  simp only [Act.put, List.setIfInBounds_toArray, List.set_cons_zero, List.set_cons_succ]
  refine ks_take (i := 11) (oi := ?oi11) (v := ?v11) ?hi11 (by kernel_rfl) (by kernel_rfl) (by kernel_rfl) (by kernel_rfl) ?hQ11 ?hS11 ?hy11 ?rest11
  case hi11 =>
    simp only [List.getElem?_toArray, List.getElem?_cons_succ, List.getElem?_cons_zero]
    rfl
  case hQ11 => exact fun _ _ _ h => h
  case hS11 => exact ⟨c3, c4, c5, c6⟩
  case hy11 =>
    refine yields_if (by rfl) (fun W hW => ?_)
    try dsimp only at hW
    go_simp
    first | done | with_reducible rfl
  simp only [Act.put, List.setIfInBounds_toArray, List.set_cons_zero, List.set_cons_succ]
  refine ks_pure (i := 12) (oi := ?oi12) (v := ?v12) ?hi12 (by kernel_rfl) (by kernel_rfl) (by kernel_rfl) ?hQ12 ?hy12 ?rest12
  case hi12 =>
    simp only [List.getElem?_toArray, List.getElem?_cons_succ, List.getElem?_cons_zero]
    rfl
  case hQ12 => exact fun _ _ _ h => h
  case hy12 =>
    refine yields_if (by rfl) (fun W hW => ?_)
    try dsimp only at hW
    go_simp
    first | done | with_reducible rfl
  simp only [Act.put, List.setIfInBounds_toArray, List.set_cons_zero, List.set_cons_succ]
  refine ks_pure (i := 13) (oi := ?oi13) (v := ?v13) ?hi13 (by kernel_rfl) (by kernel_rfl) (by kernel_rfl) ?hQ13 ?hy13 ?rest13
  case hi13 =>
    simp only [List.getElem?_toArray, List.getElem?_cons_succ, List.getElem?_cons_zero]
    rfl
  case hQ13 => exact fun _ _ _ h => h
  case hy13 =>
    refine yields_if (by rfl) (fun W hW => ?_)
    try dsimp only at hW
    go_simp
    first | done | with_reducible rfl
  simp only [Act.put, List.setIfInBounds_toArray, List.set_cons_zero, List.set_cons_succ]
  refine ks_pure (i := 14) (oi := ?oi14) (v := ?v14) ?hi14 (by kernel_rfl) (by kernel_rfl) (by kernel_rfl) ?hQ14 ?hy14 ?rest14
  case hi14 =>
    simp only [List.getElem?_toArray, List.getElem?_cons_succ, List.getElem?_cons_zero]
    rfl
  case hQ14 => exact fun _ _ _ h => h
  case hy14 =>
    refine yields_if (by rfl) (fun W hW => ?_)
    try dsimp only at hW
    go_simp
    first | done | with_reducible rfl
  simp only [Act.put, List.setIfInBounds_toArray, List.set_cons_zero, List.set_cons_succ]
  refine ks_take (i := 15) (oi := ?oi15) (v := ?v15) ?hi15 (by kernel_rfl) (by kernel_rfl) (by kernel_rfl) (by kernel_rfl) ?hQ15 ?hS15 ?hy15 ?rest15
  case hi15 =>
    simp only [List.getElem?_toArray, List.getElem?_cons_succ, List.getElem?_cons_zero]
    rfl
  case hQ15 => exact fun _ _ _ h => h
  case hS15 => exact ⟨c3, c4, c5, c6⟩
  case hy15 =>
    refine yields_if (by rfl) (fun W hW => ?_)
    try dsimp only at hW
    go_simp
    first | done | with_reducible rfl
  simp only [Act.put, List.setIfInBounds_toArray, List.set_cons_zero, List.set_cons_succ]
  refine ks_pure (i := 16) (oi := ?oi16) (v := ?v16) ?hi16 (by kernel_rfl) (by kernel_rfl) (by kernel_rfl) ?hQ16 ?hy16 ?rest16
  case hi16 =>
    simp only [List.getElem?_toArray, List.getElem?_cons_succ, List.getElem?_cons_zero]
    rfl
  case hQ16 => exact fun _ _ _ h => h
  case hy16 =>
    refine yields_if (by rfl) (fun W hW => ?_)
    try dsimp only at hW
    go_simp
    first | done | with_reducible rfl
  simp only [Act.put, List.setIfInBounds_toArray, List.set_cons_zero, List.set_cons_succ]
  refine ks_pure (i := 17) (oi := ?oi17) (v := ?v17) ?hi17 (by kernel_rfl) (by kernel_rfl) (by kernel_rfl) ?hQ17 ?hy17 ?rest17
  case hi17 =>
    simp only [List.getElem?_toArray, List.getElem?_cons_succ, List.getElem?_cons_zero]
    rfl
  case hQ17 => exact fun _ _ _ h => h
  case hy17 =>
    refine yields_if (by rfl) (fun W hW => ?_)
    try dsimp only at hW
    go_simp
    first | done | with_reducible rfl
  simp only [Act.put, List.setIfInBounds_toArray, List.set_cons_zero, List.set_cons_succ]
  refine ks_pure (i := 18) (oi := ?oi18) (v := ?v18) ?hi18 (by kernel_rfl) (by kernel_rfl) (by kernel_rfl) ?hQ18 ?hy18 ?rest18
  case hi18 =>
    simp only [List.getElem?_toArray, List.getElem?_cons_succ, List.getElem?_cons_zero]
    rfl
  case hQ18 => exact fun _ _ _ h => h
  case hy18 =>
    refine yields_if (by rfl) (fun W hW => ?_)
    try dsimp only at hW
    go_simp
    first | done | with_reducible rfl
  simp only [Act.put, List.setIfInBounds_toArray, List.set_cons_zero, List.set_cons_succ]
  refine ks_take (i := 19) (oi := ?oi19) (v := ?v19) ?hi19 (by kernel_rfl) (by kernel_rfl) (by kernel_rfl) (by kernel_rfl) ?hQ19 ?hS19 ?hy19 ?rest19
  case hi19 =>
    simp only [List.getElem?_toArray, List.getElem?_cons_succ, List.getElem?_cons_zero]
    rfl
  case hQ19 => exact fun _ _ _ h => h
  case hS19 => exact ⟨c3, c4, c5, c6⟩
  case hy19 =>
    refine yields_if (by rfl) (fun W hW => ?_)
    try dsimp only at hW
    go_simp
    first | done | with_reducible rfl
  simp only [Act.put, List.setIfInBounds_toArray, List.set_cons_zero, List.set_cons_succ]
  refine ks_one (i := 20) (o := ?o20) ?ho20 (by kernel_rfl) (fun K' hK => ?_)
  case ho20 =>
    simp only [List.getElem?_toArray, List.getElem?_cons_succ, List.getElem?_cons_zero]
    rfl
  go_simp
  refine (CP.out _).mono ?_
  rintro e w1 ⟨rv, sk, L, rfl, hGot⟩
  obtain ⟨ra', rc', rfl⟩ := own_value hGot.orv
  obtain ⟨ka', kc', rfl⟩ := own_value hGot.osk
  have HG := Lib.hid hGot
  clear hGot CP
  refine hK _ _ (by simp) ?_
  clear hK K'
  try simp only [Act.put, List.setIfInBounds_toArray, List.set_cons_zero, List.set_cons_succ]
  obtain ⟨g3, g4, k3, k4⟩ : w1.frozen? ⟨K.C, 3, none⟩ = false ∧ w1.frozen? ⟨K.C, 4, none⟩ = false ∧ w1.cell? ⟨K.C, 3, none⟩ = some (.slice K.ra K.rn K.rc) ∧ w1.cell? ⟨K.C, 4, none⟩ = some (.slice K.ka K.kn K.kc) := by
    have HD := H.out.drewN 1
    have C1 := HG.out.fr.blk HD.c (HD.blk_Q HD.c (by decide) (by decide) (by decide))
    exact ⟨C1.frozen 3, C1.frozen 4, C1.cell 3, C1.cell 4⟩
  clear c0 c1 c2 c3 c4 c5 c6 f3 f4
  refine ks_pure (i := 21) (oi := ?oi21) (v := ?v21) ?hi21 (by kernel_rfl) (by kernel_rfl) (by kernel_rfl) ?hQ21 ?hy21 ?rest21
  case hi21 =>
    simp only [List.getElem?_toArray, List.getElem?_cons_succ, List.getElem?_cons_zero]
    rfl
  case hQ21 => exact fun _ _ _ h => h
  case hy21 =>
    refine yields_if (by rfl) (fun W hW => ?_)
    try dsimp only at hW
    go_simp
    first | done | with_reducible rfl
  simp only [Act.put, List.setIfInBounds_toArray, List.set_cons_zero, List.set_cons_succ]
  refine ks_pure (i := 22) (oi := ?oi22) (v := ?v22) ?hi22 (by kernel_rfl) (by kernel_rfl) (by kernel_rfl) ?hQ22 ?hy22 ?rest22
  case hi22 =>
    simp only [List.getElem?_toArray, List.getElem?_cons_succ, List.getElem?_cons_zero]
    rfl
  case hQ22 => exact fun _ _ _ h => h
  case hy22 =>
    refine yields_if (by rfl) (fun W hW => ?_)
    try dsimp only at hW
    go_simp
    first | done | with_reducible rfl
  simp only [Act.put, List.setIfInBounds_toArray, List.set_cons_zero, List.set_cons_succ]
  refine ks_pure (i := 23) (oi := ?oi23) (v := ?v23) ?hi23 (by kernel_rfl) (by kernel_rfl) (by kernel_rfl) ?hQ23 ?hy23 ?rest23
  case hi23 =>
    simp only [List.getElem?_toArray, List.getElem?_cons_succ, List.getElem?_cons_zero]
    rfl
  case hQ23 => exact fun _ _ _ h => h
  case hy23 =>
    refine yields_if (by rfl) (fun W hW => ?_)
    try dsimp only at hW
    go_simp
    first | done | with_reducible rfl
  simp only [Act.put, List.setIfInBounds_toArray, List.set_cons_zero, List.set_cons_succ]
  refine ks_pure (i := 24) (oi := ?oi24) (v := ?v24) ?hi24 (by kernel_rfl) (by kernel_rfl) (by kernel_rfl) ?hQ24 ?hy24 ?rest24
  case hi24 =>
    simp only [List.getElem?_toArray, List.getElem?_cons_succ, List.getElem?_cons_zero]
    rfl
  case hQ24 => exact fun _ _ _ h => h
  case hy24 =>
    refine yields_if (by rfl) (fun W hW => ?_)
    try dsimp only at hW
    go_simp
    first | done | with_reducible rfl
  simp only [Act.put, List.setIfInBounds_toArray, List.set_cons_zero, List.set_cons_succ]
  refine ks_pure (i := 25) (oi := ?oi25) (v := ?v25) ?hi25 (by kernel_rfl) (by kernel_rfl) (by kernel_rfl) ?hQ25 ?hy25 ?rest25
  case hi25 =>
    simp only [List.getElem?_toArray, List.getElem?_cons_succ, List.getElem?_cons_zero]
    rfl
  case hQ25 => exact fun _ _ _ h => h
  case hy25 =>
    refine yields_if (by rfl) (fun W hW => ?_)
    try dsimp only at hW
    go_simp
    first | done | with_reducible rfl
  simp only [Act.put, List.setIfInBounds_toArray, List.set_cons_zero, List.set_cons_succ]
  refine ks_pure (i := 26) (oi := ?oi26) (v := ?v26) ?hi26 (by kernel_rfl) (by kernel_rfl) (by kernel_rfl) ?hQ26 ?hy26 ?rest26
  case hi26 =>
    simp only [List.getElem?_toArray, List.getElem?_cons_succ, List.getElem?_cons_zero]
    rfl
  case hQ26 => exact fun _ _ _ h => h
  case hy26 =>
    refine yields_if (by rfl) (fun W hW => ?_)
    try dsimp only at hW
    go_simp
    first | done | with_reducible rfl
  simp only [Act.put, List.setIfInBounds_toArray, List.set_cons_zero, List.set_cons_succ]
  refine ks_one (i := 27) (o := ?o27) ?ho27 (by kernel_rfl) (fun K2 hK => ?_)
  case ho27 =>
    simp only [List.getElem?_toArray, List.getElem?_cons_succ, List.getElem?_cons_zero]
    rfl
  go_simp
  refine hK _ _ (by simp) ?_
  clear hK K2
  try simp only [Act.put, List.setIfInBounds_toArray, List.set_cons_zero, List.set_cons_succ]
  refine ks_pure (i := 28) (oi := ?oi28) (v := ?v28) ?hi28 (by kernel_rfl) (by kernel_rfl) (by kernel_rfl) ?hQ28 ?hy28 ?rest28
  case hi28 =>
    simp only [List.getElem?_toArray, List.getElem?_cons_succ, List.getElem?_cons_zero]
    rfl
  case hQ28 => exact fun _ _ _ h => h
  case hy28 =>
    refine yields_if (by rfl) (fun W hW => ?_)
    try dsimp only at hW
    go_simp
    first | done | with_reducible rfl
  simp only [Act.put, List.setIfInBounds_toArray, List.set_cons_zero, List.set_cons_succ]
  refine ks_pure (i := 29) (oi := ?oi29) (v := ?v29) ?hi29 (by kernel_rfl) (by kernel_rfl) (by kernel_rfl) ?hQ29 ?hy29 ?rest29
  case hi29 =>
    simp only [List.getElem?_toArray, List.getElem?_cons_succ, List.getElem?_cons_zero]
    rfl
  case hQ29 => exact fun _ _ _ h => h
  case hy29 =>
    refine yields_if (by rfl) (fun W hW => ?_)
    try dsimp only at hW
    go_simp
    first | done | with_reducible rfl
  simp only [Act.put, List.setIfInBounds_toArray, List.set_cons_zero, List.set_cons_succ]
  refine ks_one (i := 30) (o := ?o30) ?ho30 (by kernel_rfl) (fun K2 hK => ?_)
  case ho30 =>
    simp only [List.getElem?_toArray, List.getElem?_cons_succ, List.getElem?_cons_zero]
    rfl
  go_simp
  refine hK _ _ (by simp) ?_
  clear hK K2
  try simp only [Act.put, List.setIfInBounds_toArray, List.set_cons_zero, List.set_cons_succ]
  refine ks_pure (i := 31) (oi := ?oi31) (v := ?v31) ?hi31 (by kernel_rfl) (by kernel_rfl) (by kernel_rfl) ?hQ31 ?hy31 ?rest31
  case hi31 =>
    simp only [List.getElem?_toArray, List.getElem?_cons_succ, List.getElem?_cons_zero]
    rfl
  case hQ31 => exact fun _ _ _ h => h
  case hy31 =>
    refine yields_if (by rfl) (fun W hW => ?_)
    try dsimp only at hW
    go_simp
    first | done | with_reducible rfl
  simp only [Act.put, List.setIfInBounds_toArray, List.set_cons_zero, List.set_cons_succ]
  refine ks_done (by kernel_rfl) ?_ _
  simp only [Exit.then]
  rename_i hK1
  refine hK1 _ _ ?_
  clear hK1
  refine name_world ?_
  intro w2 hw2
  obtain ⟨K2, e2, c2, ev2, hn2, hs2, hq2⟩ := (H.out.drewN 1).seqs HG.out
  rw [← hw2] at c2 ev2 hs2 hq2
  obtain ⟨rfl, -, rfl⟩ : ra' = K2.ra ∧ True ∧ rc' = K2.rc := by injection e2 with e3 e4 e5; exact ⟨e3, trivial, e5⟩
  have HL := Lib.hid HG.out.all
  have hL7 := HG.out.n
  have HL4 := Lib.hid HG.out.len
  have C2 := Lib.hid c2
  have E2 := Lib.hid (((Ev.refl K w).drewN 1).trans ev2)
  have S2 := Lib.hid hs2
  have Q2 := Lib.hid hq2
  have hlen : L.length = (pieces a z).length := by
    have := congrArg List.length HL.out
    simpa [sqs] using this
  have hc : K2.C = K.C := E2.out.c
  clear hw2 HG H g3 g4 k3 k4 c2 ev2 hs2 hq2 e2
  obtain ⟨-, -, -, c3, -⟩ := C2.out.cells
  rw [hc, hn2] at c3
  obtain ⟨m, hm⟩ : ∃ m, L.length = m + 1 := ⟨L.length - 1, by have : (pieces a z).length ≠ 0 := fun e => hne.out (List.length_eq_zero_iff.1 e); omega⟩
  rw [hm] at c3
  have HM := Lib.hid hm
  have hm1 : L.length ≤ m + 1 := by omega
  have hm2 : m + 1 ≤ L.length := by omega
  clear hm
  have HN2 := Lib.hid hn2
  clear hn2
  have hlen1 : L.length ≤ (pieces a z).length := by omega
  have HLEN := Lib.hid hlen
  clear hlen
  have hm7 : m ≤ 8912894 := by omega
  have hmk := fun w => run_jumps m (by omega) w
  go_upto_region 5 with fail
  refine name_world ?_
  intro w3 hw3
  have J3 := Lib.hid (show Jr w3 w2.heap.size (.slice (some ⟨w2.heap.size, 0, none⟩) 0 m) [] by rw [hw3]; exact jr_new w2 m (by unfold maxLen; omega))
  have b3 : Below w2.heap.size w2 w3 := by rw [hw3]; exact (Below.refl _ _).alloc (Nat.le_refl _) _
  have C3 := Lib.hid (C2.out.new b3)
  have E3 := Lib.hid (show Es K2 w2 w3 K2 from Es.of_below K2 b3)
  clear hw3 b3 c3
  obtain ⟨ps, hps⟩ : ∃ ps, ps = pieces a z := ⟨_, rfl⟩
  have HPS := Lib.hid hps
  rw [← hps] at HLEN HL hlen1
  clear hps hne
  go_wp2
  go_loopw [7, 8, 9, 10, 11, 12] (fun v7 v8 _ _ _ _ wr => ∃ (i : Nat) (K1 : Ks) (c' : Nat) (a' : Option Addr) (cd : List Ins), i ≤ m ∧ v8 = .int .i64 i ∧ v7 = .slice a' i c' ∧ cd.length ≤ 1000000000000 + 8 * i ∧ Hid (cd = code ++ altP pieceC 0 code.length (ps.take i) ∧ Cs wr B eT K1 cd cd.length ∧ Es K2 w2 wr K1 ∧ Jr wr w2.heap.size v7 (altJ pieceC code.length (ps.take i)))) (fun _ v8 _ _ _ _ _ => m - (intOf v8).toNat)
  case atStart => exact ⟨0, K2, m, _, code, by omega, rfl, rfl, by omega, Lib.hid ⟨by simp [altP], C3.out, E3.out, by simpa [altJ] using J3.out⟩⟩
  case round =>
    obtain ⟨i, K1, c', a', cd, hi, rfl, rfl, hcl, H1⟩ := hrel
    have sm := H1.out.2.2.1.same
    have hc1 : K1.C = K.C := by rw [sm.c, hc]
    obtain ⟨-, -, -, c3, -⟩ := H1.out.2.1.cells
    rw [hc1, sm.r, sm.rn, sm.rc, HN2.out, HM.out] at c3
    have hN := HLEN.out
    have hip2 : i < m → i < ps.length := by omega
    clear hN
    by_cases hlt : i < m
    · have hiL : i < L.length := by omega
      have hip : i < ps.length := hip2 hlt
      obtain ⟨x, hx⟩ : ∃ x, x = L[i] := ⟨_, rfl⟩
      obtain ⟨ad, had, -, -, hcell⟩ := (S2.out.es H1.out.2.2.1) i (seqv x) (by rw [List.getElem?_map, List.getElem?_eq_getElem hiL, ← hx]; rfl)
      have hmem : x ∈ L := by rw [hx]; exact List.getElem_mem _
      have HS := Lib.hid ((Q2.out x hmem).es H1.out.2.2.1)
      have hxs : x.2.2 = sq ps[i] := by
        have h1 : (L.map (·.2.2))[i]? = (sqs ps)[i]? := by rw [HL.out]
        rw [List.getElem?_map, List.getElem?_eq_getElem hiL, sqs, List.getElem?_map, List.getElem?_eq_getElem hip, ← hx] at h1
        simpa using h1
      have hl4 := HL4.out x hmem
      rw [had] at c3
      clear had
      clear hx hmem
      obtain ⟨x1, xc, xs⟩ := x
      simp only [seqv] at hcell hxs hl4 HS
      have HX := Lib.hid hxs
      clear hxs sm
      have SP := split_any H1.out.2.1 (by omega)
      rw [hc1] at SP
      have CSP := Lib.hid SP
      clear SP
      go_upto_region 10 with (first | (go_at_call 70; refine CSP.out.mono ?_; rintro e w4 ⟨K4, rfl, h4, e4⟩; have H4 := Lib.hid h4; have E4 := Lib.hid e4; have HS4 := Lib.hid (HS.out.es e4); have J4 := Lib.hid (H1.out.2.2.2.ev H1.out.2.1 e4.ev); have hc4 : K4.C = K.C := e4.c.trans hc1; clear h4 e4 CSP HS c3 hcell) | fail)
      have T := top_any H4.out (by simp; omega)
      rw [hc4] at T
      have CT := Lib.hid T
      clear T
      go_upto_region 11 with (first | (go_at_call 71; refine CT.out.mono ?_; rintro e w5 ⟨rfl, rfl⟩; clear CT) | fail)
      have U := utf_any (c := xc) H4.out xs HS4.out (by omega) (by simp; omega)
      rw [hc4] at U
      have CU := Lib.hid U
      clear U
      go_upto_region 12 with (first | (go_at_call 68; refine CU.out.mono ?_; rintro e w5 ⟨K5, rfl, h5, e5⟩; have H5 := Lib.hid h5; have E5 := Lib.hid e5; have J5 := Lib.hid (J4.out.ev H4.out e5.ev); have hc5 : K5.C = K.C := e5.c.trans hc4; clear h5 e5 CU HS4 J4) | fail)
      obtain ⟨cd2, hcd2⟩ : ∃ c, c = cd ++ [Ins.sp 0 0] ++ rgs xs := ⟨_, rfl⟩
      rw [← hcd2] at H5
      have hcl2 : cd2.length = cd.length + 1 + xs.length := by rw [hcd2]; simp [rgs_len]; omega
      have HCD2 := Lib.hid hcd2
      have hcl3 : cd2.length ≤ 1000000000000 + 8 * i + 5 := by omega
      have HCL := Lib.hid hcl2
      clear hcd2 hcl2
      have JP := jump_any H5.out (by omega)
      rw [hc5] at JP
      have CJ := Lib.hid JP
      clear JP
      have HAJ : Hid ((altJ pieceC code.length (ps.take i)).length = i) := Lib.hid (by rw [altJ_len, List.length_take]; omega)
      generalize hjs : altJ pieceC code.length (ps.take i) = js at *
      have HJS := Lib.hid hjs
      clear hjs
      go_upto_region 13 with (first | (go_at_call 72; refine CJ.out.mono ?_; rintro e w6 ⟨K6, rfl, h6, e6⟩; have H6 := Lib.hid h6; have J6 := Lib.hid (J5.out.ev H5.out e6.ev); have EX := Lib.hid (((H1.out.2.2.1.trans E4.out).trans E5.out).trans e6); have hc6 : K6.C = K.C := e6.c.trans hc5; clear h6 e6 CJ J5 E4 E5) | (at_builtin; refine append1_at w6 #[.int .u64 (cd2.length : Nat)] rfl (.tmp 79) (.tmp 82) 101 rfl w2.heap.size 33 i0 _ 1 8 Tryd.underlying101 hi0 hz0 hz1 hz2 rfl (by omega) rfl (.slice a' i c') i (jvs js) rfl (by have := J6.out; unfold Jr at this; rw [HAJ.out] at this; exact this) w6.heap.size rfl rfl (by simp [Value.oneCell']) (by unfold maxLen; omega) (by omega) (EX.out.fr.size) ?_; intro v7 w7 ho7 hg7 _ hat7; obtain ⟨a7, c7, rfl⟩ := own_value ho7; have J7 := Lib.hid (Jr.snoc (js := js) (by rw [HAJ.out]; exact ho7)); have H7 := Lib.hid (H6.out.jr_grown J6.out (Nat.le_trans C2.out.hw (Nat.le_refl _)) hg7); have E7 := Lib.hid (EX.out.jr_grown J6.out (Nat.le_refl _) hg7); clear ho7 hg7 hat7 J6 H6 EX) | fail)
      have T7 := top_any H7.out (by simp; omega)
      rw [hc6] at T7
      have CT := Lib.hid T7
      clear T7
      go_upto_region 14 with (first | (go_at_call 71; refine CT.out.mono ?_; rintro e w8 ⟨rfl, rfl⟩; clear CT) | fail)
      have ST := sets_any H7.out (by simp; omega) cd.length (cd.length + 1) (cd2.length + 1) 0 0 (by simp; have := HCL.out; omega) (by simp [HCD2.out])
      rw [hc6] at ST
      simp only [Int.natCast_succ] at ST
      have CS := Lib.hid ST
      clear ST
      go_upto_region 7 with (first | (go_at_call 73; refine CS.out.mono ?_; rintro e w8 ⟨rfl, h8, e8⟩; have H8 := Lib.hid h8; have E8 := Lib.hid (E7.out.trans e8); have J8 := Lib.hid (J7.out.ev H7.out e8.ev); clear CS h8 e8 J7 E7 H7) | fail)
      have HN : Hid ((cd2 ++ [Ins.jp 0]).set cd.length (.sp (cd.length + 1) (cd2.length + 1)) = code ++ altP pieceC 0 code.length (ps.take (i + 1)) ∧ altJ pieceC code.length (ps.take (i + 1)) = js ++ [cd2.length]) := Lib.hid (by
        have := alt_round pieceC (s := ps[i]) (X := rgs xs) H1.out.1 (by rw [HX.out]; rfl)
        rw [← List.take_succ_eq_append_getElem hip, ← HCD2.out, HJS.out] at this
        exact this)
      go_wp2
      go_roundw
      case rel => exact ⟨i + 1, K6, c7, a7, (cd2 ++ [Ins.jp 0]).set cd.length (.sp (cd.length + 1) (cd2.length + 1)), by omega, by go_num, rfl, by simp; omega, Lib.hid ⟨HN.out.1, by rw [List.length_set]; exact H8.out, E8.out, by rw [HN.out.2]; exact J8.out⟩⟩
      case measure => simp [intOf]; omega
    · obtain rfl : i = m := by omega
      have hiL : i < L.length := by omega
      have hip : i < ps.length := by have := HLEN.out; omega
      obtain ⟨x, hx⟩ : ∃ x, x = L[i] := ⟨_, rfl⟩
      obtain ⟨ad, had, -, -, hcell⟩ := (S2.out.es H1.out.2.2.1) i (seqv x) (by rw [List.getElem?_map, List.getElem?_eq_getElem hiL, ← hx]; rfl)
      have hmem : x ∈ L := by rw [hx]; exact List.getElem_mem _
      have HS := Lib.hid ((Q2.out x hmem).es H1.out.2.2.1)
      have hxs : x.2.2 = sq ps[i] := by
        have h1 : (L.map (·.2.2))[i]? = (sqs ps)[i]? := by rw [HL.out]
        rw [List.getElem?_map, List.getElem?_eq_getElem hiL, sqs, List.getElem?_map, List.getElem?_eq_getElem hip, ← hx] at h1
        simpa using h1
      have hl4 := HL4.out x hmem
      rw [had] at c3
      clear had
      clear hx hmem
      obtain ⟨x1, xc, xs⟩ := x
      simp only [seqv] at hcell hxs hl4 HS
      have HX := Lib.hid hxs
      clear hxs sm
      have ED : Es K1 wr (wr.drewN 1) K1 := Es.of_below K1 (below_drewN (Below.refl _ _) 1)
      have HS := Lib.hid (HS.out.es ED)
      have H1 := Lib.hid (show cd = code ++ altP pieceC 0 code.length (ps.take i) ∧ Cs (wr.drewN 1) B eT K1 cd cd.length ∧ Es K2 w2 (wr.drewN 1) K1 ∧ Jr (wr.drewN 1) w2.heap.size (.slice a' i c') (altJ pieceC code.length (ps.take i)) from ⟨H1.out.1, H1.out.2.1.drewN 1, H1.out.2.2.1.trans ED, H1.out.2.2.2.ev H1.out.2.1 ED.ev⟩)
      clear ED
      have U := utf_any (c := xc) H1.out.2.1 xs HS.out (by omega) (by omega)
      rw [hc1] at U
      have CU := Lib.hid U
      clear U
      have hwi : IntKind.i64.wrap (i : Int) = i := by rw [IntKind.wrap_i64]; omega
      have hi0' : (0 : Int) ≤ i := by omega
      have hi1' : (i : Int) < (i : Int) + 1 := by omega
      go_wp2_with fail
      refine wp_region_ks (fun W => W.cell? ⟨K.C, 3, none⟩ = some (.slice (some ad) (i + 1) K2.rc) ∧ W.cell? (ad.add i) = some (.slice (some ⟨x1, 0, none⟩) xs.length xc)) [13] (by kernel_rfl) ?_
      simp only [List.size_toArray, List.length_cons, List.length_nil, Nat.reduceAdd]
      refine ks_pure (i := 0) (oi := ?oi0b) (v := ?v0b) ?hi0b (by kernel_rfl) (by kernel_rfl) (by kernel_rfl) ?hQ0b ?hy0b ?rest0b
      case hi0b =>
        simp only [List.getElem?_toArray, List.getElem?_cons_zero]
        rfl
      case hQ0b => exact fun _ _ _ h => h
      case hy0b =>
        refine yields_if (by rfl) (fun W hW => ?_)
        try dsimp only at hW
        go_simp
        first | done | with_reducible rfl
      simp only [Act.put, List.setIfInBounds_toArray, List.set_cons_zero, List.set_cons_succ]
      refine ks_pure (i := 1) (oi := ?oi1b) (v := ?v1b) ?hi1b (by kernel_rfl) (by kernel_rfl) (by kernel_rfl) ?hQ1b ?hy1b ?rest1b
      case hi1b =>
        simp only [List.getElem?_toArray, List.getElem?_cons_succ, List.getElem?_cons_zero]
        rfl
      case hQ1b => exact fun _ _ _ h => h
      case hy1b =>
        refine yields_if (by rfl) (fun W hW => ?_)
        try dsimp only at hW
        go_simp
        first | done | with_reducible rfl
      simp only [Act.put, List.setIfInBounds_toArray, List.set_cons_zero, List.set_cons_succ]
      refine ks_pure (i := 2) (oi := ?oi2b) (v := ?v2b) ?hi2b (by kernel_rfl) (by kernel_rfl) (by kernel_rfl) ?hQ2b ?hy2b ?rest2b
      case hi2b =>
        simp only [List.getElem?_toArray, List.getElem?_cons_succ, List.getElem?_cons_zero]
        rfl
      case hQ2b => exact fun _ _ _ h => h
      case hy2b =>
        refine yields_if (by rfl) (fun W hW => ?_)
        try dsimp only at hW
        go_simp
        first | done | with_reducible rfl
      simp only [Act.put, List.setIfInBounds_toArray, List.set_cons_zero, List.set_cons_succ]
      refine ks_pure (i := 3) (oi := ?oi3b) (v := ?v3b) ?hi3b (by kernel_rfl) (by kernel_rfl) (by kernel_rfl) ?hQ3b ?hy3b ?rest3b
      case hi3b =>
        simp only [List.getElem?_toArray, List.getElem?_cons_succ, List.getElem?_cons_zero]
        rfl
      case hQ3b => exact fun _ _ _ h => h
      case hy3b =>
        refine yields_if (by rfl) (fun W hW => ?_)
        try dsimp only at hW
        go_simp
        first | done | with_reducible rfl
      simp only [Act.put, List.setIfInBounds_toArray, List.set_cons_zero, List.set_cons_succ]
      refine ks_via [11, 12] (i := 4) (oi := ?oi4b) (v := ?v4b) ?hi4b (by kernel_rfl) (by kernel_rfl) (by kernel_rfl) (by kernel_rfl) (by kernel_rfl) ?hQ4b ?hS4b ?hy4b ?rest4b
      case hi4b =>
        simp only [List.getElem?_toArray, List.getElem?_cons_succ, List.getElem?_cons_zero]
        rfl
      case hQ4b => exact fun _ _ _ h => h
      case hS4b => exact ⟨c3, hcell⟩
      case hy4b =>
        refine yields_if (by rfl) (fun W hW => ?_)
        try dsimp only at hW
        go_simp
        first | done | with_reducible rfl
      simp only [Act.put, List.setIfInBounds_toArray, List.set_cons_zero, List.set_cons_succ]
      refine ks_pure (i := 5) (oi := ?oi5b) (v := ?v5b) ?hi5b (by kernel_rfl) (by kernel_rfl) (by kernel_rfl) ?hQ5b ?hy5b ?rest5b
      case hi5b =>
        simp only [List.getElem?_toArray, List.getElem?_cons_succ, List.getElem?_cons_zero]
        rfl
      case hQ5b => exact fun _ _ _ h => h
      case hy5b =>
        refine yields_if (by rfl) (fun W hW => ?_)
        try dsimp only at hW
        go_simp
        first | done | with_reducible rfl
      simp only [Act.put, List.setIfInBounds_toArray, List.set_cons_zero, List.set_cons_succ]
      refine ks_pure (i := 6) (oi := ?oi6b) (v := ?v6b) ?hi6b (by kernel_rfl) (by kernel_rfl) (by kernel_rfl) ?hQ6b ?hy6b ?rest6b
      case hi6b =>
        simp only [List.getElem?_toArray, List.getElem?_cons_succ, List.getElem?_cons_zero]
        rfl
      case hQ6b => exact fun _ _ _ h => h
      case hy6b =>
        refine yields_if (by rfl) (fun W hW => ?_)
        try dsimp only at hW
        go_simp
        first | done | with_reducible rfl
      simp only [Act.put, List.setIfInBounds_toArray, List.set_cons_zero, List.set_cons_succ]
      refine ks_pure (i := 7) (oi := ?oi7b) (v := ?v7b) ?hi7b (by kernel_rfl) (by kernel_rfl) (by kernel_rfl) ?hQ7b ?hy7b ?rest7b
      case hi7b =>
        simp only [List.getElem?_toArray, List.getElem?_cons_succ, List.getElem?_cons_zero]
        rfl
      case hQ7b => exact fun _ _ _ h => h
      case hy7b =>
        refine yields_if (by rfl) (fun W hW => ?_)
        try dsimp only at hW
        go_simp
        first | done | with_reducible rfl
      simp only [Act.put, List.setIfInBounds_toArray, List.set_cons_zero, List.set_cons_succ]
      refine ks_via [9, 10, 11, 12] (i := 8) (oi := ?oi8b) (v := ?v8b) ?hi8b (by kernel_rfl) (by kernel_rfl) (by kernel_rfl) (by kernel_rfl) (by kernel_rfl) ?hQ8b ?hS8b ?hy8b ?rest8b
      case hi8b =>
        simp only [List.getElem?_toArray, List.getElem?_cons_succ, List.getElem?_cons_zero]
        rfl
      case hQ8b => exact fun _ _ _ h => h
      case hS8b => exact ⟨c3, hcell⟩
      case hy8b =>
        refine yields_if (by rfl) (fun W hW => ?_)
        try dsimp only at hW
        go_simp
        first | done | with_reducible rfl
      simp only [Act.put, List.setIfInBounds_toArray, List.set_cons_zero, List.set_cons_succ]
      refine ks_pure (i := 9) (oi := ?oi9b) (v := ?v9b) ?hi9b (by kernel_rfl) (by kernel_rfl) (by kernel_rfl) ?hQ9b ?hy9b ?rest9b
      case hi9b =>
        simp only [List.getElem?_toArray, List.getElem?_cons_succ, List.getElem?_cons_zero]
        rfl
      case hQ9b => exact fun _ _ _ h => h
      case hy9b =>
        refine yields_if (by rfl) (fun W hW => ?_)
        try dsimp only at hW
        go_simp
        first | done | with_reducible rfl
      simp only [Act.put, List.setIfInBounds_toArray, List.set_cons_zero, List.set_cons_succ]
      refine ks_pure (i := 10) (oi := ?oi10b) (v := ?v10b) ?hi10b (by kernel_rfl) (by kernel_rfl) (by kernel_rfl) ?hQ10b ?hy10b ?rest10b
      case hi10b =>
        simp only [List.getElem?_toArray, List.getElem?_cons_succ, List.getElem?_cons_zero]
        rfl
      case hQ10b => exact fun _ _ _ h => h
      case hy10b =>
        refine yields_if (by rfl) (fun W hW => ?_)
        try dsimp only at hW
        go_simp
        first | done | with_reducible rfl
      simp only [Act.put, List.setIfInBounds_toArray, List.set_cons_zero, List.set_cons_succ]
      refine ks_pure (i := 11) (oi := ?oi11b) (v := ?v11b) ?hi11b (by kernel_rfl) (by kernel_rfl) (by kernel_rfl) ?hQ11b ?hy11b ?rest11b
      case hi11b =>
        simp only [List.getElem?_toArray, List.getElem?_cons_succ, List.getElem?_cons_zero]
        rfl
      case hQ11b => exact fun _ _ _ h => h
      case hy11b =>
        refine yields_if (by rfl) (fun W hW => ?_)
        try dsimp only at hW
        go_simp
        first | done | with_reducible rfl
      simp only [Act.put, List.setIfInBounds_toArray, List.set_cons_zero, List.set_cons_succ]
      refine ks_take (i := 12) (oi := ?oi12b) (v := ?v12b) ?hi12b (by kernel_rfl) (by kernel_rfl) (by kernel_rfl) (by kernel_rfl) ?hQ12b ?hS12b ?hy12b ?rest12b
      case hi12b =>
        simp only [List.getElem?_toArray, List.getElem?_cons_succ, List.getElem?_cons_zero]
        rfl
      case hQ12b => exact fun _ _ _ h => h
      case hS12b => exact ⟨c3, hcell⟩
      case hy12b =>
        refine yields_if (by rfl) (fun W hW => ?_)
        try dsimp only at hW
        go_simp
        first | done | with_reducible rfl
      simp only [Act.put, List.setIfInBounds_toArray, List.set_cons_zero, List.set_cons_succ]
      refine ks_one (i := 13) (o := ?o13b) ?ho13b (by kernel_rfl) (fun K9 hK => ?_)
      case ho13b =>
        simp only [List.getElem?_toArray, List.getElem?_cons_succ, List.getElem?_cons_zero]
        rfl
      go_simp
      refine CU.out.mono ?_
      rintro e w5 ⟨K5, rfl, h5, e5⟩
      have H5 := Lib.hid h5
      have J5 := Lib.hid (H1.out.2.2.2.ev H1.out.2.1 e5.ev)
      have hc5 : K5.C = K.C := e5.c.trans hc1
      have E5 := Lib.hid (H1.out.2.2.1.trans e5)
      clear h5 e5 CU HS
      refine hK _ _ (by simp) ?_
      clear hK K9
      try simp only [Act.put, List.setIfInBounds_toArray, List.set_cons_zero, List.set_cons_succ]
      refine ks_done (by kernel_rfl) ?_ _
      simp only [Exit.then]
      rename_i hK1
      refine hK1 _ _ ?_
      clear hK1
      obtain ⟨cd5, hcd5⟩ : ∃ c, c = cd ++ rgs xs := ⟨_, rfl⟩
      rw [← hcd5] at H5
      have hcl5 : cd5.length ≤ 1000000000000 + 8 * i + 5 := by rw [hcd5, List.length_append, rgs_len]; omega
      have HCD5 := Lib.hid hcd5
      clear hcd5 hwi hi0' hi1' c3 hcell
      have HE : Hid (setJ cd5.length (altJ pieceC code.length (ps.take i)) cd5 = code ++ rangeC code.length (a, z)) := Lib.hid (by
        have := alt_end pieceC (s := ps[i]) (X := rgs xs) H1.out.1 (by rw [HX.out]; rfl)
        rw [← List.take_succ_eq_append_getElem hip, ← HCD5.out] at this
        have e9 : ps.take (i + 1) = ps := List.take_of_length_le (by have h1 := HLEN.out; have h2 := HM.out; omega)
        rw [e9] at this
        rw [this]
        unfold rangeC
        rw [HPS.out])
      have HJ : Hid (∀ k, k < i → ∃ j, (altJ pieceC code.length (ps.take i))[k]? = some j ∧ j < (setJ cd5.length ((altJ pieceC code.length (ps.take i)).take k) cd5).length ∧ (∃ x, (setJ cd5.length ((altJ pieceC code.length (ps.take i)).take k) cd5)[j]? = some (.jp x)) ∧
          setJ cd5.length ((altJ pieceC code.length (ps.take i)).take (k + 1)) cd5 = (setJ cd5.length ((altJ pieceC code.length (ps.take i)).take k) cd5).set j (.jp cd5.length)) := Lib.hid (fun k hk => by
        have := alt_jp pieceC (X := rgs xs) H1.out.1 k (by rw [List.length_take]; omega) cd5.length
        rw [← HCD5.out] at this
        exact this)
      have HAJ : Hid ((altJ pieceC code.length (ps.take i)).length = i) := Lib.hid (by rw [altJ_len, List.length_take]; omega)
      generalize altJ pieceC code.length (ps.take i) = js at *
      have T7 := top_any H5.out (by omega)
      rw [hc5] at T7
      have CT := Lib.hid T7
      clear T7
      go_wp2_with (first | (go_at_call 71; refine CT.out.mono ?_; rintro e w8 ⟨rfl, rfl⟩; clear CT) | fail)
      go_loopw [15, 109] (fun _ v8 wr => ∃ (k : Nat) (K6 : Ks), k ≤ i ∧ v8 = .int .i64 k ∧ K6.C = K.C ∧ Hid (Cs wr B eT K6 (setJ cd5.length (js.take k) cd5) (setJ cd5.length (js.take k) cd5).length ∧ Es K2 w2 wr K6 ∧ Jr wr w2.heap.size (.slice a' i c') js)) (fun _ v8 _ => i - (intOf v8).toNat)
      case atStart => exact ⟨0, K5, by omega, rfl, hc5, Lib.hid ⟨by simpa [setJ] using H5.out, E5.out, J5.out⟩⟩
      case round =>
        obtain ⟨k, K6, hk, rfl, hc6, H6⟩ := hrel
        have jrow : wr.ownsRow w2.heap.size 33 1 (.slice a' i c') i (jvs js) := by
          have := H6.out.2.2
          unfold Jr at this
          rw [HAJ.out] at this
          exact this
        by_cases hlt : k < i
        · obtain ⟨j, hj, hjl, ⟨y, hy⟩, hset⟩ := HJ.out k hlt
          obtain ⟨ad6, had6, -, hcell6⟩ := sl_of_own jrow k (.int .u64 (j : Nat)) (by rw [jvs, List.getElem?_map, hj]; rfl)
          have SJ := setj_any H6.out.1 (by rw [setJ_len]; omega) j cd5.length y hjl (by rw [List.getElem?_eq_getElem hjl] at hy; injection hy)
          rw [hc6] at SJ
          have CS := Lib.hid SJ
          have HSET := Lib.hid hset
          clear SJ hset hj hjl hy jrow
          subst had6
          go_wp2_with (first | (go_at_call 74; refine CS.out.mono ?_; rintro e w8 ⟨rfl, h8, e8⟩; have H8 := Lib.hid h8; have E8 := Lib.hid (H6.out.2.1.trans e8); have J8 := Lib.hid (H6.out.2.2.ev H6.out.1 e8.ev); have hc8 := hc6; clear CS h8 e8) | fail)
          go_roundw
          case rel => exact ⟨k + 1, K6, by omega, by go_num, hc6, Lib.hid ⟨by rw [HSET.out, List.length_set]; exact H8.out, E8.out, J8.out⟩⟩
          case measure => simp [intOf]; omega
        · obtain rfl : k = i := by omega
          have HF : Hid (∃ K', Cs wr B eT K' (code ++ rangeC code.length (a, z)) (code ++ rangeC code.length (a, z)).length ∧ Ev K w wr K') := Lib.hid ⟨K6, by
            have h1 := H6.out.1
            rw [List.take_of_length_le (by rw [HAJ.out]; exact Nat.le_refl _), HE.out] at h1
            exact h1, E2.out.trans H6.out.2.1.ev⟩
          clear jrow H6 HE HJ HAJ
          go_wp2
          go_ret
          obtain ⟨K9, h9⟩ := HF.out
          exact ⟨K9, rfl, h9⟩

end

end Go.Proofs.YtbkpgfccghombaaDoor.rx

/-! Regular expressions: the compiler: a class of runes. Conditions: as stated. -/
namespace Go.Proofs.YtbkpgfccghombaaDoor.rx
open Go.ChangeShapes Go.WideShapes Go.ChangeAt Go.RowKit
set_option linter.unusedVariables false

theorem pairs_get : ∀ (l : List Int) (i : Nat) (x y : Int), l[2 * i]? = some x → l[2 * i + 1]? = some y → (pairs l)[i]? = some (x, y)
  | [], i, x, y, h, _ => by simp at h
  | [a], i, x, y, h, h2 => by simp at h2
  | a :: b :: r, 0, x, y, h, h2 => by simp at h h2; simp [pairs, h, h2]
  | a :: b :: r, i + 1, x, y, h, h2 => by
    have := pairs_get r i x y (by rw [show 2 * (i + 1) = 2 * i + 1 + 1 by omega] at h; simpa using h) (by rw [show 2 * (i + 1) + 1 = 2 * i + 1 + 1 + 1 by omega] at h2; simpa using h2)
    simpa [pairs] using this
def rvs (l : List Int) : List Value := l.map fun (x : Int) => .int .i32 x
section
variable {w : World} {B n : Nat} {eT : Value} {K : Ks} {code : List Ins}

set_option maxRecDepth 100000 in
set_option maxHeartbeats 3200000 in
theorem cls_any (h : Cs w B eT K code code.length) (p : Addr) (ra : Option Addr) (rc : Nat) (l : List Int) (hl8 : l.length ≤ 1000000) (hr : CellO w K.O ⟨p.block, p.off + 4, none⟩ (.slice ra l.length rc)) (hl : SlO w K.O ra (rvs l)) (hk : okPairs l) (hn : (code ++ clsC code.length (pairs l)).length ≤ 999999999999) :
    Calls Tryd.prog 69 #[.pointer (some ⟨K.C, 0, none⟩), .pointer (some p)] w fun e w' => ∃ K', e = .returned .nilIface ∧ Cs w' B eT K' (code ++ clsC code.length (pairs l)) (code ++ clsC code.length (pairs l)).length ∧ Ev K w w' K' := by
  obtain ⟨i0, hi0, hz0, hz1, hz2⟩ := info_parts infoU
  obtain ⟨hk1, hk2, hk3⟩ := hk
  obtain ⟨m, hm⟩ : ∃ m, (pairs l).length = m + 1 := ⟨(pairs l).length - 1, by have : (pairs l).length ≠ 0 := fun e => hk1 (List.length_eq_zero_iff.1 e); omega⟩
  obtain ⟨q, hq⟩ : ∃ q, q = 2 * m := ⟨_, rfl⟩
  have hlq : l.length = q + 2 := by omega
  rw [hlq] at hr
  have HM := Lib.hid hm
  have HQ := Lib.hid hq
  have HLQ := Lib.hid hlq
  have hq8 : q ≤ 999998 := by omega
  have H := Lib.hid h
  have HR := Lib.hid hr
  have HS := Lib.hid hl
  have HK := Lib.hid hk3
  have hmk := fun w => run_jumps q (by omega) w
  have hcc : code.length ≤ 999999999999 := by simp at hn; omega
  have HTOT := Lib.hid hn
  have cr := hr.2.2
  have mixed : Tryd.prog.follows .mixedOrders = true := by kernel_rfl
  have hq0 : ((q : Int) + 2 == 0) = false := by simp; omega
  have J3 := Lib.hid (jr_new w q (by unfold maxLen; omega))
  have b3 : Below w.heap.size w (w.alloc (.cells (madeCells #[.int .u64 0] q) 33)) := (Below.refl _ _).alloc (Nat.le_refl _) _
  have C3 := Lib.hid (H.out.new b3)
  have E3 := Lib.hid ((Es.of_below K b3).ev)
  clear h hr hl hk1 hk2 hk3 hm hq hlq hl8 hn b3
  go_enter Tryd.func69, Tryd.ntmps69
  go_wp2
  refine name_world ?_
  intro w3 hw3
  have J3 := Lib.hid (show Jr w3 w.heap.size (.slice (some ⟨w.heap.size, 0, none⟩) 0 q) [] by rw [hw3]; exact J3.out)
  have C3 := Lib.hid (show Cs w3 B eT K code code.length by rw [hw3]; exact C3.out)
  have E3 := Lib.hid (show Ev K w w3 K by rw [hw3]; exact E3.out)
  clear hw3 cr
  obtain ⟨ps, hps⟩ : ∃ ps, ps = pairs l := ⟨_, rfl⟩
  have HPS := Lib.hid hps
  rw [← hps] at HM HK HTOT
  clear hps
  go_loopw [5, 6, 7, 8, 9, 10, 11, 12] (fun v5 v6 _ _ _ _ _ _ wr => ∃ (i j : Nat) (K1 : Ks) (c' : Nat) (a' : Option Addr) (cd : List Ins), j ≤ q ∧ v6 = .int .i64 j ∧ v5 = .slice a' i c' ∧ Hid (j = 2 * i) ∧ Hid (cd = code ++ altP rangeC 0 code.length (ps.take i) ∧ Cs wr B eT K1 cd cd.length ∧ Ev K w wr K1 ∧ Jr wr w.heap.size v5 (altJ rangeC code.length (ps.take i)))) (fun _ v6 _ _ _ _ _ _ _ => q - (intOf v6).toNat)
  case atStart => exact ⟨0, 0, K, q, _, code, by omega, rfl, rfl, Lib.hid rfl, Lib.hid ⟨by simp [altP], C3.out, E3.out, by simpa [altJ] using J3.out⟩⟩
  case round =>
    obtain ⟨i, j, K1, c', a', cd, hj, rfl, rfl, HJ2, H1⟩ := hrel
    have hc1 : K1.C = K.C := H1.out.2.2.1.c
    have cr := (HR.out.go H1.out.2.2.1.fr H1.out.2.2.1.o).2.2
    have hcl : cd.length ≤ 999999999999 := by
      have h1 := HJ2.out
      have h2 := HM.out
      have h3 := HQ.out
      exact Nat.le_trans (alt_preE rangeC H1.out.1 (by omega)) HTOT.out
    by_cases hlt : j < q
    · have hip : i < ps.length := by have h1 := HJ2.out; have h2 := HM.out; have h3 := HQ.out; omega
      have hjl : j + 1 < l.length := by rw [HLQ.out]; omega
      obtain ⟨ad, had, -, -, hx⟩ := (HS.out.ev H1.out.2.2.1) j (.int .i32 l[j]) (by rw [rvs, List.getElem?_map, List.getElem?_eq_getElem (by omega)]; rfl)
      obtain ⟨ad', had', -, -, hy⟩ := (HS.out.ev H1.out.2.2.1) (j + 1) (.int .i32 l[j + 1]) (by rw [rvs, List.getElem?_map, List.getElem?_eq_getElem hjl]; rfl)
      obtain rfl : ad = ad' := by rw [had] at had'; injection had'
      have hxy : ps[i] = (l[j], l[j + 1]) := by
        have h1 := HJ2.out
        have h2 := pairs_get l i l[j] l[j + 1] (by rw [← h1]; exact List.getElem?_eq_getElem (by omega)) (by rw [← h1]; exact List.getElem?_eq_getElem hjl)
        rw [← HPS.out, List.getElem?_eq_getElem hip] at h2
        injection h2
      have hok := HK.out _ (List.getElem_mem hip)
      rw [hxy] at hok
      have HXY := Lib.hid hxy
      obtain ⟨x, ex⟩ : ∃ x, x = l[j] := ⟨_, rfl⟩
      obtain ⟨y, ey⟩ : ∃ y, y = l[j + 1] := ⟨_, rfl⟩
      rw [← ex, ← ey] at hok HXY
      rw [← ex] at hx
      rw [← ey] at hy
      rw [had] at cr
      clear had had' ex ey hxy hjl
      have hy2 : wr.cell? ⟨ad.block, ad.off + (j + 1), none⟩ = some (.int .i32 y) := by
        have := cell_off (ad := ad) (i := 0) (j := j + 1) (by rw [Nat.zero_add]; exact hy)
        simpa [Addr.add] using this
      obtain ⟨o1, o2, o3⟩ := hok
      simp only at o1 o2 o3
      have o0 : 0 ≤ x := by unfold isL at o3; simp at o3; omega
      have SP := split_any H1.out.2.1 (by omega)
      rw [hc1] at SP
      have CSP := Lib.hid SP
      clear SP
      go_upto_region 10 with (first | (go_at_call 70; refine CSP.out.mono ?_; rintro e w4 ⟨K4, rfl, h4, e4⟩; have H4 := Lib.hid h4; have E4 := Lib.hid (H1.out.2.2.1.trans e4.ev); have J4 := Lib.hid (H1.out.2.2.2.ev H1.out.2.1 e4.ev); have hc4 : K4.C = K.C := e4.c.trans hc1; clear h4 e4 CSP cr hx hy hy2) | fail)
      have T := top_any H4.out (by simp; omega)
      rw [hc4] at T
      have CT := Lib.hid T
      clear T
      go_upto_region 11 with (first | (go_at_call 71; refine CT.out.mono ?_; rintro e w5 ⟨rfl, rfl⟩; clear CT) | fail)
      have U := crange_any H4.out x y o0 o1 o2 o3 (by simp; omega)
      rw [hc4] at U
      have CU := Lib.hid U
      clear U
      go_upto_region 14 with (first | (go_at_call 93; refine CU.out.mono ?_; rintro e w5 ⟨K5, rfl, h5, e5⟩; have H5 := Lib.hid h5; have E5 := Lib.hid (E4.out.trans e5); have J5 := Lib.hid (J4.out.ev H4.out e5); have hc5 : K5.C = K.C := e5.c.trans hc4; clear h5 e5 CU J4 E4) | fail)
      obtain ⟨cd2, hcd2⟩ : ∃ c, c = cd ++ [Ins.sp 0 0] ++ rangeC (cd ++ [Ins.sp 0 0]).length (x, y) := ⟨_, rfl⟩
      rw [← hcd2] at H5
      have HN : Hid ((cd2 ++ [Ins.jp 0]).set cd.length (.sp (cd.length + 1) (cd2.length + 1)) = code ++ altP rangeC 0 code.length (ps.take (i + 1)) ∧ altJ rangeC code.length (ps.take (i + 1)) = altJ rangeC code.length (ps.take i) ++ [cd2.length]) := Lib.hid (by
        have := alt_round rangeC (s := ps[i]) (X := rangeC (cd ++ [Ins.sp 0 0]).length (x, y)) H1.out.1 (by rw [HXY.out]; simp)
        rw [← List.take_succ_eq_append_getElem hip, ← hcd2] at this
        exact this)
      have hcl3 : cd2.length ≤ 999999999999 := by
        have h1 := HJ2.out
        have h2 := HM.out
        have h3 := HQ.out
        have h4 := alt_preE rangeC HN.out.1 (l := ps) (by omega)
        have h5 := HTOT.out
        rw [List.length_set, List.length_append] at h4
        unfold clsC at h5
        omega
      have HCD : Hid (cd.length < cd2.length ∧ cd2[cd.length]? = some (.sp 0 0)) := Lib.hid (by rw [hcd2]; simp)
      clear hcd2
      have JP := jump_any H5.out (by omega)
      rw [hc5] at JP
      have CJ := Lib.hid JP
      clear JP
      have HAJ : Hid ((altJ rangeC code.length (ps.take i)).length = i) := Lib.hid (by rw [altJ_len, List.length_take]; omega)
      have hi9 : i ≤ 999999 := by have h1 := HJ2.out; omega
      generalize hjs : altJ rangeC code.length (ps.take i) = js at *
      clear hjs
      go_upto_region 15 with (first | (go_at_call 72; refine CJ.out.mono ?_; rintro e w6 ⟨K6, rfl, h6, e6⟩; have H6 := Lib.hid h6; have J6 := Lib.hid (J5.out.ev H5.out e6.ev); have EX := Lib.hid (E5.out.trans e6.ev); have hc6 : K6.C = K.C := e6.c.trans hc5; clear h6 e6 CJ J5 E5) | (at_builtin; refine append1_at w6 #[.int .u64 (cd2.length : Nat)] rfl (.tmp 68) (.tmp 71) 101 rfl w.heap.size 33 i0 _ 1 8 Tryd.underlying101 hi0 hz0 hz1 hz2 rfl (by omega) rfl (.slice a' i c') i (jvs js) rfl (by have := J6.out; unfold Jr at this; rw [HAJ.out] at this; exact this) w6.heap.size rfl rfl (by simp [Value.oneCell']) (by unfold maxLen; omega) (by omega) (EX.out.fr.size) ?_; intro v7 w7 ho7 hg7 _ hat7; obtain ⟨a7, c7, rfl⟩ := own_value ho7; have J7 := Lib.hid (Jr.snoc (js := js) (by rw [HAJ.out]; exact ho7)); have H7 := Lib.hid (H6.out.jr_grown J6.out H.out.hw hg7); have E7 := Lib.hid (EX.out.jr_grown J6.out (Nat.le_refl _) hg7); clear ho7 hg7 hat7 J6 H6 EX) | fail)
      have T7 := top_any H7.out (by simp; omega)
      rw [hc6] at T7
      have CT := Lib.hid T7
      clear T7
      go_upto_region 16 with (first | (go_at_call 71; refine CT.out.mono ?_; rintro e w8 ⟨rfl, rfl⟩; clear CT) | fail)
      have ST := sets_any H7.out (by simp; omega) cd.length (cd.length + 1) (cd2.length + 1) 0 0 (by simp; have := HCD.out.1; omega) (by have h1 := HCD.out; rw [List.getElem_append_left h1.1]; rw [List.getElem?_eq_getElem h1.1] at h1; injection h1.2)
      rw [hc6] at ST
      simp only [Int.natCast_succ] at ST
      have CS := Lib.hid ST
      clear ST
      go_upto_region 6 with (first | (go_at_call 73; refine CS.out.mono ?_; rintro e w8 ⟨rfl, h8, e8⟩; have H8 := Lib.hid h8; have E8 := Lib.hid (E7.out.trans e8.ev); have J8 := Lib.hid (J7.out.ev H7.out e8.ev); clear CS h8 e8 J7 E7 H7) | fail)
      have hj2 : j + 2 ≤ q := by have h1 := HJ2.out; have h2 := HQ.out; omega
      go_wp2
      go_roundw
      case rel => exact ⟨i + 1, j + 2, K6, c7, a7, (cd2 ++ [Ins.jp 0]).set cd.length (.sp (cd.length + 1) (cd2.length + 1)), by omega, by go_num, rfl, Lib.hid (by have := HJ2.out; omega), Lib.hid ⟨HN.out.1, by rw [List.length_set]; exact H8.out, E8.out, by rw [HN.out.2]; exact J8.out⟩⟩
      case measure => simp [intOf]; omega
    · obtain rfl : j = q := by omega
      have him : i = m := by have h1 := HJ2.out; have h3 := HQ.out; omega
      subst him
      have hip : i < ps.length := by have h2 := HM.out; omega
      have hjl : j + 1 < l.length := by rw [HLQ.out]; omega
      obtain ⟨ad, had, -, -, hx⟩ := (HS.out.ev H1.out.2.2.1) j (.int .i32 l[j]) (by rw [rvs, List.getElem?_map, List.getElem?_eq_getElem (by omega)]; rfl)
      obtain ⟨ad', had', -, -, hy⟩ := (HS.out.ev H1.out.2.2.1) (j + 1) (.int .i32 l[j + 1]) (by rw [rvs, List.getElem?_map, List.getElem?_eq_getElem hjl]; rfl)
      obtain rfl : ad = ad' := by rw [had] at had'; injection had'
      have hxy : ps[i] = (l[j], l[j + 1]) := by
        have h1 := HJ2.out
        have h2 := pairs_get l i l[j] l[j + 1] (by rw [← h1]; exact List.getElem?_eq_getElem (by omega)) (by rw [← h1]; exact List.getElem?_eq_getElem hjl)
        rw [← HPS.out, List.getElem?_eq_getElem hip] at h2
        injection h2
      have hok := HK.out _ (List.getElem_mem hip)
      rw [hxy] at hok
      have HXY := Lib.hid hxy
      obtain ⟨x, ex⟩ : ∃ x, x = l[j] := ⟨_, rfl⟩
      obtain ⟨y, ey⟩ : ∃ y, y = l[j + 1] := ⟨_, rfl⟩
      rw [← ex, ← ey] at hok HXY
      rw [← ex] at hx
      rw [← ey] at hy
      rw [had] at cr
      clear had had' ex ey hxy hjl
      have hy2 : wr.cell? ⟨ad.block, ad.off + (j + 1), none⟩ = some (.int .i32 y) := by
        have := cell_off (ad := ad) (i := 0) (j := j + 1) (by rw [Nat.zero_add]; exact hy)
        simpa [Addr.add] using this
      obtain ⟨o1, o2, o3⟩ := hok
      simp only at o1 o2 o3
      have o0 : 0 ≤ x := by unfold isL at o3; simp at o3; omega
      have CU := Lib.hid (show ∀ k, Calls Tryd.prog 93 #[.pointer (some ⟨K.C, 0, none⟩), .int .i32 x, .int .i32 y] (wr.drewN k) _ from fun k => by
        have U := crange_any (H1.out.2.1.drewN k) x y o0 o1 o2 o3 (by omega)
        rw [hc1] at U
        exact U)
      go_wp2_with fail
      go_quiet (fail)
      go_wp2_with fail
      go_quiet (fail)
      go_wp2_with (first | (go_at_call 93; refine (CU.out _).mono ?_; rintro e w5 ⟨K5, rfl, h5, e5⟩; have H5 := Lib.hid h5; have J5 := Lib.hid (Jr.ev (H1.out.2.2.2.ev H1.out.2.1 ((Ev.refl K1 wr).drewN _)) (H1.out.2.1.drewN _) e5); have E5 := Lib.hid ((H1.out.2.2.1.drewN _).trans e5); have hc5 : K5.C = K.C := e5.c.trans hc1; clear h5 e5 CU cr hx hy hy2) | fail)
      obtain ⟨cd5, hcd5⟩ : ∃ c, c = cd ++ rangeC cd.length (x, y) := ⟨_, rfl⟩
      rw [← hcd5] at H5
      have HE : Hid (setJ cd5.length (altJ rangeC code.length (ps.take i)) cd5 = code ++ clsC code.length (pairs l)) := Lib.hid (by
        have := alt_end rangeC (s := ps[i]) (X := rangeC cd.length (x, y)) H1.out.1 (by rw [HXY.out])
        rw [← List.take_succ_eq_append_getElem hip, ← hcd5] at this
        have e9 : ps.take (i + 1) = ps := List.take_of_length_le (by have h2 := HM.out; omega)
        rw [e9] at this
        rw [this]
        unfold clsC
        rw [HPS.out])
      have HJ : Hid (∀ k, k < i → ∃ j, (altJ rangeC code.length (ps.take i))[k]? = some j ∧ j < (setJ cd5.length ((altJ rangeC code.length (ps.take i)).take k) cd5).length ∧ (∃ x, (setJ cd5.length ((altJ rangeC code.length (ps.take i)).take k) cd5)[j]? = some (.jp x)) ∧
          setJ cd5.length ((altJ rangeC code.length (ps.take i)).take (k + 1)) cd5 = (setJ cd5.length ((altJ rangeC code.length (ps.take i)).take k) cd5).set j (.jp cd5.length)) := Lib.hid (fun k hk => by
        have := alt_jp rangeC (X := rangeC cd.length (x, y)) H1.out.1 k (by rw [List.length_take]; omega) cd5.length
        rw [← hcd5] at this
        exact this)
      have HAJ : Hid ((altJ rangeC code.length (ps.take i)).length = i) := Lib.hid (by rw [altJ_len, List.length_take]; omega)
      have hcl5 : cd5.length ≤ 999999999999 := by
        have h1 := congrArg List.length HE.out
        rw [setJ_len, ← HPS.out] at h1
        rw [h1]
        exact HTOT.out
      clear hcd5
      have hi9 : i ≤ 999999 := by have h1 := HJ2.out; omega
      generalize altJ rangeC code.length (ps.take i) = js at *
      have T7 := top_any H5.out (by omega)
      rw [hc5] at T7
      have CT := Lib.hid T7
      clear T7
      go_wp2_with (first | (go_at_call 71; refine CT.out.mono ?_; rintro e w8 ⟨rfl, rfl⟩; clear CT) | fail)
      go_loopw [18, 115] (fun _ v8 wr => ∃ (k : Nat) (K6 : Ks), k ≤ i ∧ v8 = .int .i64 k ∧ K6.C = K.C ∧ Hid (Cs wr B eT K6 (setJ cd5.length (js.take k) cd5) (setJ cd5.length (js.take k) cd5).length ∧ Ev K w wr K6 ∧ Jr wr w.heap.size (.slice a' i c') js)) (fun _ v8 _ => i - (intOf v8).toNat)
      case atStart => exact ⟨0, K5, by omega, rfl, hc5, Lib.hid ⟨by simpa [setJ] using H5.out, E5.out, J5.out⟩⟩
      case round =>
        obtain ⟨k, K6, hk, rfl, hc6, H6⟩ := hrel
        have jrow : wr.ownsRow w.heap.size 33 1 (.slice a' i c') i (jvs js) := by
          have := H6.out.2.2
          unfold Jr at this
          rw [HAJ.out] at this
          exact this
        by_cases hlt : k < i
        · obtain ⟨j2, hj, hjl, ⟨z, hz⟩, hset⟩ := HJ.out k hlt
          obtain ⟨ad6, had6, -, hcell6⟩ := sl_of_own jrow k (.int .u64 (j2 : Nat)) (by rw [jvs, List.getElem?_map, hj]; rfl)
          have SJ := setj_any H6.out.1 (by rw [setJ_len]; omega) j2 cd5.length z hjl (by rw [List.getElem?_eq_getElem hjl] at hz; injection hz)
          rw [hc6] at SJ
          have CS := Lib.hid SJ
          have HSET := Lib.hid hset
          clear SJ hset hj hjl hz jrow
          subst had6
          go_wp2_with (first | (go_at_call 74; refine CS.out.mono ?_; rintro e w8 ⟨rfl, h8, e8⟩; have H8 := Lib.hid h8; have E8 := Lib.hid (H6.out.2.1.trans e8.ev); have J8 := Lib.hid (H6.out.2.2.ev H6.out.1 e8.ev); have hc8 := hc6; clear CS h8 e8) | fail)
          go_roundw
          case rel => exact ⟨k + 1, K6, by omega, by go_num, hc6, Lib.hid ⟨by rw [HSET.out, List.length_set]; exact H8.out, E8.out, J8.out⟩⟩
          case measure => simp [intOf]; omega
        · obtain rfl : k = i := by omega
          have HF : Hid (∃ K', Cs wr B eT K' (code ++ clsC code.length (pairs l)) (code ++ clsC code.length (pairs l)).length ∧ Ev K w wr K') := Lib.hid ⟨K6, by
            have h1 := H6.out.1
            rw [List.take_of_length_le (by rw [HAJ.out]; exact Nat.le_refl _), HE.out] at h1
            exact h1, H6.out.2.1⟩
          clear jrow H6 HE HJ HAJ
          go_wp2
          go_ret
          obtain ⟨K9, h9⟩ := HF.out
          exact ⟨K9, rfl, h9⟩
end

end Go.Proofs.YtbkpgfccghombaaDoor.rx

/-! Regular expressions: the compiler: the expression in memory, and what is asked of the limit. Conditions: none. -/
namespace Go.Proofs.YtbkpgfccghombaaDoor.rx
open Go.ChangeShapes Go.WideShapes Go.ChangeAt Go.RowKit
set_option linter.unusedVariables false

section
variable {α : Type} (f : Nat → α → List Ins) (F : Nat → α → Prop)
/-- what is asked of parts, one behind the other -/
def catF : Nat → List α → Prop
  | _, [] => True
  | b, s :: r => F b s ∧ catF (b + (f b s).length) r
/-- what is asked of ways beside each other -/
def altF : Nat → List α → Prop
  | _, [] => True
  | b, [s] => F b s
  | b, s :: r => F (b + 1) s ∧ altF (b + 2 + (f (b + 1) s).length) r
/-- what is asked of parts that may be left out -/
def optF : Nat → α → Nat → Prop
  | _, _, 0 => True
  | b, s, n + 1 => F (b + 1) s ∧ optF (b + 1 + (f (b + 1) s).length) s n
end

/-- the limit is kept wherever it is looked at -/
def fits (lim : Nat) : Nat → Nat → Rx → Prop
  | 0, _, _ => True
  | d + 1, b, .nd op rs mn mx subs =>
    if op = 2 ∨ op = 4 ∨ op = 5 ∨ op = 6 then True
    else if op = 3 then (b + (litC rs).length) * 40 ≤ lim
    else if op = 18 then catF (comp d) (fits lim d) b subs
    else if op = 19 then altF (comp d) (fits lim d) b subs ∧ (b + (altE (comp d) b subs).length) * 40 ≤ lim
    else match subs with
      | [] => True
      | s :: _ =>
        if op = 13 then fits lim d b s
        else if op = 14 then fits lim d (b + 1) s ∧ (b + (starC (comp d) b s).length) * 40 ≤ lim
        else if op = 15 then fits lim d b s ∧ (b + (plusC (comp d) b s).length) * 40 ≤ lim
        else if op = 16 then fits lim d (b + 1) s ∧ (b + (questC (comp d) b s).length) * 40 ≤ lim
        else catF (comp d) (fits lim d) b (List.replicate mn.toNat s) ∧
          (if mx < 0 then fits lim d (b + (catC (comp d) b (List.replicate mn.toNat s)).length + 1) s else optF (comp d) (fits lim d) (b + (catC (comp d) b (List.replicate mn.toNat s)).length) s (mx - mn).toNat) ∧
          (b + (repC (comp d) b s mn mx).length) * 40 ≤ lim

/-- the expression in memory, outside the blocks of O -/
structure NdH (w : World) (O : Nat → Prop) (p : Addr) (op : Nat) (rs : List Int) (mn mx : Int) (n : Nat) (ra : Option Addr) (rc : Nat) (sa : Option Addr) (sc : Nat) (s0 : Value) (r0 r1 : Value) : Prop where
  bl : p.block < w.heap.size
  no : ¬ O p.block
  c0 : w.cell? p = some (.int .u8 op)
  c1 : w.cell? ⟨p.block, p.off + 1, none⟩ = some (.int .u16 0)
  c2 : w.cell? ⟨p.block, p.off + 2, none⟩ = some (.slice sa n sc)
  c3 : w.cell? ⟨p.block, p.off + 3, none⟩ = some (.pointer none)
  c4 : w.cell? ⟨p.block, p.off + 4, none⟩ = some (.slice ra rs.length rc)
  c5 : w.cell? ⟨p.block, p.off + 5, none⟩ = some (.int .i32 0)
  c6 : w.cell? ⟨p.block, p.off + 6, none⟩ = some (.int .i32 0)
  c7 : w.cell? ⟨p.block, p.off + 7, none⟩ = some (.int .i64 mn)
  c8 : w.cell? ⟨p.block, p.off + 8, none⟩ = some (.int .i64 mx)
  rs : SlO w O ra (rvs rs)
def pvs (qs : List Addr) : List Value := qs.map fun q => .pointer (some q)
def Nd (w : World) (O : Nat → Prop) : Nat → Rx → Addr → Prop
  | 0, _, _ => False
  | d + 1, .nd op rs mn mx subs, p => ∃ ra rc sa sc s0 r0 r1 qs, NdH w O p op rs mn mx subs.length ra rc sa sc s0 r0 r1 ∧ SlO w O sa (pvs qs) ∧ qs.length = subs.length ∧ ∀ x ∈ subs.zip qs, Nd w O d x.1 x.2

section
variable {w w' : World} {O O' : Nat → Prop}
theorem NdH.go {p : Addr} {op : Nat} {rs : List Int} {mn mx : Int} {n : Nat} {ra : Option Addr} {rc : Nat} {sa : Option Addr} {sc : Nat} {s0 r0 r1 : Value} (h : NdH w O p op rs mn mx n ra rc sa sc s0 r0 r1) (hf : Fr O w w') (ho : ∀ k, O' k → O k ∨ w.heap.size ≤ k) : NdH w' O' p op rs mn mx n ra rc sa sc s0 r0 r1 := by
  have g : ∀ j v, w.cell? ⟨p.block, p.off + j, none⟩ = some v → w'.cell? ⟨p.block, p.off + j, none⟩ = some v := fun j v e => (fr_cell hf (p := ⟨p.block, p.off + j, none⟩) h.bl h.no).trans e
  exact { bl := Nat.lt_of_lt_of_le h.bl hf.size, no := far_of ho h.bl h.no, c0 := (fr_cell hf h.bl h.no).trans h.c0, c1 := g _ _ h.c1, c2 := g _ _ h.c2, c3 := g _ _ h.c3, c4 := g _ _ h.c4, c5 := g _ _ h.c5, c6 := g _ _ h.c6, c7 := g _ _ h.c7, c8 := g _ _ h.c8, rs := h.rs.go hf ho }
theorem Nd.go (hf : Fr O w w') (ho : ∀ k, O' k → O k ∨ w.heap.size ≤ k) : ∀ (d : Nat) (r : Rx) (p : Addr), Nd w O d r p → Nd w' O' d r p
  | 0, _, _, h => h
  | d + 1, .nd op rs mn mx subs, p, h => by
    obtain ⟨ra, rc, sa, sc, s0, r0, r1, qs, h1, h2, h3, h4⟩ := h
    exact ⟨ra, rc, sa, sc, s0, r0, r1, qs, h1.go hf ho, h2.go hf ho, h3, fun x hx => Nd.go hf ho d x.1 x.2 (h4 x hx)⟩
theorem Nd.ev {K K' : Ks} {d : Nat} {r : Rx} {p : Addr} (h : Nd w K.O d r p) (e : Ev K w w' K') : Nd w' K'.O d r p := Nd.go e.fr e.o d r p h
end

/-- what the compiler answers for an expression -/
def Done (w : World) (B : Nat) (eT : Value) (K : Ks) (code out : List Ins) (ok : Prop) (e : Ending) (w' : World) : Prop :=
  (ok ∧ ∃ K', e = .returned .nilIface ∧ Cs w' B eT K' (code ++ out) (code ++ out).length ∧ Ev K w w' K') ∨ (¬ ok ∧ e = .returned eT ∧ Below B w w')
theorem Done.ret {w : World} {B : Nat} {eT : Value} {K : Ks} {code out : List Ins} {ok : Prop} {e : Ending} {w' : World} (h : Done w B eT K code out ok e w') : ∃ r, e = .returned r := by
  rcases h with ⟨_, _, h1, _⟩ | ⟨_, h1, _⟩
  · exact ⟨_, h1⟩
  · exact ⟨_, h1⟩
end Go.Proofs.YtbkpgfccghombaaDoor.rx

/-! Regular expressions: parts one behind the other, ways beside each other, parts that may be left out: what is laid piece by piece. Plain. Conditions: none. -/
namespace Go.Proofs.YtbkpgfccghombaaDoor.rx
set_option linter.unusedVariables false

section
variable {α : Type} (f : Nat → α → List Ins) (F : Nat → α → Prop)
theorem catC_append : ∀ (l r : List α) (b : Nat), catC f b (l ++ r) = catC f b l ++ catC f (b + (catC f b l).length) r
  | [], r, b => by simp [catC]
  | s :: l, r, b => by
    simp only [List.cons_append, catC, List.length_append]
    rw [catC_append l r, List.append_assoc, Nat.add_assoc]
theorem catF_append : ∀ (l r : List α) (b : Nat), catF f F b (l ++ r) ↔ catF f F b l ∧ catF f F (b + (catC f b l).length) r
  | [], r, b => by simp [catF, catC]
  | s :: l, r, b => by
    simp only [List.cons_append, catF, catC, List.length_append]
    rw [catF_append l r, and_assoc, Nat.add_assoc]
theorem cat_step (l : List α) (b i : Nat) (h : i < l.length) :
    catC f b (l.take (i + 1)) = catC f b (l.take i) ++ f (b + (catC f b (l.take i)).length) l[i] ∧ (catF f F b (l.take (i + 1)) ↔ catF f F b (l.take i) ∧ F (b + (catC f b (l.take i)).length) l[i]) ∧
    (catF f F b l → F (b + (catC f b (l.take i)).length) l[i]) ∧ (catC f b (l.take i)).length + (f (b + (catC f b (l.take i)).length) l[i]).length ≤ (catC f b l).length := by
  have e1 : l.take (i + 1) = l.take i ++ [l[i]] := List.take_succ_eq_append_getElem h
  have e2 : l = l.take i ++ (l[i] :: l.drop (i + 1)) := by
    rw [← List.drop_eq_getElem_cons h, List.take_append_drop]
  refine ⟨by rw [e1, catC_append]; simp [catC], by rw [e1, catF_append]; simp [catF], fun h2 => ?_, ?_⟩
  · rw [e2, catF_append] at h2
    exact h2.2.1
  · conv => rhs; rw [e2, catC_append]
    simp only [catC, List.length_append]
    omega

/-- what is asked of ways with a split ahead of each -/
def altPF : Nat → List α → Prop
  | _, [] => True
  | b, s :: r => F (b + 1) s ∧ altPF (b + 2 + (f (b + 1) s).length) r
theorem altPF_snoc (s : α) : ∀ (l : List α) (b : Nat), altPF f F b (l ++ [s]) ↔ altPF f F b l ∧ F (b + (altP f 0 b l).length + 1) s
  | [], b => by simp [altPF, altP]
  | t :: l, b => by
    simp only [List.cons_append, altPF]
    rw [altPF_snoc s l, and_assoc]
    have e : b + 2 + (f (b + 1) t).length + (altP f 0 (b + 2 + (f (b + 1) t).length) l).length = b + (altP f 0 b (t :: l)).length := by
      simp only [altP, List.length_cons, List.length_append]; omega
    rw [e]
theorem altF_snoc (s : α) : ∀ (l : List α) (b : Nat), altF f F b (l ++ [s]) ↔ altPF f F b l ∧ F (b + (altP f 0 b l).length) s
  | [], b => by simp [altPF, altP, altF]
  | [t], b => by
    simp only [List.cons_append, List.nil_append, altF, altPF, altP, List.length_cons, List.length_append, List.length_nil, and_true]
    rw [show b + 2 + (f (b + 1) t).length = b + ((f (b + 1) t).length + (0 + 1) + 1) by omega]
  | t :: u :: l, b => by
    have ih := altF_snoc s (u :: l) (b + 2 + (f (b + 1) t).length)
    have e : b + 2 + (f (b + 1) t).length + (altP f 0 (b + 2 + (f (b + 1) t).length) (u :: l)).length = b + (altP f 0 b (t :: u :: l)).length := by
      simp only [altP, List.length_cons, List.length_append]; omega
    rw [e] at ih
    show (F (b + 1) t ∧ altF f F (b + 2 + (f (b + 1) t).length) ((u :: l) ++ [s])) ↔ (F (b + 1) t ∧ altPF f F (b + 2 + (f (b + 1) t).length) (u :: l)) ∧ _
    rw [ih, and_assoc]
theorem altPF_take : ∀ (l : List α) (b i : Nat), altPF f F b l → altPF f F b (l.take i)
  | [], b, i, h => by simp [altPF]
  | t :: l, b, 0, h => trivial
  | t :: l, b, i + 1, h => ⟨h.1, altPF_take l _ i h.2⟩
theorem alt_at {l : List α} {b : Nat} (h : altF f F b l) (i : Nat) (hi : i + 1 < l.length) : F (b + (altP f 0 b (l.take i)).length + 1) (l[i]'(by omega)) := by
  obtain ⟨m, hm⟩ : ∃ m, l.length = m + 1 := ⟨l.length - 1, by omega⟩
  have e1 : l = l.take m ++ [l[m]] := by
    rw [← List.take_succ_eq_append_getElem (by omega), List.take_of_length_le (by omega)]
  rw [e1, altF_snoc] at h
  have h1 := altPF_take f F _ _ (i + 1) h.1
  rw [List.take_take, Nat.min_eq_left (by omega), List.take_succ_eq_append_getElem (by omega), altPF_snoc] at h1
  exact h1.2
theorem alt_last {l : List α} {b m : Nat} (hm : l.length = m + 1) : altF f F b l ↔ altPF f F b (l.take m) ∧ F (b + (altP f 0 b (l.take m)).length) (l[m]'(by omega)) := by
  have e1 : l = l.take m ++ [l[m]] := by
    rw [← List.take_succ_eq_append_getElem (by omega), List.take_of_length_le (by omega)]
  conv => lhs; rw [e1, altF_snoc]
end

end Go.Proofs.YtbkpgfccghombaaDoor.rx

/-! Regular expressions: parts that may be left out, with splits ahead that are laid first and set at last. Plain. Conditions: none. -/
namespace Go.Proofs.YtbkpgfccghombaaDoor.rx
set_option linter.unusedVariables false

section
variable {α : Type} (f : Nat → α → List Ins) (F : Nat → α → Prop)
/-- the parts, each with a split ahead that is not set -/
def optP (s : α) : Nat → Nat → List Ins
  | _, 0 => []
  | b, n + 1 => .sp 0 0 :: (f (b + 1) s ++ optP s (b + 1 + (f (b + 1) s).length) n)
/-- where the splits are -/
def optS (s : α) : Nat → Nat → List Nat
  | _, 0 => []
  | b, n + 1 => b :: optS s (b + 1 + (f (b + 1) s).length) n
theorem optS_len (s : α) : ∀ (n b : Nat), (optS f s b n).length = n
  | 0, _ => rfl
  | n + 1, b => by simp only [optS, List.length_cons]; rw [optS_len s n]
theorem optP_len (e : Nat) (s : α) : ∀ (n b : Nat), (optP f s b n).length = (optC f e s b n).length
  | 0, _ => rfl
  | n + 1, b => by simp only [optP, optC, List.length_cons, List.length_append]; rw [optP_len e s n]
theorem optP_snoc (s : α) : ∀ (n b : Nat), optP f s b (n + 1) = optP f s b n ++ (.sp 0 0 :: f (b + (optP f s b n).length + 1) s)
  | 0, b => by simp [optP]
  | n + 1, b => by
    have ih := optP_snoc s n (b + 1 + (f (b + 1) s).length)
    have e : b + 1 + (f (b + 1) s).length + (optP f s (b + 1 + (f (b + 1) s).length) n).length = b + (optP f s b (n + 1)).length := by
      simp only [optP, List.length_cons, List.length_append]; omega
    rw [e] at ih
    show Ins.sp 0 0 :: (f (b + 1) s ++ optP f s (b + 1 + (f (b + 1) s).length) (n + 1)) = _
    rw [ih]
    simp [optP]
theorem optS_snoc (s : α) : ∀ (n b : Nat), optS f s b (n + 1) = optS f s b n ++ [b + (optP f s b n).length]
  | 0, b => by simp [optS, optP]
  | n + 1, b => by
    have ih := optS_snoc s n (b + 1 + (f (b + 1) s).length)
    have e : b + 1 + (f (b + 1) s).length + (optP f s (b + 1 + (f (b + 1) s).length) n).length = b + (optP f s b (n + 1)).length := by
      simp only [optP, List.length_cons, List.length_append]; omega
    rw [e] at ih
    show b :: optS f s (b + 1 + (f (b + 1) s).length) (n + 1) = _
    rw [ih]
    rfl
theorem optF_snoc (s : α) : ∀ (n b : Nat), optF f F b s (n + 1) ↔ optF f F b s n ∧ F (b + (optP f s b n).length + 1) s
  | 0, b => by simp [optF, optP]
  | n + 1, b => by
    have ih := optF_snoc s n (b + 1 + (f (b + 1) s).length)
    have e : b + 1 + (f (b + 1) s).length + (optP f s (b + 1 + (f (b + 1) s).length) n).length = b + (optP f s b (n + 1)).length := by
      simp only [optP, List.length_cons, List.length_append]; omega
    rw [e] at ih
    show (F (b + 1) s ∧ optF f F (b + 1 + (f (b + 1) s).length) s (n + 1)) ↔ (F (b + 1) s ∧ optF f F (b + 1 + (f (b + 1) s).length) s n) ∧ _
    rw [ih, and_assoc]
theorem optF_le (s : α) : ∀ (n b k : Nat), k ≤ n → optF f F b s n → optF f F b s k
  | n, b, 0, _, _ => by cases n <;> trivial
  | 0, b, k + 1, h, _ => by omega
  | n + 1, b, k + 1, h, h2 => ⟨h2.1, optF_le s n _ k (by omega) h2.2⟩
theorem optP_le (s : α) : ∀ (n b k : Nat), k ≤ n → (optP f s b k).length ≤ (optP f s b n).length
  | n, b, 0, _ => by simp [optP]
  | 0, b, k + 1, h => by omega
  | n + 1, b, k + 1, h => by
    have := optP_le s n (b + 1 + (f (b + 1) s).length) k (by omega)
    simp only [optP, List.length_cons, List.length_append]
    omega
end

/-- splits are set -/
def setS (e : Nat) (js : List Nat) (c : List Ins) : List Ins := js.foldl (fun c j => c.set j (.sp (j + 1) e)) c
theorem setS_len (e : Nat) : ∀ (js : List Nat) (c : List Ins), (setS e js c).length = c.length
  | [], _ => rfl
  | j :: js, c => by
    show (setS e js (c.set j (.sp (j + 1) e))).length = _
    rw [setS_len e js, List.length_set]
theorem setS_snoc (e : Nat) (js : List Nat) (j : Nat) (c : List Ins) : setS e (js ++ [j]) c = (setS e js c).set j (.sp (j + 1) e) := by simp [setS]
theorem setS_sp (e : Nat) (m : Nat) : ∀ (js : List Nat) (c : List Ins), (∃ x y, c[m]? = some (.sp x y)) → ∃ x y, (setS e js c)[m]? = some (.sp x y)
  | [], c, h => h
  | j :: js, c, h => by
    refine setS_sp e m js (c.set j (.sp (j + 1) e)) ?_
    obtain ⟨x, y, hx⟩ := h
    rw [List.getElem?_set]
    split
    · rename_i hj
      subst hj
      rw [if_pos (List.getElem?_eq_some_iff.1 hx).1]
      exact ⟨_, e, rfl⟩
    · exact ⟨x, y, hx⟩
section
variable {α : Type} (f : Nat → α → List Ins)
theorem optS_at (s : α) : ∀ (n b : Nat) (pre post : List Ins), pre.length = b → ∀ j ∈ optS f s b n, (pre ++ (optP f s b n ++ post))[j]? = some (.sp 0 0)
  | 0, b, pre, post, _, j, hj => by simp [optS] at hj
  | n + 1, b, pre, post, hb, j, hj => by
    simp only [optS, List.mem_cons] at hj
    rcases hj with hj | hj
    · rw [hj, List.getElem?_append_right (by omega), show b - pre.length = 0 by omega]
      rfl
    · have e2 : pre ++ (optP f s b (n + 1) ++ post) = (pre ++ (.sp 0 0 :: f (b + 1) s)) ++ (optP f s (b + 1 + (f (b + 1) s).length) n ++ post) := by simp [optP]
      rw [e2]
      exact optS_at s n (b + 1 + (f (b + 1) s).length) _ post (by simp; omega) j hj
theorem setS_opt (e : Nat) (s : α) : ∀ (n b : Nat) (pre post : List Ins), pre.length = b → setS e (optS f s b n) (pre ++ (optP f s b n ++ post)) = pre ++ (optC f e s b n ++ post)
  | 0, b, pre, post, _ => rfl
  | n + 1, b, pre, post, hb => by
    have e2 : (pre ++ (optP f s b (n + 1) ++ post)).set b (.sp (b + 1) e) = (pre ++ (.sp (b + 1) e :: f (b + 1) s)) ++ (optP f s (b + 1 + (f (b + 1) s).length) n ++ post) := by
      rw [List.set_append_right _ _ (by omega), show b - pre.length = 0 by omega]
      simp [optP]
    show setS e (optS f s (b + 1 + (f (b + 1) s).length) n) ((pre ++ (optP f s b (n + 1) ++ post)).set b (.sp (b + 1) e)) = _
    rw [e2, setS_opt e s n (b + 1 + (f (b + 1) s).length) _ post (by simp; omega)]
    simp [optC]
/-- the splits that are set, one by one -/
theorem opt_sp {code cd : List Ins} {s : α} {n : Nat} (hcd : cd = code ++ optP f s code.length n) (k : Nat) (hk : k < n) (e : Nat) :
    ∃ j, (optS f s code.length n)[k]? = some j ∧ j < (setS e ((optS f s code.length n).take k) cd).length ∧ (∃ x y, (setS e ((optS f s code.length n).take k) cd)[j]? = some (.sp x y)) ∧
      setS e ((optS f s code.length n).take (k + 1)) cd = (setS e ((optS f s code.length n).take k) cd).set j (.sp (j + 1) e) := by
  have hl : k < (optS f s code.length n).length := by rw [optS_len]; exact hk
  have h1 := setS_sp e ((optS f s code.length n)[k]) ((optS f s code.length n).take k) cd ⟨0, 0, by
    have := optS_at f s n code.length code [] rfl ((optS f s code.length n)[k]) (List.getElem_mem hl)
    rw [hcd]
    simpa using this⟩
  refine ⟨_, List.getElem?_eq_getElem hl, ?_, h1, ?_⟩
  · obtain ⟨x, y, hx⟩ := h1
    exact (List.getElem?_eq_some_iff.1 hx).1
  · rw [List.take_succ_eq_append_getElem hl, setS_snoc]
theorem opt_end {code cd : List Ins} {s : α} {n : Nat} (hcd : cd = code ++ optP f s code.length n) : setS cd.length (optS f s code.length n) cd = code ++ optE f code.length s n := by
  have e1 : code.length + (optC f 0 s code.length n).length = cd.length := by rw [hcd, ← optP_len f 0]; simp
  unfold optE
  rw [e1]
  have := setS_opt f cd.length s n code.length code [] rfl
  simp only [List.append_nil] at this
  rw [← hcd] at this
  exact this
end

end Go.Proofs.YtbkpgfccghombaaDoor.rx
