/-
  Parts of the proof in one text: Dh, Di, Dj, Dn, Do, Dp. Conditions: as each states.
-/
import Derived.Test.YtbkpgfccghombaaDoorDgZz
import Derived.Test.YtbkpgfccghombaaDoorN01
import Derived.Test.YtbkpgfccghombaaDoorM16
import Derived.Test.YtbkpgfccghombaaDoorM10
import Derived.Test.YtbkpgfccghombaaDoorM18
import Derived.Deep.LoopGhost
/-! The builder of an automaton: a step of a state. Conditions: as stated. -/
namespace Go.Proofs.YtbkpgfccghombaaDoor.rx
open Go.ChangeShapes Go.WideShapes Go.ChangeAt Go.RowKit
set_option linter.unusedVariables false
set_option linter.unusedSimpArgs false

/-- a step that is known now -/
def setT (tb : Nat → Nat → Nat) (v b n : Nat) : Nat → Nat → Nat := fun v' x => if v' = v ∧ x = b then n else tb v' x
theorem setT_same (tb : Nat → Nat → Nat) (v b n : Nat) : setT tb v b n v b = n := if_pos ⟨rfl, rfl⟩
theorem setT_other (tb : Nat → Nat → Nat) (v b n : Nat) (v' x : Nat) (h : ¬ (v' = v ∧ x = b)) : setT tb v b n v' x = tb v' x := if_neg h
theorem tbl_other {tb : Nat → Nat → Nat} {v b n v' : Nat} (h : v' ≠ v) : tbl (setT tb v b n) v' = tbl tb v' := by
  unfold tbl
  refine List.map_congr_left fun x _ => ?_
  rw [setT_other _ _ _ _ _ _ (fun e => h e.1)]
theorem tbl_set {tb : Nat → Nat → Nat} {v b n : Nat} (hb : b < 256) : (tbl tb v).set b (.int .i64 (n : Nat)) = tbl (setT tb v b n) v := by
  unfold tbl
  refine List.ext_getElem (by simp) fun i h1 h2 => ?_
  rw [List.getElem_set]
  by_cases e : b = i
  · subst e
    simp [setT_same]
  · rw [if_neg e]
    simp [setT_other tb v b n v i (fun g => e g.2.symm)]
section
variable {w w' : World} {N : Nat} {K : DK} {P : List Ins} {S Sm : List (List Nat)} {tb : Nat → Nat → Nat}
theorem DG.at_ (h : DG w N K P S Sm tb) (v : Nat) (hv : v < S.length) : ∃ ad r, K.sa = some ad ∧ K.recs[v]? = some r ∧ w.cell? (ad.add (v * 3)) = some (.slice r.ia S[v].length r.ic) ∧
    w.cell? ⟨(ad.add (v * 3)).block, (ad.add (v * 3)).off + 1, none⟩ = some (.slice (some ⟨r.nb, 0, none⟩) 256 256) ∧ w.cell? ⟨(ad.add (v * 3)).block, (ad.add (v * 3)).off + 2, none⟩ = some (.bool (S[v].any fun i => mtD P[i]?)) ∧
    Blk w r.nb 3 (tbl tb v) ∧ w.ownsRow N 33 1 (.slice r.ia S[v].length r.ic) S[v].length (natsU S[v]) ∧ K.O r.nb := by
  have hr : v < K.recs.length := by rw [h.rl]; exact hv
  have hz : (K.recs.zip S)[v]? = some (K.recs[v], S[v]) := by
    rw [List.getElem?_eq_getElem (by simp; omega)]
    simp
  have hat : ∀ j u, j < 3 → (stC P (K.recs[v], S[v]))[j]? = some u → ∃ ad, K.sa = some ad ∧ w.cell? (ad.add (v * 3 + j)) = some u := fun j u hj hu => by
    obtain ⟨ad, h1, -, h2⟩ := sl_of_own h.row (v * 3 + j) u (by rw [flat_get (stC P) 3 (stC_len P) _ v j hj, hz]; exact hu)
    exact ⟨ad, h1, h2⟩
  obtain ⟨ad, h0, c0⟩ := hat 0 _ (by omega) rfl
  obtain ⟨ad1, h1, c1⟩ := hat 1 _ (by omega) rfl
  obtain ⟨ad2, h2, c2⟩ := hat 2 _ (by omega) rfl
  rw [h0] at h1 h2
  injection h1 with h1
  injection h2 with h2
  subst h1 h2
  exact ⟨ad, K.recs[v], h0, List.getElem?_eq_getElem hr, c0, cell_off c1, cell_off c2, h.nx v hr, h.ins v hr hv, .inr (.inr (.inr (.inr (.inr ⟨_, List.getElem_mem hr, .inl rfl⟩))))⟩
/-- a step is stored -/
theorem DG.store (h : DG w N K P S Sm tb) {v b n : Nat} {r : SR} (hr : K.recs[v]? = some r) (hb : b < 256) :
    DG (w.setCell ⟨r.nb, b, none⟩ (.int .i64 (n : Nat))) N K P S Sm (setT tb v b n) := by
  obtain ⟨hvl, rfl⟩ := List.getElem?_eq_some_iff.1 hr
  obtain ⟨ks, hk⟩ := h.key
  obtain ⟨D, m, hm, h1, h2⟩ := h.map
  have nb := h.nx v hvl
  have hlow : ∀ k, k < N → ¬ (k = K.recs[v].nb) := fun k hk e => by
    have := h.nB _ (List.getElem_mem hvl)
    omega
  have fr : Fr (fun k => k = K.recs[v].nb) w (w.setCell ⟨K.recs[v].nb, b, none⟩ (.int .i64 (n : Nat))) := (Fr.refl _ _).set _ _ rfl
  have farR : ∀ {b2 : Nat} {e2 : TypeId} {s2 n2 c2 m2 : Nat} {a2 : Option Addr} {x2 : List Value}, w.ownsRow b2 e2 s2 (.slice a2 n2 c2) m2 x2 → e2 ≠ 3 → ∀ k, isAt a2 k → ¬ (k = K.recs[v].nb) := fun hr ht k e e' => by
    subst e'
    exact row_ne hr nb ht e
  exact { b := fr.blk h.b (h.b.ne_ nb (by decide)), f := fr.blk h.f (h.f.ne_ nb (by decide)), rl := h.rl, row := fr_row fr h.row (farR h.row (by decide))
          nx := fun v' hv' => by
            by_cases e : v' = v
            · subst e
              rw [← tbl_set hb]
              exact nb.set_ b _
            · rw [tbl_other e]
              refine fr.blk (h.nx v' hv') (fun g => e ?_)
              have e1 := List.Nodup.idxOf_getElem h.nd v' (by simpa using hv')
              have e2 := List.Nodup.idxOf_getElem h.nd v (by simpa using hvl)
              simp only [List.getElem_map] at e1 e2
              rw [g, e2] at e1
              exact e1.symm
          nd := h.nd, nB := h.nB, ins := fun v' hv' h3 => fr_row fr (h.ins v' hv' h3) (farR (h.ins v' hv' h3) (by decide)), key := ⟨ks, fr_row fr hk (farR hk (by decide))⟩
          map := ⟨D, m, fr_map fr hm (fun e => map_ne hm nb e), h1, h2⟩, pr := h.pr.below (fr.below hlow h.hN)
          tz := fun v' x hv' => by
            rw [setT_other _ _ _ _ _ _ (fun e => by rw [← h.rl] at hv'; omega)]
            exact h.tz v' x hv'
          bB := h.bB, fB := h.fB, mB := h.mB, hN := Nat.le_trans h.hN fr.size }
theorem sts_nums (hS : Snd P) (hP : 0 < P.length) (h : Sts P S) {v : Nat} (hv : v < S.length) : Nums P S[v] := by
  rcases h.rch _ (List.getElem_mem hv) with e | ⟨u, -, e⟩
  · rw [e]
    exact nums_nil
  · rw [e]
    exact (pth_mem hS hP u).1
/-- the blocks of the builder's loop -/
structure Apt (K : DK) (s t : S3) (ra : Option Addr) : Prop where
  st : ∀ k, s.O k → ¬ t.O k
  sK : ∀ k, s.O k → ¬ K.O k
  tK : ∀ k, t.O k → ¬ K.O k
  rK : ∀ k, isAt ra k → ¬ K.O k
  rs : ∀ k, isAt ra k → ¬ s.O k
  rt : ∀ k, isAt ra k → ¬ t.O k
def AllO (K : DK) (s t : S3) (ra : Option Addr) (k : Nat) : Prop := K.O k ∨ s.O k ∨ t.O k ∨ isAt ra k
/-- a step of a state has been made -/
structure RsOut (w : World) (N : Nat) (K : DK) (P : List Ins) (S : List (List Nat)) (tb : Nat → Nat → Nat) (s t : S3) (v b : Nat) (L : List Nat) (ra : Option Addr) (w' : World) (K' : DK) (ra' : Option Addr) (rn' rc' : Nat) : Prop where
  dm : DM w' N K' P (put S L) (setT tb v b (S.idxOf L))
  row : ∃ xs, w'.ownsRow N 33 1 (.slice ra' rn' rc') rn' xs
  s1 : ∃ l, SetM w' N P.length s l
  s2 : ∃ l, SetM w' N P.length t l
  fr : Fr (AllO K s t ra) w w'
  o : ∀ k, K'.O k → AllO K s t ra k ∨ w.heap.size ≤ k
  ro : ∀ k, isAt ra' k → AllO K s t ra k ∨ w.heap.size ≤ k
  apt : Apt K' s t ra'
  eB : K'.B = K.B
  eF : K'.F = K.F
  ea : K'.va = K.va
  ec : K'.vc = K.vc
set_option maxRecDepth 100000 in
set_option maxHeartbeats 3200000 in
theorem runst_any {s t : S3} {l1 l2 : List Nat} {ra : Option Addr} {rn rc : Nat} {xs0 : List Value} (hSn : Snd P) (hP0 : 0 < P.length) (hn : P.length ≤ 1000000000000) (hS10 : S.length ≤ 100000) (h : DM w N K P S tb) (hst : Sts P S) (hM1 : SetM w N P.length s l1) (hM2 : SetM w N P.length t l2)
    (hr : w.ownsRow N 33 1 (.slice ra rn rc) rn xs0) (hA : Apt K s t ra) (v : Nat) (hv : v < S.length) (b : Nat) (hb : b < 256) :
    Calls Tryd.prog 64 #[.pointer (some ⟨K.B, 0, none⟩), .pointer (some ⟨s.S, 0, none⟩), .pointer (some ⟨t.S, 0, none⟩), .int .i64 v, .int .u8 b, .slice ra rn rc] w fun e w' => ∃ K' ra' rn' rc', e = .returned (.tuple #[.int .i64 (S.idxOf (st1 P S[v] b) : Nat), .slice ra' rn' rc']) ∧ RsOut w N K P S tb s t v b (st1 P S[v] b) ra w' K' ra' rn' rc' := by
  have HNv := Lib.hid (sts_nums hSn hP0 hst hv)
  have HSn := Lib.hid hSn
  have HSt := Lib.hid hst
  have HDM := Lib.hid h
  have HM1 := Lib.hid hM1
  have HM2 := Lib.hid hM2
  have HR := Lib.hid hr
  have HA := Lib.hid hA
  have HO := Lib.hid h.O_lt
  have HO1 := Lib.hid hM1.O_lt
  have HO2 := Lib.hid hM2.O_lt
  have HRl := Lib.hid (fun k (e : isAt ra k) => And.intro (own_block_ge hr k (own_isAt.2 e)) (own_block_lt hr k (own_isAt.2 e)))
  have CC := Lib.hid (clear_any hM1)
  have HD1 := Lib.hid (fun (W : World) (hf : Fr s.O w W) => h.keep hf (fun k hk e => hA.sK k e hk) (fun k hk e => by have := (hM1.O_lt k e).1; omega))
  clear hSn hst h hM1 hM2 hr hA
  go_enter Tryd.func64, Tryd.ntmps64
  go_upto_region 2 with (first | (go_at_call 81; refine CC.out.mono ?_; rintro e w1 ⟨rfl, h1, hf1⟩; have H1 := Lib.hid (And.intro h1 hf1); clear h1 hf1 CC) | fail)
  have D1 := Lib.hid (HD1.out w1 H1.out.2)
  obtain ⟨b0, b1, b2, f0, f1⟩ := D1.out.cells
  obtain ⟨ad, r, hsa, hrv, c0, c1, c2, hnx, hins, hOn⟩ := D1.out.at_ v hv
  rw [hsa] at f1
  have HINS := Lib.hid hins
  clear hnx hOn c1 c2
  go_upto_region 3 with fail
  have HRV := Lib.hid (show r ∈ K.recs from List.mem_of_getElem? hrv)
  have hlv : S[v].length ≤ P.length := HNv.out.len
  clear hrv hins
  go_wp2_with fail
  go_loopw [15, 31] (fun v15 v31 wr => ∃ i : Nat, i ≤ S[v].length ∧ v31 = .int .i64 i ∧ Hid (SetM wr N P.length s (S[v].take i) ∧ Fr s.O w1 wr)) (fun _ v31 _ => S[v].length - (intOf v31).toNat)
  case atStart => exact ⟨0, by omega, rfl, Lib.hid ⟨H1.out.1, Fr.refl _ _⟩⟩
  case round =>
    obtain ⟨i, hi, rfl, H2⟩ := hrel
    by_cases hlt : i < S[v].length
    · have ROW := fr_row H2.out.2 HINS.out (fun k e e2 => HA.out.sK k e2 (.inr (.inr (.inr (.inr (.inr ⟨r, HRV.out, .inr e⟩))))))
      obtain ⟨ad2, had2, -, hc2⟩ := sl_of_own ROW i _ (natsU_at S[v] i hlt)
      have HT := Lib.hid (show S[v].take (i + 1) = S[v].take i ++ [S[v][i]] from List.take_succ_eq_append_getElem hlt)
      have CA := Lib.hid (sadd_any H2.out.1 S[v][i] (HNv.out.lt _ (List.getElem_mem hlt)) (fun hm => by
        have h1 : (S[v].take (i + 1)).Nodup := HNv.out.nd.sublist (List.take_sublist _ _)
        rw [HT.out] at h1
        exact (List.nodup_append.1 h1).2.2 _ hm _ (by simp) rfl) (by rw [List.length_take]; omega) hn)
      rw [had2] at *
      clear ROW
      generalize S[v][i] = q at *
      go_wp2_with (first | (go_at_call 77; refine CA.out.mono ?_; rintro e w2 ⟨rfl, h2, hf2⟩; have H3 := Lib.hid (And.intro h2 (H2.out.2.trans hf2 (fun _ _ e => e))); clear h2 hf2) | fail)
      go_roundw
      case rel => exact ⟨i + 1, by omega, by go_num, by rw [HT.out]; exact H3⟩
      case measure => simp [intOf]; omega
    · obtain rfl : i = S[v].length := by omega
      rw [List.take_length] at H2
      have F2 := Lib.hid (H1.out.2.trans H2.out.2 (fun _ _ e => e))
      have D2 := Lib.hid (HD1.out wr F2.out)
      have M2 := Lib.hid (HM2.out.keep F2.out (fun k e e2 => HA.out.st k e2 e))
      have CD := Lib.hid (drun_any HSn.out hn (fun e => HA.out.tK _ e (.inr (.inl rfl))) HA.out.st b hb H2.out.1 M2.out D2.out.env HNv.out)
      have HRU := Lib.hid (runs_any HSn.out S[v] b)
      clear b0 b1 b2 f0 f1 c0
      obtain ⟨b0, b1, b2, f0, f1⟩ := D2.out.cells
      clear b1 b2 f0 f1
      go_upto_region 8 with (first | (go_at_call 82; refine CD.out.mono ?_; rintro e w3 ⟨vv, rfl, h3, hf3⟩; have H3 := Lib.hid (And.intro h3 hf3); clear h3 hf3 CD b0) | fail)
      have D3 := Lib.hid (D2.out.keep H3.out.2 (fun k e e2 => HA.out.tK k e2 e) (fun k hk e => by have := (HO2.out k e).1; omega))
      have F3 := Lib.hid (show Fr (fun k => s.O k ∨ t.O k) w w3 from (F2.out.mono (fun k _ e => .inl e)).trans (H3.out.2.mono (fun k _ e => .inr e)) (fun _ _ e => e))
      have R3 := Lib.hid (fr_row F3.out HR.out (fun k e e2 => e2.elim (HA.out.rs k e) (HA.out.rt k e)))
      have S3' := Lib.hid (H2.out.1.keep H3.out.2 HA.out.st)
      have CH := Lib.hid (cached_any D3.out H3.out.1 HRU.out.nums HSt.out.z R3.out HA.out.rK HA.out.rt HA.out.tK hn hS10)
      clear hsa
      go_upto_region 10 with (first | (go_at_call 62; refine CH.out.mono ?_; rintro e w4 ⟨K4, ra4, rn4, rc4, rfl, h4⟩; have H4 := Lib.hid h4; clear h4 CH) | fail)
      have hpl := put_len S (rmF P (runF P S[v] b))
      obtain ⟨ad4, r4, hsa4, hrv4, c0, c1, c2, hnx4, -, hO4⟩ := H4.out.dm.at_ v (by omega)
      obtain ⟨b0, b1, b2, f0, f1⟩ := H4.out.dm.cells
      rw [hsa4] at f1
      rw [H4.out.eB, H4.out.eF] at b0
      rw [H4.out.eF] at f1
      have cb := hnx4.cell b
      have fb := hnx4.frozen b
      have htb : (tbl tb v)[b]? = some (.int .i64 (tb v b : Nat)) := by simp [tbl, hb]
      rw [htb] at cb
      have HST := Lib.hid (H4.out.dm.store (n := S.idxOf (rmF P (runF P S[v] b))) hrv4 hb)
      have HFO := Lib.hid (show Fr (AllO K s t ra) w (w4.setCell ⟨r4.nb, b, none⟩ (.int .i64 (S.idxOf (rmF P (runF P S[v] b)) : Nat))) from by
        have f4 : Fr (AllO K s t ra) w w4 := (F3.out.mono (fun k _ e => e.elim (fun e => .inr (.inl e)) (fun e => .inr (.inr (.inl e))))).go (H4.out.fr.mono (O' := AllO K s t ra) (fun k _ e => e.elim .inl (fun e => .inr (.inr (.inr e))))) (fun k _ e => .inl e)
        refine f4.go ((Fr.refl (fun k => k = r4.nb) _).set ⟨r4.nb, b, none⟩ _ rfl) (fun k _ e => ?_)
        subst e
        rcases H4.out.o _ hO4 with g | g | g
        · exact .inl (.inl g)
        · exact .inl (.inr (.inr (.inr g)))
        · exact .inr (Nat.le_trans F3.out.size g))
      have HLO := Lib.hid (show ∀ k, k < w4.heap.size → (AllO K s t ra k → True) from fun _ _ _ => trivial)
      have FW := Lib.hid (show Fr (fun k => K.O k ∨ isAt ra k ∨ k = r4.nb) w3 (w4.setCell ⟨r4.nb, b, none⟩ (.int .i64 (S.idxOf (rmF P (runF P S[v] b)) : Nat))) from (H4.out.fr.mono (fun k _ e => e.imp id .inl)).set _ _ (.inr (.inr rfl)))
      have HNB := Lib.hid (show ∀ k, (s.O k ∨ t.O k) → ¬ (K.O k ∨ isAt ra k ∨ k = r4.nb) from fun k e e2 => by
        have hk3 : k < w3.heap.size := by
          rcases e with e | e
          · exact (S3'.out.O_lt k e).2
          · exact (H3.out.1.O_lt k e).2
        rcases e2 with g | g | rfl
        · exact e.elim (fun e => HA.out.sK k e g) (fun e => HA.out.tK k e g)
        · exact e.elim (HA.out.rs k g) (HA.out.rt k g)
        · rcases H4.out.o _ hO4 with g | g | g
          · exact e.elim (fun e => HA.out.sK _ e g) (fun e => HA.out.tK _ e g)
          · exact e.elim (HA.out.rs _ g) (HA.out.rt _ g)
          · omega)
      have HE := Lib.hid (show RsOut w N K P S tb s t v b (rmF P (runF P S[v] b)) ra (w4.setCell ⟨r4.nb, b, none⟩ (.int .i64 (S.idxOf (rmF P (runF P S[v] b)) : Nat))) K4 ra4 rn4 rc4 from
        { dm := HST.out, row := by
            obtain ⟨xs, hx⟩ := H4.out.row
            exact ⟨xs, own_far hx _ _ (fun e => H4.out.apart _ (own_isAt.1 e) hO4)⟩
          s1 := ⟨_, S3'.out.keep FW.out (fun k e => HNB.out k (.inl e))⟩, s2 := ⟨_, H3.out.1.keep FW.out (fun k e => HNB.out k (.inr e))⟩, fr := HFO.out
          o := fun k e => by
            rcases H4.out.o k e with g | g | g
            · exact .inl (.inl g)
            · exact .inl (.inr (.inr (.inr g)))
            · exact .inr (Nat.le_trans F3.out.size g)
          ro := fun k e => by
            rcases H4.out.ro k e with g | g
            · exact .inl (.inr (.inr (.inr g)))
            · exact .inr (Nat.le_trans F3.out.size g)
          apt := { st := HA.out.st
                   sK := fun k e e2 => by
                    rcases H4.out.o k e2 with g | g | g
                    · exact HA.out.sK k e g
                    · exact HA.out.rs k g e
                    · have := (S3'.out.O_lt k e).2; omega
                   tK := fun k e e2 => by
                    rcases H4.out.o k e2 with g | g | g
                    · exact HA.out.tK k e g
                    · exact HA.out.rt k g e
                    · have := (H3.out.1.O_lt k e).2; omega
                   rK := H4.out.apart
                   rs := fun k e e2 => by
                    rcases H4.out.ro k e with g | g
                    · exact HA.out.rs k g e2
                    · have := (S3'.out.O_lt k e2).2; omega
                   rt := fun k e e2 => by
                    rcases H4.out.ro k e with g | g
                    · exact HA.out.rt k g e2
                    · have := (H3.out.1.O_lt k e2).2; omega }
          eB := H4.out.eB, eF := H4.out.eF, ea := H4.out.ea, ec := H4.out.ec })
      clear hnx4 hrv4 hsa4 hO4 htb b1 b2 f0 c0 c2
      go_wp2
      go_ret2
      exact ⟨K4, ra4, rn4, rc4, rfl, HE.out⟩
end
end Go.Proofs.YtbkpgfccghombaaDoor.rx

/-! The builder of an automaton: the stack of states, what it holds. Conditions: as stated. -/
namespace Go.Proofs.YtbkpgfccghombaaDoor.rx
open Go.ChangeShapes Go.WideShapes Go.ChangeAt Go.RowKit
set_option linter.unusedVariables false
set_option linter.unusedSimpArgs false

def natsI (l : List Nat) : List Value := l.map fun (k : Nat) => Value.int .i64 k
theorem natsI_len (l : List Nat) : (natsI l).length = l.length := by simp [natsI]
theorem infoI64 : (Tryd.prog.info? 3).map (fun i => (i.zero, i.size, i.bytes)) = some (some (.int .i64 0), 1, 8) := by kernel_rfl
section
variable {w : World} {N : Nat} {a : Option Addr} {c : Nat}
theorem row_pop {base : Nat} {e : TypeId} {n : Nat} {xs : List Value} (h : w.ownsRow base e 1 (.slice a (n + 1) c) (n + 1) xs) : w.ownsRow base e 1 (.slice a n c) n (xs.take n) := by
  rcases row_parts h with ⟨rfl, h1, rfl⟩ | ⟨g, l, rfl, h1, h2, h3, h4, h5, h6⟩
  · omega
  · refine row_mk h1 h2 h3 (by omega) h5 ?_
    rw [← h6, List.take_take]
    congr 1
    omega
set_option maxRecDepth 100000 in
theorem pop_none : Calls Tryd.prog 63 #[.slice a 0 c] w fun e w' => e = .returned (.tuple #[.slice a 0 c, .int .i64 0]) ∧ w = w' := by
  go_enter Tryd.func63, Tryd.ntmps63
  go_wp2
  go_ret2
  exact ⟨rfl, rfl⟩
set_option maxRecDepth 100000 in
set_option maxHeartbeats 800000 in
theorem pop_any (st : List Nat) (s : Nat) (h : w.ownsRow N 3 1 (.slice a (st.length + 1) c) (st.length + 1) (natsI (st ++ [s]))) (hl : st.length ≤ 1000000) :
    Calls Tryd.prog 63 #[.slice a (st.length + 1) c] w fun e w' => e = .returned (.tuple #[.slice a st.length c, .int .i64 s]) ∧ ∃ q, w' = w.drewN q := by
  obtain ⟨ad, had, -, hc⟩ := sl_of_own h st.length (.int .i64 (s : Nat)) (by simp [natsI])
  subst had
  have HP := row_parts h
  have hcap : st.length + 1 ≤ c := by
    rcases HP with ⟨h1, -⟩ | ⟨g, l, -, -, -, -, h5, -⟩
    · cases h1
    · exact h5
  clear h HP
  obtain ⟨m, hm⟩ : ∃ m, m = st.length := ⟨_, rfl⟩
  rw [← hm] at hc hcap hl ⊢
  clear hm
  obtain ⟨n, hn⟩ : ∃ n, n = m + 1 := ⟨_, rfl⟩
  rw [← hn] at hcap ⊢
  have hx : ((n : Int) - 1) = m := by omega
  have h0 : (0 : Int) ≤ m := by omega
  have hmc : (m : Int) ≤ c := by omega
  have hmn : (m : Int) < n := by omega
  have hn1 : ¬ (n : Int) < 1 := by omega
  clear hn
  go_enter Tryd.func63, Tryd.ntmps63
  go_wp2_with fail
  go_quiet (fail)
  go_wp2
  go_ret2
  exact ⟨rfl, _, rfl⟩
set_option maxRecDepth 100000 in
set_option maxHeartbeats 800000 in
theorem push_any (st : List Nat) (s : Nat) (h : w.ownsRow N 3 1 (.slice a st.length c) st.length (natsI st)) (hl : st.length ≤ 1000000) (hN : N ≤ w.heap.size) :
    Calls Tryd.prog 65 #[.slice a st.length c, .int .i64 s] w fun e w' => ∃ a' c', e = .returned (.slice a' (st ++ [s]).length c') ∧ w'.ownsRow N 3 1 (.slice a' (st ++ [s]).length c') (st ++ [s]).length (natsI (st ++ [s])) ∧ Fr (fun k => isAt a k) w w' ∧ ∀ k, isAt a' k → isAt a k ∨ w.heap.size ≤ k := by
  obtain ⟨i0, hi0, hz0, hz1, hz2⟩ := info_parts infoI64
  obtain ⟨m, hm⟩ : ∃ m, m = st.length := ⟨_, rfl⟩
  have HM := Lib.hid hm
  rw [← hm] at h hl ⊢
  have H := Lib.hid h
  clear hm h
  go_enter Tryd.func65, Tryd.ntmps65
  go_wp2_with (first | (at_builtin; (refine append1_at w #[.int .i64 s] rfl (.tmp 5) (.tmp 7) 148 rfl N 3 i0 _ 1 8 Tryd.underlying148 hi0 hz0 hz1 hz2 rfl (by omega) rfl (.slice a m c) m (natsI st) rfl H.out w.heap.size rfl rfl (by simp [Value.oneCell']) (by unfold maxLen; omega) (by omega) hN ?_; intro v2 w2 ho2 hg2 _ hat2; obtain ⟨a2, c2, rfl⟩ := own_value ho2; have H2 := Lib.hid (And.intro ho2 (And.intro hg2 hat2)); clear ho2 hg2 hat2)) | fail)
  go_ret
  rw [← HM.out]
  refine ⟨a2, c2, rfl, ?_, Fr.of_grown (O := fun k => isAt a k) H2.out.2.1 (fun k e => own_isAt.1 e), fun k e => (H2.out.2.2 k (own_isAt.2 e)).imp own_isAt.1 id⟩
  have := H2.out.1
  simpa [natsI] using this
end
end Go.Proofs.YtbkpgfccghombaaDoor.rx

/-! The builder of an automaton: all its states. Conditions: as stated. -/
namespace Go.Proofs.YtbkpgfccghombaaDoor.rx
open Go.ChangeShapes Go.WideShapes Go.ChangeAt Go.RowKit
set_option linter.unusedVariables false
set_option linter.unusedSimpArgs false

theorem keyed_i : Maps.Keyed Tryd.prog 3 := Maps.int_keyed Tryd.underlying3
theorem key_i (v : Nat) (h : v ≤ 1000000) : keyOf Tryd.prog 3 (.int .i64 (v : Nat)) = some (.int .i64 (v : Nat)) :=
  keyOf_of_mapKey (by
    unfold mapKey
    rw [Tryd.underlying3]
    simp only
    refine if_pos ?_
    simp [Lit.wf, IntKind.min, IntKind.max, IntKind.signed, IntKind.bits]
    omega)
theorem SetM.base {w : World} {N N1 n : Nat} {K : S3} {l : List Nat} (h : SetM w N1 n K l) (hN : N ≤ N1) : SetM w N n K l :=
  ⟨h.s, h.d, h.r, h.ne, Nat.le_trans hN h.sB, Nat.le_trans hN h.dB, Nat.le_trans hN h.rB⟩
/-- the builder, the two sets, the row that is used again, the stack, the states that have been seen -/
structure BL (w0 W : World) (N : Nat) (P : List Ins) (s t : S3) (B F : Nat) (Mg : Nat) (K : DK) (S : List (List Nat)) (tb : Nat → Nat → Nat) (ra : Option Addr) (rn rc : Nat) (a8 : Option Addr) (st : List Nat) (c8 : Nat) (nm : Nat) (D : DataW Unit) (sn : List Nat) : Prop where
  dm : DM W N K P S tb
  s1 : ∃ l, SetM W N P.length s l
  s2 : ∃ l, SetM W N P.length t l
  row : ∃ xs, W.ownsRow N 33 1 (.slice ra rn rc) rn xs
  apt : Apt K s t ra
  stk : W.ownsRow N 3 1 (.slice a8 st.length c8) st.length (natsI st)
  sA : ∀ k, isAt a8 k → ¬ AllO K s t ra k
  seen : W.ownsMap Tryd.prog 3 unitElem Mg nm D
  hasD : ∀ v : Nat, v ≤ 1000000 → Maps.has D (.int .i64 (v : Nat)) = decide (v ∈ sn)
  mA : ¬ AllO K s t ra Mg
  mB : N ≤ Mg
  nml : nm ≤ sn.length
  low : Below N w0 W
  eB : K.B = B
  eF : K.F = F
section
variable {w0 W W' : World} {N : Nat} {P : List Ins} {s t : S3} {B F Mg : Nat} {K : DK} {S : List (List Nat)} {tb : Nat → Nat → Nat} {ra : Option Addr} {rn rc : Nat} {a8 : Option Addr} {st : List Nat} {c8 nm : Nat} {D : DataW Unit} {sn : List Nat}
theorem BL.all_lt (h : BL w0 W N P s t B F Mg K S tb ra rn rc a8 st c8 nm D sn) : ∀ k, AllO K s t ra k → N ≤ k ∧ k < W.heap.size := by
  obtain ⟨l1, h1⟩ := h.s1
  obtain ⟨l2, h2⟩ := h.s2
  obtain ⟨xs, hr⟩ := h.row
  rintro k (e | e | e | e)
  · exact h.dm.O_lt k e
  · exact h1.O_lt k e
  · exact h2.O_lt k e
  · exact ⟨own_block_ge hr k (own_isAt.2 e), own_block_lt hr k (own_isAt.2 e)⟩
theorem BL.new (h : BL w0 W N P s t B F Mg K S tb ra rn rc a8 st c8 nm D sn) (hb : Below W.heap.size W W') : BL w0 W' N P s t B F Mg K S tb ra rn rc a8 st c8 nm D sn := by
  obtain ⟨l1, h1⟩ := h.s1
  obtain ⟨l2, h2⟩ := h.s2
  obtain ⟨xs, hr⟩ := h.row
  exact { dm := h.dm.new hb, s1 := ⟨l1, h1.new hb⟩, s2 := ⟨l2, h2.new hb⟩, row := ⟨xs, own_below hr hb⟩, apt := h.apt, stk := own_below h.stk hb, sA := h.sA, seen := own_map_keep h.seen (hb.block _ h.seen.lt),
          hasD := h.hasD, mA := h.mA, mB := h.mB, nml := h.nml, low := h.low.trans (hb.mono h.dm.hN), eB := h.eB, eF := h.eF }
/-- a step has been made -/
theorem BL.step (h : BL w0 W N P s t B F Mg K S tb ra rn rc a8 st c8 nm D sn) {v b : Nat} {L : List Nat} {K' : DK} {ra' : Option Addr} {rn' rc' : Nat} (hr : RsOut W N K P S tb s t v b L ra W' K' ra' rn' rc') :
    BL w0 W' N P s t B F Mg K' (put S L) (setT tb v b (S.idxOf L)) ra' rn' rc' a8 st c8 nm D sn := by
  have hAll : ∀ k, AllO K' s t ra' k → AllO K s t ra k ∨ W.heap.size ≤ k := by
    rintro k (e | e | e | e)
    · exact hr.o k e
    · exact .inl (.inr (.inl e))
    · exact .inl (.inr (.inr (.inl e)))
    · exact hr.ro k e
  exact { dm := hr.dm, s1 := hr.s1, s2 := hr.s2, row := hr.row, apt := hr.apt, stk := fr_row hr.fr h.stk h.sA
          sA := fun k e e2 => by
            rcases hAll k e2 with g | g
            · exact h.sA k e g
            · have := own_block_lt h.stk k (own_isAt.2 e); omega
          seen := fr_map hr.fr h.seen h.mA, hasD := h.hasD
          mA := fun e => by
            rcases hAll _ e with g | g
            · exact h.mA g
            · have := h.seen.lt; omega
          mB := h.mB, nml := h.nml, low := h.low.trans (hr.fr.below (fun k hk e => by have := (h.all_lt k e).1; omega) h.dm.hN), eB := hr.eB.trans h.eB, eF := hr.eF.trans h.eF }
/-- the stack is another one -/
theorem BL.stack (h : BL w0 W N P s t B F Mg K S tb ra rn rc a8 st c8 nm D sn) {a' : Option Addr} {st' : List Nat} {c' : Nat} (hf : Fr (fun k => isAt a8 k) W W') (hr : W'.ownsRow N 3 1 (.slice a' st'.length c') st'.length (natsI st')) (ha : ∀ k, isAt a' k → isAt a8 k ∨ W.heap.size ≤ k) :
    BL w0 W' N P s t B F Mg K S tb ra rn rc a' st' c' nm D sn := by
  obtain ⟨l1, h1⟩ := h.s1
  obtain ⟨l2, h2⟩ := h.s2
  obtain ⟨xs, hx⟩ := h.row
  have hlow : ∀ k, k < N → ¬ isAt a8 k := fun k hk e => by have := own_block_ge h.stk k (own_isAt.2 e); omega
  exact { dm := h.dm.keep hf (fun k e e2 => h.sA k e2 (.inl e)) hlow, s1 := ⟨l1, h1.keep hf (fun k e e2 => h.sA k e2 (.inr (.inl e)))⟩, s2 := ⟨l2, h2.keep hf (fun k e e2 => h.sA k e2 (.inr (.inr (.inl e))))⟩
          row := ⟨xs, fr_row hf hx (fun k e e2 => h.sA k e2 (.inr (.inr (.inr e))))⟩, apt := h.apt, stk := hr
          sA := fun k e e2 => by
            rcases ha k e with g | g
            · exact h.sA k g e2
            · have := (h.all_lt k e2).2; omega
          seen := fr_map hf h.seen (map_row_ne h.seen h.stk), hasD := h.hasD, mA := h.mA, mB := h.mB, nml := h.nml, low := h.low.trans (hf.below hlow h.dm.hN), eB := h.eB, eF := h.eF }
/-- a state more has been seen -/
theorem BL.see (h : BL w0 W N P s t B F Mg K S tb ra rn rc a8 st c8 nm D sn) {x : Nat} (hx : x ≤ 1000000) (hm : W'.ownsMap Tryd.prog 3 unitElem Mg (nm + 1) (D.put (.int .i64 (x : Nat)) (.agg []))) (hg : W.grownBy W' (some Mg)) :
    BL w0 W' N P s t B F Mg K S tb ra rn rc a8 st c8 (nm + 1) (D.put (.int .i64 (x : Nat)) (.agg [])) (sn ++ [x]) := by
  obtain ⟨l1, h1⟩ := h.s1
  obtain ⟨l2, h2⟩ := h.s2
  obtain ⟨xs, hr⟩ := h.row
  have hf : Fr (fun k => k = Mg) W W' := Fr.of_grown hg (fun k e => by injection e with e; exact e.symm)
  have hlow : ∀ k, k < N → ¬ k = Mg := fun k hk e => by have := h.mB; omega
  have hne : ∀ k, AllO K s t ra k → ¬ k = Mg := fun k e g => h.mA (g ▸ e)
  exact { dm := h.dm.keep hf (fun k e => hne k (.inl e)) hlow, s1 := ⟨l1, h1.keep hf (fun k e => hne k (.inr (.inl e)))⟩, s2 := ⟨l2, h2.keep hf (fun k e => hne k (.inr (.inr (.inl e))))⟩
          row := ⟨xs, fr_row hf hr (fun k e => hne k (.inr (.inr (.inr e))))⟩, apt := h.apt, stk := fr_row hf h.stk (fun k e g => by
            subst g
            exact map_row_ne h.seen h.stk e)
          sA := h.sA, seen := hm
          hasD := fun v hv => by
            by_cases e : v = x
            · subst e
              rw [Maps.has_put_same h.seen.isMap (keyed_i.key (key_i v hx)), decide_eq_true (by simp)]
            · rw [Maps.has_put_other (fun g => e (by injection g with _ g; omega)), h.hasD v hv]
              congr 1
              simp [e]
          mA := h.mA, mB := h.mB, nml := by rw [List.length_append]; exact Nat.succ_le_succ h.nml
          low := h.low.trans (hf.below hlow h.dm.hN), eB := h.eB, eF := h.eF }
theorem getD_at {v : Nat} (h : v < S.length) : S.getD v [] = S[v] := by rw [List.getD_eq_getElem?_getD, List.getElem?_eq_getElem h]; rfl
/-- the automaton, or that it has too many states -/
def Built (w : World) (N : Nat) (P : List Ins) (eT : Value) (e : Ending) (w' : World) : Prop :=
  Below N w w' ∧ ((¬ Many P ∧ ∃ S tb K', e = .returned (.tuple #[.pointer (some ⟨K'.F, 0, none⟩), .nilIface]) ∧ DM w' N K' P S tb ∧ Full P S tb ∧ S.length ≤ 10000) ∨ (Many P ∧ e = .returned (.tuple #[.pointer none, eT])))
set_option maxRecDepth 100000 in
set_option maxHeartbeats 3200000 in
theorem build_any {w : World} {K0 : DK} {tb0 : Nat → Nat → Nat} {eT : Value} (h : DM w N K0 P [[]] tb0) (hz : ∀ v x, tb0 v x = 0) (hSn : Snd P) (hP0 : 0 < P.length) (hn : P.length ≤ 1000000000000) (h0 : st0 P ≠ []) (herr : w.cell? ⟨4, 0, none⟩ = some eT) (hN10 : 10 ≤ N) :
    Calls Tryd.prog 55 #[.pointer (some ⟨K0.B, 0, none⟩)] w (Built w N P eT) := by
  have HSn := Lib.hid hSn
  have HDM := Lib.hid h
  have HO0 := Lib.hid h.O_lt
  have HE := Lib.hid herr
  have CN := Lib.hid (fun W => newset_any P.length W hn)
  obtain ⟨b0, b1, b2, f0, f1⟩ := h.cells
  have hNw := h.hN
  have HA0 := Lib.hid (adds hSn (P.length + 1) [] 0 nums_nil hP0 (by simp))
  clear hSn h herr
  go_enter Tryd.func55, Tryd.ntmps55
  go_upto_region 2 with (first | (go_at_call 60; refine (CN.out _).mono ?_; rintro e w1 ⟨s, rfl, hs, hb1⟩; have HS1 := Lib.hid (And.intro hs hb1); have D1 := Lib.hid (HDM.out.new hb1); clear hs hb1 b0 b1 b2 f0 f1) | fail)
  obtain ⟨b0, b1, b2, f0, f1⟩ := D1.out.cells
  go_upto_region 3 with (first | (go_at_call 60; refine (CN.out _).mono ?_; rintro e w2 ⟨t, rfl, ht, hb2⟩; have HT2 := Lib.hid (And.intro ht hb2); have D2 := Lib.hid (D1.out.new hb2); clear ht hb2 b0 b1 b2 f0 f1) | fail)
  obtain ⟨b0, b1, b2, f0, f1⟩ := D2.out.cells
  have SM2 := Lib.hid ((HS1.out.1.base hNw).new HT2.out.2)
  have TM2 := Lib.hid (HT2.out.1.base (Nat.le_trans hNw HS1.out.2.size))
  have HSB := Lib.hid (fun k (e : s.O k) => And.intro (HS1.out.1.O_lt k e).1 (HS1.out.1.O_lt k e).2)
  have HTB := Lib.hid (fun k (e : t.O k) => (HT2.out.1.O_lt k e).1)
  have CA := Lib.hid (dadd_any HSn.out hn (fun e => by have h1 := (HSB.out _ e).1; have h2 := (HO0.out _ (.inr (.inl rfl))).2; omega) (P.length + 1) [] 0 w2 SM2.out D2.out.env nums_nil hP0 (by simp))
  go_upto_region 4 with (first | (go_at_call 61; refine CA.out.mono ?_; rintro e w3 ⟨rfl, h3, hf3⟩; have H3 := Lib.hid (And.intro h3 hf3); clear h3 hf3 CA b0 b1 b2 f0 f1) | fail)
  have hsK : ∀ k, s.O k → ¬ K0.O k := fun k e e2 => by have h1 := (HSB.out k e).1; have h2 := (HO0.out k e2).2; omega
  have htK : ∀ k, t.O k → ¬ K0.O k := fun k e e2 => by have h1 := HTB.out k e; have h2 := (HO0.out k e2).2; have h3 := HS1.out.2.size; omega
  have hst : ∀ k, s.O k → ¬ t.O k := fun k e e2 => by have h1 := (HSB.out k e).2; have h2 := HTB.out k e2; omega
  have hno : ∀ k, ¬ isAt none k := fun k ⟨ad, e, _⟩ => by cases e
  have D3 := Lib.hid (D2.out.keep H3.out.2 (fun k e e2 => hsK k e2 e) (fun k hk e => by have := (SM2.out.O_lt k e).1; omega))
  have TM3 := Lib.hid (TM2.out.keep H3.out.2 (fun k e e2 => hst k e2 e))
  have CH := Lib.hid (cached_any D3.out H3.out.1 HA0.out.nums rfl (World.ownsRow_nil _ N 33 1) (fun k e => absurd e (hno k)) (fun k e => absurd e (hno k)) hsK hn (by simp))
  have HAP := Lib.hid (And.intro hsK (And.intro htK hst))
  have HW3 := Lib.hid (show w.heap.size ≤ w1.heap.size ∧ w1.heap.size ≤ w2.heap.size ∧ w2.heap.size ≤ w3.heap.size from ⟨HS1.out.2.size, HT2.out.2.size, H3.out.2.size⟩)
  have HB3 := Lib.hid (show Below N w w3 from ((HS1.out.2.mono hNw).trans (HT2.out.2.mono (Nat.le_trans hNw HS1.out.2.size))).trans (H3.out.2.below (fun k hk e => by have := (SM2.out.O_lt k e).1; omega) D2.out.hN))
  have hix : [([] : List Nat)].idxOf (rmF P (addF P (P.length + 1) [] 0)) = 1 := by
    have e : rmF P (addF P (P.length + 1) [] 0) = st0 P := rfl
    rw [e, List.idxOf_eq_length (by simpa using h0)]
    rfl
  rw [hix] at CH
  clear hsK htK hst
  obtain ⟨b0, b1, b2, f0, f1⟩ := D3.out.cells
  clear b1 b2 f0 f1
  have hmm := @run_makeMap Tryd.prog
  go_upto_region 5 with (first | (go_at_call 62; refine CH.out.mono ?_; rintro e w4 ⟨K1, ra, rn, rc, rfl, h4⟩; have H4 := Lib.hid h4; clear h4 CH b0) | fail)
  go_upto_region 7 with fail
  refine name_world ?_
  intro w5 hw5
  have hput : put [([] : List Nat)] (rmF P (addF P (P.length + 1) [] 0)) = [[], st0 P] := by
    have e : rmF P (addF P (P.length + 1) [] 0) = st0 P := rfl
    rw [e, put_new (by simpa using h0)]
    rfl
  have B5 := Lib.hid (show BL w w5 N P s t K0.B K0.F (w4.heap.size + 1) K1 [[], st0 P] tb0 ra rn rc (some ⟨w4.heap.size, 0, none⟩) [1] 1 0 (.map []) [] from by
    have hb : Below w4.heap.size w4 w5 := by rw [hw5]; exact ((Below.refl _ _).alloc (Nat.le_refl _) _).alloc (by simp) _
    have hd := H4.out.dm
    rw [hput] at hd
    obtain ⟨xs, hx⟩ := H4.out.row
    have hfr : Fr (fun k => K0.O k ∨ isAt none k) w3 w4 := H4.out.fr
    have hs4 : ∀ k, (s.O k ∨ t.O k) → ¬ (K0.O k ∨ isAt none k) := fun k e e2 => by
      rcases e2 with e2 | e2
      · exact e.elim (fun e => HAP.out.1 k e e2) (fun e => HAP.out.2.1 k e e2)
      · exact hno k e2
    have hK1 : ∀ k, K1.O k → K0.O k ∨ w3.heap.size ≤ k := fun k e => by
      rcases H4.out.o k e with g | g | g
      · exact .inl g
      · exact absurd g (hno k)
      · exact .inr g
    have hra : ∀ k, isAt ra k → w3.heap.size ≤ k := fun k e => (H4.out.ro k e).resolve_left (hno k)
    have hall : ∀ k, AllO K1 s t ra k → k < w4.heap.size := fun k e => by
      rcases e with e | e | e | e
      · exact (hd.O_lt k e).2
      · exact Nat.lt_of_lt_of_le (H3.out.1.O_lt k e).2 hfr.size
      · exact Nat.lt_of_lt_of_le (TM3.out.O_lt k e).2 hfr.size
      · exact own_block_lt hx k (own_isAt.2 e)
    have hk5 : Blk w5 w4.heap.size 3 (natsI [1]) := by
      rw [hw5]
      exact (Blk.new w4 _ [.int .i64 1]).alloc _
    exact { dm := hd.new hb, s1 := ⟨_, (H3.out.1.keep hfr (fun k e => hs4 k (.inl e))).new hb⟩, s2 := ⟨_, (TM3.out.keep hfr (fun k e => hs4 k (.inr e))).new hb⟩, row := ⟨xs, own_below hx hb⟩
            apt := { st := HAP.out.2.2
                     sK := fun k e e2 => by
                      rcases hK1 k e2 with g | g
                      · exact HAP.out.1 k e g
                      · have := (H3.out.1.O_lt k e).2; omega
                     tK := fun k e e2 => by
                      rcases hK1 k e2 with g | g
                      · exact HAP.out.2.1 k e g
                      · have := (TM3.out.O_lt k e).2; omega
                     rK := H4.out.apart
                     rs := fun k e e2 => by have h1 := hra k e; have h2 := (H3.out.1.O_lt k e2).2; omega
                     rt := fun k e e2 => by have h1 := hra k e; have h2 := (TM3.out.O_lt k e2).2; omega }
            stk := row_mk (Nat.le_trans H3.out.1.sB (Nat.le_of_lt (Nat.lt_of_lt_of_le (H3.out.1.O_lt _ (.inl rfl)).2 hfr.size))) hk5 rfl (Nat.le_refl _) (by decide) rfl
            sA := fun k ⟨ad, e, e2⟩ e3 => by
              injection e with e
              subst e
              have := hall k e3
              simp only at e2
              omega
            seen := by
              rw [hw5]
              have := World.ownsMap_made (H := Unit) (w4.alloc (.cells #[.int .i64 1] 3)) Tryd.prog 3 unitElem
              simpa using this
            hasD := fun v hv => by rw [decide_eq_false (by simp)]; rfl
            mA := fun e => by have := hall _ e; omega
            mB := Nat.le_trans H3.out.1.sB (Nat.le_trans (Nat.le_of_lt (Nat.lt_of_lt_of_le (H3.out.1.O_lt _ (.inl rfl)).2 hfr.size)) (Nat.le_succ _))
            nml := Nat.le_refl _
            low := (HB3.out.trans (hfr.below (fun k hk e => e.elim (fun e => by have := (D3.out.O_lt k e).1; omega) (hno k)) D3.out.hN)).trans (hb.mono (Nat.le_trans D3.out.hN hfr.size)), eB := H4.out.eB, eF := H4.out.eF })
  clear hw5 hix hput H4
  have STS := Lib.hid (show Sts P [[], st0 P] from ⟨by simp [h0, Ne.symm h0], rfl, rfl, fun x hx => by
    simp only [List.mem_cons, List.not_mem_nil, or_false] at hx
    rcases hx with rfl | rfl
    · exact .inl rfl
    · exact .inr ⟨[], fun y hy => by simp at hy, rfl⟩⟩)
  have IN0 := Lib.hid (show InL P [[], st0 P] tb0 [] [] 1 0 from ⟨STS.out, Nat.le_refl _, by simp, fun v hv => by simp at hv, fun v hv => by simp at hv, by simp, fun v h1 h2 => by simp at h2; left; omega, fun x hx => by omega, fun x hx => hz 0 x⟩)
  have CP := Lib.hid (pop_any (w := w5) (N := N) (a := some ⟨w4.heap.size, 0, none⟩) (c := 1) [] 1 B5.out.stk (by simp))
  have hErrN := HE.out
  go_upto_region 9 with (first | (go_at_call 63; refine CP.out.mono ?_; rintro e w6 ⟨rfl, q6, rfl⟩; have B6 := Lib.hid (B5.out.new (below_drewN (Below.refl _ _) q6))) | fail)
  have B7 := Lib.hid (B6.out.stack (a' := some ⟨w4.heap.size, 0, none⟩) (st' := []) (c' := 1) (Fr.refl _ _) (by have := row_pop (n := 0) B6.out.stk; simpa [natsI] using this) (fun k e => .inl e))
  have HErr := Lib.hid (show ∀ W, Below N w W → W.cell? ⟨4, 0, none⟩ = some eT from fun W hb => (hb.cell (p := ⟨_, 0, none⟩) (show 4 < N from Nat.lt_of_lt_of_le (by decide) hN10)).trans HE.out)
  clear hErrN
  go_wp2_with fail
  go_loopg [7, 8, 10, 11, 12, 13, 14] (2 * 20000 + 1) (fun gm v7 v8 v10 _ _ _ _ W => ∃ (K : DK) (S : List (List Nat)) (tb : Nat → Nat → Nat) (ra : Option Addr) (rn rc : Nat) (a8 : Option Addr) (st : List Nat) (c8 nm : Nat) (D : DataW Unit) (sn : List Nat) (s0 : Nat), v7 = .slice ra rn rc ∧ v8 = .slice a8 st.length c8 ∧ v10 = .int .i64 s0 ∧ 2 * (20000 - sn.length) + st.length + (if s0 = 0 then 0 else 1) ≤ gm ∧ st.length ≤ sn.length ∧ Hid (BL w W N P s t K0.B K0.F (w4.heap.size + 1) K S tb ra rn rc a8 st c8 nm D sn ∧ S.length ≤ 10000 ∧ ((s0 = 0 ∧ OutL P S tb [] sn) ∨ InL P S tb st sn s0 0)))
  case atStart => exact ⟨K1, _, tb0, ra, rn, rc, some ⟨w4.heap.size, 0, none⟩, [], 1, 0, _, [], 1, rfl, rfl, rfl, by simp, by simp, Lib.hid ⟨B7.out, by simp, .inr IN0.out⟩⟩
  case round =>
    obtain ⟨K, S, tb, ra, rn, rc, a8, st, c8, nm, D, sn, s0, rfl, rfl, rfl, hgm, hss, H1⟩ := hrel
    by_cases hs0 : s0 = 0
    · subst hs0
      have HF := Lib.hid (show Full P S tb from by
        rcases H1.out.2.2 with ⟨-, g⟩ | g
        · exact g.full
        · have := g.s1; omega)
      obtain ⟨b0, b1, b2, f0, f1⟩ := H1.out.1.dm.cells
      rw [H1.out.1.eB] at b0
      clear b1 b2 f0 f1
      go_wp2
      go_ret2
      exact ⟨H1.out.1.low, .inl ⟨HF.out.not_many H1.out.2.1, S, tb, K, rfl, H1.out.1.dm, HF.out, H1.out.2.1⟩⟩
    · have hs1 : ((s0 : Int) == 0) = false := by rw [beq_eq_false_iff_ne]; omega
      have hs2 : ¬ ((s0 : Int) = 0) := by omega
      have IN1 := Lib.hid (show InL P S tb st sn s0 0 from by
        rcases H1.out.2.2 with ⟨g, -⟩ | g
        · exact absurd g hs0
        · exact g)
      rw [if_neg hs0] at hgm
      go_upto_region 10 with fail
      go_wp2_with fail
      go_loopw [7, 8, 11, 12, 13, 14] (fun v7 v8 v11 _ _ _ W => ∃ (K : DK) (S : List (List Nat)) (tb : Nat → Nat → Nat) (ra : Option Addr) (rn rc : Nat) (a8 : Option Addr) (st : List Nat) (c8 nm : Nat) (D : DataW Unit) (sn : List Nat) (b : Nat), v7 = .slice ra rn rc ∧ v8 = .slice a8 st.length c8 ∧ v11 = .int .i64 b ∧ b ≤ 256 ∧ 2 * (20000 - sn.length) + st.length + 1 ≤ gk ∧ st.length ≤ sn.length ∧ Hid (BL w W N P s t K0.B K0.F (w4.heap.size + 1) K S tb ra rn rc a8 st c8 nm D sn ∧ S.length ≤ 10000 ∧ InL P S tb st sn s0 b)) (fun _ _ v11 _ _ _ _ => 256 - (intOf v11).toNat)
      case atStart => exact ⟨K, S, tb, ra, rn, rc, a8, st, c8, nm, D, sn, 0, rfl, rfl, rfl, by omega, hgm, hss, Lib.hid ⟨H1.out.1, H1.out.2.1, IN1.out⟩⟩
      case round =>
        clear H1 IN1 hgm hss
        obtain ⟨K, S, tb, ra, rn, rc, a8, st, c8, nm, D, sn, b, rfl, rfl, rfl, hb, hgm, hss, H1⟩ := hrel
        by_cases hlt : b < 256
        · have hs0S := H1.out.2.2.sl
          obtain ⟨ls, hls⟩ := H1.out.1.s1
          obtain ⟨lt, hlt2⟩ := H1.out.1.s2
          obtain ⟨xs, hxs⟩ := H1.out.1.row
          have CR0 := runst_any HSn.out hP0 hn (by have := H1.out.2.1; omega) H1.out.1.dm H1.out.2.2.sts hls hlt2 hxs H1.out.1.apt s0 hs0S b hlt
          rw [H1.out.1.eB] at CR0
          have CR := Lib.hid CR0
          have INS := Lib.hid (fun (tb2 : Nat → Nat → Nat) => H1.out.2.2.step (tb2 := tb2) hlt (L := st1 P S[s0] b) (by rw [getD_at hs0S]))
          have HSTP := Lib.hid H1.out.1
          have hsnl := nodup_below _ _ H1.out.2.2.snd H1.out.2.2.snl
          have hS1 := Lib.hid H1.out.2.1
          have hstl : st.length ≤ 1000000 := by have := hS1.out; omega
          obtain ⟨L, hL⟩ : ∃ L, L = st1 P S[s0] b := ⟨_, rfl⟩
          rw [← hL] at CR INS
          have hpl := put_len S L
          have hixl : S.idxOf L < (put S L).length := by
            rw [← put_idx_me]
            exact List.idxOf_lt_length_iff.2 (put_me _ _)
          have hpl2 : (put S L).length ≤ 10001 := by have := hS1.out; omega
          have hsn1 : sn.length ≤ 10000 := by have := hS1.out; omega
          clear CR0 hls hlt2 hxs hL
          generalize hid : S.idxOf L = id at *
          have HID := Lib.hid hid
          have hbw : (b : Int) % 256 = b := by omega
          go_upto_region 15 with (first | (go_at_call 64; refine CR.out.mono ?_; rintro e w7 ⟨K7, ra7, rn7, rc7, rfl, h7⟩; have B7 := Lib.hid (HSTP.out.step h7); clear h7 CR) | fail)
          go_upto_if 73 with fail
          go_cut [8, 13, 14] (fun v8 _ _ wx => ∃ (a9 : Option Addr) (st2 : List Nat) (c9 nm2 : Nat) (D2 : DataW Unit) (sn2 : List Nat), v8 = .slice a9 st2.length c9 ∧ 2 * (20000 - sn2.length) + st2.length + 1 ≤ gk ∧ st2.length ≤ sn2.length ∧ Hid (st2 = (if id ≠ 0 ∧ id ∉ sn then st ++ [id] else st) ∧ sn2 = (if id ≠ 0 ∧ id ∉ sn then sn ++ [id] else sn) ∧ BL w wx N P s t K0.B K0.F (w4.heap.size + 1) K7 (put S L) (setT tb s0 b (S.idxOf L)) ra7 rn7 rc7 a9 st2 c9 nm2 D2 sn2))
          case first =>
            by_cases hi0 : id = 0
            · subst hi0
              go_wp2
              go_meet
              exact ⟨a8, st, c8, nm, D, sn, rfl, hgm, hss, Lib.hid ⟨by simp, by simp, B7.out⟩⟩
            · have hi1 : ((id : Int) == 0) = false := by rw [beq_eq_false_iff_ne]; omega
              have hi2 : ¬ ((id : Int) = 0) := by omega
              obtain ⟨bb, hbb⟩ : ∃ bb, bb = decide (id ∈ sn) := ⟨_, rfl⟩
              have hlook : ∀ W : World, W = w7 → (Instr.lookup 149 (.map (some (w4.heap.size + 1))) (.int .i64 (id : Nat)) true).run Tryd.prog W = .ok (.tuple #[.agg #[], .bool bb]) W := fun W e => by
                subst e
                obtain ⟨v, ps, hrun, hv⟩ := B7.out.seen.look_ok keyed_i Tryd.underlying149 (Tryd.zeroValue153 _) unitElem_mk (key_i id (by omega))
                rw [hrun, B7.out.hasD id (by omega), ← hbb, (unitElem_inv hv).1]
              have hl7 := hlook w7 rfl
              have HBB := Lib.hid hbb
              clear hlook hbb
              cases bb with
              | true =>
                have hm : id ∈ sn := of_decide_eq_true HBB.out.symm
                have hsz := Lib.hid (B7.out.new ((Below.refl _ _).alloc (Nat.le_refl _) (.cells #[] 153)))
                go_wp2
                go_meet
                exact ⟨a8, st, c8, nm, D, sn, rfl, hgm, hss, Lib.hid ⟨by simp [hm], by simp [hm], hsz.out⟩⟩
              | false =>
                have hm : id ∉ sn := of_decide_eq_false HBB.out.symm
                have B8 := Lib.hid (B7.out.new ((Below.refl _ _).alloc (Nat.le_refl _) (.cells #[] 153)))
                have HNM := Lib.hid hm
                have hnm : nm < maxLen := by
                  have h1 := B7.out.nml
                  unfold maxLen
                  omega
                clear hm
                go_wp2_with (first | (at_mapUpdate; refine wpList_mapUpdate_own _ rfl _ _ _ 149 rfl 3 153 keyed_i Tryd.underlying149 unitElem (w4.heap.size + 1) nm D rfl B8.out.seen hnm (.int .i64 (id : Nat)) (.agg #[]) (.int .i64 (id : Nat)) rfl (by first | rfl | (simp; done)) (key_i id (by omega)) (.agg []) [] unitElem_mk ?_; intro w9 hown9 hgrow9; have B9 := Lib.hid (B8.out.see (x := id) (by omega) hown9 hgrow9); clear hown9 hgrow9) | (go_at_call 65; refine (push_any (N := N) st id B9.out.stk hstl B9.out.dm.hN).mono ?_; rintro e w10 ⟨a10, c10, rfl, q1, q2, q3⟩; have B10 := Lib.hid (B9.out.stack q2 q1 q3); clear q1 q2 q3) | fail)
                go_meet
                exact ⟨a10, st ++ [id], c10, nm + 1, _, sn ++ [id], by rw [List.length_append]; rfl, by rw [List.length_append, List.length_append, List.length_singleton]; omega, by rw [List.length_append, List.length_append]; exact Nat.succ_le_succ hss, Lib.hid ⟨by rw [if_pos ⟨hi0, HNM.out⟩], by rw [if_pos ⟨hi0, HNM.out⟩], B10.out⟩⟩
          case rest =>
            rename World => wr
            obtain ⟨a9, st2, c9, nm2, D2, sn2, rfl, hgm2, hss2, H2⟩ := hcut
            obtain ⟨b0, b1, b2, f0, f1⟩ := H2.out.2.2.dm.cells
            rw [H2.out.2.2.eB] at b0
            have IN2 := Lib.hid (show InL P (put S L) (setT tb s0 b (S.idxOf L)) st2 sn2 s0 (b + 1) from by
              rw [H2.out.1, H2.out.2.1]
              exact INS.out (setT tb s0 b (S.idxOf L)) (by rw [setT_same]; exact HID.out) (setT_other _ _ _ _))
            have he := HErr.out wr H2.out.2.2.low
            clear b1 b2 f0 hpl
            obtain ⟨pn, hpn⟩ : ∃ pn, (put S L).length = pn := ⟨_, rfl⟩
            rw [hpn] at f1 hpl2 hixl
            go_upto_region 20 with fail
            by_cases hmany : 10000 < pn
            · have hg1 : decide ((10000 : Int) < (pn : Int)) = true := decide_eq_true (by omega)
              have hg2 : (10000 : Int) < (pn : Int) := by omega
              go_upto_region 21 with fail
              go_quiet (fail)
              go_wp2
              go_ret2
              exact ⟨below_drewN H2.out.2.2.low _, .inr ⟨IN2.out.sts.many (by omega), rfl⟩⟩
            · have hg1 : decide ((10000 : Int) < (pn : Int)) = false := decide_eq_false (by omega)
              have hg2 : ¬ (10000 : Int) < (pn : Int) := by omega
              go_wp2
              go_roundw
              case rel => exact ⟨_, _, _, _, _, ⟨K7, put S L, setT tb s0 b (S.idxOf L), ra7, rn7, rc7, rfl, a9, st2, c9, rfl, nm2, D2, sn2, b + 1, by go_num, by omega, hgm2, hss2, Lib.hid ⟨H2.out.2.2, by omega, IN2.out⟩⟩, rfl, rfl, rfl, rfl, rfl⟩
              case measure => simp [intOf]; omega
        · obtain rfl : b = 256 := by omega
          have OUT := Lib.hid H1.out.2.2.out
          go_upto_region 22 with fail
          rcases List.eq_nil_or_concat st with rfl | ⟨st', x, hcc⟩
          · go_wp2_with (first | (go_at_call 63; refine pop_none.mono ?_; rintro e w7 ⟨rfl, rfl⟩) | fail)
            go_roundg (gk - 1)
            case measure => simp at hgm; omega
            case rel => exact ⟨K, S, tb, ra, rn, rc, a8, [], c8, nm, D, sn, 0, rfl, rfl, rfl, by simp at hgm ⊢; omega, by simp, Lib.hid ⟨H1.out.1, H1.out.2.1, .inl ⟨rfl, OUT.out⟩⟩⟩
          · rw [List.concat_eq_append] at hcc
            subst hcc
            rw [List.length_append, List.length_singleton] at hgm hss
            have hx1 := (OUT.out.stl x (by simp)).1
            have hsl := nodup_below _ _ OUT.out.snd OUT.out.snl
            have CP2 := Lib.hid (pop_any (N := N) st' x (by have := H1.out.1.stk; rw [List.length_append, List.length_singleton] at this; exact this) (by have := H1.out.2.1; omega))
            rw [List.length_append, List.length_singleton]
            go_wp2_with (first | (go_at_call 63; refine CP2.out.mono ?_; rintro e w7 ⟨rfl, q7, rfl⟩; have B7 := Lib.hid ((H1.out.1.new (below_drewN (Below.refl _ _) q7)).stack (a' := a8) (st' := st') (c' := c8) (Fr.refl _ _) (by have := row_pop (n := st'.length) (by have g := (H1.out.1.new (below_drewN (Below.refl _ _) q7)).stk; rw [List.length_append, List.length_singleton] at g; exact g); simpa [natsI] using this) (fun k e => .inl e))) | fail)
            go_roundg (gk - 1)
            case measure => omega
            case rel => exact ⟨K, S, tb, ra, rn, rc, a8, st', c8, nm, D, sn, x, rfl, rfl, rfl, by rw [if_neg (by omega)]; omega, by omega, Lib.hid ⟨B7.out, H1.out.2.1, .inr OUT.out.pop⟩⟩
end
end Go.Proofs.YtbkpgfccghombaaDoor.rx

/-! The builder of an automaton, made new. Conditions: as stated. -/
namespace Go.Proofs.YtbkpgfccghombaaDoor.rx
open Go.ChangeShapes Go.WideShapes Go.ChangeAt Go.RowKit
set_option linter.unusedVariables false
set_option linter.unusedSimpArgs false

def tb0 : Nat → Nat → Nat := fun _ _ => 0
set_option maxRecDepth 100000 in
set_option maxHeartbeats 3200000 in
theorem newdb_any {w : World} {N : Nat} {P : List Ins} {va : Option Addr} {vc : Nat} (hp : PrM w N va P) (hN : N ≤ w.heap.size) :
    Calls Tryd.prog 54 #[.slice va P.length vc] w fun e w' => ∃ K, e = .returned (.pointer (some ⟨K.B, 0, none⟩)) ∧ DM w' N K P [[]] tb0 ∧ Below N w w' := by
  obtain ⟨i0, hi0, hz0, hz1, hz2⟩ := info_parts infoSt
  have HP := Lib.hid hp
  clear hp
  have hmk : ∀ (u : World), (Instr.makeSlice 134 (.int .i64 0) (.int .i64 16)).run Tryd.prog u = .ok (.slice (some ⟨u.heap.size, 0, none⟩) 0 16) (u.alloc (.cells (madeCells #[.slice none 0 0, .slice none 0 0, .bool false] 48) 142)) := fun u => by
    have h := run_make (P := Tryd.prog) u 134 142 i0 _ Tryd.underlying134 hi0 hz0 .i64 .i64 0 16 (by omega) (by omega) (by rw [hz2]; omega) (by omega)
    simpa [hz1, Value.cells] using h
  have hmm : ∀ (u : World), (Instr.makeMap 137 (some (.int .i64 1024))).run Tryd.prog u = .ok (.map (some u.heap.size)) (u.alloc (.map #[] 0)) := fun u => by
    simp [Instr.makeMap, asInt, asIntOf]
  go_enter Tryd.func54, Tryd.ntmps54
  go_upto_region 2 with fail
  refine name_world ?_
  intro w1 hw1
  have D1 := Lib.hid (show DG w1 N ⟨w.heap.size + 1 + 1 + 1, w.heap.size + 1, w.heap.size + 1 + 1, va, vc, some ⟨w.heap.size, 0, none⟩, 16, none, 0, 0, []⟩ P [] [[]] tb0 ∧ Below N w w1 from by
    have hb : Below N w w1 := by
      rw [hw1]
      exact ((((Below.refl _ _).alloc hN _).alloc (by simp; omega) _).alloc (by simp; omega) _).alloc (by simp; omega) _
    refine ⟨{ b := ?_, f := ?_, rl := rfl, row := ?_, nx := fun v hv => absurd hv (Nat.not_lt_zero _), nd := List.nodup_nil, nB := fun r hr => absurd hr (List.not_mem_nil), ins := fun v hv => absurd hv (Nat.not_lt_zero _), key := ⟨[], World.ownsRow_nil _ _ _ _⟩, map := ⟨.map [], 0, ?_, mapOk_new, by simp⟩, pr := HP.out.below hb, tz := fun _ _ _ => rfl, bB := by show N ≤ w.heap.size + 1 + 1 + 1; omega, fB := by show N ≤ w.heap.size + 1; omega, mB := by show N ≤ w.heap.size + 1 + 1; omega, hN := Nat.le_trans hN hb.size }, hb⟩
    · have h := Blk.new (((w.alloc (.cells (madeCells #[.slice none 0 0, .slice none 0 0, .bool false] 48) 142)).alloc (.cells #[.slice va P.length vc, .slice (some ⟨w.heap.size, 0, none⟩) 0 16] 136)).alloc (.map #[] 0)) 139 [.pointer (some ⟨w.heap.size + 1, 0, none⟩), .map (some (w.heap.size + 1 + 1)), .slice none 0 0]
      rw [hw1]
      simpa using h
    · have h := (((Blk.new (w.alloc (.cells (madeCells #[.slice none 0 0, .slice none 0 0, .bool false] 48) 142)) 136 [.slice va P.length vc, .slice (some ⟨w.heap.size, 0, none⟩) 0 16]).alloc (.map #[] 0)).alloc (.cells #[.pointer (some ⟨w.heap.size + 1, 0, none⟩), .map (some (w.heap.size + 1 + 1)), .slice none 0 0] 139))
      rw [hw1]
      simpa using h
    · have h := World.ownsRow_made (base := N) (e := 142) (size := 3) w (madeCells #[.slice none 0 0, .slice none 0 0, .bool false] 48) 16 hN (by unfold maxLen; omega) (size_madeCells _ _)
      rw [hw1]
      exact own_below h ((((Below.refl _ _).alloc (Nat.le_refl _) _).alloc (by simp) _).alloc (by simp) _)
    · rw [hw1]
      have h := World.ownsMap_made (H := Unit) ((w.alloc (.cells (madeCells #[.slice none 0 0, .slice none 0 0, .bool false] 48) 142)).alloc (.cells #[.slice va P.length vc, .slice (some ⟨w.heap.size, 0, none⟩) 0 16] 136)) Tryd.prog 9 (plainElem Tryd.prog 3)
      have h2 := own_map_keep h ((Below.refl _ _).alloc (Nat.le_refl _) (Obj.cells #[.pointer (some ⟨w.heap.size + 1, 0, none⟩), .map (some (w.heap.size + 1 + 1)), .slice none 0 0] 139) |>.block _ h.lt)
      simpa using h2)
  clear hw1
  have hmk2 : ∀ u : World, (Instr.makeSlice 140 (.int .i64 256) (.int .i64 256)).run Tryd.prog u = .ok (.slice (some ⟨u.heap.size, 0, none⟩) 256 256) (u.alloc (.cells next0.toArray 3)) := fun u => by
    obtain ⟨k0, kk0, kz0, kz1, kz2⟩ := info_parts (show (Tryd.prog.info? 3).map (fun i => (i.zero, i.size, i.bytes)) = some (some (.int .i64 0), 1, 8) by kernel_rfl)
    have h := run_make (P := Tryd.prog) u 140 3 k0 (.int .i64 0) Tryd.underlying140 kk0 kz0 .i64 .i64 256 256 (by omega) (by omega) (by rw [kz2]; omega) (by omega)
    have e : madeCells #[Value.int .i64 0] 256 = next0.toArray := by
      apply Array.toList_inj.1
      rw [toList_madeCells_one]
      rfl
    simpa [kz1, Value.cells, e] using h
  have D7 := Lib.hid ((D1.out.1.drewN 1).new ((Below.refl _ _).alloc (Nat.le_refl _) (.cells next0.toArray 3)))
  have p0 : w1.drew.cell? ⟨w.heap.size + 1 + 1 + 1, 0, none⟩ = some (.pointer (some ⟨w.heap.size + 1, 0, none⟩)) := D1.out.1.b.cell 0
  have p1 : w1.drew.cell? ⟨w.heap.size + 1, 1, none⟩ = some (.slice (some ⟨w.heap.size, 0, none⟩) 0 16) := D1.out.1.f.cell 1
  have q0 : (w1.drew.alloc (.cells next0.toArray 3)).cell? ⟨w.heap.size + 1 + 1 + 1, 0, none⟩ = some (.pointer (some ⟨w.heap.size + 1, 0, none⟩)) := D7.out.b.cell 0
  have q1 : (w1.drew.alloc (.cells next0.toArray 3)).cell? ⟨w.heap.size + 1, 1, none⟩ = some (.slice (some ⟨w.heap.size, 0, none⟩) 0 16) := D7.out.f.cell 1
  have D8 := Lib.hid (D7.out.new ((Below.refl _ _).alloc (Nat.le_refl _) (.cells #[.slice none 0 0, .slice (some ⟨w1.heap.size, 0, none⟩) 256 256, .bool false] 142)))
  have r0 : ((w1.drew.alloc (.cells next0.toArray 3)).alloc (.cells #[.slice none 0 0, .slice (some ⟨w1.heap.size, 0, none⟩) 256 256, .bool false] 142)).cell? ⟨w.heap.size + 1 + 1 + 1, 0, none⟩ = some (.pointer (some ⟨w.heap.size + 1, 0, none⟩)) := D8.out.b.cell 0
  have r1 : ((w1.drew.alloc (.cells next0.toArray 3)).alloc (.cells #[.slice none 0 0, .slice (some ⟨w1.heap.size, 0, none⟩) 256 256, .bool false] 142)).cell? ⟨w.heap.size + 1, 1, none⟩ = some (.slice (some ⟨w.heap.size, 0, none⟩) 0 16) := D8.out.f.cell 1
  have OWS := Lib.hid D7.out.row
  have HNS := Lib.hid D7.out.hN
  have bBs := row_ne D7.out.row D7.out.b (by decide)
  have fBs := row_ne D7.out.row D7.out.f (by decide)
  have HK0 := Lib.hid (fun (w7 : World) (hg : (w1.drew.alloc (.cells next0.toArray 3)).grownBy w7 (Value.slice (some ⟨w.heap.size, 0, none⟩) 0 16).ownBlock) => show w7.cell? ⟨w.heap.size + 1 + 1 + 1, 0, none⟩ = some (.pointer (some ⟨w.heap.size + 1, 0, none⟩)) from (D7.out.b.grown hg (fun e => bBs (own_isAt.1 e.symm))).cell 0)
  have HK1 := Lib.hid (fun (w7 : World) (hg : (w1.drew.alloc (.cells next0.toArray 3)).grownBy w7 (Value.slice (some ⟨w.heap.size, 0, none⟩) 0 16).ownBlock) => show w7.cell? ⟨w.heap.size + 1, 1, none⟩ = some (.slice (some ⟨w.heap.size, 0, none⟩) 0 16) from (D7.out.f.grown hg (fun e => fBs (own_isAt.1 e.symm))).cell 1)
  have HKF := Lib.hid (fun (w7 : World) (hg : (w1.drew.alloc (.cells next0.toArray 3)).grownBy w7 (Value.slice (some ⟨w.heap.size, 0, none⟩) 0 16).ownBlock) => show w7.frozen? ⟨w.heap.size + 1, 1, none⟩ = false from (D7.out.f.grown hg (fun e => fBs (own_isAt.1 e.symm))).frozen 1)
  clear bBs fBs
  have SZ := Lib.hid (show ∀ (W : World) (o : Obj), (W.drew.alloc o).heap.size = W.heap.size + 1 from fun W o => Array.size_push _)
  have mixed : Tryd.prog.follows .mixedOrders = true := by kernel_rfl
  refine wp_region_ks (fun W => W.cell? ⟨w.heap.size + 1 + 1 + 1, 0, none⟩ = some (.pointer (some ⟨w.heap.size + 1, 0, none⟩)) ∧ W.cell? ⟨w.heap.size + 1, 1, none⟩ = some (.slice (some ⟨w.heap.size, 0, none⟩) 0 16)) [17] (by kernel_rfl) ?_
  simp only [List.size_toArray, List.length_cons, List.length_nil, Nat.reduceAdd]
  refine ks_pure (i := 0) (oi := ?oi0) (v := ?v0) ?hi0 (by kernel_rfl) (by kernel_rfl) (by kernel_rfl) ?hQ0 ?hy0 ?rest0
  case hi0 =>
    simp only [List.getElem?_toArray, List.getElem?_cons_zero]
    rfl
  case hQ0 => exact fun _ _ _ h => h
  case hy0 =>
    refine yields_if (by rfl) (fun W hW => ?_)
    try dsimp only at hW
    go_simp
    first | done | with_reducible rfl
  simp only [Act.put, List.setIfInBounds_toArray, List.set_cons_zero, List.set_cons_succ]
  refine ks_pure (i := 1) (oi := ?oi1) (v := ?v1) ?hi1 (by kernel_rfl) (by kernel_rfl) (by kernel_rfl) ?hQ1 ?hy1 ?rest1
  case hi1 =>
    simp only [List.getElem?_toArray, List.getElem?_cons_succ, List.getElem?_cons_zero]
    rfl
  case hQ1 => exact fun _ _ _ h => h
  case hy1 =>
    refine yields_if (by rfl) (fun W hW => ?_)
    try dsimp only at hW
    go_simp
    first | done | with_reducible rfl
  simp only [Act.put, List.setIfInBounds_toArray, List.set_cons_zero, List.set_cons_succ]
  refine ks_pure (i := 2) (oi := ?oi2) (v := ?v2) ?hi2 (by kernel_rfl) (by kernel_rfl) (by kernel_rfl) ?hQ2 ?hy2 ?rest2
  case hi2 =>
    simp only [List.getElem?_toArray, List.getElem?_cons_succ, List.getElem?_cons_zero]
    rfl
  case hQ2 => exact fun _ _ _ h => h
  case hy2 =>
    refine yields_if (by rfl) (fun W hW => ?_)
    try dsimp only at hW
    go_simp
    first | done | with_reducible rfl
  simp only [Act.put, List.setIfInBounds_toArray, List.set_cons_zero, List.set_cons_succ]
  refine ks_take (i := 3) (oi := ?oi3) (v := ?v3) ?hi3 (by kernel_rfl) (by kernel_rfl) (by kernel_rfl) (by kernel_rfl) ?hQ3 ?hS3 ?hy3 ?rest3
  case hi3 =>
    simp only [List.getElem?_toArray, List.getElem?_cons_succ, List.getElem?_cons_zero]
    rfl
  case hQ3 => exact fun _ _ _ h => h
  case hS3 => exact ⟨p0, p1⟩
  case hy3 =>
    refine yields_if (by rfl) (fun W hW => ?_)
    try dsimp only at hW
    go_simp
    first | done | with_reducible rfl
  simp only [Act.put, List.setIfInBounds_toArray, List.set_cons_zero, List.set_cons_succ]
  refine ks_pure (i := 4) (oi := ?oi4) (v := ?v4) ?hi4 (by kernel_rfl) (by kernel_rfl) (by kernel_rfl) ?hQ4 ?hy4 ?rest4
  case hi4 =>
    simp only [List.getElem?_toArray, List.getElem?_cons_succ, List.getElem?_cons_zero]
    rfl
  case hQ4 => exact fun _ _ _ h => h
  case hy4 =>
    refine yields_if (by rfl) (fun W hW => ?_)
    try dsimp only at hW
    go_simp
    first | done | with_reducible rfl
  simp only [Act.put, List.setIfInBounds_toArray, List.set_cons_zero, List.set_cons_succ]
  refine ks_pure (i := 5) (oi := ?oi5) (v := ?v5) ?hi5 (by kernel_rfl) (by kernel_rfl) (by kernel_rfl) ?hQ5 ?hy5 ?rest5
  case hi5 =>
    simp only [List.getElem?_toArray, List.getElem?_cons_succ, List.getElem?_cons_zero]
    rfl
  case hQ5 => exact fun _ _ _ h => h
  case hy5 =>
    refine yields_if (by rfl) (fun W hW => ?_)
    try dsimp only at hW
    go_simp
    first | done | with_reducible rfl
  simp only [Act.put, List.setIfInBounds_toArray, List.set_cons_zero, List.set_cons_succ]
  refine ks_pure (i := 6) (oi := ?oi6) (v := ?v6) ?hi6 (by kernel_rfl) (by kernel_rfl) (by kernel_rfl) ?hQ6 ?hy6 ?rest6
  case hi6 =>
    simp only [List.getElem?_toArray, List.getElem?_cons_succ, List.getElem?_cons_zero]
    rfl
  case hQ6 => exact fun _ _ _ h => h
  case hy6 =>
    refine yields_if (by rfl) (fun W hW => ?_)
    try dsimp only at hW
    go_simp
    first | done | with_reducible rfl
  simp only [Act.put, List.setIfInBounds_toArray, List.set_cons_zero, List.set_cons_succ]
  refine ks_take (i := 7) (oi := ?oi7) (v := ?v7) ?hi7 (by kernel_rfl) (by kernel_rfl) (by kernel_rfl) (by kernel_rfl) ?hQ7 ?hS7 ?hy7 ?rest7
  case hi7 =>
    simp only [List.getElem?_toArray, List.getElem?_cons_succ, List.getElem?_cons_zero]
    rfl
  case hQ7 => exact fun _ _ _ h => h
  case hS7 => exact ⟨p0, p1⟩
  case hy7 =>
    refine yields_if (by rfl) (fun W hW => ?_)
    try dsimp only at hW
    go_simp
    first | done | with_reducible rfl
  simp only [Act.put, List.setIfInBounds_toArray, List.set_cons_zero, List.set_cons_succ]
  refine ks_pure (i := 8) (oi := ?oi8) (v := ?v8) ?hi8 (by kernel_rfl) (by kernel_rfl) (by kernel_rfl) ?hQ8 ?hy8 ?rest8
  case hi8 =>
    simp only [List.getElem?_toArray, List.getElem?_cons_succ, List.getElem?_cons_zero]
    rfl
  case hQ8 => exact fun _ _ _ h => h
  case hy8 =>
    refine yields_if (by rfl) (fun W hW => ?_)
    try dsimp only at hW
    go_simp
    first | done | with_reducible rfl
  simp only [Act.put, List.setIfInBounds_toArray, List.set_cons_zero, List.set_cons_succ]
  refine ks_pure (i := 9) (oi := ?oi9) (v := ?v9) ?hi9 (by kernel_rfl) (by kernel_rfl) (by kernel_rfl) ?hQ9 ?hy9 ?rest9
  case hi9 =>
    simp only [List.getElem?_toArray, List.getElem?_cons_succ, List.getElem?_cons_zero]
    rfl
  case hQ9 => exact fun _ _ _ h => h
  case hy9 =>
    refine yields_if (by rfl) (fun W hW => ?_)
    try dsimp only at hW
    go_simp
    first | done | with_reducible rfl
  simp only [Act.put, List.setIfInBounds_toArray, List.set_cons_zero, List.set_cons_succ]
  refine ks_take (i := 10) (oi := ?oi10) (v := ?v10) ?hi10 (by kernel_rfl) (by kernel_rfl) (by kernel_rfl) (by kernel_rfl) ?hQ10 ?hS10 ?hy10 ?rest10
  case hi10 =>
    simp only [List.getElem?_toArray, List.getElem?_cons_succ, List.getElem?_cons_zero]
    rfl
  case hQ10 => exact fun _ _ _ h => h
  case hS10 => exact ⟨p0, p1⟩
  case hy10 =>
    refine yields_if (by rfl) (fun W hW => ?_)
    try dsimp only at hW
    go_simp
    first | done | with_reducible rfl
  simp only [Act.put, List.setIfInBounds_toArray, List.set_cons_zero, List.set_cons_succ]
  refine ks_one (i := 11) (o := ?o11) ?ho11 (by kernel_rfl) (fun K hK => ?_)
  case ho11 =>
    simp only [List.getElem?_toArray, List.getElem?_cons_succ, List.getElem?_cons_zero]
    rfl
  go_simp
  try rw [hmk2]
  go_simp
  refine hK _ _ (by intro _ _; exact ⟨q0, q1⟩) ?_
  clear hK K
  try simp only [Act.put, List.setIfInBounds_toArray, List.set_cons_zero, List.set_cons_succ]
  refine ks_pure (i := 12) (oi := ?oi12) (v := ?v12) ?hi12 (by kernel_rfl) (by kernel_rfl) (by kernel_rfl) ?hQ12 ?hy12 ?rest12
  case hi12 =>
    simp only [List.getElem?_toArray, List.getElem?_cons_succ, List.getElem?_cons_zero]
    rfl
  case hQ12 => exact fun _ _ _ h => h
  case hy12 =>
    refine yields_if (by rfl) (fun W hW => ?_)
    try dsimp only at hW
    go_simp
    first | done | with_reducible rfl
  simp only [Act.put, List.setIfInBounds_toArray, List.set_cons_zero, List.set_cons_succ]
  refine ks_one (i := 13) (o := ?o13) ?ho13 (by kernel_rfl) (fun K hK => ?_)
  case ho13 =>
    simp only [List.getElem?_toArray, List.getElem?_cons_succ, List.getElem?_cons_zero]
    rfl
  go_simp
  refine hK _ _ (by intro _ _; exact ⟨r0, r1⟩) ?_
  clear hK K
  try simp only [Act.put, List.setIfInBounds_toArray, List.set_cons_zero, List.set_cons_succ]
  refine ks_one (i := 14) (o := ?o14) ?ho14 (by kernel_rfl) (fun K9 hK => ?_)
  case ho14 =>
    simp only [List.getElem?_toArray, List.getElem?_cons_succ, List.getElem?_cons_zero]
    rfl
  refine step_append1 ((w1.drew).alloc (.cells next0.toArray 3)) #[.slice none 0 0, .slice (some ⟨w1.heap.size, 0, none⟩) 256 256, .bool false] rfl (.tmp 21) (.tmp 24) 134 rfl N 142 i0 _ 3 56 Tryd.underlying134 hi0 hz0 hz1 hz2 rfl (by omega) rfl (.slice (some ⟨w.heap.size, 0, none⟩) 0 16) 0 _ rfl OWS.out (w1.heap.size + 1) (SZ.out _ _) rfl (by simp [Value.oneCell']) (by unfold maxLen; omega) (by omega) HNS.out ?_
  intro g3 c3 w7 ho7 hg7 hat7
  have H7 := Lib.hid (And.intro ho7 (And.intro hg7 hat7))
  have t0 := HK0.out _ hg7
  have t1 := HK1.out _ hg7
  have tf := HKF.out _ hg7
  clear ho7 hg7 hat7
  refine hK _ _ (by intro _ _; exact ⟨t0, t1⟩) ?_
  clear hK K9
  try simp only [Act.put, List.setIfInBounds_toArray, List.set_cons_zero, List.set_cons_succ]
  refine ks_pure (i := 15) (oi := ?oi15) (v := ?v15) ?hi15 (by kernel_rfl) (by kernel_rfl) (by kernel_rfl) ?hQ15 ?hy15 ?rest15
  case hi15 =>
    simp only [List.getElem?_toArray, List.getElem?_cons_succ, List.getElem?_cons_zero]
    rfl
  case hQ15 => exact fun _ _ _ h => h
  case hy15 =>
    refine yields_if (by rfl) (fun W hW => ?_)
    try dsimp only at hW
    go_simp
    first | done | with_reducible rfl
  simp only [Act.put, List.setIfInBounds_toArray, List.set_cons_zero, List.set_cons_succ]
  refine ks_pure (i := 16) (oi := ?oi16) (v := ?v16) ?hi16 (by kernel_rfl) (by kernel_rfl) (by kernel_rfl) ?hQ16 ?hy16 ?rest16
  case hi16 =>
    simp only [List.getElem?_toArray, List.getElem?_cons_succ, List.getElem?_cons_zero]
    rfl
  case hQ16 => exact fun _ _ _ h => h
  case hy16 =>
    refine yields_if (by rfl) (fun W hW => ?_)
    try dsimp only at hW
    go_simp
    first | done | with_reducible rfl
  simp only [Act.put, List.setIfInBounds_toArray, List.set_cons_zero, List.set_cons_succ]
  refine ks_one (i := 17) (o := ?o17) ?ho17 (by kernel_rfl) (fun K hK => ?_)
  case ho17 =>
    simp only [List.getElem?_toArray, List.getElem?_cons_succ, List.getElem?_cons_zero]
    rfl
  go_simp
  refine hK _ _ (by simp) ?_
  clear hK K
  try simp only [Act.put, List.setIfInBounds_toArray, List.set_cons_zero, List.set_cons_succ]
  refine ks_done (by kernel_rfl) ?_ _
  simp only [Exit.then]
  rename_i hKK
  refine hKK _ _ ?_
  clear hKK
  refine name_world ?_
  intro w8 hw8
  have D9 := Lib.hid (show DG w8 N ⟨w.heap.size + 1 + 1 + 1, w.heap.size + 1, w.heap.size + 1 + 1, va, vc, some ⟨g3, 0, none⟩, c3, none, 0, 0, [⟨none, 0, w1.heap.size⟩]⟩ P [[]] [[]] tb0 ∧ Below N w w8 from by
    have h1 := D1.out.1.drewN 1
    have h2 := h1.push (L := []) (a8 := none) (c8 := 0) (g := g3) (c := c3) (w3 := w7) (World.ownsRow_nil _ _ _ _) H7.out.1 H7.out.2.1
    rw [hw8]
    refine ⟨h2.1, D1.out.2.trans (Below.trans (show Below N w1 (w1.drewN 1) from below_drewN (Below.refl _ _) 1) (h2.2.below (fun k hk e => ?_) h1.hN))⟩
    rcases e with ⟨ad, e, e2⟩ | rfl
    · injection e with e
      subst e
      simp only at e2
      omega
    · simp only at hk
      omega)
  clear hw8 t0 t1 tf p0 p1 q0 q1 r0 r1 HK0 HK1 HKF OWS HNS D8 D7 H7 hmk2
  go_wp2
  go_ret
  exact ⟨_, rfl, D9.out.1, D9.out.2⟩
end Go.Proofs.YtbkpgfccghombaaDoor.rx

/-! Small expressions have few states; limits. Plain. Conditions: none. -/
namespace Go.Proofs.YtbkpgfccghombaaDoor.rx
set_option linter.unusedVariables false

/-- how many of them match or take a byte -/
def rgN (l : List Ins) : Nat := l.countP fun x => rmB (some x)
theorem rgN_app (a b : List Ins) : rgN (a ++ b) = rgN a + rgN b := List.countP_append
theorem rgN_sp (x y : Nat) (l : List Ins) : rgN (.sp x y :: l) = rgN l := by simp [rgN, rmB]
theorem rgN_jp (x : Nat) (l : List Ins) : rgN (.jp x :: l) = rgN l := by simp [rgN, rmB]
theorem rgN_nil : rgN [] = 0 := rfl
theorem rgN_rg (l : List (Int × Int)) : rgN (l.map fun x => Ins.rg x.1 x.2) ≤ l.length := by
  unfold rgN
  exact Nat.le_trans List.countP_le_length (by simp)
section
variable {α : Type} {f : Nat → α → List Ins} {g : α → Nat}
theorem rgN_cat : ∀ (l : List α) (b : Nat), (∀ s ∈ l, ∀ b, rgN (f b s) ≤ g s) → rgN (catC f b l) ≤ (l.map g).sum
  | [], _, _ => by simp [catC, rgN]
  | s :: r, b, h => by
    have h1 := h s (by simp) b
    have h2 := rgN_cat r (b + (f b s).length) (fun t ht => h t (by simp [ht]))
    simp only [catC, rgN_app, List.map_cons, List.sum_cons]
    omega
theorem rgN_alt (e : Nat) : ∀ (l : List α) (b : Nat), (∀ s ∈ l, ∀ b, rgN (f b s) ≤ g s) → rgN (altC f e b l) ≤ (l.map g).sum
  | [], _, _ => by simp [altC, rgN]
  | [s], b, h => by
    have h1 := h s (by simp) b
    simpa [altC] using h1
  | s :: t :: r, b, h => by
    have h1 := h s (by simp) (b + 1)
    have h2 := rgN_alt e (t :: r) (b + 2 + (f (b + 1) s).length) (fun t ht => h t (by simp at ht; simp; exact .inr ht))
    simp only [altC, rgN_app, rgN_sp, rgN_jp, List.map_cons, List.sum_cons] at h2 ⊢
    omega
theorem rgN_opt (e : Nat) (s : α) : ∀ (n b : Nat), (∀ b, rgN (f b s) ≤ g s) → rgN (optC f e s b n) ≤ n * g s
  | 0, _, _ => by simp [optC, rgN]
  | n + 1, b, h => by
    have h1 := h (b + 1)
    have h2 := rgN_opt e s n (b + 1 + (f (b + 1) s).length) h
    simp only [optC, rgN_app, rgN_sp]
    rw [Nat.succ_mul]
    omega
theorem rgN_rep (s : α) (b : Nat) (mn mx : Int) (h : ∀ b, rgN (f b s) ≤ g s) (h0 : 0 ≤ mn) (h1 : mx = -1 ∨ mn ≤ mx) : rgN (repC f b s mn mx) ≤ g s * (max mn mx + 1).toNat := by
  have k1 := rgN_cat (f := f) (g := g) (List.replicate mn.toNat s) b (fun t ht b => by rw [(List.mem_replicate.1 ht).2]; exact h b)
  rw [List.map_replicate, List.sum_replicate_nat] at k1
  unfold repC
  rw [rgN_app]
  by_cases c : mx < 0
  · rw [if_pos c]
    have k2 := h (b + (catC f b (List.replicate mn.toNat s)).length + 1)
    simp only [starC, rgN_sp, rgN_app, rgN_jp, rgN_nil]
    have e : (max mn mx + 1).toNat = mn.toNat + 1 := by omega
    rw [e, Nat.mul_succ, Nat.mul_comm]
    omega
  · rw [if_neg c]
    have k2 := rgN_opt (f := f) (g := g) (b + (catC f b (List.replicate mn.toNat s)).length + (optC f 0 s (b + (catC f b (List.replicate mn.toNat s)).length) (mx - mn).toNat).length) s (mx - mn).toNat (b + (catC f b (List.replicate mn.toNat s)).length) h
    unfold optE
    have e : (max mn mx + 1).toNat = mn.toNat + (mx - mn).toNat + 1 := by omega
    rw [e, Nat.mul_succ, Nat.mul_add, Nat.mul_comm (g s), Nat.mul_comm (g s)]
    omega
end
theorem rgN_lit (rs : List Int) : rgN (litC rs) ≤ (rs.flatMap ub).length := by
  unfold rgN litC
  refine Nat.le_trans List.countP_le_length ?_
  simp [List.length_flatMap]
theorem rgN_cls (l : List Int) (h : smCls l) (b : Nat) : rgN (clsC b (pairs l)) ≤ (pairs l).length := by
  unfold clsC altE
  refine Nat.le_trans (rgN_alt (f := rangeC) (g := fun _ => 1) _ (pairs l) b (fun q hq b => ?_)) (by rw [List.map_const', List.sum_replicate_nat]; omega)
  obtain ⟨g1, g2, g3⟩ := h.2 q hq
  unfold rangeC
  rw [pieces_small g1 g2 g3]
  have := rgN_rg [q]
  simpa [altE, altC, pieceC, sq, g3] using this
theorem comp_rg : ∀ (d : Nat) (r : Rx) (b : Nat), wf 3 d r → plc d r ≤ 5 → rgN (comp d b r) ≤ plc d r
  | 0, _, _, h, _ => h.elim
  | d + 1, .nd op rs mn mx subs, b, h, hp => by
    have hsm := plc_small (d + 1) _ h hp
    rcases h with ⟨rfl, rfl, rfl⟩ | ⟨rfl, rfl, h1, h2, h3⟩ | ⟨h1, rfl⟩ | ⟨h1, rfl, h2, h3, h4⟩ | ⟨h1, rfl, h2, s, rfl, h3⟩
    · simp [comp, rgN]
    · have := rgN_lit rs
      simpa [comp, plc] using this
    · have e : plc (d + 1) (.nd op rs mn mx []) = plcR (pairs (rngs op rs)) := by rcases h1 with ⟨rfl, -⟩ | ⟨rfl | rfl, -⟩ <;> simp [plc]
      have e2 : comp (d + 1) b (.nd op rs mn mx []) = clsC b (pairs (rngs op rs)) := by rcases h1 with ⟨rfl, -⟩ | ⟨rfl | rfl, -⟩ <;> simp [comp]
      rw [e, e2]
      exact Nat.le_trans (rgN_cls _ (hsm.1 (by rcases h1 with ⟨h, -⟩ | ⟨h | h, -⟩ <;> omega)) b) (plcR_ge _)
    · have ih : ∀ s ∈ subs, ∀ b, rgN (comp d b s) ≤ plc d s := fun s hs b => comp_rg d s b (h4 s hs) (by
        have e : plc (d + 1) (.nd op [] mn mx subs) = (subs.map (plc d)).sum := by rcases h1 with rfl | rfl <;> simp [plc]
        have := sum_ge (plc d) subs s hs
        omega)
      rcases h1 with rfl | rfl
      · have := rgN_cat (f := comp d) subs b ih
        simpa [comp, plc] using this
      · have := rgN_alt (f := comp d) (b + (altC (comp d) 0 b subs).length) subs b ih
        simpa [comp, plc, altE] using this
    · have ih : plc d s ≤ 5 → ∀ b, rgN (comp d b s) ≤ plc d s := fun h5 b => comp_rg d s b h3 h5
      rcases h1 with rfl | rfl | rfl | rfl | rfl
      · simp [plc] at hp
        simpa [comp, plc] using ih hp b
      · simp [plc] at hp
        have := ih hp (b + 1)
        simp [comp, plc, starC, rgN_sp, rgN_app, rgN_jp, rgN_nil]
        omega
      · simp [plc] at hp
        have := ih (by omega) b
        simp [comp, plc, plusC, rgN_sp, rgN_app, rgN_nil]
        omega
      · simp [plc] at hp
        have := ih hp (b + 1)
        simp [comp, plc, questC, rgN_sp]
        omega
      · obtain ⟨g1, g2, g3⟩ := h2 rfl
        have h7 : plc (d + 1) (.nd 17 [] mn mx [s]) = plc d s * (max mn mx + 1).toNat := by simp [plc]
        have h8 : comp (d + 1) b (.nd 17 [] mn mx [s]) = repC (comp d) b s mn mx := by simp [comp]
        rw [h7] at hp ⊢
        rw [h8]
        have h9 : plc d s * 1 ≤ plc d s * (max mn mx + 1).toNat := Nat.mul_le_mul_left _ (by omega)
        exact rgN_rep s b mn mx (ih (by omega)) g1 (g3.imp id (fun h => h.1))
/-- the places of a list where it holds -/
theorem rg_places : ∀ (n : Nat) (P : List Ins), P.length = n → ((List.range P.length).filter fun i => rmB P[i]?).length = rgN P
  | 0, P, h => by
    obtain rfl := List.length_eq_zero_iff.1 h
    rfl
  | n + 1, P, h => by
    rcases List.eq_nil_or_concat P with rfl | ⟨Q, x, hcc⟩
    · simp at h
    · rw [List.concat_eq_append] at hcc
      subst hcc
      rw [List.length_append, List.length_singleton] at h
      have ih := rg_places n Q (by omega)
      rw [rgN_app, List.length_append, List.length_singleton, List.range_succ, List.filter_append, List.length_append]
      have e : (List.range Q.length).filter (fun i => rmB (Q ++ [x])[i]?) = (List.range Q.length).filter (fun i => rmB Q[i]?) := by
        refine List.filter_congr fun i hi => ?_
        rw [List.mem_range] at hi
        rw [List.getElem?_append_left hi]
      rw [e, ih]
      congr 1
      unfold rgN
      simp only [List.filter_cons, List.filter_nil, List.getElem?_concat_length, List.countP_cons, List.countP_nil]
      split <;> rfl
theorem few_small (r : Rx) (h : wf 3 5 r) (hp : plc 5 r ≤ 5) : ¬ Many (comp 5 0 r ++ [Ins.mt]) := by
  refine few_states (prg_snd h) (by simp) ((List.range (comp 5 0 r ++ [Ins.mt]).length).filter fun i => rmB (comp 5 0 r ++ [Ins.mt])[i]?) ?_ ?_
  · rw [rg_places _ _ rfl, rgN_app]
    have h1 := comp_rg 5 r 0 h hp
    have h2 : rgN [Ins.mt] = 1 := rfl
    omega
  · intro i hi hr
    rw [List.mem_filter, List.mem_range]
    exact ⟨hi, hr⟩
/-! a greater limit -/
section
variable {α : Type} {f : Nat → α → List Ins} {F F' : Nat → α → Prop}
theorem catF_mono : ∀ (l : List α) (b : Nat), (∀ s ∈ l, ∀ b, F b s → F' b s) → catF f F b l → catF f F' b l
  | [], _, _, _ => trivial
  | s :: r, b, h, hc => ⟨h s (by simp) b hc.1, catF_mono r _ (fun t ht => h t (by simp [ht])) hc.2⟩
theorem altF_mono : ∀ (l : List α) (b : Nat), (∀ s ∈ l, ∀ b, F b s → F' b s) → altF f F b l → altF f F' b l
  | [], _, _, _ => trivial
  | [s], b, h, hc => h s (by simp) b hc
  | s :: t :: r, b, h, hc => ⟨h s (by simp) (b + 1) hc.1, altF_mono (t :: r) _ (fun t ht => h t (by simp at ht; simp; exact .inr ht)) hc.2⟩
theorem optF_mono (s : α) : ∀ (n b : Nat), (∀ b, F b s → F' b s) → optF f F b s n → optF f F' b s n
  | 0, _, _, _ => trivial
  | n + 1, b, h, hc => ⟨h _ hc.1, optF_mono s n _ h hc.2⟩
end
theorem fits_mono {lim lim2 : Nat} (hl : lim ≤ lim2) : ∀ (d : Nat) (r : Rx) (b : Nat), fits lim d b r → fits lim2 d b r
  | 0, _, _, _ => trivial
  | d + 1, .nd op rs mn mx subs, b, h => by
    have ih : ∀ s ∈ subs, ∀ b, fits lim d b s → fits lim2 d b s := fun s _ b hb => fits_mono hl d s b hb
    have ih2 : ∀ s b, fits lim d b s → fits lim2 d b s := fun s b hb => fits_mono hl d s b hb
    unfold fits at h ⊢
    by_cases c1 : op = 2 ∨ op = 4 ∨ op = 5 ∨ op = 6
    · rw [if_pos c1]; trivial
    rw [if_neg c1] at h ⊢
    by_cases c2 : op = 3
    · rw [if_pos c2] at h ⊢
      omega
    rw [if_neg c2] at h ⊢
    by_cases c3 : op = 18
    · rw [if_pos c3] at h ⊢
      exact catF_mono subs b ih h
    rw [if_neg c3] at h ⊢
    by_cases c4 : op = 19
    · rw [if_pos c4] at h ⊢
      exact ⟨altF_mono subs b ih h.1, Nat.le_trans h.2 hl⟩
    rw [if_neg c4] at h ⊢
    match subs, ih with
    | [], _ => trivial
    | s :: _, ih =>
      have ih := ih s (by simp)
      simp only at h ⊢
      by_cases c5 : op = 13
      · rw [if_pos c5] at h ⊢
        exact ih b h
      rw [if_neg c5] at h ⊢
      by_cases c6 : op = 14
      · rw [if_pos c6] at h ⊢
        exact ⟨ih _ h.1, Nat.le_trans h.2 hl⟩
      rw [if_neg c6] at h ⊢
      by_cases c7 : op = 15
      · rw [if_pos c7] at h ⊢
        exact ⟨ih _ h.1, Nat.le_trans h.2 hl⟩
      rw [if_neg c7] at h ⊢
      by_cases c8 : op = 16
      · rw [if_pos c8] at h ⊢
        exact ⟨ih _ h.1, Nat.le_trans h.2 hl⟩
      rw [if_neg c8] at h ⊢
      obtain ⟨h1, h2, h3⟩ := h
      refine ⟨catF_mono _ b (fun t _ b => ih2 t b) h1, ?_, Nat.le_trans h3 hl⟩
      by_cases c9 : mx < 0
      · rw [if_pos c9] at h2 ⊢
        exact ih _ h2
      · rw [if_neg c9] at h2 ⊢
        exact optF_mono s _ _ ih h2
/-! so many letters -/
def letr : Rx := .nd 3 [97] 0 0 []
def lets (n : Nat) : Rx := .nd 18 [] 0 0 (List.replicate n letr)
theorem letr_comp (d b : Nat) : comp (d + 1) b letr = [.rg 97 97] := by
  simp [letr, comp]
  decide
theorem lets_cat (lim d : Nat) : ∀ (n b : Nat), catF (comp (d + 1)) (fits lim (d + 1)) b (List.replicate n letr) ↔ n = 0 ∨ (b + n) * 40 ≤ lim
  | 0, _ => by simp [catF]
  | n + 1, b => by
    rw [List.replicate_succ]
    simp only [catF, letr_comp]
    rw [lets_cat lim d n]
    have e : fits lim (d + 1) b letr ↔ (b + 1) * 40 ≤ lim := by
      have h := letr_comp d b
      simp only [letr, comp] at h
      simp [letr, fits]
      simp at h
      rw [h]
      simp
    rw [e]
    simp only [List.length_cons, List.length_nil]
    omega
theorem lets_fits (lim d n : Nat) (hn : 0 < n) : fits lim (d + 2) 0 (lets n) ↔ n * 40 ≤ lim := by
  have e : fits lim (d + 2) 0 (lets n) = catF (comp (d + 1)) (fits lim (d + 1)) 0 (List.replicate n letr) := by simp [lets, fits]
  rw [e, lets_cat]
  omega
end Go.Proofs.YtbkpgfccghombaaDoor.rx

/-! An expression's automaton, made: NewParsedWithLimit; what is wrong, as a number. Conditions: as stated. -/
namespace Go.Proofs.YtbkpgfccghombaaDoor.rx
open Go.ChangeShapes Go.WideShapes Go.ChangeAt Go.RowKit
set_option linter.unusedVariables false
set_option linter.unusedSimpArgs false

set_option maxRecDepth 100000 in
theorem wrong_nil {w : World} : Calls Tryd.prog 33 #[.nilIface] w fun e w' => e = .returned (.int .i64 0) ∧ w = w' := by
  go_enter Tryd.func33, Tryd.ntmps33
  go_wp2
  go_ret
  exact ⟨rfl, rfl⟩
set_option maxRecDepth 100000 in
theorem wrong_many {w : World} {a0 a1 a2 a3 a4 : Addr} (h : LaidAll w a0 a1 a2 a3 a4) : Calls Tryd.prog 33 #[.iface 208 (.pointer (some a4))] w fun e w' => e = .returned (.int .i64 5) ∧ w = w' := by
  obtain ⟨-, ⟨⟨g0, c0, t0, h0⟩, ⟨g1, c1, t1, h1⟩, ⟨g2, c2, t2, h2⟩, ⟨g3, c3, t3, h3⟩, -, -, -, -⟩, ⟨g4, c4, t4, h4⟩, n0, n1, n2, n3⟩ := h
  obtain ⟨i, hi, hcmp⟩ := Option.map_eq_some_iff.1 compE
  obtain ⟨j, hj, hjs⟩ := Option.map_eq_some_iff.1 sizeE
  have b0 := run_eql_iface_ptr_other (P := Tryd.prog) w Tryd.underlying61 Tryd.underlying208 hi hcmp hj (by rw [hjs]; decide) n0 h4 h0
  have b1 := run_eql_iface_ptr_other (P := Tryd.prog) w Tryd.underlying61 Tryd.underlying208 hi hcmp hj (by rw [hjs]; decide) n1 h4 h1
  have b2 := run_eql_iface_ptr_other (P := Tryd.prog) w Tryd.underlying61 Tryd.underlying208 hi hcmp hj (by rw [hjs]; decide) n2 h4 h2
  have b3 := run_eql_iface_ptr_other (P := Tryd.prog) w Tryd.underlying61 Tryd.underlying208 hi hcmp hj (by rw [hjs]; decide) n3 h4 h3
  have b4 := run_eql_iface_ptr_same (P := Tryd.prog) w a4 Tryd.underlying61 Tryd.underlying208 hi hcmp hj
  clear h0 h1 h2 h3 h4 n0 n1 n2 n3 hi hcmp hj hjs
  go_enter Tryd.func33, Tryd.ntmps33
  go_wp2
  go_ret
  exact ⟨rfl, rfl⟩
theorem LaidAll.below {w w' : World} {a0 a1 a2 a3 a4 : Addr} (h : LaidAll w a0 a1 a2 a3 a4) (hb : Below w.heap.size w w') : LaidAll w' a0 a1 a2 a3 a4 :=
  ⟨h.nils.below hb h.errs.big, h.errs.below hb, h.g4.below hb (Nat.lt_of_lt_of_le (by decide) h.errs.big), h.n0, h.n1, h.n2, h.n3⟩
/-- the compiler's program, as the automaton's builder takes it -/
theorem Cs.prM {w : World} {B : Nat} {eT : Value} {K : Ks} {P : List Ins} (h : Cs w B eT K P P.length) : PrM w w.heap.size K.va P := by
  refine ⟨(List.range P.length).map fun i => ((adr K.G i).block, (adr K.G i).off), by simp, ?_, fun i hi x hx => ?_⟩
  · have h1 := sl_of_own h.row
    have e : ptrs K.G P.length = (((List.range P.length).map fun i => ((adr K.G i).block, (adr K.G i).off)).map fun x => Value.pointer (some ⟨x.1, x.2, none⟩)) := by
      unfold ptrs
      rw [List.map_map]
      rfl
    rw [e] at h1
    exact h1
  · rw [List.getElem?_map, List.getElem?_range hi] at hx
    obtain rfl := Option.some.inj hx
    exact ⟨(h.O_lt _ (h.adr_P hi).o).2, fun j hj => (h.ins hi j hj).1⟩
theorem prgw_frag {m d : Nat} {r : Rx} (hw : wf m d r) : Frag (prg d r) 0 (comp d 0 r).length (lang d r) ∧ (prg d r)[(comp d 0 r).length]? = some .mt ∧ (prg d r).length = (comp d 0 r).length + 1 := by
  have F := frag_comp (P := prg d r) d r 0 hw (fun i hi => by
    unfold prg
    rw [Nat.zero_add, List.getElem?_append_left hi])
  rw [Nat.zero_add] at F
  exact ⟨F, by simp [prg], by simp [prg]⟩
theorem prgw_snd {m d : Nat} {r : Rx} (hw : wf m d r) : Snd (prg d r) := by
  obtain ⟨F, h1, h2⟩ := prgw_frag hw
  intro i hi
  rw [h2] at hi ⊢
  by_cases he : i = (comp d 0 r).length
  · subst he
    rw [h1]
    exact ⟨fun k hk => by simp [tos] at hk, fun lo hi e => by cases e⟩
  · refine ⟨fun k hk => ?_, fun lo hi e => by omega⟩
    unfold tos at hk
    split at hk
    · rename_i t e
      have := F.jpc i t (Nat.zero_le _) (by omega) e
      simp at hk
      omega
    · rename_i a b e
      have := F.spc i a b (Nat.zero_le _) (by omega) e
      simp at hk
      omega
    · simp at hk
theorem st0_ne {m d : Nat} {r : Rx} (hw : wf m d r) : st0 (prg d r) ≠ [] := by
  obtain ⟨F, h1, h2⟩ := prgw_frag hw
  obtain ⟨v, hv⟩ := lang_ne d r hw
  obtain ⟨k, h3, -, h4⟩ := (frag_can F h1 (lang_ne d r hw) []).2 ⟨v, hv⟩
  have := ((pth_mem (prgw_snd hw) prg_pos []).2 k).2 ⟨h3, (rmB_iff _).2 h4⟩
  intro e
  have e2 : pth (prg d r) [] = [] := e
  rw [e2] at this
  cases this
/-- the automaton that was made, or what was wrong -/
def Parsed (w : World) (d lim : Nat) (r : Rx) (a3 a4 : Addr) (s0 : ByteArray) (e : Ending) (w' : World) : Prop :=
  Below w.heap.size w w' ∧
  ((fits lim d 0 r ∧ ¬ Many (prg d r) ∧ ∃ N K S tb xb, w.heap.size ≤ N ∧ e = .returned (.tuple #[.pointer (some ⟨xb, 0, none⟩), .nilIface]) ∧ Blk w' xb 116 [.string s0, .pointer (some ⟨K.F, 0, none⟩)] ∧ DM w' N K (prg d r) S tb ∧ Full (prg d r) S tb ∧ S.length ≤ 10000) ∨
   (fits lim d 0 r ∧ Many (prg d r) ∧ e = .returned (.tuple #[.pointer none, .iface 208 (.pointer (some a4))])) ∨
   (¬ fits lim d 0 r ∧ e = .returned (.tuple #[.pointer none, .iface 208 (.pointer (some a3))])))
set_option maxRecDepth 100000 in
set_option maxHeartbeats 1600000 in
theorem parsed_any {O0 : Nat → Prop} {m d : Nat} (hm : m ≤ 1000) {a0 a1 a2 a3 a4 : Addr} (lim : Nat) (r : Rx) (p : Addr) (s0 : ByteArray) (w : World) (hN : Nd w O0 d r p) (hw : wf m d r) (hn : (comp d 0 r).length ≤ 900000000000) (hl : lim ≤ 1000000000000) (hA : LaidAll w a0 a1 a2 a3 a4) :
    Calls Tryd.prog 38 #[.string s0, .pointer (some p), .int .u64 lim] w (Parsed w d lim r a3 a4 s0) := by
  have HNE := Lib.hid (st0_ne hw)
  have HSN := Lib.hid (prgw_snd hw)
  have HPL := Lib.hid (show 0 < (prg d r).length ∧ (prg d r).length ≤ 1000000000000 from ⟨prg_pos, by unfold prg; rw [List.length_append]; simp; omega⟩)
  have CN := Lib.hid (new_any lim w (.iface 208 (.pointer (some a3))) hA.nils hA.errs.big hA.errs.g3.1)
  have HA := Lib.hid hA
  have HN := Lib.hid hN
  have hPe : comp d 0 r ++ [Ins.mt] = prg d r := rfl
  unfold Parsed
  generalize prg d r = P at *
  have HPE := Lib.hid hPe
  clear hN hA hPe
  go_enter Tryd.func38, Tryd.ntmps38
  go_upto_region 3 with (first | (go_at_call 45; refine CN.out.mono ?_; rintro e w1 ⟨K, rfl, h1, hlim, hb1, hO1⟩; subst hlim; have H1 := Lib.hid h1; have HB1 := Lib.hid hb1; have CC := Lib.hid (compile_any (comp_ok (T := 208) (X := .pointer (some a3)) (B := w.heap.size) m (by omega) d) h1 r p (Nd.go (Fr.none_of_below hb1) (fun k hk => .inr (hO1 k hk)) d r p HN.out) hw hn hl); rw [HPE.out] at CC; clear h1 hb1 hO1 CN) | (go_at_call 46; refine CC.out.mono ?_; rintro e w2 h2; rcases h2 with ⟨hok, K2, rfl, h2, e2⟩ | ⟨hok, rfl, hb2⟩) | fail)
  · have H2 := Lib.hid h2
    have HOK := Lib.hid hok
    have HB2 := Lib.hid (HB1.out.trans (e2.below H1.out))
    have CD := Lib.hid (newdb_any (N := w2.heap.size) (vc := K2.vc) H2.out.prM (Nat.le_refl _))
    clear h2 hok e2 CC
    have LA2 := Lib.hid (HA.out.below HB2.out)
    go_upto_region 6 with (first | (go_at_call 54; refine CD.out.mono ?_; rintro e w3 ⟨KD, rfl, h3, hb3⟩; have HB3 := Lib.hid hb3; have CB := Lib.hid (build_any h3 (fun _ _ => rfl) HSN.out HPL.out.1 HPL.out.2 HNE.out (LA2.out.below hb3).g4.1 LA2.out.errs.big); clear h3 hb3 CD) | fail)
    go_upto_region 7 with (first | (go_at_call 55; refine CB.out.mono ?_; rintro e w4 ⟨hb4, ⟨hm, S, tb, K4, rfl, h4, hF, hS⟩ | ⟨hm, rfl⟩⟩) | fail)
    · have H4 := Lib.hid h4
      have HR := Lib.hid (show ¬ Many P ∧ Full P S tb ∧ S.length ≤ 10000 from ⟨hm, hF, hS⟩)
      have HB4 := Lib.hid (HB2.out.trans ((HB3.out.trans hb4).mono HB2.out.size))
      clear h4 hm hF hS hb4 CB
      go_wp2
      go_ret2
      have hal : Below w4.heap.size w4 (w4.alloc (.cells #[.string s0, .pointer (some ⟨K4.F, 0, none⟩)] 116)) := (Below.refl _ _).alloc (Nat.le_refl _) _
      exact ⟨HB4.out.trans (hal.mono HB4.out.size), .inl ⟨HOK.out, HR.out.1, w2.heap.size, K4, S, tb, w4.heap.size, HB2.out.size, rfl, Blk.new w4 _ [.string s0, .pointer (some ⟨K4.F, 0, none⟩)], H4.out.new hal, HR.out.2.1, HR.out.2.2⟩⟩
    · have HM := Lib.hid hm
      have HB4 := Lib.hid (HB2.out.trans ((HB3.out.trans hb4).mono HB2.out.size))
      clear hm hb4 CB
      go_wp2
      go_ret2
      exact ⟨HB4.out, .inr (.inl ⟨HOK.out, HM.out, rfl⟩)⟩
  · have HB2 := Lib.hid (HB1.out.trans hb2)
    have HOK := Lib.hid hok
    clear hok hb2 CC
    go_wp2
    go_ret2
    exact ⟨HB2.out, .inr (.inr ⟨HOK.out, rfl⟩)⟩
end Go.Proofs.YtbkpgfccghombaaDoor.rx
