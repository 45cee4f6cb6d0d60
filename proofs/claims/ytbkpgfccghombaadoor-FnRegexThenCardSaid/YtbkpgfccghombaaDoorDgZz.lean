/-
  The builder of an automaton: the state of a set of places. Printed by mkdg.py. Conditions: as stated.
-/
import Derived.Test.YtbkpgfccghombaaDoorN01
import Derived.Test.YtbkpgfccghombaaDoorM00
import Derived.Test.YtbkpgfccghombaaDoorM04
import Derived.StillTailTactics
import Derived.Laws.IdiomStrings
namespace Go.Proofs.YtbkpgfccghombaaDoor.rx
open Go.ChangeShapes Go.WideShapes Go.ChangeAt Go.RowKit
set_option linter.unusedVariables false
set_option linter.unusedSimpArgs false

section
variable {w : World} {N : Nat} {K : DK} {P : List Ins} {S : List (List Nat)} {tb : Nat → Nat → Nat}
/-- what is answered for a set of places: the number of its state, and a row that can be used again -/
structure CsOut (w : World) (N : Nat) (K : DK) (P : List Ins) (S : List (List Nat)) (tb : Nat → Nat → Nat) (L : List Nat) (ra : Option Addr) (w' : World) (K' : DK) (ra' : Option Addr) (rn' rc' : Nat) : Prop where
  dm : DM w' N K' P (put S L) tb
  row : ∃ xs, w'.ownsRow N 33 1 (.slice ra' rn' rc') rn' xs
  fr : Fr (fun k => K.O k ∨ isAt ra k) w w'
  o : ∀ k, K'.O k → K.O k ∨ isAt ra k ∨ w.heap.size ≤ k
  ro : ∀ k, isAt ra' k → isAt ra k ∨ w.heap.size ≤ k
  apart : ∀ k, isAt ra' k → ¬ K'.O k
  eB : K'.B = K.B
  eF : K'.F = K.F
  ea : K'.va = K.va
  ec : K'.vc = K.vc
theorem infoSt : (Tryd.prog.info? 142).map (fun i => (i.zero, i.size, i.bytes)) = some (some (.agg #[.slice none 0 0, .slice none 0 0, .bool false]), 3, 56) := by kernel_rfl
theorem row_cut0 {base : Nat} {e : TypeId} {n c : Nat} {a : Option Addr} {xs : List Value} (h : w.ownsRow base e 1 (.slice a n c) n xs) : w.ownsRow base e 1 (.slice a 0 c) 0 [] := by
  rcases row_parts h with ⟨rfl, rfl, rfl⟩ | ⟨g, l, rfl, h1, h2, h3, h4, h5, h6⟩
  · exact World.ownsRow_nil _ _ _ _
  · exact row_mk h1 h2 h3 (by omega) h5 rfl
theorem rmF_take (l : List Nat) (i : Nat) (h : i < l.length) : rmF P (l.take (i + 1)) = rmF P (l.take i) ++ (if rmB P[l[i]]? = true then [l[i]] else []) := by
  unfold rmF
  rw [List.take_succ_eq_append_getElem h, List.filter_append]
  by_cases h2 : rmB P[l[i]]? = true
  · simp [h2]
  · simp [h2]
def anyD (P : List Ins) (l : List Nat) : Bool := l.any fun i => mtD P[i]?
theorem anyD_app (a b : List Nat) : anyD P (a ++ b) = (anyD P a || anyD P b) := by simp [anyD]
theorem put_mem {L : List Nat} (h : L ∈ S) : put S L = S := by unfold put; rw [if_pos h]
theorem put_new {L : List Nat} (h : L ∉ S) : put S L = S ++ [L] := by unfold put; rw [if_neg h]
theorem slo_row {base : Nat} {e : TypeId} {n c : Nat} {a : Option Addr} {xs : List Value} {O : Nat → Prop} (h : w.ownsRow base e 1 (.slice a n c) n xs) (hO : ∀ k, isAt a k → ¬ O k) : SlO w O a xs := fun j v hv => by
  obtain ⟨ad, rfl, h2, h3⟩ := sl_of_own h j v hv
  exact ⟨ad, rfl, h2, hO _ ⟨ad, rfl, rfl⟩, h3⟩
theorem idx_nil (h : S[0]? = some []) : [] ∈ S ∧ S.idxOf [] = 0 := by
  cases S with
  | nil => simp at h
  | cons x r =>
    simp at h
    subst h
    exact ⟨by simp, List.idxOf_cons_self⟩
theorem DK.O_kb {g n c k : Nat} (h : DK.O { K with kb := some ⟨g, 0, none⟩, kn := n, kc := c } k) : K.O k ∨ k = g := by
  rcases h with h | h | h | h | ⟨ad, e, h⟩ | h
  · exact .inl (.inl h)
  · exact .inl (.inr (.inl h))
  · exact .inl (.inr (.inr (.inl h)))
  · exact .inl (.inr (.inr (.inr (.inl h))))
  · injection e with e
    subst e
    exact .inr h.symm
  · exact .inl (.inr (.inr (.inr (.inr (.inr h)))))
theorem DK.O_push {g c nb c8 k : Nat} {a8 : Option Addr} (h : DK.O { K with sa := some ⟨g, 0, none⟩, sc := c, recs := K.recs ++ [⟨a8, c8, nb⟩] } k) : K.O k ∨ k = g ∨ k = nb ∨ isAt a8 k := by
  rcases h with h | h | h | ⟨ad, e, h⟩ | h | ⟨r, hr, h⟩
  · exact .inl (.inl h)
  · exact .inl (.inr (.inl h))
  · exact .inl (.inr (.inr (.inl h)))
  · injection e with e
    subst e
    exact .inr (.inl h.symm)
  · exact .inl (.inr (.inr (.inr (.inr (.inl h)))))
  · rcases List.mem_append.1 hr with hr | hr
    · exact .inl (.inr (.inr (.inr (.inr (.inr ⟨r, hr, h⟩)))))
    · simp at hr
      subst hr
      rcases h with h | h
      · exact .inr (.inr (.inl h.symm))
      · exact .inr (.inr (.inr h))
theorem DG.drewN {Sm : List (List Nat)} (h : DG w N K P S Sm tb) (n : Nat) : DG (w.drewN n) N K P S Sm tb := h.new (below_drewN (Below.refl _ _) n)
set_option maxRecDepth 100000 in
set_option maxHeartbeats 3200000 in
theorem cached_any {s : S3} {l : List Nat} {ra : Option Addr} {rn rc : Nat} {xs0 : List Value} (h : DM w N K P S tb) (hM : SetM w N P.length s l) (hNm : Nums P l) (hS0 : S[0]? = some []) (hr : w.ownsRow N 33 1 (.slice ra rn rc) rn xs0)
    (d1 : ∀ k, isAt ra k → ¬ K.O k) (d2 : ∀ k, isAt ra k → ¬ s.O k) (d3 : ∀ k, s.O k → ¬ K.O k) (hn : P.length ≤ 1000000000000) (hS10 : S.length ≤ 100000) :
    Calls Tryd.prog 62 #[.pointer (some ⟨K.B, 0, none⟩), .pointer (some ⟨s.S, 0, none⟩), .slice ra rn rc] w fun e w' => ∃ K' ra' rn' rc', e = .returned (.tuple #[.int .i64 (S.idxOf (rmF P l) : Nat), .slice ra' rn' rc']) ∧ CsOut w N K P S tb (rmF P l) ra w' K' ra' rn' rc' := by
  obtain ⟨j0, hj0, jz0, jz1, jz2⟩ := info_parts infoUi
  obtain ⟨i0, hi0, hz0, hz1, hz2⟩ := info_parts infoSt
  have hmk : ∀ (u : World) (n : Nat), n ≤ 1000000000000 → (Instr.makeSlice 101 (.int .i64 0) (.int .i64 (n : Int))).run Tryd.prog u = .ok (.slice (some ⟨u.heap.size, 0, none⟩) 0 n) (u.alloc (.cells (natsU (List.replicate n 0)).toArray 33)) := fun u n hn => by
    have h := run_make (P := Tryd.prog) u 101 33 j0 (.int .u64 0) Tryd.underlying101 hj0 jz0 .i64 .i64 0 (n : Int) (by omega) (by omega) (by rw [jz2]; omega) (by omega)
    simpa [jz1, Value.cells, made_nats] using h
  have HMK := Lib.hid hmk
  clear hmk
  have hlow : ∀ k, k < N → ¬ isAt ra k := fun k hk e => by have := own_block_ge hr k (own_isAt.2 e); omega
  have HDM := Lib.hid (fun (W : World) (hf : Fr (fun k => isAt ra k) w W) => h.keep hf (fun k hk e => d1 k e hk) hlow)
  have HSM := Lib.hid (fun (W : World) (hf : Fr (fun k => isAt ra k) w W) => hM.keep hf (fun k hk e => d2 k e hk))
  have HR := Lib.hid hr
  have HRP := Lib.hid (row_parts hr)
  have HNm := Lib.hid hNm
  have HS0 := Lib.hid hS0
  have HD1 := Lib.hid d1
  have HLOW := Lib.hid hlow
  have HNw := Lib.hid h.hN
  have HO := Lib.hid h.O_lt
  have CL0 := Lib.hid (len_any hM hn)
  have hll := hM.len
  clear h hM hNm hS0 hr d1 d2 d3 hlow
  go_enter Tryd.func62, Tryd.ntmps62
  go_upto_region 1 with fail
  go_cut [8] (fun v8 wx => ∃ a8 c8, v8 = .slice a8 0 c8 ∧ w = wx ∧ Hid (w.ownsRow N 33 1 (.slice a8 0 c8) 0 [] ∧ ∀ k, isAt a8 k → isAt ra k))
  case first =>
    rcases HRP.out with ⟨rfl, rfl, rfl⟩ | ⟨g, lw, rfl, -, -, -, hnc, -, -⟩
    · go_wp2
      go_meet
      exact ⟨_, _, rfl, rfl, Lib.hid ⟨World.ownsRow_nil _ _ _ _, fun k e => e⟩⟩
    · go_wp2
      go_meet
      exact ⟨_, _, rfl, rfl, Lib.hid ⟨row_cut0 HR.out, fun k e => e⟩⟩
  case rest =>
  obtain ⟨a8, c8, rfl, rfl, H8⟩ := hcut
  go_upto_if 19 with fail
  go_cut [8] (fun v8 wx => ∃ a9 c9, v8 = .slice a9 0 c9 ∧ Hid (Below w.heap.size w wx ∧ wx.ownsRow N 33 1 (.slice a9 0 c9) 0 [] ∧ ∀ k, isAt a9 k → isAt ra k ∨ w.heap.size ≤ k))
  case first =>
    by_cases hc : c8 = 0
    · subst hc
      have hmk := HMK.out w l.length (by omega)
      have HB := Lib.hid (show Blk (w.alloc (.cells (natsU (List.replicate l.length 0)).toArray 33)) w.heap.size 33 (natsU (List.replicate l.length 0)) from Blk.new w _ _)
      go_wp2_with (first | (go_at_call 78; refine CL0.out.mono ?_; rintro e w1 ⟨rfl, rfl⟩) | fail)
      go_meet
      exact ⟨_, _, rfl, Lib.hid ⟨(Below.refl _ _).alloc (Nat.le_refl _) _, row_mk HNw.out HB.out (by simp [natsU]) (by omega) (by unfold maxLen; omega) rfl, fun k ⟨ad, e, e2⟩ => by
        injection e with e
        subst e
        exact .inr (by rw [← e2]; exact Nat.le_refl _)⟩⟩
    · have hc1 : ((c8 : Int) == 0) = false := by rw [beq_eq_false_iff_ne]; omega
      go_wp2
      go_meet
      exact ⟨_, _, rfl, Lib.hid ⟨Below.refl _ _, H8.out.1, fun k e => .inl (H8.out.2 k e)⟩⟩
  case rest =>
  rename World => w1
  obtain ⟨a9, c9, rfl, H9⟩ := hcut
  have HNL := Lib.hid (fun (W : World) (hf : Fr (fun k => isAt ra k) w W) => Nat.le_trans HNw.out hf.size)
  go_upto_region 4 with fail
  go_wp2_with fail
  go_loopw [8, 9, 10, 11] (fun v8 v9 v10 v11 wr => ∃ (i m : Nat) (a : Option Addr) (c : Nat) (mt : Bool), i ≤ l.length ∧ v10 = .int .u64 i ∧ v8 = .slice a m c ∧ v9 = .bool mt ∧ m ≤ i ∧ Hid (mt = anyD P (rmF P (l.take i)) ∧ m = (rmF P (l.take i)).length ∧ wr.ownsRow N 33 1 (.slice a m c) m (natsU (rmF P (l.take i))) ∧ Fr (fun k => isAt ra k) w wr ∧ ∀ k, isAt a k → isAt ra k ∨ w.heap.size ≤ k)) (fun _ _ v10 _ _ => l.length - (intOf v10).toNat)
  case atStart => exact ⟨0, 0, a9, c9, false, by omega, rfl, rfl, rfl, by omega, Lib.hid ⟨rfl, rfl, H9.out.2.1, Fr.none_of_below H9.out.1, H9.out.2.2⟩⟩
  case round =>
    obtain ⟨i, m, a, c, mt, hi, rfl, rfl, rfl, hmi, H1⟩ := hrel
    have SM := Lib.hid (HSM.out wr H1.out.2.2.2.1)
    have CL := Lib.hid (len_any SM.out hn)
    by_cases hlt : i < l.length
    · have CG := Lib.hid (get_any SM.out i hlt hn)
      have DMr := Lib.hid (HDM.out wr H1.out.2.2.2.1)
      have hq := HNm.out.lt l[i] (List.getElem_mem hlt)
      obtain ⟨ad, pb, po, hva, hc⟩ := DMr.out.pr.at l[i] hq
      obtain ⟨cp, e0, -, -, -, -, -⟩ := hc wr (Below.refl _ _)
      obtain ⟨b0, b1, b2, f0, f1⟩ := DMr.out.cells
      rw [hva] at f0
      have HT := Lib.hid (rmF_take (P := P) l i hlt)
      have HX := Lib.hid (show P[l[i]]? = some P[l[i]] from List.getElem?_eq_getElem hq)
      rw [HX.out] at HT
      have HMD := Lib.hid (show anyD P [l[i]] = mtD (some P[l[i]]) by simp [anyD, HX.out])
      have HWN := Lib.hid (HNL.out wr H1.out.2.2.2.1)
      clear hc hva
      generalize P[l[i]] = x at *
      generalize l[i] = q at *
      cases x with
      | jp t =>
        simp only [iop] at e0
        have HT2 := Lib.hid (show rmF P (l.take (i + 1)) = rmF P (l.take i) by rw [HT.out]; simp [rmB])
        go_wp2_with (first | (go_at_call 78; refine CL.out.mono ?_; rintro e w1 ⟨rfl, rfl⟩) | (go_at_call 79; refine CG.out.mono ?_; rintro e w1 ⟨rfl, rfl⟩) | fail)
        go_roundw
        case rel => exact ⟨i + 1, m, a, c, mt, by omega, by go_num, rfl, rfl, by omega, by rw [HT2.out]; exact H1⟩
        case measure => simp [intOf]; omega
      | sp s1 t1 =>
        simp only [iop] at e0
        have HT2 := Lib.hid (show rmF P (l.take (i + 1)) = rmF P (l.take i) by rw [HT.out]; simp [rmB])
        go_wp2_with (first | (go_at_call 78; refine CL.out.mono ?_; rintro e w1 ⟨rfl, rfl⟩) | (go_at_call 79; refine CG.out.mono ?_; rintro e w1 ⟨rfl, rfl⟩) | fail)
        go_roundw
        case rel => exact ⟨i + 1, m, a, c, mt, by omega, by go_num, rfl, rfl, by omega, by rw [HT2.out]; exact H1⟩
        case measure => simp [intOf]; omega
      | mt =>
        simp only [iop] at e0
        have HT2 := Lib.hid (show rmF P (l.take (i + 1)) = rmF P (l.take i) ++ [q] by rw [HT.out]; simp [rmB])
        go_wp2_with (first | (go_at_call 78; refine CL.out.mono ?_; rintro e w1 ⟨rfl, rfl⟩) | (go_at_call 79; refine CG.out.mono ?_; rintro e w1 ⟨rfl, rfl⟩) | (at_builtin; refine append1_at wr #[.int .u64 q] rfl (.tmp 54) (.tmp 56) 101 rfl N 33 j0 _ 1 8 Tryd.underlying101 hj0 jz0 jz1 jz2 rfl (by omega) rfl (.slice a m c) m (natsU (rmF P (l.take i))) rfl H1.out.2.2.1 wr.heap.size rfl rfl (by simp [Value.oneCell']) (by unfold maxLen; omega) (by omega) HWN.out ?_; intro v2 w2 ho2 hg2 _ hat2; obtain ⟨a2, c2, rfl⟩ := own_value ho2; have H2 := Lib.hid (And.intro ho2 (And.intro hg2 hat2)); clear ho2 hg2 hat2) | fail)
        go_roundw
        case rel => exact ⟨i + 1, m + 1, a2, c2, true, by omega, by go_num, by go_num, rfl, by omega, Lib.hid ⟨by rw [HT2.out, anyD_app, HMD.out]; simp [mtD], by rw [HT2.out, List.length_append, ← H1.out.2.1]; rfl, by rw [HT2.out]; simpa [natsU] using H2.out.1, H1.out.2.2.2.1.go (Fr.of_grown (O := fun k => isAt a k) H2.out.2.1 (fun k e => own_isAt.1 e)) (fun k _ e => H1.out.2.2.2.2 k e), fun k e => by
          rcases H2.out.2.2 k (own_isAt.2 e) with g | g
          · exact H1.out.2.2.2.2 k (own_isAt.1 g)
          · exact .inr (Nat.le_trans H1.out.2.2.2.1.size g)⟩⟩
        case measure => simp [intOf]; omega
      | rg lo hi2 =>
        simp only [iop] at e0
        have HT2 := Lib.hid (show rmF P (l.take (i + 1)) = rmF P (l.take i) ++ [q] by rw [HT.out]; simp [rmB])
        go_wp2_with (first | (go_at_call 78; refine CL.out.mono ?_; rintro e w1 ⟨rfl, rfl⟩) | (go_at_call 79; refine CG.out.mono ?_; rintro e w1 ⟨rfl, rfl⟩) | (at_builtin; refine append1_at wr #[.int .u64 q] rfl (.tmp 48) (.tmp 50) 101 rfl N 33 j0 _ 1 8 Tryd.underlying101 hj0 jz0 jz1 jz2 rfl (by omega) rfl (.slice a m c) m (natsU (rmF P (l.take i))) rfl H1.out.2.2.1 wr.heap.size rfl rfl (by simp [Value.oneCell']) (by unfold maxLen; omega) (by omega) HWN.out ?_; intro v2 w2 ho2 hg2 _ hat2; obtain ⟨a2, c2, rfl⟩ := own_value ho2; have H2 := Lib.hid (And.intro ho2 (And.intro hg2 hat2)); clear ho2 hg2 hat2) | fail)
        go_roundw
        case rel => exact ⟨i + 1, m + 1, a2, c2, mt, by omega, by go_num, by go_num, rfl, by omega, Lib.hid ⟨by rw [HT2.out, anyD_app, HMD.out, ← H1.out.1]; simp [mtD], by rw [HT2.out, List.length_append, ← H1.out.2.1]; rfl, by rw [HT2.out]; simpa [natsU] using H2.out.1, H1.out.2.2.2.1.go (Fr.of_grown (O := fun k => isAt a k) H2.out.2.1 (fun k e => own_isAt.1 e)) (fun k _ e => H1.out.2.2.2.2 k e), fun k e => by
          rcases H2.out.2.2 k (own_isAt.2 e) with g | g
          · exact H1.out.2.2.2.2 k (own_isAt.1 g)
          · exact .inr (Nat.le_trans H1.out.2.2.2.1.size g)⟩⟩
        case measure => simp [intOf]; omega
    · obtain rfl : i = l.length := by omega
      rw [List.take_length] at H1
      have HM := Lib.hid H1.out.2.1
      have HFR := Lib.hid H1.out.2.2.2.1
      have HRA := Lib.hid H1.out.2.2.2.2
      have ROW := Lib.hid H1.out.2.2.1
      have HMT := Lib.hid H1.out.1
      have DMr := Lib.hid (HDM.out wr HFR.out)
      have HIA := Lib.hid (show ∀ k, isAt a k → ¬ K.O k from fun k e e2 => by
        rcases HRA.out k e with g | g
        · exact HD1.out k g e2
        · have := (HO.out k e2).2; omega)
      clear H1
      by_cases h0 : m = 0
      · subst h0
        have hL : rmF P l = [] := List.eq_nil_of_length_eq_zero HM.out.symm
        have HE := Lib.hid (show CsOut w N K P S tb (rmF P l) ra wr K a 0 c from
          { dm := by rw [hL, put_mem (idx_nil HS0.out).1]; exact DMr.out, row := ⟨_, ROW.out⟩, fr := HFR.out.mono (fun k _ e => .inr e), o := fun k e => .inl e, ro := HRA.out, apart := HIA.out, eB := rfl, eF := rfl, ea := rfl, ec := rfl })
        have HI := Lib.hid (show ((S.idxOf (rmF P l) : Nat) : Int) = 0 by rw [hL, (idx_nil HS0.out).2]; rfl)
        clear hL
        go_wp2_with (first | (go_at_call 78; refine CL.out.mono ?_; rintro e w1 ⟨rfl, rfl⟩) | fail)
        go_ret2
        rw [HI.out]
        exact ⟨K, a, 0, c, rfl, HE.out⟩
      · have hm0 : ((m : Int) == 0) = false := by rw [beq_eq_false_iff_ne]; omega
        obtain ⟨ks, hks⟩ := DMr.out.key
        have HKS := Lib.hid hks
        have HLsm := Lib.hid (show ∀ z ∈ rmF P l, z ≤ 1000000000000 from fun z hz => by
          have := (rmF_nums HNm.out).lt z hz
          omega)
        have hLl : (rmF P l).length ≤ 1000000000000 := by have := (rmF_nums HNm.out).len; omega
        have CK0 := key_buf a (rmF P l) c wr N K.kb K.kn K.kc ks hLl (by have := HM.out; omega) HLsm.out DMr.out.hN (slo_row ROW.out (fun k e => rows_ne ROW.out hks (by decide) k e)) hks
        rw [← HM.out] at CK0
        have CK := Lib.hid CK0
        obtain ⟨b0, b1, b2, f0, f1⟩ := DMr.out.cells
        clear CK0 hks
        go_upto_region 18 with (first | (go_at_call 78; refine CL.out.mono ?_; rintro e w1 ⟨rfl, rfl⟩) | (go_at_call 80; refine CK.out.mono ?_; rintro e w5 ⟨g5, cc5, rfl, ho5, hf5, hg5⟩; have HB5 := hf5.blk DMr.out.b (row_ne HKS.out DMr.out.b (by decide)); have cB := HB5.cell 2; have fB := HB5.frozen 2; simp only [List.getElem?_cons_zero, List.getElem?_cons_succ] at cB; have H5 := Lib.hid (And.intro ho5 (And.intro hf5 hg5)); clear ho5 hf5 hg5 HB5) | fail)
        refine name_world ?_
        intro w6 hw6
        have D6 := Lib.hid (show DM w6 N { K with kb := some ⟨g5, 0, none⟩, kn := 8 * m, kc := cc5 } P S tb from by rw [hw6]; exact DMr.out.rekey H5.out.2.1 H5.out.1 H5.out.2.2)
        have F6 := Lib.hid (show Fr (fun k => K.O k ∨ isAt ra k) w w6 from by
          rw [hw6]
          refine (HFR.out.mono (fun k _ e => .inr e)).go ((H5.out.2.1.mono (O' := fun k => K.O k) (fun k _ e => .inr (.inr (.inr (.inr (.inl e)))))).set ⟨K.B, 2, none⟩ _ (.inl rfl)) (fun k _ e => .inl (.inl e)))
        have ROW6 := Lib.hid (show w6.ownsRow N 33 1 (.slice a m c) m (natsU (rmF P l)) from by
          rw [hw6]
          have h5 := fr_row H5.out.2.1 ROW.out (fun k e => rows_ne ROW.out HKS.out (by decide) k e)
          exact own_far h5 _ _ (fun e => HIA.out _ (own_isAt.1 e) (.inl rfl)))
        have KO6 := Lib.hid (show w6.ownsRow N 5 1 (.slice (some ⟨g5, 0, none⟩) (8 * m) cc5) (8 * m) (keyCells (ints (rmF P l))) from by
          rw [hw6]
          refine own_far H5.out.1 _ _ (fun e => ?_)
          exact row_blk H5.out.1 (H5.out.2.1.blk DMr.out.b (row_ne HKS.out DMr.out.b (by decide))) (by decide) e)
        have HG5 := Lib.hid (show K.O g5 ∨ w.heap.size ≤ g5 from by
          rcases H5.out.2.2 with g | g
          · exact .inl (.inr (.inr (.inr (.inr (.inl g)))))
          · exact .inr (Nat.le_trans HFR.out.size g))
        clear hw6 cB fB b0 b1 b2 f0 f1 CK H5
        obtain ⟨D, nm, hD, hDok, hDn⟩ := D6.out.map
        have HDK := Lib.hid hDok
        have HDN := Lib.hid hDn
        have HDD := Lib.hid hD
        obtain ⟨bb, hbb⟩ : ∃ bb, bb = decide (rmF P l ∈ S) := ⟨_, rfl⟩
        have hLne : rmF P l ≠ [] := fun e => h0 (by rw [HM.out, e]; rfl)
        have HHas := Lib.hid (show Maps.has D (.string (kby (rmF P l))) = bb from by rw [hbb]; exact hDok.has _ hLl HLsm.out hLne)
        obtain ⟨cv, hcv⟩ : ∃ cv : Int, cv = if bb = true then ((S.idxOf (rmF P l) : Nat) : Int) else 0 := ⟨_, rfl⟩
        have HAt := Lib.hid (show D.atKey (.string (kby (rmF P l))) (.lit (.int .i64 0)) = .lit (.int .i64 cv) from by
          rw [hcv]
          by_cases hm : rmF P l ∈ S
          · rw [if_pos (by rw [hbb]; exact decide_eq_true hm)]
            exact hDok.at_ _ hm hLne _
          · have hb : bb = false := by rw [hbb]; exact decide_eq_false hm
            rw [if_neg (by rw [hb]; simp)]
            exact Maps.atKey_of_not_has (by rw [HHas.out, hb]) _)
        have hconv : ∀ q, (convert 79 9 (.slice (some ⟨g5, 0, none⟩) (8 * m) cc5)).run Tryd.prog (w6.drewN q) = .ok (.string ⟨(kby (rmF P l)).toArray⟩) (w6.drewN q) := fun q => by
          have hl8 : (kby (rmF P l)).length = 8 * m := by rw [kby_len, HM.out]
          have := run_convert_bytes_back (P := Tryd.prog) (w6.drewN q) 79 9 5 ⟨g5, 0, none⟩ cc5 (kby (rmF P l)) Tryd.underlying79 Tryd.underlying5 Tryd.underlying9 (fun j hj => by
            obtain ⟨ad, had, -, hc⟩ := sl_of_own KO6.out j (.int .u8 ((kby (rmF P l))[j].toNat : Int)) (by rw [keyCells_kby]; simp [Lib.byteCells, List.getElem?_eq_getElem hj])
            injection had with had
            subst had
            exact hc)
          rwa [hl8] at this
        have hlook : ∀ q, (Instr.lookup 137 (.map (some K.M)) (.string ⟨(kby (rmF P l)).toArray⟩) true).run Tryd.prog (w6.drewN q) = .ok (.tuple #[.int .i64 cv, .bool bb]) (w6.drewN q) := fun q => by
          have hD2 : (w6.drewN q).ownsMap Tryd.prog 9 (plainElem Tryd.prog 3) K.M nm D := own_map_keep HDD.out rfl
          obtain ⟨v, ps, hrun, hv⟩ := hD2.look_ok keyed_s Tryd.underlying137 (Tryd.zeroValue3 _) (plainElem_int Tryd.underlying3 (by decide)) (key_of (rmF P l) hLl)
          rw [HAt.out] at hv
          obtain ⟨c', rfl, hc', -⟩ := plainElem_int_inv Tryd.underlying3 hv
          simp only [Prod.mk.injEq, DataW.lit.injEq, Lit.int.injEq, true_and] at hc'
          rw [hrun, HHas.out, hc'.1]
        have HCV := Lib.hid hcv
        have HBB := Lib.hid hbb
        clear hcv hbb hD hDok hDn
        have b0 : w6.cell? ⟨K.B, 0, none⟩ = some (.pointer (some ⟨K.F, 0, none⟩)) := D6.out.b.cell 0
        have b1 : w6.cell? ⟨K.B, 1, none⟩ = some (.map (some K.M)) := D6.out.b.cell 1
        have b2 : w6.cell? ⟨K.B, 2, none⟩ = some (.slice (some ⟨g5, 0, none⟩) (8 * m) cc5) := D6.out.b.cell 2
        go_cut [12, 13] (fun s12 s13 wx => s12 = .int .i64 cv ∧ s13 = .bool bb ∧ ∃ q, wx = w6.drewN q)
        case first =>
          go_quiet (fail)
          go_wp2
          go_meet
          exact ⟨rfl, rfl, _, rfl⟩
        case rest =>
        obtain ⟨rfl, rfl, q6, rfl⟩ := hcut
        clear hconv hlook b0 b1 b2
        have RR := Lib.hid (rows_ne ROW6.out KO6.out (by decide))
        cases bb with
        | true =>
          have hm : rmF P l ∈ S := of_decide_eq_true HBB.out.symm
          have HE := Lib.hid (show CsOut w N K P S tb (rmF P l) ra (w6.drewN q6) { K with kb := some ⟨g5, 0, none⟩, kn := 8 * m, kc := cc5 } a m c from
            { dm := by rw [put_mem hm]; exact D6.out.drewN q6, row := ⟨_, ROW6.out⟩, fr := F6.out.drewN q6, o := fun k e => by
                rcases DK.O_kb e with g | rfl
                · exact .inl g
                · exact HG5.out.imp id .inr
              ro := HRA.out, apart := fun k e e2 => by
                rcases DK.O_kb e2 with g | rfl
                · exact HIA.out k e g
                · exact RR.out _ e ⟨_, rfl, rfl⟩
              eB := rfl, eF := rfl, ea := rfl, ec := rfl })
          have HC2 := Lib.hid (show cv = ((S.idxOf (rmF P l) : Nat) : Int) from by rw [HCV.out]; rfl)
          clear hm
          go_wp2
          go_ret2
          rw [← HC2.out]
          exact ⟨_, a, m, c, rfl, HE.out⟩
        | false =>
          have hm : rmF P l ∉ S := of_decide_eq_false HBB.out.symm
          have HNM := Lib.hid hm
          clear hm
          have hmk2 : ∀ u : World, (Instr.makeSlice 140 (.int .i64 256) (.int .i64 256)).run Tryd.prog u = .ok (.slice (some ⟨u.heap.size, 0, none⟩) 256 256) (u.alloc (.cells next0.toArray 3)) := fun u => by
            obtain ⟨k0, kk0, kz0, kz1, kz2⟩ := info_parts (show (Tryd.prog.info? 3).map (fun i => (i.zero, i.size, i.bytes)) = some (some (.int .i64 0), 1, 8) by kernel_rfl)
            have h := run_make (P := Tryd.prog) u 140 3 k0 (.int .i64 0) Tryd.underlying140 kk0 kz0 .i64 .i64 256 256 (by omega) (by omega) (by rw [kz2]; omega) (by omega)
            have e : madeCells #[Value.int .i64 0] 256 = next0.toArray := by
              apply Array.toList_inj.1
              rw [toList_madeCells_one]
              rfl
            simpa [kz1, Value.cells, e] using h
          have DA := Lib.hid (fun (o : Obj) => (D6.out.drewN (q6 + 1)).new ((Below.refl _ _).alloc (Nat.le_refl _) o))
          have D7 := Lib.hid (DA.out (.cells next0.toArray 3))
          have p0 : (w6.drewN q6).drew.cell? ⟨K.B, 0, none⟩ = some (.pointer (some ⟨K.F, 0, none⟩)) := D6.out.b.cell 0
          have p1 : (w6.drewN q6).drew.cell? ⟨K.F, 1, none⟩ = some (.slice K.sa S.length K.sc) := D6.out.f.cell 1
          have q0 : ((w6.drewN q6).drew.alloc (.cells next0.toArray 3)).cell? ⟨K.B, 0, none⟩ = some (.pointer (some ⟨K.F, 0, none⟩)) := D7.out.b.cell 0
          have q1 : ((w6.drewN q6).drew.alloc (.cells next0.toArray 3)).cell? ⟨K.F, 1, none⟩ = some (.slice K.sa S.length K.sc) := D7.out.f.cell 1
          have D8 := Lib.hid (D7.out.new ((Below.refl _ _).alloc (Nat.le_refl _) (.cells #[.slice a m c, .slice (some ⟨w6.heap.size, 0, none⟩) 256 256, .bool mt] 142)))
          have r0 : (((w6.drewN q6).drew.alloc (.cells next0.toArray 3)).alloc (.cells #[.slice a m c, .slice (some ⟨w6.heap.size, 0, none⟩) 256 256, .bool mt] 142)).cell? ⟨K.B, 0, none⟩ = some (.pointer (some ⟨K.F, 0, none⟩)) := D8.out.b.cell 0
          have r1 : (((w6.drewN q6).drew.alloc (.cells next0.toArray 3)).alloc (.cells #[.slice a m c, .slice (some ⟨w6.heap.size, 0, none⟩) 256 256, .bool mt] 142)).cell? ⟨K.F, 1, none⟩ = some (.slice K.sa S.length K.sc) := D8.out.f.cell 1
          have OWS := Lib.hid D7.out.row
          have HNS := Lib.hid D7.out.hN
          have bBs := row_ne D7.out.row D7.out.b (by decide)
          have fBs := row_ne D7.out.row D7.out.f (by decide)
          have HK0 := Lib.hid (fun (w7 : World) (hg : ((w6.drewN q6).drew.alloc (.cells next0.toArray 3)).grownBy w7 (Value.slice K.sa S.length K.sc).ownBlock) => show w7.cell? ⟨K.B, 0, none⟩ = some (.pointer (some ⟨K.F, 0, none⟩)) from (D7.out.b.grown hg (fun e => bBs (own_isAt.1 e.symm))).cell 0)
          have HK1 := Lib.hid (fun (w7 : World) (hg : ((w6.drewN q6).drew.alloc (.cells next0.toArray 3)).grownBy w7 (Value.slice K.sa S.length K.sc).ownBlock) => show w7.cell? ⟨K.F, 1, none⟩ = some (.slice K.sa S.length K.sc) from (D7.out.f.grown hg (fun e => fBs (own_isAt.1 e.symm))).cell 1)
          have HKF := Lib.hid (fun (w7 : World) (hg : ((w6.drewN q6).drew.alloc (.cells next0.toArray 3)).grownBy w7 (Value.slice K.sa S.length K.sc).ownBlock) => show w7.frozen? ⟨K.F, 1, none⟩ = false from (D7.out.f.grown hg (fun e => fBs (own_isAt.1 e.symm))).frozen 1)
          clear bBs fBs
          have mixed : Tryd.prog.follows .mixedOrders = true := by kernel_rfl
          go_upto_region 21 with fail
          refine wp_region_ks (fun W => W.cell? ⟨K.B, 0, none⟩ = some (.pointer (some ⟨K.F, 0, none⟩)) ∧ W.cell? ⟨K.F, 1, none⟩ = some (.slice K.sa S.length K.sc)) [19] (by kernel_rfl) ?_
          simp only [List.size_toArray, List.length_cons, List.length_nil, Nat.reduceAdd]
          refine ks_pure (i := 0) (oi := ?oi0) (v := ?v0) ?hi0 (by kernel_rfl) (by kernel_rfl) (by kernel_rfl) ?hQ0 ?hy0 ?rest0
          case hi0 =>
            simp only [List.getElem?_toArray, List.getElem?_cons_zero]
            rfl
          case hQ0 => exact fun _ _ _ h => h
          case hy0 =>
            refine yields_if (by rfl) (fun W hW => ?_)
            try dsimp only at hW
            go_simp
            first | done | with_reducible rfl
          simp only [Act.put, List.setIfInBounds_toArray, List.set_cons_zero, List.set_cons_succ]
          refine ks_pure (i := 1) (oi := ?oi1) (v := ?v1) ?hi1 (by kernel_rfl) (by kernel_rfl) (by kernel_rfl) ?hQ1 ?hy1 ?rest1
          case hi1 =>
            simp only [List.getElem?_toArray, List.getElem?_cons_succ, List.getElem?_cons_zero]
            rfl
          case hQ1 => exact fun _ _ _ h => h
          case hy1 =>
            refine yields_if (by rfl) (fun W hW => ?_)
            try dsimp only at hW
            go_simp
            first | done | with_reducible rfl
          simp only [Act.put, List.setIfInBounds_toArray, List.set_cons_zero, List.set_cons_succ]
          refine ks_pure (i := 2) (oi := ?oi2) (v := ?v2) ?hi2 (by kernel_rfl) (by kernel_rfl) (by kernel_rfl) ?hQ2 ?hy2 ?rest2
          case hi2 =>
            simp only [List.getElem?_toArray, List.getElem?_cons_succ, List.getElem?_cons_zero]
            rfl
          case hQ2 => exact fun _ _ _ h => h
          case hy2 =>
            refine yields_if (by rfl) (fun W hW => ?_)
            try dsimp only at hW
            go_simp
            first | done | with_reducible rfl
          simp only [Act.put, List.setIfInBounds_toArray, List.set_cons_zero, List.set_cons_succ]
          refine ks_take (i := 3) (oi := ?oi3) (v := ?v3) ?hi3 (by kernel_rfl) (by kernel_rfl) (by kernel_rfl) (by kernel_rfl) ?hQ3 ?hS3 ?hy3 ?rest3
          case hi3 =>
            simp only [List.getElem?_toArray, List.getElem?_cons_succ, List.getElem?_cons_zero]
            rfl
          case hQ3 => exact fun _ _ _ h => h
          case hS3 => exact ⟨p0, p1⟩
          case hy3 =>
            refine yields_if (by rfl) (fun W hW => ?_)
            try dsimp only at hW
            go_simp
            first | done | with_reducible rfl
          simp only [Act.put, List.setIfInBounds_toArray, List.set_cons_zero, List.set_cons_succ]
          refine ks_pure (i := 4) (oi := ?oi4) (v := ?v4) ?hi4 (by kernel_rfl) (by kernel_rfl) (by kernel_rfl) ?hQ4 ?hy4 ?rest4
          case hi4 =>
            simp only [List.getElem?_toArray, List.getElem?_cons_succ, List.getElem?_cons_zero]
            rfl
          case hQ4 => exact fun _ _ _ h => h
          case hy4 =>
            refine yields_if (by rfl) (fun W hW => ?_)
            try dsimp only at hW
            go_simp
            first | done | with_reducible rfl
          simp only [Act.put, List.setIfInBounds_toArray, List.set_cons_zero, List.set_cons_succ]
          refine ks_pure (i := 5) (oi := ?oi5) (v := ?v5) ?hi5 (by kernel_rfl) (by kernel_rfl) (by kernel_rfl) ?hQ5 ?hy5 ?rest5
          case hi5 =>
            simp only [List.getElem?_toArray, List.getElem?_cons_succ, List.getElem?_cons_zero]
            rfl
          case hQ5 => exact fun _ _ _ h => h
          case hy5 =>
            refine yields_if (by rfl) (fun W hW => ?_)
            try dsimp only at hW
            go_simp
            first | done | with_reducible rfl
          simp only [Act.put, List.setIfInBounds_toArray, List.set_cons_zero, List.set_cons_succ]
          refine ks_pure (i := 6) (oi := ?oi6) (v := ?v6) ?hi6 (by kernel_rfl) (by kernel_rfl) (by kernel_rfl) ?hQ6 ?hy6 ?rest6
          case hi6 =>
            simp only [List.getElem?_toArray, List.getElem?_cons_succ, List.getElem?_cons_zero]
            rfl
          case hQ6 => exact fun _ _ _ h => h
          case hy6 =>
            refine yields_if (by rfl) (fun W hW => ?_)
            try dsimp only at hW
            go_simp
            first | done | with_reducible rfl
          simp only [Act.put, List.setIfInBounds_toArray, List.set_cons_zero, List.set_cons_succ]
          refine ks_take (i := 7) (oi := ?oi7) (v := ?v7) ?hi7 (by kernel_rfl) (by kernel_rfl) (by kernel_rfl) (by kernel_rfl) ?hQ7 ?hS7 ?hy7 ?rest7
          case hi7 =>
            simp only [List.getElem?_toArray, List.getElem?_cons_succ, List.getElem?_cons_zero]
            rfl
          case hQ7 => exact fun _ _ _ h => h
          case hS7 => exact ⟨p0, p1⟩
          case hy7 =>
            refine yields_if (by rfl) (fun W hW => ?_)
            try dsimp only at hW
            go_simp
            first | done | with_reducible rfl
          simp only [Act.put, List.setIfInBounds_toArray, List.set_cons_zero, List.set_cons_succ]
          refine ks_pure (i := 8) (oi := ?oi8) (v := ?v8) ?hi8 (by kernel_rfl) (by kernel_rfl) (by kernel_rfl) ?hQ8 ?hy8 ?rest8
          case hi8 =>
            simp only [List.getElem?_toArray, List.getElem?_cons_succ, List.getElem?_cons_zero]
            rfl
          case hQ8 => exact fun _ _ _ h => h
          case hy8 =>
            refine yields_if (by rfl) (fun W hW => ?_)
            try dsimp only at hW
            go_simp
            first | done | with_reducible rfl
          simp only [Act.put, List.setIfInBounds_toArray, List.set_cons_zero, List.set_cons_succ]
          refine ks_pure (i := 9) (oi := ?oi9) (v := ?v9) ?hi9 (by kernel_rfl) (by kernel_rfl) (by kernel_rfl) ?hQ9 ?hy9 ?rest9
          case hi9 =>
            simp only [List.getElem?_toArray, List.getElem?_cons_succ, List.getElem?_cons_zero]
            rfl
          case hQ9 => exact fun _ _ _ h => h
          case hy9 =>
            refine yields_if (by rfl) (fun W hW => ?_)
            try dsimp only at hW
            go_simp
            first | done | with_reducible rfl
          simp only [Act.put, List.setIfInBounds_toArray, List.set_cons_zero, List.set_cons_succ]
          refine ks_take (i := 10) (oi := ?oi10) (v := ?v10) ?hi10 (by kernel_rfl) (by kernel_rfl) (by kernel_rfl) (by kernel_rfl) ?hQ10 ?hS10 ?hy10 ?rest10
          case hi10 =>
            simp only [List.getElem?_toArray, List.getElem?_cons_succ, List.getElem?_cons_zero]
            rfl
          case hQ10 => exact fun _ _ _ h => h
          case hS10 => exact ⟨p0, p1⟩
          case hy10 =>
            refine yields_if (by rfl) (fun W hW => ?_)
            try dsimp only at hW
            go_simp
            first | done | with_reducible rfl
          simp only [Act.put, List.setIfInBounds_toArray, List.set_cons_zero, List.set_cons_succ]
          refine ks_pure (i := 11) (oi := ?oi11) (v := ?v11) ?hi11 (by kernel_rfl) (by kernel_rfl) (by kernel_rfl) ?hQ11 ?hy11 ?rest11
          case hi11 =>
            simp only [List.getElem?_toArray, List.getElem?_cons_succ, List.getElem?_cons_zero]
            rfl
          case hQ11 => exact fun _ _ _ h => h
          case hy11 =>
            refine yields_if (by rfl) (fun W hW => ?_)
            try dsimp only at hW
            go_simp
            first | done | with_reducible rfl
          simp only [Act.put, List.setIfInBounds_toArray, List.set_cons_zero, List.set_cons_succ]
          refine ks_pure (i := 13) (oi := ?oi13) (v := ?v13) ?hi13 (by kernel_rfl) (by kernel_rfl) (by kernel_rfl) ?hQ13 ?hy13 ?rest13
          case hi13 =>
            simp only [List.getElem?_toArray, List.getElem?_cons_succ, List.getElem?_cons_zero]
            rfl
          case hQ13 => exact fun _ _ _ h => h
          case hy13 =>
            refine yields_if (by rfl) (fun W hW => ?_)
            try dsimp only at hW
            go_simp
            first | done | with_reducible rfl
          simp only [Act.put, List.setIfInBounds_toArray, List.set_cons_zero, List.set_cons_succ]
          refine ks_one (i := 12) (o := ?o12) ?ho12 (by kernel_rfl) (fun K hK => ?_)
          case ho12 =>
            simp only [List.getElem?_toArray, List.getElem?_cons_succ, List.getElem?_cons_zero]
            rfl
          go_simp
          try rw [hmk2]
          go_simp
          refine hK _ _ (by intro _ _; exact ⟨q0, q1⟩) ?_
          clear hK K
          try simp only [Act.put, List.setIfInBounds_toArray, List.set_cons_zero, List.set_cons_succ]
          refine ks_pure (i := 14) (oi := ?oi14) (v := ?v14) ?hi14 (by kernel_rfl) (by kernel_rfl) (by kernel_rfl) ?hQ14 ?hy14 ?rest14
          case hi14 =>
            simp only [List.getElem?_toArray, List.getElem?_cons_succ, List.getElem?_cons_zero]
            rfl
          case hQ14 => exact fun _ _ _ h => h
          case hy14 =>
            refine yields_if (by rfl) (fun W hW => ?_)
            try dsimp only at hW
            go_simp
            first | done | with_reducible rfl
          simp only [Act.put, List.setIfInBounds_toArray, List.set_cons_zero, List.set_cons_succ]
          refine ks_one (i := 15) (o := ?o15) ?ho15 (by kernel_rfl) (fun K hK => ?_)
          case ho15 =>
            simp only [List.getElem?_toArray, List.getElem?_cons_succ, List.getElem?_cons_zero]
            rfl
          go_simp
          refine hK _ _ (by intro _ _; exact ⟨r0, r1⟩) ?_
          clear hK K
          try simp only [Act.put, List.setIfInBounds_toArray, List.set_cons_zero, List.set_cons_succ]
          refine ks_one (i := 16) (o := ?o16) ?ho16 (by kernel_rfl) (fun K9 hK => ?_)
          case ho16 =>
            simp only [List.getElem?_toArray, List.getElem?_cons_succ, List.getElem?_cons_zero]
            rfl
          refine step_append1 (((w6.drewN q6).drew).alloc (.cells next0.toArray 3)) #[.slice a m c, .slice (some ⟨w6.heap.size, 0, none⟩) 256 256, .bool mt] rfl (.tmp 97) (.tmp 102) 134 rfl N 142 i0 _ 3 56 Tryd.underlying134 hi0 hz0 hz1 hz2 rfl (by omega) rfl (.slice K.sa S.length K.sc) S.length _ rfl OWS.out (w6.heap.size + 1) (by simp [World.drew, World.drewN]) rfl (by simp [Value.oneCell']) (by unfold maxLen; omega) (by omega) HNS.out ?_
          intro g3 c3 w7 ho7 hg7 hat7
          have H7 := Lib.hid (And.intro ho7 (And.intro hg7 hat7))
          have t0 := HK0.out _ hg7
          have t1 := HK1.out _ hg7
          have tf := HKF.out _ hg7
          clear ho7 hg7 hat7
          refine hK _ _ (by intro _ _; exact ⟨t0, t1⟩) ?_
          clear hK K9
          try simp only [Act.put, List.setIfInBounds_toArray, List.set_cons_zero, List.set_cons_succ]
          refine ks_pure (i := 17) (oi := ?oi17) (v := ?v17) ?hi17 (by kernel_rfl) (by kernel_rfl) (by kernel_rfl) ?hQ17 ?hy17 ?rest17
          case hi17 =>
            simp only [List.getElem?_toArray, List.getElem?_cons_succ, List.getElem?_cons_zero]
            rfl
          case hQ17 => exact fun _ _ _ h => h
          case hy17 =>
            refine yields_if (by rfl) (fun W hW => ?_)
            try dsimp only at hW
            go_simp
            first | done | with_reducible rfl
          simp only [Act.put, List.setIfInBounds_toArray, List.set_cons_zero, List.set_cons_succ]
          refine ks_pure (i := 18) (oi := ?oi18) (v := ?v18) ?hi18 (by kernel_rfl) (by kernel_rfl) (by kernel_rfl) ?hQ18 ?hy18 ?rest18
          case hi18 =>
            simp only [List.getElem?_toArray, List.getElem?_cons_succ, List.getElem?_cons_zero]
            rfl
          case hQ18 => exact fun _ _ _ h => h
          case hy18 =>
            refine yields_if (by rfl) (fun W hW => ?_)
            try dsimp only at hW
            go_simp
            first | done | with_reducible rfl
          simp only [Act.put, List.setIfInBounds_toArray, List.set_cons_zero, List.set_cons_succ]
          refine ks_one (i := 19) (o := ?o19) ?ho19 (by kernel_rfl) (fun K hK => ?_)
          case ho19 =>
            simp only [List.getElem?_toArray, List.getElem?_cons_succ, List.getElem?_cons_zero]
            rfl
          go_simp
          refine hK _ _ (by simp) ?_
          clear hK K
          try simp only [Act.put, List.setIfInBounds_toArray, List.set_cons_zero, List.set_cons_succ]
          refine ks_done (by kernel_rfl) ?_ _
          simp only [Exit.then]
          rename_i hKK
          refine hKK _ _ ?_
          clear hKK
          refine name_world ?_
          intro w8 hw8
          have D9 := Lib.hid (show DG w8 N { K with kb := some ⟨g5, 0, none⟩, kn := 8 * m, kc := cc5, sa := some ⟨g3, 0, none⟩, sc := c3, recs := K.recs ++ [⟨a, c, w6.heap.size⟩] } P (S ++ [rmF P l]) S tb ∧ Fr (fun k => isAt K.sa k ∨ k = K.F) w6 w8 from by
            have h1 := D6.out.drewN (q6 + 1)
            have h2 := h1.push (L := rmF P l) (a8 := a) (c8 := c) (g := g3) (c := c3) (w3 := w7) (by rw [← HM.out]; exact ROW6.out) (by
              have h3 := H7.out.1
              have e : (#[.slice a m c, .slice (some ⟨w6.heap.size, 0, none⟩) 256 256, .bool mt] : Array Value).toList = stC P (⟨a, c, w6.heap.size⟩, rmF P l) := by
                unfold stC
                rw [HMT.out, HM.out]
                rfl
              rw [e] at h3
              exact h3) H7.out.2.1
            rw [hw8]
            exact ⟨h2.1, ⟨h2.2.os, h2.2.tape, h2.2.output, h2.2.size, h2.2.block⟩⟩)
          have HG3 := Lib.hid (show K.O g3 ∨ w.heap.size ≤ g3 from by
            rcases H7.out.2.2 g3 rfl with g | g
            · exact .inl (.inr (.inr (.inr (.inl (own_isAt.1 g)))))
            · have := F6.out.size
              simp [World.drew, World.drewN] at g
              exact .inr (by omega))
          clear hw8 t0 t1 tf p0 p1 q0 q1 r0 r1 HK0 HK1 HKF OWS HNS D8 D7 DA H7 hmk2
          obtain ⟨D2, n2, hD2, hok2, hn2⟩ := D9.out.1.map
          have HD2 := Lib.hid hD2
          have HOK2 := Lib.hid hok2
          have HN2 := Lib.hid hn2
          have hlen : (S ++ [rmF P l]).length = S.length + 1 := by simp
          have b0 : w8.cell? ⟨K.B, 0, none⟩ = some (.pointer (some ⟨K.F, 0, none⟩)) := D9.out.1.b.cell 0
          have b1 : w8.cell? ⟨K.B, 1, none⟩ = some (.map (some K.M)) := D9.out.1.b.cell 1
          have b2 : w8.cell? ⟨K.B, 2, none⟩ = some (.slice (some ⟨g5, 0, none⟩) (8 * m) cc5) := D9.out.1.b.cell 2
          have f1 : w8.cell? ⟨K.F, 1, none⟩ = some (.slice (some ⟨g3, 0, none⟩) (S.length + 1) c3) := by
            have h1 := D9.out.1.f.cell 1
            simp only [List.getElem?_cons_zero, List.getElem?_cons_succ, hlen] at h1
            exact h1
          have KO8 := Lib.hid (show w8.ownsRow N 5 1 (.slice (some ⟨g5, 0, none⟩) (8 * m) cc5) (8 * m) (keyCells (ints (rmF P l))) from
            fr_row D9.out.2 KO6.out (fun k e e2 => by
              rcases e2 with e2 | rfl
              · exact rows_ne KO6.out D6.out.row (by decide) k e e2
              · exact row_ne KO6.out D6.out.f (by decide) e))
          have hconv : ∀ W : World, (∀ p : Addr, p.block = g5 → W.cell? p = w8.cell? p) → (convert 79 9 (.slice (some ⟨g5, 0, none⟩) (8 * m) cc5)).run Tryd.prog W = .ok (.string ⟨(kby (rmF P l)).toArray⟩) W := fun W hW => by
            have hl8 : (kby (rmF P l)).length = 8 * m := by rw [kby_len, HM.out]
            have := run_convert_bytes_back (P := Tryd.prog) W 79 9 5 ⟨g5, 0, none⟩ cc5 (kby (rmF P l)) Tryd.underlying79 Tryd.underlying5 Tryd.underlying9 (fun j hj => by
              obtain ⟨ad, had, -, hc⟩ := sl_of_own KO8.out j (.int .u8 ((kby (rmF P l))[j].toNat : Int)) (by rw [keyCells_kby]; simp [Lib.byteCells, List.getElem?_eq_getElem hj])
              injection had with had
              subst had
              rw [hW _ (block_add _ _)]
              exact hc)
            rwa [hl8] at this
          have hconv1 := hconv w8.drew (fun _ _ => rfl)
          clear hconv
          go_upto_region 23 with fail
          go_still_tail 10, (by kernel_rfl)
          change wpList _ _ _ _ _ w8.drew
          refine wpList_mapUpdate_own w8.drew rfl (.tmp 118) (.tmp 123) (.tmp 124) 137 rfl 9 3 keyed_s Tryd.underlying137 (plainElem Tryd.prog 3) K.M n2 D2 rfl (own_map_keep HD2.out rfl) (by have := HN2.out; unfold maxLen; omega) (.string ⟨(kby (rmF P l)).toArray⟩) (.int .i64 (S.length : Nat)) (.string (kby (rmF P l))) rfl (by first | rfl | (simp; done)) (key_of (rmF P l) hLl) (.lit (.int .i64 (S.length : Nat))) [] (plainElem_int Tryd.underlying3 (by simp [Lit.wf, IntKind.min, IntKind.max, IntKind.signed, IntKind.bits]; omega)) ?_
          intro w9 hD9 hg9
          have M9 := Lib.hid ((D9.out.1.drewN 1).mput (by exact hg9) hD9 (HOK2.out.put HD2.out.isMap HNM.out hLne hLl HLsm.out) (by have := HN2.out; rw [hlen]; omega) (own_map_keep HD2.out rfl))
          have HE := Lib.hid (show CsOut w N K P S tb (rmF P l) ra w9 { K with kb := some ⟨g5, 0, none⟩, kn := 8 * m, kc := cc5, sa := some ⟨g3, 0, none⟩, sc := c3, recs := K.recs ++ [⟨a, c, w6.heap.size⟩] } none 0 0 from
            { dm := by rw [put_new HNM.out]; exact M9.out.1, row := ⟨_, World.ownsRow_nil _ _ _ _⟩
              fr := F6.out.go ((D9.out.2.mono (O' := fun k => K.O k) (fun k _ e => by
                rcases e with e | rfl
                · exact .inr (.inr (.inr (.inl e)))
                · exact .inr (.inl rfl))).go (Fr.mono (O' := fun k => K.O k) (show Fr (fun k => k = K.M) w8 w9 from ⟨M9.out.2.os, M9.out.2.tape, M9.out.2.output, M9.out.2.size, M9.out.2.block⟩) (fun k _ e => by rw [e]; exact .inr (.inr (.inl rfl)))) (fun k _ e => .inl e)) (fun k _ e => .inl (.inl e))
              o := fun k e => by
                have h1 : DK.O { K with sa := some ⟨g3, 0, none⟩, sc := c3, recs := K.recs ++ [⟨a, c, w6.heap.size⟩] } k ∨ k = g5 := by
                  rcases e with e | e | e | e | ⟨ad, e, e2⟩ | e
                  · exact .inl (.inl e)
                  · exact .inl (.inr (.inl e))
                  · exact .inl (.inr (.inr (.inl e)))
                  · exact .inl (.inr (.inr (.inr (.inl e))))
                  · injection e with e
                    subst e
                    exact .inr e2.symm
                  · exact .inl (.inr (.inr (.inr (.inr (.inr e)))))
                rcases h1 with h1 | rfl
                · rcases DK.O_push h1 with g | rfl | rfl | g
                  · exact .inl g
                  · exact HG3.out.imp id .inr
                  · exact .inr (.inr F6.out.size)
                  · exact .inr (HRA.out k g)
                · exact HG5.out.imp id .inr
              ro := fun k ⟨ad, e, _⟩ => by cases e
              apart := fun k ⟨ad, e, _⟩ => by cases e
              eB := rfl, eF := rfl, ea := rfl, ec := rfl })
          have HI := Lib.hid (show S.idxOf (rmF P l) = S.length from List.idxOf_eq_length HNM.out)
          clear hD9 hg9 b0 b1 b2 f1 hconv1
          go_wp2
          go_ret2
          rw [HI.out]
          exact ⟨_, none, 0, 0, rfl, HE.out⟩
end
end Go.Proofs.YtbkpgfccghombaaDoor.rx
