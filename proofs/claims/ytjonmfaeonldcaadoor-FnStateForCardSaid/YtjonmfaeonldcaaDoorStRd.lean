/-
  FnStateFor: a state that was written is read back: where it goes by a byte. Conditions: as stated.
-/
import Derived.Test.YtjonmfaeonldcaaDoorStU
import Derived.Test.YtjonmfaeonldcaaDoorStV
import Derived.Test.YtjonmfaeonldcaaDoorStW
import Derived.Test.YtjonmfaeonldcaaDoorStV2
import Derived.Test.YtjonmfaeonldcaaDoorStR
namespace Go.Proofs.YtjonmfaeonldcaaDoor.fnStateFor
open Go.ChangeShapes Go.WideShapes Go.ChangeAt Go.RowKit
set_option linter.unusedVariables false

/-- a state that has been read tells its arcs -/
structure Rd (w : World) (N : Nat) (l : List Arc) : Prop where
  hit : ∀ k (h : k < l.length), Calls Tryd.prog 87 #[.pointer (some ⟨N, 0, none⟩), .int .u8 l[k].1] w fun e w' => e = .returned (.tuple #[.int .i64 k, .int .i64 l[k].2.2, .int .u64 l[k].2.1]) ∧ ∃ n, w' = w.drewN n
  none : ∀ b, 0 ≤ b → b ≤ 255 → (∀ x ∈ l, x.1 ≠ b) → Calls Tryd.prog 87 #[.pointer (some ⟨N, 0, none⟩), .int .u8 b] w fun e w' => e = .returned (.tuple #[.int .i64 (-1), .int .i64 1, .int .u64 0]) ∧ ∃ n, w' = w.drewN n
def RdS (N : Nat) (l : List Arc) (W : World) (e : Ending) (w' : World) : Prop := e = .returned .nilIface ∧ Fr (fun k => k = N) W w' ∧ Rd w' N l

/-- the struct as atSingle and atMulti get it -/
def begL (g n cap t : Nat) : List Value := stL g n cap t t (.int .i64 0) (.int .u8 0) (.bool false) (.int .u64 0) (.int .u64 0) (.int .i64 0) (.int .i64 0)
theorem beg_mul (g n cap t : Nat) : begL g n cap t = mulL g n cap t t 0 0 0 false 0 0 0 0 0 0 0 := rfl

theorem Fr.dt {W w' : World} {N g : Nat} {D : List Int} (h : Fr (fun k => k = N) W w') (hD : Dt W g D) (hg : g < W.heap.size) (hgN : g ≠ N) : Dt w' g D :=
  ⟨fun i hi => (h.cell_ne hg hgN ⟨g, i, none⟩ rfl).trans (hD.c i hi)⟩

theorem rd_one {W w' : World} {N g n cap t : Nat} {ch addr out hd : Int} {e : Ending} {D : List Int} (h : OneS W N g n cap t ch addr out e w') (hD : Dt W g D) (hn : n = D.length) (hg : g < W.heap.size) (hgN : g ≠ N)
    (ht : At D t [hd]) (hb : hd / 128 = 1) (hd0 : 0 ≤ hd) (hd1 : hd ≤ 255) (hmax : n ≤ 100000000) (ha0 : 0 ≤ addr) (ha1 : addr ≤ 1000000000) : RdS N [(ch, out, addr)] W e w' := by
  obtain ⟨bot, x3, x5, x8, x9, he, hB, hF⟩ := h
  have hD' := hF.dt hD hg hgN
  have T := fun b => tf_one hB hD' hn ht hb hd0 hd1 hmax ha0 ha1 b
  refine ⟨he, hF, ⟨fun k hk => ?_, fun b _ _ hx => ?_⟩⟩
  · obtain rfl : k = 0 := by simpa using hk
    have := T ch
    rw [if_pos rfl] at this
    exact this
  · have := T b
    rw [if_neg (hx _ (List.mem_singleton.2 rfl))] at this
    exact this

/-- what is asked of an arc: a byte, an output, an address ahead of the state -/
def okArc (S : Nat) (x : Arc) : Prop := (0 ≤ x.1 ∧ x.1 ≤ 255) ∧ (0 ≤ x.2.1 ∧ x.2.1 ≤ 18446744073709551615) ∧ 0 ≤ x.2.2 ∧ x.2.2 < S

/-- the place of the data -/
structure Pl (W : World) (N g n cap t : Nat) (D : List Int) : Prop where
  b : Blk W N 78 (begL g n cap t)
  d : Dt W g D
  nl : n = D.length
  gl : g < W.heap.size
  ne : g ≠ N
  cp : n ≤ cap
  mx : n ≤ 100000000
  t16 : 16 ≤ t
  tb : ∀ w, Fr (fun k => k = N) W w → Tabs w

theorem one_state {W : World} {N g n cap t S : Nat} {D : List Int} {o last : Int} {y : Arc} (P : Pl W N g n cap t D) (hA : At D S (stB cd S false o [y] last)) (ht : t + 1 = S + (stB cd S false o [y] last).length)
    (hy : okArc S y) (hl : y.2.1 = 0 ∧ y.2.2 = last → y.2.2 = (S : Int) - 1) (hS : 16 ≤ S) :
    Calls Tryd.prog 37 #[.pointer (some ⟨N, 0, none⟩), .slice (some ⟨g, 0, none⟩) n cap, .int .i64 t] W (RdS N [y] W) ∧ ∃ hd, At D t [hd] ∧ hd / 128 = 1 ∧ 0 ≤ hd ∧ hd ≤ 255 := by
  obtain ⟨i, o, a⟩ := y
  obtain ⟨⟨i0, i1⟩, ⟨o0, o1⟩, a0, a1⟩ := hy
  simp only at i0 i1 o0 o1 a0 a1 hl
  have hcb := cd_bd i i0 i1
  have hSn : (S : Int) ≤ 1000000000 := by have := hA.len; have := P.mx; have := P.nl; omega
  have hB := P.b
  unfold begL at hB
  by_cases h1 : o = 0 ∧ a = last
  · rw [stB_next h1] at hA ht
    have hae := hl h1
    obtain ⟨rfl, -⟩ := h1
    subst hae
    unfold finB at hA ht
    by_cases hc : cd i = 0
    · rw [if_pos hc] at hA ht
      simp only [List.singleton_append, List.length_cons, List.length_nil] at ht
      obtain rfl : t = S + 1 := by omega
      have hA2 : At D (S + 1) [128 + 64 + cd i] := hA.snd' (by simp)
      have q := hdr_of 64 (cd i) (.inr rfl) hcb.1 hcb.2
      refine ⟨(atsN0 hB P.d P.nl P.tb P.gl P.ne i0 i1 hc hA2 P.t16 P.cp P.mx hA.fst rfl).mono (fun e w' h => rd_one h P.d P.nl P.gl P.ne hA2 q.2.2 (by omega) (by omega) P.mx (by omega) (by omega)), _, hA2, q.2.2, by omega, by omega⟩
    · rw [if_neg hc] at hA ht
      simp only [List.nil_append, List.length_cons, List.length_nil] at ht hA
      obtain rfl : t = S := by omega
      have q := hdr_of 64 (cd i) (.inr rfl) hcb.1 hcb.2
      refine ⟨(atsN1 hB P.d P.nl P.tb P.gl P.ne i0 i1 hc hA P.t16 P.cp P.mx).mono (fun e w' h => rd_one h P.d P.nl P.gl P.ne hA q.2.2 (by omega) (by omega) P.mx (by omega) (by omega)), _, hA, q.2.2, by omega, by omega⟩
  · rw [stB_one h1] at hA ht
    clear h1 hl
    unfold oneB at hA ht
    simp only at hA ht
    obtain ⟨dl, hdl⟩ : ∃ dl, dl = dlt S a := ⟨_, rfl⟩
    rw [← hdl] at hA ht
    have hd0 : 0 ≤ dl ∧ dl ≤ 18446744073709551615 ∧ dl ≤ S ∧ (dl = 0 ↔ a = 0) ∧ (dl ≠ 0 → (S : Int) - dl = a) := by
      unfold dlt at hdl
      split at hdl <;> omega
    clear hdl
    have hz := szN_bd dl
    have hzf : dl < 256 ^ szN dl := szI_fits dl hd0.2.1
    have hof : 0 < oSize o → o < 256 ^ oSize o := fun hp => by
      unfold oSize at hp ⊢
      split at hp
      · omega
      · rw [if_neg (by assumption)]; exact szI_fits o o1
    have ho0 : oSize o = 0 → o = 0 := fun h => by
      unfold oSize at h
      split at h
      · assumption
      · have := szN_bd o; omega
    have hol := oSize_le o
    generalize szN dl = zs at *
    generalize oSize o = os at *
    have hk4 := hA.fst
    have hA3 := hA.snd' (j := S + os) (by rw [pk_len])
    have hk3 := hA3.fst
    have hA2 := hA3.snd' (j := S + os + zs) (by rw [pk_len])
    have hk2 := hA2.fst
    have hA1 : At D (S + os + zs + 1) (finB cd i 0) := hA2.snd' (by simp)
    have hlen : t = S + os + zs + (finB cd i 0).length := by
      simp only [List.length_append, pk_len, List.length_cons, List.length_nil] at ht
      omega
    clear hA ht hA3 hA2
    unfold finB at hA1 hlen
    have q := hdr_of 0 (cd i) (.inl rfl) hcb.1 hcb.2
    by_cases hc : cd i = 0
    · rw [if_pos hc] at hA1 hlen
      simp only [List.singleton_append, List.length_cons, List.length_nil] at hlen
      have hA0 : At D t [128 + 0 + cd i] := hA1.snd' (by simp; omega)
      have hA1 : At D (S + os + zs + 1) [i] := hA1.fst
      refine ⟨?_, _, hA0, q.2.2, by omega, by omega⟩
      have G := fun e w' h => rd_one (W := W) (N := N) (cap := cap) (ch := i) (addr := a) (out := o) (e := e) (w' := w') h P.d P.nl P.gl P.ne hA0 q.2.2 (by omega) (by omega) P.mx (by omega) (by omega)
      by_cases hos : os = 0
      · obtain rfl := ho0 hos
        by_cases ha : dl = 0
        · obtain rfl := hd0.2.2.2.1.1 ha
          exact (atsF000 hB P.d P.nl P.tb P.gl P.ne i0 i1 hc hA0 P.t16 P.cp P.mx hA1 (by omega) hk2 hk3 hz hos (by omega) rfl ⟨hd0.1, hzf⟩ ha (o := 0)).mono G
        · have e := hd0.2.2.2.2 ha
          have C := atsF001 hB P.d P.nl P.tb P.gl P.ne i0 i1 hc hA0 P.t16 P.cp P.mx hA1 (by omega) hk2 hk3 hz hos (by omega) rfl ⟨hd0.1, hzf⟩ ha (by omega) (o := 0)
          rw [show ((S + os : Nat) : Int) - dl = a by omega] at C
          exact C.mono G
      · by_cases ha : dl = 0
        · obtain rfl := hd0.2.2.2.1.1 ha
          exact (atsF010 hB P.d P.nl P.tb P.gl P.ne i0 i1 hc hA0 P.t16 P.cp P.mx hA1 (by omega) hk2 hk3 hz ⟨by omega, hol⟩ (by omega) rfl ⟨hd0.1, hzf⟩ hk4 rfl ⟨o0, hof (by omega)⟩ ha).mono G
        · have e := hd0.2.2.2.2 ha
          have C := atsF011 hB P.d P.nl P.tb P.gl P.ne i0 i1 hc hA0 P.t16 P.cp P.mx hA1 (by omega) hk2 hk3 hz ⟨by omega, hol⟩ (by omega) rfl ⟨hd0.1, hzf⟩ hk4 rfl ⟨o0, hof (by omega)⟩ ha (by omega)
          rw [show (S : Int) - dl = a by omega] at C
          exact C.mono G
    · rw [if_neg hc] at hA1 hlen
      simp only [List.nil_append, List.length_cons, List.length_nil] at hlen hA1
      have hA0 : At D t [128 + 0 + cd i] := by
        obtain rfl : t = S + os + zs + 1 := by omega
        exact hA1
      refine ⟨?_, _, hA0, q.2.2, by omega, by omega⟩
      have G := fun e w' h => rd_one (W := W) (N := N) (cap := cap) (ch := i) (addr := a) (out := o) (e := e) (w' := w') h P.d P.nl P.gl P.ne hA0 q.2.2 (by omega) (by omega) P.mx (by omega) (by omega)
      by_cases hos : os = 0
      · obtain rfl := ho0 hos
        by_cases ha : dl = 0
        · obtain rfl := hd0.2.2.2.1.1 ha
          exact (atsF100 hB P.d P.nl P.tb P.gl P.ne i0 i1 hc hA0 P.t16 P.cp P.mx hk2 hk3 hz hos (by omega) rfl ⟨hd0.1, hzf⟩ ha (o := 0)).mono G
        · have e := hd0.2.2.2.2 ha
          have C := atsF101 hB P.d P.nl P.tb P.gl P.ne i0 i1 hc hA0 P.t16 P.cp P.mx hk2 hk3 hz hos (by omega) rfl ⟨hd0.1, hzf⟩ ha (by omega) (o := 0)
          rw [show ((S + os : Nat) : Int) - dl = a by omega] at C
          exact C.mono G
      · by_cases ha : dl = 0
        · obtain rfl := hd0.2.2.2.1.1 ha
          exact (atsF110 hB P.d P.nl P.tb P.gl P.ne i0 i1 hc hA0 P.t16 P.cp P.mx hk2 hk3 hz ⟨by omega, hol⟩ (by omega) rfl ⟨hd0.1, hzf⟩ hk4 rfl ⟨o0, hof (by omega)⟩ ha).mono G
        · have e := hd0.2.2.2.2 ha
          have C := atsF111 hB P.d P.nl P.tb P.gl P.ne i0 i1 hc hA0 P.t16 P.cp P.mx hk2 hk3 hz ⟨by omega, hol⟩ (by omega) rfl ⟨hd0.1, hzf⟩ hk4 rfl ⟨o0, hof (by omega)⟩ ha (by omega)
          rw [show (S : Int) - dl = a by omega] at C
          exact C.mono G

theorem many_state {W : World} {N g n cap t S : Nat} {D : List Int} {o : Int} {f : Bool} {l : List Arc} (P : Pl W N g n cap t D) (hA : At D S (manyB S f o l)) (ht : t + 1 = S + (manyB S f o l).length)
    (hm : l.length ≤ 256) (hl : ∀ x ∈ l, okArc S x) (hr : ∀ j k (hj : j < l.length) (hk : k < l.length), k < j → l[j].1 ≠ l[k].1) :
    Calls Tryd.prog 38 #[.pointer (some ⟨N, 0, none⟩), .slice (some ⟨g, 0, none⟩) n cap, .int .i64 t] W (RdS N l W) ∧ ∃ hd, At D t [hd] ∧ hd / 128 = 0 ∧ 0 ≤ hd ∧ hd ≤ 255 := by
  have hos := osz_le o l
  have hzs := tszL_le S l
  have HG := fun x hx => tszL_ge S l x hx
  have HO := fun x hx => out_none (o := o) (l := l) x hx
  have HP := fun (x : Arc) (hx : x ∈ l) (h : 0 < osz o l) => show szN x.2.1 ≤ osz o l from by
    unfold osz at h ⊢
    split at h
    · rw [if_pos (by assumption)]; exact oszL_ge o l x hx
    · omega
  obtain ⟨m, hml⟩ : ∃ m, m = l.length := ⟨_, rfl⟩
  unfold manyB at hA ht
  generalize osz o l = os at *
  generalize tszL S l = zs at *
  obtain ⟨s1, hs1⟩ : ∃ s1, s1 = S + if f then os else 0 := ⟨_, rfl⟩
  obtain ⟨s3, hs3⟩ : ∃ s3, s3 = s1 + m * os := ⟨_, rfl⟩
  obtain ⟨s4, hs4⟩ : ∃ s4, s4 = s3 + m * zs := ⟨_, rfl⟩
  obtain ⟨s5, hs5⟩ : ∃ s5, s5 = s4 + m := ⟨_, rfl⟩
  have l0 : (if f = true then pk o os else []).length = if f then os else 0 := by cases f <;> simp [pk_len]
  have hA1 := hA.snd' (j := s1) (by rw [l0]; exact hs1)
  have hk1 := hA1.fst
  have hA3 := hA1.snd' (j := s3) (by rw [flat_pk_len, List.length_reverse, ← hml]; exact hs3)
  have hk3 := hA3.fst
  have hA4 := hA3.snd' (j := s4) (by rw [flat_pk_len, List.length_reverse, ← hml]; exact hs4)
  have hk4 := hA4.fst
  have hA5 := hA4.snd' (j := s5) (by rw [List.length_map, List.length_reverse, ← hml]; exact hs5)
  have hk5 := hA5.fst
  have hA6 := hA5.snd' (j := s5 + 1) (by simp)
  have hk6 := hA6.fst
  have htt : t = s5 + 1 + (cntB l.length).length := by
    simp only [List.length_append, l0, flat_pk_len, List.length_reverse, List.length_map, List.length_cons, List.length_nil] at ht
    rw [← hml] at ht ⊢
    omega
  have hk7 := hA6.snd' (j := t) htt
  have hnb := numB_le l.length
  have q := hdm_of f (numB l.length) hnb
  have hsb : S ≤ 100000000 := by have := hA.len; have := P.mx; have := P.nl; omega
  have hs5n : s5 < n := by have := hk5.len; have := P.nl; simp at *; omega
  clear hA ht hA1 hA3 hA4 hA5 hA6
  have hh : 0 ≤ (numB l.length : Int) + (if f then 64 else 0) ∧ (numB l.length : Int) + (if f then 64 else 0) ≤ 255 := by cases f <;> simp <;> omega
  refine ⟨?_, _, hk7, q.2.2, hh.1, hh.2⟩
  have hB := P.b
  rw [beg_mul] at hB
  have C := atm_any (q := s5 + 1) (m := m) (zs := zs) (os := os) (s5 := s5) (s4 := s4) (s3 := s3) (s1 := s1) (s0 := S) (oT := if os = 0 then 0 else s3) (oB := if os = 0 then 0 else s1) (f := f) hB P.d P.nl P.gl P.ne (by omega) (by rw [hml]; exact hk7) P.cp P.mx rfl
    (by
      rw [hml]
      by_cases h : numB l.length = 0
      · refine .inr ⟨h, ?_, ?_⟩
        · unfold cntB at htt; rw [if_pos h] at htt; simpa using htt
        · unfold cntB at hk6; rw [if_pos h] at hk6; exact hk6
      · refine .inl ⟨h, ?_⟩
        unfold cntB at htt; rw [if_neg h] at htt; simpa using htt) hk5 hzs hos hs5 hs4 hs3 hs1 rfl rfl
  refine C.mono ?_
  rintro e w' ⟨oF, he, hBl, hF⟩
  have M : Mt w' N g n cap t S m zs os f s5 s4 s3 (if os = 0 then 0 else s3) (if os = 0 then 0 else s1) oF D S ((numB l.length : Int) + if f then 64 else 0) l :=
    { b := hBl, d := hF.dt P.d P.gl P.ne, nl := P.nl, cp := P.cp, mx := P.mx, lt := hs5n, sb := hsb, ml := hml, m2 := by omega, ht := hk7, hb := q.2.2, h0 := hh.1, h1 := hh.2, keys := hk4, dests := hk3
      outs := fun h => by rw [if_neg (by omega)]; exact hk1
      e1 := hs5, e2 := hs4, e3 := fun h => by rw [if_neg (by omega), if_neg (by omega)]; exact hs3
      e4 := fun h => by rw [if_pos h, if_pos h]; exact ⟨rfl, rfl⟩
      zl := hzs, ol := hos, kb := fun x hx => (hl x hx).1
      db := fun x hx => by
        have h1 := (hl x hx).2.2
        have h2 := HG x hx
        have h3 : 0 ≤ dlt S x.2.2 ∧ dlt S x.2.2 ≤ S := by unfold dlt; split <;> omega
        exact ⟨h3.1, fits _ _ (by omega) h2, h3.2⟩
      ob := fun h x hx => ⟨(hl x hx).2.1.1, fits _ _ (hl x hx).2.1.2 (HP x hx h)⟩
      on := fun h x hx => HO x hx h }
  refine ⟨he, hF, ⟨fun k hk => ?_, fun b hb0 hb1 hx => tf_none M b hb0 hb1 hx⟩⟩
  have h1 := (hl _ (List.getElem_mem hk)).2.2
  have T := tf_hit M k hk (fun j hj hkj => hr j k hj hk hkj)
  have e1 : (if dlt S l[k].2.2 = 0 then (0 : Int) else S - dlt S l[k].2.2) = l[k].2.2 := by
    unfold dlt
    split
    · rename_i h; rw [if_pos rfl]; exact h.symm
    · rw [if_neg (by omega)]; omega
  rw [e1] at T
  exact T

end Go.Proofs.YtjonmfaeonldcaaDoor.fnStateFor
