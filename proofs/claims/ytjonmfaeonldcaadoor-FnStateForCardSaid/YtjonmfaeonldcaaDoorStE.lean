/-
  FnStateFor: bytes.Buffer: Write, where the buffer has only been written. Conditions: as stated.
-/
import Derived.Test.YtjonmfaeonldcaaDoorStD
namespace Go.Proofs.YtjonmfaeonldcaaDoor.fnStateFor
open Go.ChangeShapes Go.WideShapes Go.ChangeAt Go.RowKit
set_option linter.unusedVariables false

/-- a Buffer that has only been written: its slice v, its bytes -/
structure Bf (W : World) (b : Nat) (v : Value) (fl : List Int) : Prop where
  s : Bs W b v
  row : W.ownsRow 0 5 1 v fl.length (by8 fl)
  z : fl = [] → v = .slice none 0 0

theorem one8 (l : List Int) : ∀ v ∈ by8 l, v.oneCell' = true := by
  intro v hv
  simp only [by8, List.mem_map] at hv
  obtain ⟨z, _, rfl⟩ := hv
  rfl

theorem _root_.Go.Proofs.YtjonmfaeonldcaaDoor.Blk.grown' {O : Nat → Prop} {w w' : World} {g : Nat} {t : TypeId} {l : List Value} (h : Blk w g t l) (hf : Fr O w w') (hg : ¬ O g) : Blk w' g t l := hf.blk h hg

/-- how a Buffer's slice lies: nil, or a row's beginning -/
theorem Bf.cases {W : World} {b : Nat} {v : Value} {fl : List Int} (h : Bf W b v fl) :
    (v = .slice none 0 0 ∧ fl = []) ∨ ∃ g cap cur, v = .slice (some ⟨g, 0, none⟩) fl.length cap ∧ Blk W g 5 cur ∧ cur.length = cap ∧ cap ≤ maxLen ∧ fl.length ≤ cap ∧ cur.take fl.length = by8 fl ∧ g ≠ b ∧ 1 ≤ fl.length := by
  rcases h.row with ⟨h1, ⟨rfl, h2⟩ | ⟨g, cap, cur, rfl, -, hh, hn, hm, hs, ht⟩⟩
  · exact .inl ⟨rfl, List.eq_nil_of_length_eq_zero h2⟩
  · refine .inr ⟨g, cap, cur.toList, rfl, by unfold Blk; simpa using hh, by simpa using hs, hm, hn, by simpa using ht, ?_, ?_⟩
    rotate_left
    · rcases Nat.eq_zero_or_pos fl.length with h0 | h0
      · have := h.z (List.eq_nil_of_length_eq_zero h0)
        cases this
      · exact h0
    rintro rfl
    obtain ⟨lr, hb⟩ := h.s
    unfold Blk at hb
    rw [hh] at hb
    injection hb with hb
    injection hb with _ ht
    revert ht
    decide

/-- growSlice's contract of the shelf -/
theorem gs_row {W w : World} {b g cap l n : Nat} {cur : List Value} {fl : List Int} (hB : Blk W g 5 cur) (hc : cur.length = cap) (hl : l ≤ cap) (hn : 1 ≤ n) (hlim : l + n ≤ 140737488355328) (hc2 : cap ≤ 140737488355328) (htk : cur.take l = by8 fl) (hgb : g ≠ b)
    (hf : Fr (fun k => k = b) W w) : Calls Tryd.prog 79 #[.slice (some ⟨g, 0, none⟩) l cap, .int .i64 n] w (Gs w l n (by8 fl)) := by
  have hB2 := hf.blk hB hgb
  refine (Tryd.bytes_growSlice_row g l cap n cur.toArray w hB2 (by simpa using hc) hl hn hlim hc2 (by simpa [htk] using one8 fl)).mono ?_
  rintro e w' ⟨cap2, cells, rfl, h1, h2, h3, h4, h5, h6⟩
  exact ⟨cap2, cells.toList, rfl, by unfold Blk; simpa using h1, by simpa using h2, by rw [h3]; simpa using htk, h4, h5, h6⟩
theorem gs_nil {w : World} {n : Nat} (hn : 1 ≤ n) (hlim : n ≤ 140737488355328) : Calls Tryd.prog 79 #[.slice none 0 0, .int .i64 n] w (Gs w 0 n []) := by
  refine (Tryd.bytes_growSlice_nil n w hn hlim).mono ?_
  rintro e w' ⟨cap2, cells, rfl, h1, h2, h4, h5, h6⟩
  exact ⟨cap2, cells.toList, rfl, by unfold Blk; simpa using h1, by simpa using h2, by simp, by omega, h5, h6⟩

/-- where grow is called: there is no room; it makes some -/
theorem grow_any {W : World} {b n : Nat} {ao : Option Addr} {l cap : Nat} {fl : List Int} (h : Bf W b (.slice ao l cap) fl) (hn : 1 ≤ n) (hno : cap < l + n) (hlim : l + n ≤ 140737488355328) :
    Calls Tryd.prog 77 #[.pointer (some ⟨b, 0, none⟩), .int .i64 n] W fun e w' => e = .returned (.int .i64 l) ∧ ∃ g2 cap2 cur, Gr w' b g2 l n cap2 cur ∧ cur.take l = by8 fl ∧ W.heap.size ≤ g2 ∧ Fr (fun k => k = b) W w' := by
  rcases h.cases with ⟨he, rfl⟩ | ⟨g, cap', cur, he, hB, hc, hm, hlc, htk, hgb, hl0⟩
  · injection he with h1 h2 h3
    subst h1 h2 h3
    by_cases h64 : n ≤ 64
    · refine (grow_small h.s hn h64).mono ?_
      rintro e w' ⟨rfl, g, cap, cur, hg, hge, hf⟩
      exact ⟨rfl, g, cap, cur, hg, by simp [by8], hge, hf⟩
    · refine (grow_big h.s (by omega) (by omega) (fun w _ => gs_nil hn (by omega))).mono ?_
      rintro e w' ⟨rfl, g, cap, cur, hg, ht, hge, hf⟩
      exact ⟨rfl, g, cap, cur, hg, by simp [by8], hge, hf⟩
  · injection he with h1 h2 h3
    subst h1 h2 h3
    refine (grow_row (xs := by8 fl) h.s hn hlc hno hl0 hlim (fun w hf => gs_row hB hc hlc hn hlim (by omega) htk hgb hf)).mono ?_
    rintro e w' ⟨rfl, h1⟩
    exact ⟨rfl, h1⟩

/-- what Write leaves -/
def Wrote (W : World) (b n : Nat) (v : Value) (out : List Int) (e : Ending) (w' : World) : Prop :=
  e = .returned (.tuple #[.int .i64 n, .nilIface]) ∧ ∃ v', Bf w' b v' out ∧ Fr (fun k => k = b ∨ v.ownBlock = some k) W w' ∧ ∀ k, v'.ownBlock = some k → v.ownBlock = some k ∨ W.heap.size ≤ k

theorem wrote_end {W w : World} {b g l cap : Nat} {v : Value} {cur : List Value} {fl cs : List Int} (h : Gr w b g l cs.length cap cur) (hl : l = fl.length) (ht : cur.take l = by8 fl) (hn : 1 ≤ cs.length) (hgb : g ≠ b)
    (hf : Fr (fun k => k = b ∨ v.ownBlock = some k) W w) (hg : v.ownBlock = some g ∨ W.heap.size ≤ g) {M : Array Value} (hM : M = (cur.take l ++ by8 cs ++ cur.drop (l + cs.length)).toArray) :
    Wrote W b cs.length v (fl ++ cs) (.returned (.tuple #[.int .i64 cs.length, .nilIface])) (w.setRow g M) := by
  subst hM
  subst hl
  have hlen := h.len
  have hle := h.le
  have hB : Blk (w.setRow g (cur.take fl.length ++ by8 cs ++ cur.drop (fl.length + cs.length)).toArray) g 5 (cur.take fl.length ++ by8 cs ++ cur.drop (fl.length + cs.length)) := setRow_heap w g _ _ _ _ h.g
  have ho : ∀ k, k ≠ g → (w.setRow g (cur.take fl.length ++ by8 cs ++ cur.drop (fl.length + cs.length)).toArray).heap[k]? = w.heap[k]? := fun k hk => setRow_other w g k _ hk
  have hsz : (w.setRow g (cur.take fl.length ++ by8 cs ++ cur.drop (fl.length + cs.length)).toArray).heap.size = w.heap.size := by simp [World.setRow]
  refine ⟨rfl, .slice (some ⟨g, 0, none⟩) (fl.length + cs.length) cap, ⟨?_, ?_, ?_⟩, ⟨hf.os, hf.tape, hf.output, by rw [hsz]; exact hf.size, fun k hk hno => ?_⟩, fun k hk => ?_⟩
  · obtain ⟨lr, hb⟩ := h.s
    exact ⟨lr, (ho b (fun e => hgb e.symm)).trans hb⟩
  · have h2 : (fl.length + cs.length) = (fl ++ cs).length := by simp
    refine ⟨by simp [by8], .inr ⟨g, cap, _, by rw [h2], Nat.zero_le _, hB, by rw [← h2]; exact hle, h.mx, ?_, ?_⟩⟩
    · simp [by8]
      omega
    · rw [ht]
      simp only [Nat.mul_one, List.length_append, by8]
      rw [List.take_append_of_le_length (by simp)]
      rw [List.take_of_length_le (by simp)]
      simp
  · intro e
    simp at e
    rw [e.2] at hn
    simp at hn
  · rcases Nat.lt_or_ge k W.heap.size with h3 | h3
    · have hkg : k ≠ g := by
        rintro rfl
        rcases hg with e | e
        · exact hno (.inr e)
        · omega
      exact (ho k hkg).trans (hf.block k hk hno)
    · omega
  · simp [Value.ownBlock] at hk
    subst hk
    exact hg

theorem info1 : (Tryd.prog.info? 5).map (·.size) = some 1 := by kernel_rfl

/-- the copy at Write's end -/
theorem copy_run0 {w : World} {b g l cap u c : Nat} {cur r : List Value} {cs : List Int} (h : Gr w b g l cs.length cap cur) (hu : Blk w u 5 (by8 cs ++ r)) :
    (Builtin.copy_ #[34, 34] 3 #[.slice (some ⟨g, l, none⟩) cs.length (cap - l), .slice (some ⟨u, 0, none⟩) cs.length c]).run Tryd.prog w =
      .ok (.int .i64 cs.length) (w.setRow g (cur.take l ++ by8 cs ++ cur.drop (l + cs.length)).toArray) := by
  have hx := run_copy_row (P := Tryd.prog) w 34 34 3 5 g l cs.length (cap - l) ⟨u, 0, none⟩ cs.length c cur.toArray 5 (by8 cs) Tryd.underlying34 info1 h.g (by rw [by8_len]; exact (Nat.min_self _).symm)
    (fun j v hj => by
      have hj' : j < (by8 cs).length := (List.getElem?_eq_some_iff.1 hj).1
      have e : ((⟨u, 0, none⟩ : Addr).add j) = ⟨u, j, none⟩ := by
        unfold Addr.add
        by_cases h0 : j = 0 <;> simp [h0]
      rw [e, hu.cell j, List.getElem?_append_left hj']
      exact hj) (by rw [by8_len]; have := h.len; have := h.le; simp; omega) (one8 cs)
  rw [by8_len] at hx
  exact hx

theorem copy_run {w : World} {b g l cap u c : Nat} {cur r : List Value} {cs : List Int} (h : Gr w b g l cs.length cap cur) (hu : Blk w u 5 (by8 cs ++ r)) :
    ∃ M, M = (cur.take l ++ by8 cs ++ cur.drop (l + cs.length)).toArray ∧ (Builtin.copy_ #[34, 34] 3 #[.slice (some ⟨g, l, none⟩) cs.length (cap - l), .slice (some ⟨u, 0, none⟩) cs.length c]).run Tryd.prog w =
      .ok (.int .i64 cs.length) (w.setRow g M) := ⟨_, rfl, copy_run0 h hu⟩

set_option maxRecDepth 100000 in
set_option maxHeartbeats 1600000 in
theorem write_any {W : World} {b u c : Nat} {v : Value} {fl cs : List Int} {r : List Value} (h : Bf W b v fl) (hn : 1 ≤ cs.length) (hu : Blk W u 5 (by8 cs ++ r)) (hub : u ≠ b) (hvu : v.ownBlock ≠ some u) (hlim : fl.length + cs.length ≤ 140737488355328) :
    Calls Tryd.prog 75 #[.pointer (some ⟨b, 0, none⟩), .slice (some ⟨u, 0, none⟩) cs.length c] W (Wrote W b cs.length v (fl ++ cs)) := by
  have hvb : v.ownBlock ≠ some b := by
    obtain ⟨lr, hb⟩ := h.s
    exact row_ne h.row hb (by decide)
  have h2 : Bf (W.setCell ⟨b, 2, none⟩ (.int .i8 0)) b v fl := ⟨h.s.set2 0, own_set h.row _ _ hvb, h.z⟩
  have hf2 : Fr (fun k => k = b ∨ v.ownBlock = some k) W (W.setCell ⟨b, 2, none⟩ (.int .i8 0)) := (Fr.refl _ _).set _ _ (.inl rfl)
  have hu2 : Blk (W.setCell ⟨b, 2, none⟩ (.int .i8 0)) u 5 (by8 cs ++ r) := hu.far hub _
  have hsz : (W.setCell ⟨b, 2, none⟩ (.int .i8 0)).heap.size = W.heap.size := by simp [World.setCell]
  obtain ⟨c0, c1, ⟨x2, c2⟩, f0, f1, f2⟩ := h.s.cells
  have HF := Lib.hid hf2
  have HU := Lib.hid hu2
  have HS := Lib.hid hsz
  have H2 := Lib.hid h2
  rcases h2.cases with ⟨rfl, rfl⟩ | ⟨g, cap, cur, rfl, hB, hc, hm, hlc, htk, hgb, hl0⟩
  · have CT := Lib.hid (tg_none (n := cs.length) h2.s (Nat.le_refl _) (by omega) (by unfold maxLen; omega))
    have CG := Lib.hid (grow_any h2 hn (by omega) (by simp at hlim; omega))
    clear h h2 hf2 hu2 hsz hvu hvb hu
    go_enter Tryd.func75, Tryd.ntmps75
    go_wp2_with fail
    refine CT.out.mono ?_
    rintro e w1 ⟨rfl, rfl⟩
    go_wp2_with fail
    refine CG.out.mono ?_
    rintro e w2 ⟨rfl, g2, cap2, cur, hG, htk, hge, hfr⟩
    have d0 := hG.s.cells.1
    obtain ⟨M, hM, hcp⟩ := copy_run (c := c) hG ((HU.out).grown' hfr hub)
    rw [Nat.sub_zero] at hcp
    have HM := Lib.hid hM
    clear hM
    have hle := hG.le
    have hmx := hG.mx
    unfold maxLen at hmx
    have HG := Lib.hid (⟨hG, htk, hge, hfr⟩ : Gr w2 b g2 0 cs.length cap2 cur ∧ cur.take 0 = by8 [] ∧ _ ≤ g2 ∧ Fr (fun k => k = b) _ w2)
    clear hG htk hge hfr
    go_wp2
    go_ret2
    obtain ⟨q1, q2, q3, q4⟩ := HG.out
    exact wrote_end (v := .slice none 0 0) (fl := []) q1 rfl q2 hn (by have := H2.out.s.lt; have := HS.out; omega) (HF.out.trans q4 (fun k _ e => .inl e)) (.inr (by have := HS.out; omega)) HM.out
  · by_cases hro : fl.length + cs.length ≤ cap
    · have CT := Lib.hid (tg_room (n := cs.length) h2.s hro hm)
      have hG : Gr ((W.setCell ⟨b, 2, none⟩ (.int .i8 0)).setCell ⟨b, 0, none⟩ (.slice (some ⟨g, 0, none⟩) (fl.length + cs.length) cap)) b g fl.length cs.length cap cur :=
        ⟨h2.s.set0 _, hB.far hgb _, hc, hro, hm⟩
      have hgu : g ≠ u := fun e => hvu (by rw [e]; rfl)
      obtain ⟨M, hM, hcp⟩ := copy_run (c := c) hG (hu2.far hub _)
      have HM := Lib.hid hM
      clear hM
      have hne : ¬ cap = fl.length := by omega
      have HG := Lib.hid hG
      have HTK := Lib.hid htk
      have d0 := hG.s.cells.1
      unfold maxLen at hm
      clear h h2 hf2 hu2 hsz hvu hvb hu hG htk hB hc
      go_enter Tryd.func75, Tryd.ntmps75
      go_wp2_with fail
      refine CT.out.mono ?_
      rintro e w1 ⟨rfl, rfl⟩
      go_wp2
      go_ret2
      exact wrote_end (v := .slice (some ⟨g, 0, none⟩) fl.length cap) HG.out rfl HTK.out hn hgb (HF.out.set _ _ (.inl rfl)) (.inl rfl) HM.out
    · have CT := Lib.hid (tg_none (n := cs.length) h2.s hlc (by omega) hm)
      have CG := Lib.hid (grow_any h2 hn (by omega) hlim)
      have hne : ∀ cap2 : Nat, fl.length + cs.length ≤ cap2 → ¬ cap2 = fl.length := fun _ _ => by omega
      have HL := Lib.hid hn
      clear h h2 hf2 hu2 hsz hvu hvb hu hB hc htk hlc
      go_enter Tryd.func75, Tryd.ntmps75
      go_wp2_with fail
      refine CT.out.mono ?_
      rintro e w1 ⟨rfl, rfl⟩
      go_wp2_with fail
      refine CG.out.mono ?_
      rintro e w2 ⟨rfl, g2, cap2, cur2, hG, htk, hge, hfr⟩
      have d0 := hG.s.cells.1
      obtain ⟨M, hM, hcp⟩ := copy_run (c := c) hG ((HU.out).grown' hfr hub)
      have HM := Lib.hid hM
      clear hM
      have hle := hG.le
      have hmx := hG.mx
      have hne2 := hne cap2 hle
      unfold maxLen at hmx
      have HG := Lib.hid (⟨hG, htk, hge, hfr⟩ : Gr w2 b g2 fl.length cs.length cap2 cur2 ∧ cur2.take fl.length = by8 fl ∧ _ ≤ g2 ∧ Fr (fun k => k = b) _ w2)
      clear hG htk hge hfr hne
      go_wp2
      go_ret2
      obtain ⟨q1, q2, q3, q4⟩ := HG.out
      exact wrote_end (v := .slice (some ⟨g, 0, none⟩) fl.length cap) q1 rfl q2 HL.out (by have := H2.out.s.lt; have := HS.out; omega) (HF.out.trans q4 (fun k _ e => .inl e)) (.inr (by have := HS.out; omega)) HM.out

end Go.Proofs.YtjonmfaeonldcaaDoor.fnStateFor
