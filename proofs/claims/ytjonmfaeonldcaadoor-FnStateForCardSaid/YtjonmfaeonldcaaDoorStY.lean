/-
  FnStateFor: nodes and arcs; whether states can be built; a state's number. Conditions: as stated.
-/
import Derived.Test.YtjonmfaeonldcaaDoorStOpen
import Derived.Test.YtjonmfaeonldcaaDoorStM
namespace Go.Proofs.YtjonmfaeonldcaaDoor.fnStateFor
open Go.ChangeShapes Go.WideShapes Go.ChangeAt Go.RowKit
set_option linter.unusedVariables false

theorem three_at {α : Type} {w : World} {B : Nat} {a : Option Addr} {f : α → List Value} (hf : ∀ x, (f x).length = 3) {l : List α} (h : Sl w B a (l.flatMap f)) (i : Nat) (hi : i < l.length) (v0 v1 v2 : Value) (hv : f l[i] = [v0, v1, v2]) :
    ∃ ad, a = some ad ∧ ad.block < B ∧ w.cell? (ad.add (i * 3)) = some v0 ∧ w.cell? ⟨(ad.add (i * 3)).block, (ad.add (i * 3)).off + 1, none⟩ = some v1 ∧ w.cell? ⟨(ad.add (i * 3)).block, (ad.add (i * 3)).off + 2, none⟩ = some v2 := by
  have g : ∀ j v, j < 3 → [v0, v1, v2][j]? = some v → (l.flatMap f)[i * 3 + j]? = some v := fun j v hj e => by
    rw [flat_get f 3 hf l i j hj, List.getElem?_eq_getElem hi]
    show (f l[i])[j]? = some v
    rw [hv]; exact e
  obtain ⟨ad, rfl, hb, h0⟩ := h _ _ (g 0 v0 (by omega) rfl)
  obtain ⟨ad', e, _, h1⟩ := h _ _ (g 1 v1 (by omega) rfl)
  obtain rfl : ad = ad' := by injection e
  obtain ⟨ad', e, _, h2⟩ := h _ _ (g 2 v2 (by omega) rfl)
  obtain rfl : ad = ad' := by injection e
  exact ⟨ad, rfl, hb, h0, cell_off h1, cell_off h2⟩
theorem tcs_snoc (l : List Arc) (n : Nat) (h : n < l.length) : (l.take (n + 1)).flatMap tc = (l.take n).flatMap tc ++ tc l[n] := by
  rw [List.take_succ_eq_append_getElem h, List.flatMap_append]
  simp

theorem fits9_any (a : Option Addr) (n c : Nat) (f : Bool) (o : Int) (w : World) (hn : n ≤ maxLen) :
    Calls Tryd.prog 7 #[.agg #[.bool f, .int .u64 o, .slice a n c]] w fun e w' => e = .returned (.bool (decide (n ≤ 2147483647))) ∧ Below w.heap.size w w' := by
  unfold maxLen at hn
  by_cases h : n ≤ 2147483647
  · rw [decide_eq_true h]
    go_enter Tryd.func7, Tryd.ntmps7
    go_wp2
    go_ret
    exact ⟨rfl, (Below.refl _ _).alloc (Nat.le_refl _) _⟩
  · rw [decide_eq_false h]
    go_enter Tryd.func7, Tryd.ntmps7
    go_wp2
    go_ret
    exact ⟨rfl, (Below.refl _ _).alloc (Nat.le_refl _) _⟩

theorem node_any (f : Bool) (o : Int) (w : World) : Calls Tryd.prog 14 #[.bool f, .int .u64 o] w fun e w' =>
    e = .returned (.pointer (some ⟨w.heap.size, 0, none⟩)) ∧ w' = w.alloc (.cells #[.int .u64 o, .slice none 0 0, .bool f, .pointer none] 70) := by
  go_enter Tryd.func14, Tryd.ntmps14
  go_wp2
  go_ret
  exact ⟨rfl, rfl⟩

theorem infoT : (Tryd.prog.info? 72).map (fun i => (i.zero, i.size, i.bytes)) = some (some (.agg #[.int .u64 0, .int .i64 0, .int .u8 0]), 3, 24) := by kernel_rfl

set_option maxHeartbeats 400000 in
theorem arc_any (g n : Nat) (o : Int) (f : Bool) (a : Option Addr) (c : Nat) (xs : List Value) (x : Arc) (w : World) (hB : Blk w g 70 [.int .u64 o, .slice a n c, .bool f, .pointer none])
    (hown : w.ownsRow (g + 1) 72 3 (.slice a n c) n xs) (hn : n < 2147483647) :
    Calls Tryd.prog 15 #[.pointer (some ⟨g, 0, none⟩), .int .u8 x.1, .int .u64 x.2.1, .int .i64 x.2.2] w fun e w' => (∃ r, e = .returned r) ∧
      (∃ a' c', Blk w' g 70 [.int .u64 o, .slice a' (n + 1) c', .bool f, .pointer none] ∧ w'.ownsRow (g + 1) 72 3 (.slice a' (n + 1) c') (n + 1) (xs ++ tc x)) ∧ Below g w w' := by
  obtain ⟨i0, hi, hz0, hz1, hz2⟩ := info_parts infoT
  have h1 : w.cell? ⟨g, 1, none⟩ = some (.slice a n c) := hB.cell 1
  obtain ⟨i, ou, to⟩ := x
  simp only
  have HB := Lib.hid hB
  have HOWN := Lib.hid hown
  clear hB hown
  go_enter Tryd.func15, Tryd.ntmps15
  go_wp2_with (at_builtin; (refine append1 _ _ rfl (.tmp 12) (.tmp 17) 68 rfl (g + 1) 72 i0 _ 3 24 Tryd.underlying68 hi hz0 hz1 hz2 rfl (by omega) rfl (.slice a n c) n xs rfl HOWN.out w.heap.size rfl rfl (by simp [Value.oneCell']) (by unfold maxLen; omega) (by omega) HB.out.lt ?_); intro v' w1 hown' hg' _; obtain ⟨a', c', rfl⟩ := own_value hown'; have HB1 := HB.out.grown hg' (fun e => by have := own_block_ge HOWN.out _ e.symm; omega); have hfr := HB1.frozen 1; have hcc : w1.cell? ⟨g, 1, none⟩ = some (.slice a n c) := HB1.cell 1; have HB2 := Lib.hid HB1; clear HB1)
  all_goals
    go_returns
    exact ⟨⟨_, rfl⟩, ⟨a', c', HB2.out.set_ 1 _, ownsRow_setCell_below hown' (by simp) _⟩, ((Below.refl g w).grown hg' (Nat.le_of_lt HB.out.lt) (fun k hk => Nat.le_of_succ_le (own_block_ge HOWN.out k hk))).setCell (p := ⟨g, 1, none⟩) (Nat.le_refl _) _⟩

/-- the size check -/
theorem fits8_any (a : Option Addr) (c : Nat) (ls : List LS) (w : World) (hl : ls.length ≤ maxLen) (hg : ∀ s ∈ ls, goodLS w w.heap.size s) (hs : Sl w w.heap.size a (ls.flatMap lsc)) :
    Calls Tryd.prog 4 #[.slice a ls.length c] w fun e w' => ∃ b, e = .returned (.bool b) ∧ Below w.heap.size w w' := by
  have HS := Lib.hid hs
  have HG := Lib.hid (fun s h => (hg s h).n)
  have C9 := Lib.hid fits9_any
  clear hs hg
  unfold maxLen at hl
  by_cases hz : ls.length ≤ 2147483647
  · go_enter Tryd.func4, Tryd.ntmps4
    go_wp2_with fail
    go_loopw [4, 10] (fun _ k wr => ∃ n : Nat, n ≤ ls.length ∧ k = .int .i64 n ∧ Below w.heap.size w wr) (fun _ k _ => ls.length - (intOf k).toNat)
    case atStart => exact ⟨0, by omega, rfl, Below.refl _ _⟩
    case round =>
      obtain ⟨n, hnn, rfl, hbw⟩ := hrel
      have HBW := Lib.hid hbw
      by_cases hlt : n < ls.length
      · obtain ⟨ad, rfl, hb, hc0, hc1, hc2⟩ := three_at lsc_len (HS.out.below hbw) n hlt _ _ _ rfl
        have HL := Lib.hid (HG.out _ (List.getElem_mem hlt))
        generalize ls[n] = s at *
        obtain ⟨f, o, sa, sc, l⟩ := s
        simp only at hc0 hc1 hc2 HL
        clear hbw
        have C := Lib.hid (fun W => C9.out sa l.length sc f o W HL.out)
        cases hd : decide (l.length ≤ 2147483647)
        · rw [hd] at C
          clear HL
          generalize l.length = m at *
          go_wp2_with (go_at_call 7; refine (C.out _).mono ?_; rintro e w1 ⟨rfl, hb1⟩)
          go_returns
          exact ⟨_, rfl, (HBW.out.alloc HBW.out.size _).trans (hb1.mono (by have := HBW.out.size; simp; omega))⟩
        · rw [hd] at C
          clear HL
          generalize l.length = m at *
          go_wp2_with (go_at_call 7; refine (C.out _).mono ?_; rintro e w1 ⟨rfl, hb1⟩)
          go_roundw
          case rel => exact ⟨n + 1, by omega, by go_num, (HBW.out.alloc HBW.out.size _).trans (hb1.mono (by have := HBW.out.size; simp; omega))⟩
          case measure => simp [intOf]; omega
      · clear hbw
        go_wp2
        go_returns
        exact ⟨_, rfl, HBW.out⟩
  · go_enter Tryd.func4, Tryd.ntmps4
    go_wp2
    go_ret
    exact ⟨_, rfl, Below.refl _ _⟩

/-- the first place of an address -/
def numOf (As : List Int) (z : Int) : Int := if z = 0 then -1 else if h : z ∈ As then (As.findIdx (· == z) : Nat) else -2
theorem number_any (a : Option Addr) (c : Nat) (As : List Int) (z : Int) (w : World) (hs : Sl w w.heap.size a (As.map (.int .i64))) (hl : As.length ≤ 2147483647) (hz : ∀ y ∈ As, y ≠ 0) :
    Calls Tryd.prog 11 #[.slice a As.length c, .int .i64 z] w fun e w' => e = .returned (.int .i64 (numOf As z)) ∧ w = w' := by
  have HS := Lib.hid hs
  have HN := Lib.hid (show numOf As z = _ from rfl)
  clear hs
  by_cases h0 : z = 0
  · subst h0
    go_enter Tryd.func11, Tryd.ntmps11
    go_wp2
    go_ret
    exact ⟨rfl, rfl⟩
  · go_enter Tryd.func11, Tryd.ntmps11
    go_wp2_with fail
    go_loop [5, 6, 11] (fun _ _ k => ∃ n : Nat, n ≤ As.length ∧ k = .int .i64 n ∧ Hid (∀ j, j < n → As.getD j 0 ≠ z)) (fun _ _ k => As.length - (intOf k).toNat)
    case atStart => exact ⟨0, by omega, rfl, Lib.hid (fun j h => absurd h (by omega))⟩
    case round =>
      obtain ⟨n, hnn, rfl, hne⟩ := hrel
      by_cases hlt : n < As.length
      · obtain ⟨ad, rfl, hb, hc⟩ := HS.out n (.int .i64 (As.getD n 0)) (by rw [List.getElem?_map, List.getD_eq_getElem?_getD, List.getElem?_eq_getElem hlt]; rfl)
        have HF : Hid (As.getD n 0 = z → numOf As z = n) := Lib.hid (fun e => by
          have hm : z ∈ As := by rw [← e, List.getD_eq_getElem?_getD, List.getElem?_eq_getElem hlt]; exact List.getElem_mem _
          unfold numOf
          rw [if_neg h0, dif_pos hm]
          congr 1
          rw [List.findIdx_eq hlt]
          refine ⟨?_, fun j hj => ?_⟩
          · rw [List.getD_eq_getElem?_getD, List.getElem?_eq_getElem hlt] at e
            simpa using e
          · have := hne.out j hj
            rw [List.getD_eq_getElem?_getD, List.getElem?_eq_getElem (by omega)] at this
            simpa using this)
        have HQ : Hid (As.getD n 0 ≠ z → ∀ j, j < n + 1 → As.getD j 0 ≠ z) := Lib.hid (fun e j hj => by
          rcases Nat.lt_or_ge j n with h | h
          · exact hne.out j h
          · obtain rfl : j = n := by omega
            exact e)
        generalize As.getD n 0 = y at *
        clear hne HN
        by_cases hy : y = z
        · have HF2 := Lib.hid (HF.out hy)
          clear HF HQ
          subst hy
          go_wp2
          go_ret
          exact ⟨ret_int HF2.out.symm, rfl⟩
        · go_wp2
          go_round
          case rel => exact ⟨n + 1, by omega, by go_num, Lib.hid (HQ.out hy)⟩
          case measure => simp [intOf]; omega
      · obtain rfl : n = As.length := by omega
        have HF : Hid (numOf As z = -2) := Lib.hid (by
          unfold numOf
          rw [if_neg h0, dif_neg]
          intro hm
          obtain ⟨j, hj, e⟩ := List.getElem_of_mem hm
          have := hne.out j hj
          rw [List.getD_eq_getElem?_getD, List.getElem?_eq_getElem hj] at this
          exact this e)
        clear hne HN
        go_wp2
        go_ret
        exact ⟨ret_int HF.out.symm, rfl⟩

end Go.Proofs.YtjonmfaeonldcaaDoor.fnStateFor
