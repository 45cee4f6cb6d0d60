/-
  FnHash: the row of a state in a registry: nodes, arcs, the registry's hash. Conditions: none.
-/
import Derived.Test.YtobcgeonobgjpaaOpen
import Derived.Handy
namespace Go.Proofs.Ytobcgeonobgjpaa.fnHash
open Go.ChangeShapes Go.WideShapes Go.ChangeAt Go.RowKit
set_option linter.unusedVariables false

/-- an arc: its byte, its output, where it goes -/
abbrev Arc := Int × Int × Int
def goodArc (x : Arc) : Prop := (0 ≤ x.1 ∧ x.1 ≤ 255) ∧ (0 ≤ x.2.1 ∧ x.2.1 ≤ 18446744073709551615) ∧ (-9223372036854775808 ≤ x.2.2 ∧ x.2.2 ≤ 9223372036854775807)
def ac (x : Arc) : List Value := [.int .u8 x.1, .int .u64 x.2.1, .int .i64 x.2.2]
def tc (x : Arc) : List Value := [.int .u64 x.2.1, .int .i64 x.2.2, .int .u8 x.1]
theorem ac_len (x : Arc) : (ac x).length = 3 := rfl
theorem tc_len (x : Arc) : (tc x).length = 3 := rfl
theorem tcs_snoc (l : List Arc) (n : Nat) (h : n < l.length) : (l.take (n + 1)).flatMap tc = (l.take n).flatMap tc ++ tc l[n] := by
  rw [List.take_succ_eq_append_getElem h, List.flatMap_append]
  simp

theorem three_at {w : World} {B : Nat} {a : Option Addr} {f : Arc → List Value} (hf : ∀ x, (f x).length = 3) {l : List Arc} (h : Sl w B a (l.flatMap f)) (i : Nat) (hi : i < l.length) (v0 v1 v2 : Value) (hv : f l[i] = [v0, v1, v2]) :
    ∃ ad, a = some ad ∧ ad.block < B ∧ w.cell? (ad.add (i * 3)) = some v0 ∧ w.cell? ⟨(ad.add (i * 3)).block, (ad.add (i * 3)).off + 1, none⟩ = some v1 ∧ w.cell? ⟨(ad.add (i * 3)).block, (ad.add (i * 3)).off + 2, none⟩ = some v2 := by
  have g : ∀ j v, j < 3 → [v0, v1, v2][j]? = some v → (l.flatMap f)[i * 3 + j]? = some v := fun j v hj e => by
    rw [flat_get f 3 hf l i j hj, List.getElem?_eq_getElem hi]
    show (f l[i])[j]? = some v
    rw [hv]; exact e
  obtain ⟨ad, rfl, hb, h0⟩ := h _ _ (g 0 v0 (by omega) rfl)
  obtain ⟨ad', e, _, h1⟩ := h _ _ (g 1 v1 (by omega) rfl)
  obtain rfl : ad = ad' := by injection e
  obtain ⟨ad', e, _, h2⟩ := h _ _ (g 2 v2 (by omega) rfl)
  obtain rfl : ad = ad' := by injection e
  exact ⟨ad, rfl, hb, h0, cell_off h1, cell_off h2⟩

theorem fits_any (a : Option Addr) (n c : Nat) (f : Bool) (o : Int) (w : World) (hn : n ≤ maxLen) :
    Calls Try.prog 6 #[.agg #[.bool f, .int .u64 o, .slice a n c]] w fun e w' => e = .returned (.bool (decide (n ≤ 2147483647))) ∧ Below w.heap.size w w' := by
  unfold maxLen at hn
  by_cases h : n ≤ 2147483647
  · rw [decide_eq_true h]
    go_enter Try.func6, Try.ntmps6
    go_wp2
    go_ret
    exact ⟨rfl, (Below.refl _ _).alloc (Nat.le_refl _) _⟩
  · rw [decide_eq_false h]
    go_enter Try.func6, Try.ntmps6
    go_wp2
    go_ret
    exact ⟨rfl, (Below.refl _ _).alloc (Nat.le_refl _) _⟩

theorem node_any (f : Bool) (o : Int) (w : World) : Calls Try.prog 18 #[.bool f, .int .u64 o] w fun e w' =>
    e = .returned (.pointer (some ⟨w.heap.size, 0, none⟩)) ∧ w' = w.alloc (.cells #[.int .u64 o, .slice none 0 0, .bool f, .pointer none] 63) := by
  go_enter Try.func18, Try.ntmps18
  go_wp2
  go_ret
  exact ⟨rfl, rfl⟩

theorem infoT : (Try.prog.info? 65).map (fun i => (i.zero, i.size, i.bytes)) = some (some (.agg #[.int .u64 0, .int .i64 0, .int .u8 0]), 3, 24) := by kernel_rfl

set_option maxHeartbeats 400000 in
theorem arc_any (g n : Nat) (o : Int) (f : Bool) (a : Option Addr) (c : Nat) (xs : List Value) (x : Arc) (w : World) (hB : Blk w g 63 [.int .u64 o, .slice a n c, .bool f, .pointer none])
    (hown : w.ownsRow (g + 1) 65 3 (.slice a n c) n xs) (hn : n < 2147483647) :
    Calls Try.prog 19 #[.pointer (some ⟨g, 0, none⟩), .int .u8 x.1, .int .u64 x.2.1, .int .i64 x.2.2] w fun e w' => (∃ r, e = .returned r) ∧
      (∃ a' c', Blk w' g 63 [.int .u64 o, .slice a' (n + 1) c', .bool f, .pointer none] ∧ w'.ownsRow (g + 1) 65 3 (.slice a' (n + 1) c') (n + 1) (xs ++ tc x)) ∧ Below g w w' := by
  obtain ⟨i0, hi, hz0, hz1, hz2⟩ := info_parts infoT
  have h1 : w.cell? ⟨g, 1, none⟩ = some (.slice a n c) := hB.cell 1
  obtain ⟨i, ou, to⟩ := x
  simp only
  have HB := Lib.hid hB
  have HOWN := Lib.hid hown
  clear hB hown
  go_enter Try.func19, Try.ntmps19
  go_wp2_with (at_builtin; (refine append1 _ _ rfl (.tmp 12) (.tmp 17) 61 rfl (g + 1) 65 i0 _ 3 24 Try.underlying61 hi hz0 hz1 hz2 rfl (by omega) rfl (.slice a n c) n xs rfl HOWN.out w.heap.size rfl rfl (by simp [Value.oneCell']) (by unfold maxLen; omega) (by omega) HB.out.lt ?_); intro v' w1 hown' hg' _; obtain ⟨a', c', rfl⟩ := own_value hown'; have HB1 := HB.out.grown hg' (fun e => by have := own_block_ge HOWN.out _ e.symm; omega); have hfr := HB1.frozen 1; have hcc : w1.cell? ⟨g, 1, none⟩ = some (.slice a n c) := HB1.cell 1; have HB2 := Lib.hid HB1; clear HB1)
  all_goals
    go_returns
    exact ⟨⟨_, rfl⟩, ⟨a', c', HB2.out.set_ 1 _, ownsRow_setCell_below hown' (by simp) _⟩, ((Below.refl g w).grown hg' (Nat.le_of_lt HB.out.lt) (fun k hk => Nat.le_of_succ_le (own_block_ge HOWN.out k hk))).setCell (p := ⟨g, 1, none⟩) (Nat.le_refl _) _⟩

/-! the hash -/
def hstep (h x : Int) : Int := IntKind.u64.wrap (bits .xor .u64 h x * 1099511628211)
def hbegin (f : Bool) (o : Int) : Int := hstep (hstep 14695981039346656037 (if f then 1 else 0)) o
def harc (h : Int) (x : Arc) : Int := hstep (hstep (hstep h x.1) x.2.1) (IntKind.u64.wrap x.2.2)
def hall (f : Bool) (o : Int) (l : List Arc) : Int := l.foldl harc (hbegin f o)
theorem hall_snoc (f : Bool) (o : Int) (l : List Arc) (n : Nat) (h : n < l.length) : hall f o (l.take (n + 1)) = harc (hall f o (l.take n)) l[n] := by
  unfold hall
  rw [List.take_succ_eq_append_getElem h, List.foldl_append]
  rfl

theorem hstep_nn (h x : Int) : 0 ≤ hstep h x := by
  unfold hstep
  rw [IntKind.wrap_u64]
  omega
theorem foldl_nn : ∀ (l : List Arc) (h : Int), 0 ≤ h → 0 ≤ l.foldl harc h
  | [], h, h0 => h0
  | x :: l, h, h0 => foldl_nn l _ (hstep_nn _ _)
theorem hall_nn (f : Bool) (o : Int) (l : List Arc) : 0 ≤ hall f o l := foldl_nn l _ (hstep_nn _ _)
theorem hall_mod (f : Bool) (o : Int) (l : List Arc) (rows : Nat) (h1 : 1 ≤ rows) (h2 : rows ≤ 1000) : wrap64 ((hall f o l).tmod rows) = hall f o l % rows := by
  rw [Int.tmod_eq_emod_of_nonneg (hall_nn f o l)]
  have g1 := Int.emod_nonneg (hall f o l) (b := (rows : Int)) (by omega)
  have g2 := Int.emod_lt_of_pos (hall f o l) (b := (rows : Int)) (by omega)
  generalize hall f o l % (rows : Int) = m at *
  unfold wrap64
  omega

set_option maxHeartbeats 400000 in
theorem hash_any (gr g : Nat) (rows : Nat) (p q : Value) (o : Int) (f : Bool) (a : Option Addr) (c : Nat) (l : List Arc) (w : World) (hR : Blk w gr 82 [p, q, .int .u64 rows, .int .u64 1]) (hB : Blk w g 63 [.int .u64 o, .slice a l.length c, .bool f, .pointer none])
    (hs : Sl w w.heap.size a (l.flatMap tc)) (h1 : 1 ≤ rows) (h2 : rows ≤ 1000) (hl : l.length ≤ 2147483647) (hg : ∀ x ∈ l, goodArc x) :
    Calls Try.prog 27 #[.pointer (some ⟨gr, 0, none⟩), .pointer (some ⟨g, 0, none⟩)] w fun e w' => e = .returned (.int .i64 (hall f o l % rows)) ∧ Below w.heap.size w w' := by
  have b0 : w.cell? ⟨g, 0, none⟩ = some (.int .u64 o) := hB.cell 0
  have b1 : w.cell? ⟨g, 1, none⟩ = some (.slice a l.length c) := hB.cell 1
  have b2 : w.cell? ⟨g, 2, none⟩ = some (.bool f) := hB.cell 2
  have r2 : w.cell? ⟨gr, 2, none⟩ = some (.int .u64 rows) := hR.cell 2
  have HS := Lib.hid hs
  have HG := Lib.hid hg
  have hgr := hR.lt
  have hgb := hB.lt
  clear hB hR hs hg
  have HBEG := Lib.hid (show hbegin f o = hall f o (l.take 0) from rfl)
  cases f
  · go_enter Try.func27, Try.ntmps27
    go_wp2_with fail
    go_loopw [6, 8, 29] (fun h _ k wr => ∃ n : Nat, n ≤ l.length ∧ k = .int .i64 n ∧ h = .int .u64 (hall false o (l.take n)) ∧ Below w.heap.size w wr) (fun _ _ k _ => l.length - (intOf k).toNat)
    case atStart => exact ⟨0, by omega, rfl, rfl, Below.refl _ _⟩
    case round =>
      obtain ⟨n, hnn, rfl, rfl, hbw⟩ := hrel
      have r2w : wr.cell? ⟨gr, 2, none⟩ = some (.int .u64 rows) := (hbw.cell hgr).trans r2
      by_cases hlt : n < l.length
      · obtain ⟨ad, rfl, hb, hc0, hc1, hc2⟩ := three_at tc_len (HS.out.below hbw) n hlt _ _ _ rfl
        have HN := Lib.hid (hall_snoc false o l n hlt)
        have HA := Lib.hid (HG.out _ (List.getElem_mem hlt))
        generalize l[n] = q at *
        obtain ⟨i, ou, to⟩ := q
        simp only at hc0 hc1 hc2
        obtain ⟨hq0, hq1, hq2⟩ := HA.out
        simp only at hq0 hq1 hq2
        go_wp2
        go_roundw
        case rel => exact ⟨n + 1, by omega, by go_num, by rw [HN.out]; rfl, hbw.alloc hbw.size _⟩
        case measure => simp [intOf]; omega
      · obtain rfl : n = l.length := by omega
        rw [List.take_length]
        go_wp2
        go_returns
        exact ⟨congrArg Ending.returned (congrArg (Value.int .i64) (hall_mod _ o l rows h1 h2)), hbw⟩
  · go_enter Try.func27, Try.ntmps27
    go_wp2_with fail
    go_loopw [6, 8, 29] (fun h _ k wr => ∃ n : Nat, n ≤ l.length ∧ k = .int .i64 n ∧ h = .int .u64 (hall true o (l.take n)) ∧ Below w.heap.size w wr) (fun _ _ k _ => l.length - (intOf k).toNat)
    case atStart => exact ⟨0, by omega, rfl, rfl, Below.refl _ _⟩
    case round =>
      obtain ⟨n, hnn, rfl, rfl, hbw⟩ := hrel
      have r2w : wr.cell? ⟨gr, 2, none⟩ = some (.int .u64 rows) := (hbw.cell hgr).trans r2
      by_cases hlt : n < l.length
      · obtain ⟨ad, rfl, hb, hc0, hc1, hc2⟩ := three_at tc_len (HS.out.below hbw) n hlt _ _ _ rfl
        have HN := Lib.hid (hall_snoc true o l n hlt)
        have HA := Lib.hid (HG.out _ (List.getElem_mem hlt))
        generalize l[n] = q at *
        obtain ⟨i, ou, to⟩ := q
        simp only at hc0 hc1 hc2
        obtain ⟨hq0, hq1, hq2⟩ := HA.out
        simp only at hq0 hq1 hq2
        go_wp2
        go_roundw
        case rel => exact ⟨n + 1, by omega, by go_num, by rw [HN.out]; rfl, hbw.alloc hbw.size _⟩
        case measure => simp [intOf]; omega
      · obtain rfl : n = l.length := by omega
        rw [List.take_length]
        go_wp2
        go_returns
        exact ⟨congrArg Ending.returned (congrArg (Value.int .i64) (hall_mod _ o l rows h1 h2)), hbw⟩

/-! the registry; the door -/
theorem infoC : (Try.prog.info? 103).map (fun i => (i.zero, i.size, i.bytes)) = some (some (.agg #[.int .i64 0, .pointer none]), 2, 16) := by kernel_rfl

theorem blk_new_at (w : World) (t : TypeId) (l : List Value) (n : Nat) (hn : n = w.heap.size) : Blk (w.alloc (.cells l.toArray t)) n t l := by subst hn; exact Blk.new w t l

set_option maxHeartbeats 400000 in
theorem reg_any (rows : Nat) (w : World) (h1 : 1 ≤ rows) (h2 : rows ≤ 1000) : Calls Try.prog 21 #[.int .i64 rows, .int .i64 1] w fun e w' =>
    (∃ G, e = .returned (.pointer (some ⟨G, 0, none⟩)) ∧ ∃ p q, Blk w' G 82 [p, q, .int .u64 rows, .int .u64 1]) ∧ Below w.heap.size w w' := by
  obtain ⟨i0, hi, hz0, hz1, hz2⟩ := info_parts infoC
  have hmk : ∀ u : World, (Instr.makeSlice 80 (.int .i64 (rows : Int)) (.int .i64 (rows : Int))).run Try.prog u =
      .ok (.slice (some ⟨u.heap.size, 0, none⟩) rows rows) (u.alloc (.cells (madeCells #[.int .i64 0, .pointer none] (rows * 2)) 103)) := fun u => by
    have h := run_make (P := Try.prog) u 80 103 i0 (.agg #[.int .i64 0, .pointer none]) Try.underlying80 hi hz0 .i64 .i64 (rows : Int) (rows : Int) (by omega) (Int.le_refl _) (by rw [hz2]; omega) (by omega)
    simpa [hz1, Value.cells] using h
  have hw := Lib.hid (show IntKind.u64.wrap (rows : Int) = rows by rw [IntKind.wrap_u64]; omega)
  go_enter Try.func21, Try.ntmps21
  go_wp2
  go_returns
  refine ⟨⟨_, rfl, _, _, blk_new_at _ _ [_, _, _, _] _ (by simp)⟩, ?_⟩
  · exact (((Below.refl _ _).alloc (Nat.le_refl _) _).alloc (by simp) _).alloc (by simp; omega) _

set_option maxHeartbeats 400000 in
theorem ihash_any (f : Bool) (o : Int) (a : Option Addr) (c : Nat) (l : List Arc) (rows : Nat) (w : World) (hs : Sl w w.heap.size a (l.flatMap ac)) (h1 : 1 ≤ rows) (h2 : rows ≤ 1000) (hl : l.length ≤ 2147483647) (hg : ∀ x ∈ l, goodArc x) :
    Calls Try.prog 8 #[.agg #[.bool f, .int .u64 o, .slice a l.length c], .int .i64 rows] w fun e w' => e = .returned (.int .i64 (hall f o l % rows)) ∧ Below w.heap.size w w' := by
  have HS := Lib.hid hs
  have HG := Lib.hid hg
  have CR := Lib.hid (fun W => reg_any rows W h1 h2)
  clear hs hg
  have CN := Lib.hid (fun W => node_any f o W)
  go_enter Try.func8, Try.ntmps8
  go_wp2_with (go_at_call 18; refine (CN.out _).mono ?_; rintro e w0 ⟨rfl, rfl⟩)
  go_loopw [7, 16] (fun x k wr => ∃ (n : Nat) (a' : Option Addr) (c' : Nat), n ≤ l.length ∧ k = .int .i64 n ∧ Blk wr (w.heap.size + 1) 63 [.int .u64 o, .slice a' n c', .bool f, .pointer none] ∧
    wr.ownsRow (w.heap.size + 1 + 1) 65 3 (.slice a' n c') n ((l.take n).flatMap tc) ∧ Below w.heap.size w wr) (fun _ k _ => l.length - (intOf k).toNat)
  case atStart => exact ⟨0, none, 0, by omega, rfl, blk_new_at _ _ [_, _, _, _] _ (by simp), ⟨by simp, .inl ⟨rfl, rfl⟩⟩, ((Below.refl _ _).alloc (Nat.le_refl _) _).alloc (by simp) _⟩
  case round =>
    obtain ⟨n, a1, c1, hnn, rfl, hB, hown, hbw⟩ := hrel
    have HB := Lib.hid hB
    have HOWN := Lib.hid hown
    have HBW := Lib.hid hbw
    clear hB hown
    by_cases hlt : n < l.length
    · obtain ⟨ad, rfl, hb, hc0, hc1, hc2⟩ := three_at ac_len (HS.out.below hbw) n hlt _ _ _ rfl
      have HN := Lib.hid (tcs_snoc l n hlt)
      have HC := Lib.hid (fun (W : World) h h' => arc_any (w.heap.size + 1) n o f a1 c1 ((l.take n).flatMap tc) l[n] W h h' (by omega))
      clear hbw
      generalize l[n] = q at *
      obtain ⟨i, ou, to⟩ := q
      simp only at hc0 hc1 hc2
      go_wp2_with (go_at_call 19; refine (HC.out _ (HB.out.alloc _) (HOWN.out.alloc _)).mono ?_; rintro e w1 ⟨⟨r, rfl⟩, ⟨a2, c2, hB2, hown2⟩, hb2⟩)
      go_roundw
      case rel => exact ⟨n + 1, a2, c2, by omega, by go_num, hB2, by rw [HN.out]; exact hown2, (HBW.out.alloc HBW.out.size _).trans (hb2.mono (by omega))⟩
      case measure => simp [intOf]; omega
    · obtain rfl : n = l.length := by omega
      clear hbw
      go_wp2_with (go_at_call 21; refine (CR.out _).mono ?_; rintro e w1 ⟨⟨G, rfl, p, q, hR⟩, hb1⟩)
      rw [List.take_length] at HOWN
      have CH := Lib.hid (hash_any G (w.heap.size + 1) rows p q o f a1 c1 l w1 hR (HB.out.below hb1 HB.out.lt) (((sl_of_own HOWN.out).below hb1).more hb1.size) h1 h2 hl HG.out)
      clear hR HB HOWN CR
      go_wp2_with (first | (go_at_call 27; refine CH.out.mono ?_; rintro e w2 ⟨rfl, hb2⟩) | go_in)
      go_returns
      exact ⟨rfl, (HBW.out.trans (hb1.mono HBW.out.size)).trans (hb2.mono (Nat.le_trans HBW.out.size hb1.size))⟩

end Go.Proofs.Ytobcgeonobgjpaa.fnHash
