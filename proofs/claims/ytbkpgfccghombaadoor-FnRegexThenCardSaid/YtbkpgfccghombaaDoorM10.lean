/-
  Parts of the proof in one text: Wf, Wg, Wh, Wk, Wj. Conditions: as each states.
-/
import Derived.Test.YtbkpgfccghombaaDoorM09
import Derived.Test.YtbkpgfccghombaaDoorM03
import Derived.Test.YtbkpgfccghombaaDoorM00
import Derived.Test.YtbkpgfccghombaaDoorM04
import Derived.Test.YtbkpgfccghombaaDoorM01
import Derived.Test.YtbkpgfccghombaaDoorM08
import Derived.Laws.OwnMore
import Derived.LaidEql
import Derived.BigQuiet
/-! How many ranges of bytes an expression is made of. Conditions: as stated. -/
namespace Go.Proofs.YtbkpgfccghombaaDoor.rx
open Go.ChangeShapes Go.WideShapes Go.ChangeAt Go.RowKit
set_option linter.unusedVariables false

/-- a node that lies in a block of its own -/
structure Bx (w w1 : World) (cs : List Value) : Prop where
  b : Blk w1 w.heap.size 25 cs
  l : Below w.heap.size w w1
  s : w.heap.size + 1 ≤ w1.heap.size
theorem Bx.new (w : World) (cs : List Value) : Bx w (w.alloc (.cells cs.toArray 25)) cs := ⟨Blk.new w _ cs, (Below.refl _ _).alloc (Nat.le_refl _) _, by simp⟩
theorem Bx.go {w w1 w2 : World} {cs : List Value} (h : Bx w w1 cs) (hb : Below w1.heap.size w1 w2) : Bx w w2 cs :=
  ⟨(hb.block w.heap.size (by have := h.s; omega)).trans h.b, h.l.trans (hb.mono h.l.size), Nat.le_trans h.s hb.size⟩

theorem cat_len (rs : List Int) (i : Nat) (h : i < rs.length) : ((rs.take (i + 1)).flatMap ub).length = ((rs.take i).flatMap ub).length + (ub rs[i]).length := by
  rw [List.take_succ_eq_append_getElem h, List.flatMap_append, List.length_append]
  simp
set_option maxRecDepth 100000 in
set_option maxHeartbeats 800000 in
theorem plc_lit (mn mx : Int) (ra : Option Addr) (rs : List Int) (rc : Nat) (sa : Option Addr) (sn sc : Nat) (w : World) (hk : ∀ c ∈ rs, isL c = true) (hl : rs.length ≤ 1000000) (hs : Sl w w.heap.size ra (rs.map (.int .i32))) :
    Calls Tryd.prog 30 #[.agg (rxc 3 mn mx ra rs.length rc sa sn sc).toArray] w fun e w' => e = .returned (.int .i64 ((rs.flatMap ub).length : Nat)) ∧ Below w.heap.size w w' := by
  have HS := Lib.hid hs
  have HK := Lib.hid hk
  have HB := Lib.hid (Bx.new w (rxc 3 mn mx ra rs.length rc sa sn sc))
  unfold rxc at *
  clear hs hk
  go_enter Tryd.func30, Tryd.ntmps30
  go_wp2_with fail
  refine name_world ?_
  intro w1 hw1
  have HB := Lib.hid (show Bx w w1 _ from by rw [hw1]; exact HB.out)
  clear hw1
  go_loopw [3, 4] (fun v3 v4 wr => ∃ i n : Nat, i ≤ rs.length ∧ v4 = .int .i64 i ∧ v3 = .int .i64 n ∧ n ≤ 4 * i ∧ Hid (n = ((rs.take i).flatMap ub).length ∧ Bx w wr [.int .i64 3, .slice ra rs.length rc, .int .i64 mn, .int .i64 mx, .bool false, .bool false, .slice sa sn sc])) (fun _ v4 _ => rs.length - (intOf v4).toNat)
  case atStart => exact ⟨0, 0, by omega, rfl, rfl, by omega, Lib.hid ⟨by simp, HB.out⟩⟩
  case round =>
    obtain ⟨i, n, hi, rfl, rfl, hn, H1⟩ := hrel
    have c1 := H1.out.2.b.cell 1
    simp only [List.getElem?_cons_zero, List.getElem?_cons_succ] at c1
    by_cases hlt : i < rs.length
    · obtain ⟨ad, rfl, -, hc⟩ := rune_at (HS.out.below H1.out.2.l) i hlt
      have CE := Lib.hid (fun W => encd_any rs[i] W (HK.out _ (List.getElem_mem hlt)))
      have HT := Lib.hid (cat_len rs i hlt)
      have h4 := (ub_len rs[i]).2
      have hz := Lib.hid (stB_size (ub rs[i]))
      generalize rs[i] = x at *
      generalize ub x = u at *
      have hz : (stB u).size = u.length := hz.out
      go_wp2_with (first | (go_at_call 21; refine (CE.out _).mono ?_; rintro e w5 ⟨rfl, h5⟩; have H5 := Lib.hid h5; clear h5) | fail)
      go_roundw
      case rel => exact ⟨i + 1, n + u.length, by omega, by go_num, by go_num, by omega, Lib.hid ⟨by rw [HT.out, ← H1.out.1], H1.out.2.go H5.out⟩⟩
      case measure => simp [intOf]; omega
    · obtain rfl : i = rs.length := by omega
      have HN := Lib.hid (show n = (rs.flatMap ub).length from by have := H1.out.1; rw [List.take_length] at this; exact this)
      go_wp2
      go_ret
      rw [← HN.out]
      exact ⟨rfl, H1.out.2.l⟩
theorem plcR_take (l : List Int) (m : Nat) (h : 2 * m + 1 < l.length) : plcR ((pairs l).take (m + 1)) = plcR ((pairs l).take m) + (if 128 ≤ l[2 * m + 1] then 31 else 1) := by
  rw [List.take_add_one, pairs_at l m h]
  unfold plcR
  simp
set_option maxRecDepth 100000 in
set_option maxHeartbeats 800000 in
theorem plc_cls4 (mn mx : Int) (ra : Option Addr) (rs : List Int) (rc : Nat) (sa : Option Addr) (sn sc : Nat) (w : World) (hl : (rngs 4 rs).length ≤ 1000000) (hs : Sl w w.heap.size ra (rs.map (.int .i32))) :
    Calls Tryd.prog 30 #[.agg (rxc 4 mn mx ra rs.length rc sa sn sc).toArray] w fun e w' => e = .returned (.int .i64 ((plcR (pairs (rngs 4 rs)) : Nat))) ∧ Below w.heap.size w w' := by
  have HS := Lib.hid hs
  have HL := Lib.hid hl
  clear hs hl
  have CR := Lib.hid (fun W (h : Sl W W.heap.size ra (rs.map (.int .i32))) => rngs_any 4 mn mx ra rs rc sa sn sc W 4 rfl (by omega) h)
  unfold rxc at *
  go_enter Tryd.func30, Tryd.ntmps30
  go_wp2_with (first | (go_at_call 44; refine (CR.out _ ((HS.out.below (Bx.new w [.int .i64 4, .slice ra rs.length rc, .int .i64 mn, .int .i64 mx, .bool false, .bool false, .slice sa sn sc]).l).more (by simp))).mono ?_; rintro e w2 ⟨a2, c2, rfl, hs2, hb2⟩) | fail)
  have HB2 := Lib.hid ((Bx.new w [.int .i64 4, .slice ra rs.length rc, .int .i64 mn, .int .i64 mx, .bool false, .bool false, .slice sa sn sc]).go hb2)
  have HS2 := Lib.hid hs2
  clear hs2 hb2 CR
  have hlen : (rngs 4 rs).length ≤ 1000000 := HL.out
  generalize hle : rngs 4 rs = l at *
  have HLE := Lib.hid hle
  clear hle
  go_loopw [3, 6] (fun v3 v6 wr => ∃ m q n : Nat, q ≤ l.length + 1 ∧ v6 = .int .i64 q ∧ v3 = .int .i64 n ∧ n ≤ 31 * q ∧ w2 = wr ∧ Hid (q = 2 * m ∧ n = plcR ((pairs l).take m))) (fun _ v6 _ => l.length + 1 - (intOf v6).toNat)
  case atStart => exact ⟨0, 0, 0, by omega, rfl, rfl, by omega, rfl, Lib.hid ⟨rfl, by simp [plcR]⟩⟩
  case round =>
    obtain ⟨m, q, n, hq, rfl, rfl, hn, rfl, H1⟩ := hrel
    by_cases hlt : q + 1 < l.length
    · have hlt2 : (q : Int) + 1 < (l.length : Int) := by omega
      obtain ⟨ad, rfl, -, hc⟩ := rune_at HS2.out (q + 1) hlt
      have hc := cell_next hc
      have HT := Lib.hid (show plcR ((pairs l).take (m + 1)) = plcR ((pairs l).take m) + (if 128 ≤ l[q + 1] then 31 else 1) from by
        have e := H1.out.1
        subst e
        exact plcR_take l m hlt)
      generalize l[q + 1] = y at *
      by_cases hy : 128 ≤ y
      · have HT2 := Lib.hid (show plcR ((pairs l).take (m + 1)) = n + 31 from by rw [HT.out, if_pos hy, ← H1.out.2])
        go_wp2
        go_roundw
        case rel => exact ⟨m + 1, q + 2, n + 31, by omega, by go_num, by go_num, by omega, by first | rfl | trivial, Lib.hid ⟨by have := H1.out.1; omega, HT2.out.symm⟩⟩
        case measure => simp [intOf]; omega
      · have HT2 := Lib.hid (show plcR ((pairs l).take (m + 1)) = n + 1 from by rw [HT.out, if_neg hy, ← H1.out.2])
        go_wp2
        go_roundw
        case rel => exact ⟨m + 1, q + 2, n + 1, by omega, by go_num, by go_num, by omega, by first | rfl | trivial, Lib.hid ⟨by have := H1.out.1; omega, HT2.out.symm⟩⟩
        case measure => simp [intOf]; omega
    · have hlt2 : ¬ ((q : Int) + 1 < (l.length : Int)) := by omega
      have HN := Lib.hid (show n = plcR (pairs l) from by
        have h1 := H1.out.2
        rw [List.take_of_length_le (by have := H1.out.1; rw [pairs_len]; omega)] at h1
        exact h1)
      go_wp2
      go_ret
      rw [HLE.out, ← HN.out]
      exact ⟨rfl, HB2.out.l⟩
set_option maxRecDepth 100000 in
set_option maxHeartbeats 800000 in
theorem plc_cls5 (mn mx : Int) (ra : Option Addr) (rs : List Int) (rc : Nat) (sa : Option Addr) (sn sc : Nat) (w : World) (hr : rs = []) (hl : (rngs 5 rs).length ≤ 1000000) (hs : Sl w w.heap.size ra (rs.map (.int .i32))) :
    Calls Tryd.prog 30 #[.agg (rxc 5 mn mx ra rs.length rc sa sn sc).toArray] w fun e w' => e = .returned (.int .i64 ((plcR (pairs (rngs 5 rs)) : Nat))) ∧ Below w.heap.size w w' := by
  have HS := Lib.hid hs
  have HL := Lib.hid hl
  have HR := Lib.hid hr
  clear hs hl hr
  have CR := Lib.hid (fun W (h : Sl W W.heap.size ra (rs.map (.int .i32))) => rngs_any 5 mn mx ra rs rc sa sn sc W 5 rfl (fun _ => HR.out) h)
  unfold rxc at *
  go_enter Tryd.func30, Tryd.ntmps30
  go_wp2_with (first | (go_at_call 44; refine (CR.out _ ((HS.out.below (Bx.new w [.int .i64 5, .slice ra rs.length rc, .int .i64 mn, .int .i64 mx, .bool false, .bool false, .slice sa sn sc]).l).more (by simp))).mono ?_; rintro e w2 ⟨a2, c2, rfl, hs2, hb2⟩) | fail)
  have HB2 := Lib.hid ((Bx.new w [.int .i64 5, .slice ra rs.length rc, .int .i64 mn, .int .i64 mx, .bool false, .bool false, .slice sa sn sc]).go hb2)
  have HS2 := Lib.hid hs2
  clear hs2 hb2 CR
  have hlen : (rngs 5 rs).length ≤ 1000000 := HL.out
  generalize hle : rngs 5 rs = l at *
  have HLE := Lib.hid hle
  clear hle
  go_loopw [3, 6] (fun v3 v6 wr => ∃ m q n : Nat, q ≤ l.length + 1 ∧ v6 = .int .i64 q ∧ v3 = .int .i64 n ∧ n ≤ 31 * q ∧ w2 = wr ∧ Hid (q = 2 * m ∧ n = plcR ((pairs l).take m))) (fun _ v6 _ => l.length + 1 - (intOf v6).toNat)
  case atStart => exact ⟨0, 0, 0, by omega, rfl, rfl, by omega, rfl, Lib.hid ⟨rfl, by simp [plcR]⟩⟩
  case round =>
    obtain ⟨m, q, n, hq, rfl, rfl, hn, rfl, H1⟩ := hrel
    by_cases hlt : q + 1 < l.length
    · have hlt2 : (q : Int) + 1 < (l.length : Int) := by omega
      obtain ⟨ad, rfl, -, hc⟩ := rune_at HS2.out (q + 1) hlt
      have hc := cell_next hc
      have HT := Lib.hid (show plcR ((pairs l).take (m + 1)) = plcR ((pairs l).take m) + (if 128 ≤ l[q + 1] then 31 else 1) from by
        have e := H1.out.1
        subst e
        exact plcR_take l m hlt)
      generalize l[q + 1] = y at *
      by_cases hy : 128 ≤ y
      · have HT2 := Lib.hid (show plcR ((pairs l).take (m + 1)) = n + 31 from by rw [HT.out, if_pos hy, ← H1.out.2])
        go_wp2
        go_roundw
        case rel => exact ⟨m + 1, q + 2, n + 31, by omega, by go_num, by go_num, by omega, by first | rfl | trivial, Lib.hid ⟨by have := H1.out.1; omega, HT2.out.symm⟩⟩
        case measure => simp [intOf]; omega
      · have HT2 := Lib.hid (show plcR ((pairs l).take (m + 1)) = n + 1 from by rw [HT.out, if_neg hy, ← H1.out.2])
        go_wp2
        go_roundw
        case rel => exact ⟨m + 1, q + 2, n + 1, by omega, by go_num, by go_num, by omega, by first | rfl | trivial, Lib.hid ⟨by have := H1.out.1; omega, HT2.out.symm⟩⟩
        case measure => simp [intOf]; omega
    · have hlt2 : ¬ ((q : Int) + 1 < (l.length : Int)) := by omega
      have HN := Lib.hid (show n = plcR (pairs l) from by
        have h1 := H1.out.2
        rw [List.take_of_length_le (by have := H1.out.1; rw [pairs_len]; omega)] at h1
        exact h1)
      go_wp2
      go_ret
      rw [HLE.out, ← HN.out]
      exact ⟨rfl, HB2.out.l⟩
set_option maxRecDepth 100000 in
set_option maxHeartbeats 800000 in
theorem plc_cls6 (mn mx : Int) (ra : Option Addr) (rs : List Int) (rc : Nat) (sa : Option Addr) (sn sc : Nat) (w : World) (hr : rs = []) (hl : (rngs 6 rs).length ≤ 1000000) (hs : Sl w w.heap.size ra (rs.map (.int .i32))) :
    Calls Tryd.prog 30 #[.agg (rxc 6 mn mx ra rs.length rc sa sn sc).toArray] w fun e w' => e = .returned (.int .i64 ((plcR (pairs (rngs 6 rs)) : Nat))) ∧ Below w.heap.size w w' := by
  have HS := Lib.hid hs
  have HL := Lib.hid hl
  have HR := Lib.hid hr
  clear hs hl hr
  have CR := Lib.hid (fun W (h : Sl W W.heap.size ra (rs.map (.int .i32))) => rngs_any 6 mn mx ra rs rc sa sn sc W 6 rfl (fun _ => HR.out) h)
  unfold rxc at *
  go_enter Tryd.func30, Tryd.ntmps30
  go_wp2_with (first | (go_at_call 44; refine (CR.out _ ((HS.out.below (Bx.new w [.int .i64 6, .slice ra rs.length rc, .int .i64 mn, .int .i64 mx, .bool false, .bool false, .slice sa sn sc]).l).more (by simp))).mono ?_; rintro e w2 ⟨a2, c2, rfl, hs2, hb2⟩) | fail)
  have HB2 := Lib.hid ((Bx.new w [.int .i64 6, .slice ra rs.length rc, .int .i64 mn, .int .i64 mx, .bool false, .bool false, .slice sa sn sc]).go hb2)
  have HS2 := Lib.hid hs2
  clear hs2 hb2 CR
  have hlen : (rngs 6 rs).length ≤ 1000000 := HL.out
  generalize hle : rngs 6 rs = l at *
  have HLE := Lib.hid hle
  clear hle
  go_loopw [3, 6] (fun v3 v6 wr => ∃ m q n : Nat, q ≤ l.length + 1 ∧ v6 = .int .i64 q ∧ v3 = .int .i64 n ∧ n ≤ 31 * q ∧ w2 = wr ∧ Hid (q = 2 * m ∧ n = plcR ((pairs l).take m))) (fun _ v6 _ => l.length + 1 - (intOf v6).toNat)
  case atStart => exact ⟨0, 0, 0, by omega, rfl, rfl, by omega, rfl, Lib.hid ⟨rfl, by simp [plcR]⟩⟩
  case round =>
    obtain ⟨m, q, n, hq, rfl, rfl, hn, rfl, H1⟩ := hrel
    by_cases hlt : q + 1 < l.length
    · have hlt2 : (q : Int) + 1 < (l.length : Int) := by omega
      obtain ⟨ad, rfl, -, hc⟩ := rune_at HS2.out (q + 1) hlt
      have hc := cell_next hc
      have HT := Lib.hid (show plcR ((pairs l).take (m + 1)) = plcR ((pairs l).take m) + (if 128 ≤ l[q + 1] then 31 else 1) from by
        have e := H1.out.1
        subst e
        exact plcR_take l m hlt)
      generalize l[q + 1] = y at *
      by_cases hy : 128 ≤ y
      · have HT2 := Lib.hid (show plcR ((pairs l).take (m + 1)) = n + 31 from by rw [HT.out, if_pos hy, ← H1.out.2])
        go_wp2
        go_roundw
        case rel => exact ⟨m + 1, q + 2, n + 31, by omega, by go_num, by go_num, by omega, by first | rfl | trivial, Lib.hid ⟨by have := H1.out.1; omega, HT2.out.symm⟩⟩
        case measure => simp [intOf]; omega
      · have HT2 := Lib.hid (show plcR ((pairs l).take (m + 1)) = n + 1 from by rw [HT.out, if_neg hy, ← H1.out.2])
        go_wp2
        go_roundw
        case rel => exact ⟨m + 1, q + 2, n + 1, by omega, by go_num, by go_num, by omega, by first | rfl | trivial, Lib.hid ⟨by have := H1.out.1; omega, HT2.out.symm⟩⟩
        case measure => simp [intOf]; omega
    · have hlt2 : ¬ ((q : Int) + 1 < (l.length : Int)) := by omega
      have HN := Lib.hid (show n = plcR (pairs l) from by
        have h1 := H1.out.2
        rw [List.take_of_length_le (by have := H1.out.1; rw [pairs_len]; omega)] at h1
        exact h1)
      go_wp2
      go_ret
      rw [HLE.out, ← HN.out]
      exact ⟨rfl, HB2.out.l⟩

theorem seven {l : List Value} (h : l.length = 7) : ∃ v0 v1 v2 v3 v4 v5 v6, l = [v0, v1, v2, v3, v4, v5, v6] := by
  match l, h with
  | [v0, v1, v2, v3, v4, v5, v6], _ => exact ⟨_, _, _, _, _, _, _, rfl⟩
/-- the cells of part i, as the walk reads them -/
theorem sub_at {w : World} {B d : Nat} {subs : List Rx} {ls : List (List Value)} {sa : Option Addr} (h3 : ls.length = subs.length) (h4 : ∀ x ∈ ls, x.length = 7) (h5 : Sl w B sa (ls.flatMap id)) (h6 : ∀ x ∈ subs.zip ls, RgC w B d x.1 x.2) (i : Nat) (hi : i < subs.length) :
    ∃ ad v0 v1 v2 v3 v4 v5 v6, sa = some ad ∧ ad.block < B ∧ RgC w B d subs[i] [v0, v1, v2, v3, v4, v5, v6] ∧ w.cell? (ad.add (i * 7)) = some v0 ∧ w.cell? ⟨(ad.add (i * 7)).block, (ad.add (i * 7)).off + 1, none⟩ = some v1 ∧ w.cell? ⟨(ad.add (i * 7)).block, (ad.add (i * 7)).off + 2, none⟩ = some v2 ∧
      w.cell? ⟨(ad.add (i * 7)).block, (ad.add (i * 7)).off + 3, none⟩ = some v3 ∧ w.cell? ⟨(ad.add (i * 7)).block, (ad.add (i * 7)).off + 4, none⟩ = some v4 ∧ w.cell? ⟨(ad.add (i * 7)).block, (ad.add (i * 7)).off + 5, none⟩ = some v5 ∧ w.cell? ⟨(ad.add (i * 7)).block, (ad.add (i * 7)).off + 6, none⟩ = some v6 := by
  obtain ⟨ad, cs, h, hb, hR, hc⟩ := sub_cells h3 h4 h5 h6 i hi
  obtain ⟨v0, v1, v2, v3, v4, v5, v6, rfl⟩ := seven hR.len
  exact ⟨ad, v0, v1, v2, v3, v4, v5, v6, h, hb, hR, hc 0 _ rfl, cell_off (hc 1 _ rfl), cell_off (hc 2 _ rfl), cell_off (hc 3 _ rfl), cell_off (hc 4 _ rfl), cell_off (hc 5 _ rfl), cell_off (hc 6 _ rfl)⟩
theorem sum_snoc {α : Type} (g : α → Nat) (l : List α) (i : Nat) (h : i < l.length) : ((l.take (i + 1)).map g).sum = ((l.take i).map g).sum + g l[i] := by
  rw [List.take_succ_eq_append_getElem h, List.map_append, List.sum_append]
  simp
theorem mul_wrap (n : Nat) (k : Int) (hn : n ≤ 482112) (h0 : 0 ≤ k) (h6 : k ≤ 6) : wrap64 ((n : Int) * k) = (n : Int) * k := by
  have h1 : (0 : Int) ≤ (n : Int) * k := Int.mul_nonneg (by omega) h0
  have h2 : (n : Int) * k ≤ (n : Int) * 6 := Int.mul_le_mul_of_nonneg_left h6 (by omega)
  unfold wrap64
  omega
set_option maxRecDepth 100000 in
theorem plc_eps (mn mx : Int) (ra : Option Addr) (rn rc : Nat) (sa : Option Addr) (sn sc : Nat) (w : World) :
    Calls Tryd.prog 30 #[.agg (rxc 2 mn mx ra rn rc sa sn sc).toArray] w fun e w' => e = .returned (.int .i64 ((0 : Nat))) ∧ Below w.heap.size w w' := by
  unfold rxc
  go_enter Tryd.func30, Tryd.ntmps30
  go_wp2
  go_ret
  exact ⟨rfl, (Below.refl _ _).alloc (Nat.le_refl _) _⟩
/-- what is told of expressions of d levels -/
def PlcOk (d : Nat) : Prop := ∀ (w : World) (r : Rx) (cs : List Value), RgC w w.heap.size d r cs → wf 3 d r → Calls Tryd.prog 30 #[.agg cs.toArray] w fun e w' => e = .returned (.int .i64 ((plc d r : Nat))) ∧ Below w.heap.size w w'
set_option maxRecDepth 100000 in
set_option maxHeartbeats 1600000 in
theorem plc_sub {d : Nat} (hd : d ≤ 4) (IH : PlcOk d) (op mn mx : Int) (ra : Option Addr) (rn rc : Nat) (sa : Option Addr) (sc : Nat) (subs : List Rx) (ls : List (List Value)) (w : World) (hop : 13 ≤ op) (h1315 : op ≠ 15 ∧ op ≠ 17) (h3 : ls.length = subs.length) (h4 : ∀ x ∈ ls, x.length = 7) (h5 : Sl w w.heap.size sa (ls.flatMap id)) (h6 : ∀ x ∈ subs.zip ls, RgC w w.heap.size d x.1 x.2) (hw : ∀ s ∈ subs, wf 3 d s) (hl : subs.length ≤ 3) :
    Calls Tryd.prog 30 #[.agg (rxc op mn mx ra rn rc sa subs.length sc).toArray] w fun e w' => e = .returned (.int .i64 ((subs.map (plc d)).sum : Nat)) ∧ Below w.heap.size w w' := by
  have HB := Lib.hid (Bx.new w (rxc op mn mx ra rn rc sa subs.length sc))
  unfold rxc at *
  have HS := Lib.hid (And.intro h3 (And.intro h4 (And.intro h5 h6)))
  have HW := Lib.hid hw
  have IH := Lib.hid IH
  have g2 : (op == 2) = false := by rw [beq_eq_false_iff_ne]; omega
  have g3 : (op == 3) = false := by rw [beq_eq_false_iff_ne]; omega
  have g4 : (op == 4) = false := by rw [beq_eq_false_iff_ne]; omega
  have g5 : (op == 5) = false := by rw [beq_eq_false_iff_ne]; omega
  have g6 : (op == 6) = false := by rw [beq_eq_false_iff_ne]; omega
  have g15 : (op == 15) = false := by rw [beq_eq_false_iff_ne]; omega
  have g17 : (op == 17) = false := by rw [beq_eq_false_iff_ne]; omega
  clear h3 h4 h5 h6 hw h1315
  go_enter Tryd.func30, Tryd.ntmps30
  go_wp2_with fail
  refine name_world ?_
  intro w1 hw1
  have HB := Lib.hid (show Bx w w1 _ from by rw [hw1]; exact HB.out)
  clear hw1
  go_loopw [3, 7] (fun v3 v7 wr => ∃ i n : Nat, i ≤ subs.length ∧ v7 = .int .i64 i ∧ v3 = .int .i64 n ∧ n ≤ i * 160704 ∧ Hid (n = ((subs.take i).map (plc d)).sum ∧ Bx w wr [.int .i64 op, .slice ra rn rc, .int .i64 mn, .int .i64 mx, .bool false, .bool false, .slice sa subs.length sc])) (fun _ v7 _ => subs.length - (intOf v7).toNat)
  case atStart => exact ⟨0, 0, by omega, rfl, rfl, by omega, Lib.hid ⟨by simp, HB.out⟩⟩
  case round =>
    obtain ⟨i, n, hi, rfl, rfl, hn, H1⟩ := hrel
    have c0 := H1.out.2.b.cell 0
    have c6 := H1.out.2.b.cell 6
    simp only [List.getElem?_cons_zero, List.getElem?_cons_succ] at c0 c6
    by_cases hlt : i < subs.length
    · obtain ⟨ad, v0, v1, v2, v3, v4, v5, v6, rfl, -, hR, e0, e1, e2, e3, e4, e5, e6⟩ := sub_at HS.out.1 HS.out.2.1 (HS.out.2.2.1.below H1.out.2.l) (fun x hx => (HS.out.2.2.2 x hx).below H1.out.2.l) i hlt
      have CP := Lib.hid (IH.out wr subs[i] _ (hR.more H1.out.2.l.size) (HW.out _ (List.getElem_mem hlt)))
      have HT := Lib.hid (sum_snoc (plc d) subs i hlt)
      have hb : plc d subs[i] ≤ 160704 := by
        have h1 := plc_le d subs[i] (HW.out _ (List.getElem_mem hlt))
        have h2 : 6 ^ d ≤ 6 ^ 4 := Nat.pow_le_pow_right (by omega) hd
        have : (6 : Nat) ^ 4 = 1296 := by decide
        omega
      have hi3 : i ≤ 2 := by omega
      generalize plc d subs[i] = x at *
      clear hR
      go_wp2_with (first | (go_at_call 30; refine CP.out.mono ?_; rintro e w5 ⟨rfl, h5⟩; have H5 := Lib.hid h5; clear h5) | fail)
      go_roundw
      case rel => exact ⟨i + 1, n + x, by omega, by go_num, by go_num, by omega, Lib.hid ⟨by rw [HT.out, ← H1.out.1], H1.out.2.go H5.out⟩⟩
      case measure => simp [intOf]; omega
    · obtain rfl : i = subs.length := by omega
      have HN := Lib.hid (show n = (subs.map (plc d)).sum from by have := H1.out.1; rw [List.take_length] at this; exact this)
      go_wp2
      go_ret
      rw [← HN.out]
      exact ⟨rfl, H1.out.2.l⟩
set_option maxRecDepth 100000 in
set_option maxHeartbeats 1600000 in
theorem plc_sub15 {d : Nat} (hd : d ≤ 4) (IH : PlcOk d) (mn mx : Int) (ra : Option Addr) (rn rc : Nat) (sa : Option Addr) (sc : Nat) (subs : List Rx) (ls : List (List Value)) (w : World) (h3 : ls.length = subs.length) (h4 : ∀ x ∈ ls, x.length = 7) (h5 : Sl w w.heap.size sa (ls.flatMap id)) (h6 : ∀ x ∈ subs.zip ls, RgC w w.heap.size d x.1 x.2) (hw : ∀ s ∈ subs, wf 3 d s) (hl : subs.length ≤ 3) :
    Calls Tryd.prog 30 #[.agg (rxc 15 mn mx ra rn rc sa subs.length sc).toArray] w fun e w' => e = .returned (.int .i64 ((subs.map (plc d)).sum * 2 : Nat)) ∧ Below w.heap.size w w' := by
  have HB := Lib.hid (Bx.new w (rxc 15 mn mx ra rn rc sa subs.length sc))
  unfold rxc at *
  have HS := Lib.hid (And.intro h3 (And.intro h4 (And.intro h5 h6)))
  have HW := Lib.hid hw
  have IH := Lib.hid IH
  clear h3 h4 h5 h6 hw
  go_enter Tryd.func30, Tryd.ntmps30
  go_wp2_with fail
  refine name_world ?_
  intro w1 hw1
  have HB := Lib.hid (show Bx w w1 _ from by rw [hw1]; exact HB.out)
  clear hw1
  go_loopw [3, 7] (fun v3 v7 wr => ∃ i n : Nat, i ≤ subs.length ∧ v7 = .int .i64 i ∧ v3 = .int .i64 n ∧ n ≤ i * 160704 ∧ Hid (n = ((subs.take i).map (plc d)).sum ∧ Bx w wr [.int .i64 15, .slice ra rn rc, .int .i64 mn, .int .i64 mx, .bool false, .bool false, .slice sa subs.length sc])) (fun _ v7 _ => subs.length - (intOf v7).toNat)
  case atStart => exact ⟨0, 0, by omega, rfl, rfl, by omega, Lib.hid ⟨by simp, HB.out⟩⟩
  case round =>
    obtain ⟨i, n, hi, rfl, rfl, hn, H1⟩ := hrel
    have c0 := H1.out.2.b.cell 0
    have c6 := H1.out.2.b.cell 6
    simp only [List.getElem?_cons_zero, List.getElem?_cons_succ] at c0 c6
    by_cases hlt : i < subs.length
    · obtain ⟨ad, v0, v1, v2, v3, v4, v5, v6, rfl, -, hR, e0, e1, e2, e3, e4, e5, e6⟩ := sub_at HS.out.1 HS.out.2.1 (HS.out.2.2.1.below H1.out.2.l) (fun x hx => (HS.out.2.2.2 x hx).below H1.out.2.l) i hlt
      have CP := Lib.hid (IH.out wr subs[i] _ (hR.more H1.out.2.l.size) (HW.out _ (List.getElem_mem hlt)))
      have HT := Lib.hid (sum_snoc (plc d) subs i hlt)
      have hb : plc d subs[i] ≤ 160704 := by
        have h1 := plc_le d subs[i] (HW.out _ (List.getElem_mem hlt))
        have h2 : 6 ^ d ≤ 6 ^ 4 := Nat.pow_le_pow_right (by omega) hd
        have : (6 : Nat) ^ 4 = 1296 := by decide
        omega
      have hi3 : i ≤ 2 := by omega
      generalize plc d subs[i] = x at *
      clear hR
      go_wp2_with (first | (go_at_call 30; refine CP.out.mono ?_; rintro e w5 ⟨rfl, h5⟩; have H5 := Lib.hid h5; clear h5) | fail)
      go_roundw
      case rel => exact ⟨i + 1, n + x, by omega, by go_num, by go_num, by omega, Lib.hid ⟨by rw [HT.out, ← H1.out.1], H1.out.2.go H5.out⟩⟩
      case measure => simp [intOf]; omega
    · obtain rfl : i = subs.length := by omega
      have HN := Lib.hid (show n = (subs.map (plc d)).sum from by have := H1.out.1; rw [List.take_length] at this; exact this)
      go_wp2
      go_ret
      rw [← HN.out]
      simp only [Int.natCast_mul]
      exact ⟨rfl, H1.out.2.l⟩
set_option maxRecDepth 100000 in
set_option maxHeartbeats 1600000 in
theorem plc_sub17 {d : Nat} (hd : d ≤ 4) (IH : PlcOk d) (mn mx : Int) (ra : Option Addr) (rn rc : Nat) (sa : Option Addr) (sc : Nat) (subs : List Rx) (ls : List (List Value)) (w : World) (h3 : ls.length = subs.length) (h4 : ∀ x ∈ ls, x.length = 7) (h5 : Sl w w.heap.size sa (ls.flatMap id)) (h6 : ∀ x ∈ subs.zip ls, RgC w w.heap.size d x.1 x.2) (hw : ∀ s ∈ subs, wf 3 d s) (hl : subs.length ≤ 3) (hm : 0 ≤ mn ∧ mn ≤ 5 ∧ mx ≤ 5) :
    Calls Tryd.prog 30 #[.agg (rxc 17 mn mx ra rn rc sa subs.length sc).toArray] w fun e w' => e = .returned (.int .i64 ((subs.map (plc d)).sum * (max mn mx + 1).toNat : Nat)) ∧ Below w.heap.size w w' := by
  have HB := Lib.hid (Bx.new w (rxc 17 mn mx ra rn rc sa subs.length sc))
  unfold rxc at *
  have HS := Lib.hid (And.intro h3 (And.intro h4 (And.intro h5 h6)))
  have HW := Lib.hid hw
  have IH := Lib.hid IH
  clear h3 h4 h5 h6 hw
  go_enter Tryd.func30, Tryd.ntmps30
  go_wp2_with fail
  refine name_world ?_
  intro w1 hw1
  have HB := Lib.hid (show Bx w w1 _ from by rw [hw1]; exact HB.out)
  clear hw1
  go_loopw [3, 7] (fun v3 v7 wr => ∃ i n : Nat, i ≤ subs.length ∧ v7 = .int .i64 i ∧ v3 = .int .i64 n ∧ n ≤ i * 160704 ∧ Hid (n = ((subs.take i).map (plc d)).sum ∧ Bx w wr [.int .i64 17, .slice ra rn rc, .int .i64 mn, .int .i64 mx, .bool false, .bool false, .slice sa subs.length sc])) (fun _ v7 _ => subs.length - (intOf v7).toNat)
  case atStart => exact ⟨0, 0, by omega, rfl, rfl, by omega, Lib.hid ⟨by simp, HB.out⟩⟩
  case round =>
    obtain ⟨i, n, hi, rfl, rfl, hn, H1⟩ := hrel
    have c0 := H1.out.2.b.cell 0
    have c6 := H1.out.2.b.cell 6
    have c2 := H1.out.2.b.cell 2
    have c3 := H1.out.2.b.cell 3
    simp only [List.getElem?_cons_zero, List.getElem?_cons_succ] at c0 c6 c2 c3
    by_cases hlt : i < subs.length
    · obtain ⟨ad, v0, v1, v2, v3, v4, v5, v6, rfl, -, hR, e0, e1, e2, e3, e4, e5, e6⟩ := sub_at HS.out.1 HS.out.2.1 (HS.out.2.2.1.below H1.out.2.l) (fun x hx => (HS.out.2.2.2 x hx).below H1.out.2.l) i hlt
      have CP := Lib.hid (IH.out wr subs[i] _ (hR.more H1.out.2.l.size) (HW.out _ (List.getElem_mem hlt)))
      have HT := Lib.hid (sum_snoc (plc d) subs i hlt)
      have hb : plc d subs[i] ≤ 160704 := by
        have h1 := plc_le d subs[i] (HW.out _ (List.getElem_mem hlt))
        have h2 : 6 ^ d ≤ 6 ^ 4 := Nat.pow_le_pow_right (by omega) hd
        have : (6 : Nat) ^ 4 = 1296 := by decide
        omega
      have hi3 : i ≤ 2 := by omega
      generalize plc d subs[i] = x at *
      clear hR
      go_wp2_with (first | (go_at_call 30; refine CP.out.mono ?_; rintro e w5 ⟨rfl, h5⟩; have H5 := Lib.hid h5; clear h5) | fail)
      go_roundw
      case rel => exact ⟨i + 1, n + x, by omega, by go_num, by go_num, by omega, Lib.hid ⟨by rw [HT.out, ← H1.out.1], H1.out.2.go H5.out⟩⟩
      case measure => simp [intOf]; omega
    · obtain rfl : i = subs.length := by omega
      have HN := Lib.hid (show n = (subs.map (plc d)).sum from by have := H1.out.1; rw [List.take_length] at this; exact this)
      have hnb : n ≤ 482112 := by omega
      have HW6 := fun (k : Int) (h0 : 0 ≤ k) (h6 : k ≤ 6) => mul_wrap n k hnb h0 h6
      by_cases hmm : mn ≤ mx
      · have hw := HW6 (mx + 1) (by omega) (by omega)
        have hw2 := HW6 (mn + 1) (by omega) (by omega)
        have HE := Lib.hid (show (((subs.map (plc d)).sum : Nat) : Int) * max (max mn mx + 1) 0 = (n : Int) * (mx + 1) from by rw [← HN.out, Int.max_eq_right hmm, Int.max_eq_left (by omega)])
        clear HW6
        go_wp2
        all_goals
          go_ret
          rw [HE.out]
          exact ⟨by first | rfl | (obtain rfl : mx = mn := by omega
                                   rfl), H1.out.2.l⟩
      · have hw := HW6 (mn + 1) (by omega) (by omega)
        have HE := Lib.hid (show (((subs.map (plc d)).sum : Nat) : Int) * max (max mn mx + 1) 0 = (n : Int) * (mn + 1) from by rw [← HN.out, Int.max_eq_left (show mx ≤ mn by omega), Int.max_eq_left (by omega)])
        clear HW6
        go_wp2
        all_goals
          go_ret
          rw [HE.out]
          exact ⟨by first | rfl | (obtain rfl : mx = mn := by omega
                                   rfl), H1.out.2.l⟩
/-- how many ranges of bytes an expression is made of -/
theorem plc_ok : ∀ d, d ≤ 5 → PlcOk d
  | 0, _ => fun _ _ _ _ h => h.elim
  | d + 1, hd => by
    have IH := plc_ok d (by omega)
    intro w r cs h hw
    obtain ⟨op, rs, mn, mx, subs⟩ := r
    obtain ⟨ra, rc, sa, sc, ls, rfl, h2, h3, h4, h5, h6⟩ := h
    rcases hw with ⟨rfl, rfl, rfl⟩ | ⟨rfl, rfl, g1, g2, g3⟩ | ⟨g1, rfl⟩ | ⟨g1, rfl, g2, g3, g4⟩ | ⟨g1, rfl, g2, s, rfl, g3⟩
    · have e1 : plc (d + 1) (.nd 2 [] mn mx []) = 0 := by simp [plc]
      rw [e1]
      exact plc_eps _ _ _ _ _ _ _ _ _
    · have e1 : plc (d + 1) (.nd 3 rs mn mx []) = (rs.flatMap ub).length := by simp [plc]
      rw [e1]
      exact plc_lit mn mx ra rs rc sa 0 sc w g3 (by omega) h2
    · rcases g1 with ⟨rfl, g1, -⟩ | ⟨rfl | rfl, rfl⟩
      · have e1 : plc (d + 1) (.nd 4 rs mn mx []) = plcR (pairs (rngs 4 rs)) := by simp [plc]
        rw [e1]
        exact plc_cls4 mn mx ra rs rc sa 0 sc w (by simp [rngs]; omega) h2
      · have e1 : plc (d + 1) (.nd 5 [] mn mx []) = plcR (pairs (rngs 5 [])) := by simp [plc]
        rw [e1]
        exact plc_cls5 mn mx ra [] rc sa 0 sc w rfl (by simp [rngs]) h2
      · have e1 : plc (d + 1) (.nd 6 [] mn mx []) = plcR (pairs (rngs 6 [])) := by simp [plc]
        rw [e1]
        exact plc_cls6 mn mx ra [] rc sa 0 sc w rfl (by simp [rngs]) h2
    · have e1 : plc (d + 1) (.nd op [] mn mx subs) = (subs.map (plc d)).sum := by rcases g1 with rfl | rfl <;> simp [plc]
      rw [e1]
      exact plc_sub (by omega) IH op mn mx ra 0 rc sa sc subs ls w (by omega) (by omega) h3 h4 h5 h6 g4 g3
    · have hw1 : ∀ t ∈ [s], wf 3 d t := fun t ht => by simp at ht; subst ht; exact g3
      rcases g1 with rfl | rfl | rfl | rfl | rfl
      · have e1 : plc (d + 1) (.nd 13 [] mn mx [s]) = ([s].map (plc d)).sum := by simp [plc]
        rw [e1]
        exact plc_sub (by omega) IH 13 mn mx ra 0 rc sa sc [s] ls w (by omega) (by omega) h3 h4 h5 h6 hw1 (by simp)
      · have e1 : plc (d + 1) (.nd 14 [] mn mx [s]) = ([s].map (plc d)).sum := by simp [plc]
        rw [e1]
        exact plc_sub (by omega) IH 14 mn mx ra 0 rc sa sc [s] ls w (by omega) (by omega) h3 h4 h5 h6 hw1 (by simp)
      · have e1 : plc (d + 1) (.nd 15 [] mn mx [s]) = ([s].map (plc d)).sum * 2 := by simp [plc]
        rw [e1]
        exact plc_sub15 (by omega) IH mn mx ra 0 rc sa sc [s] ls w h3 h4 h5 h6 hw1 (by simp)
      · have e1 : plc (d + 1) (.nd 16 [] mn mx [s]) = ([s].map (plc d)).sum := by simp [plc]
        rw [e1]
        exact plc_sub (by omega) IH 16 mn mx ra 0 rc sa sc [s] ls w (by omega) (by omega) h3 h4 h5 h6 hw1 (by simp)
      · have e1 : plc (d + 1) (.nd 17 [] mn mx [s]) = ([s].map (plc d)).sum * (max mn mx + 1).toNat := by simp [plc]
        obtain ⟨k1, k2, k3⟩ := g2 rfl
        rw [e1]
        exact plc_sub17 (by omega) IH mn mx ra 0 rc sa sc [s] ls w h3 h4 h5 h6 hw1 (by simp) ⟨k1, by omega, by omega⟩
end Go.Proofs.YtbkpgfccghombaaDoor.rx

/-! append of all of a slice to a row of the call's own. Conditions: as stated. -/
namespace Go.Proofs.YtbkpgfccghombaaDoor.rx
open Go.ChangeShapes Go.WideShapes Go.ChangeAt Go.RowKit
set_option linter.unusedVariables false

section
variable {P : Program} {w : World}
theorem run_append_none (base : Nat) (t ty e : TypeId) (i : TypeInfo) (size c : Nat) (ht : P.underlying t = some (.slice e)) (hi : P.info? e = some i)
    (v : Value) (n : Nat) (xs : List Value) (hown : w.ownsRow base e size v n xs) :
    (Builtin.append_ #[t, t] ty #[v, .slice none 0 c]).run P w = .ok v w := by
  rcases hown.2 with ⟨rfl, rfl⟩ | ⟨g, cap, cur, rfl, _, _, hnc, _⟩
  · simp [Builtin.append_, run_underlying ht, sizeOf, typeInfo, hi, Builtin.lenOf, Builtin.firstCells]
  · simp [Builtin.append_, run_underlying ht, sizeOf, typeInfo, hi, Builtin.lenOf, Builtin.firstCells, hnc, storeCells]

/-- all of a slice is put behind a row -/
theorem run_spread (base B : Nat) (t ty e : TypeId) (i : TypeInfo) (z : Value) (size bytes : Nat) (ht : P.underlying t = some (.slice e)) (hi : P.info? e = some i) (hz : i.zero = some z)
    (hsize : i.size = size) (hby : i.bytes = bytes) (hzs : z.cells.size = size) (hsz : 0 < size)
    (v : Value) (n : Nat) (xs : List Value) (hown : w.ownsRow base e size v n xs)
    (ao : Option Addr) (m c : Nat) (news : List Value) (hl : news.length = m * size) (hnews : Sl w B ao news) (h1 : ∀ u ∈ news, u.oneCell' = true)
    (h63 : n + m ≤ maxLen) (hbytes : (n + m) * bytes ≤ 140737488355328) (hbase : base ≤ w.heap.size) :
    ∃ v' w', (Builtin.append_ #[t, t] ty #[v, .slice ao m c]).run P w = .ok v' w' ∧ w'.ownsRow base e size v' (n + m) (xs ++ news) ∧ w.grownBy w' v.ownBlock ∧ (∀ k, v'.ownBlock = some k → v.ownBlock = some k ∨ w.heap.size ≤ k) := by
  cases ao with
  | none =>
    have hm : m = 0 := by
      rcases Nat.eq_zero_or_pos m with h | h
      · exact h
      · have hp : 0 < news.length := by rw [hl]; exact Nat.mul_pos h hsz
        obtain ⟨ad, h, -⟩ := hnews 0 news[0] (List.getElem?_eq_getElem hp)
        cases h
    subst hm
    have hn : news = [] := List.length_eq_zero_iff.1 (by simpa using hl)
    subst hn
    refine ⟨v, w, run_append_none base t ty e i size c ht hi v n xs hown, by simpa using hown, World.grownBy.refl w _, fun k hk => .inl hk⟩
  | some ad =>
    obtain ⟨v', w', h2, h3, h4, -, h5⟩ := run_append_own_at (P := P) w base t ty e i z size bytes ht hi hz hsize hby hzs hsz v n xs hown ad m c news hl (fun j u hu => by
      obtain ⟨ad2, h, -, hc⟩ := hnews j u hu
      injection h with h
      subst h
      exact hc) h1 h63 hbytes hbase
    refine ⟨v', w', h2, h3, h4, fun k hk => ?_⟩
    rcases h5 with h5 | h5
    · exact .inl (h5 ▸ hk)
    · rw [hk] at h5
      injection h5 with h5
      exact .inr (by omega)
/-- at the operation, in a plain region -/
theorem list_spread {ops : Array Oper} {rest : List Oper} {o : Oper} {a : Act} {Q : Exit → Act → World → Prop} (hgd : o.guard = none) (s x : Operand) (t : TypeId)
    (ho : o.op = .call { callee := .builtin .append, args := #[s, x], argTypes := #[t, t] }) (base B : Nat) (e : TypeId) (i : TypeInfo) (z : Value) (size bytes : Nat) (ht : P.underlying t = some (.slice e)) (hi : P.info? e = some i) (hz : i.zero = some z)
    (hsize : i.size = size) (hby : i.bytes = bytes) (hzs : z.cells.size = size) (hsz : 0 < size)
    (v : Value) (n : Nat) (xs : List Value) (hs : a.eval s = v) (hown : w.ownsRow base e size v n xs)
    (ao : Option Addr) (m c : Nat) (news : List Value) (hx : a.eval x = .slice ao m c) (hl : news.length = m * size) (hnews : Sl w B ao news) (h1 : ∀ u ∈ news, u.oneCell' = true)
    (h63 : n + m ≤ maxLen) (hbytes : (n + m) * bytes ≤ 140737488355328) (hbase : base ≤ w.heap.size)
    (h : ∀ v' w', w'.ownsRow base e size v' (n + m) (xs ++ news) → w.grownBy w' v.ownBlock → (∀ k, v'.ownBlock = some k → v.ownBlock = some k ∨ w.heap.size ≤ k) → wpList P ops Q rest (a.put o.dst v') w') : wpList P ops Q (o :: rest) a w := by
  refine wpList_plain hgd fun K hK => ?_
  obtain ⟨v', w', hr, h2, h3, h4⟩ := run_spread (P := P) base B t o.type e i z size bytes ht hi hz hsize hby hzs hsz v n xs hown ao m c news hl hnews h1 h63 hbytes hbase
  unfold Oper.wp execOp
  simp only [ho, resolve, invoke, builtin, Sem.run_bind, Sem.run_pure, Result.andThen_ok, List.map_toArray, List.map_cons, List.map_nil, hs, hx, hr]
  exact hK _ _ (h v' w' h2 h3 h4)
/-- at the operation, in a region that draws its order -/
theorem step_spread {ops : Array Oper} {o : Oper} {a : Act} {K : Act → World → Prop} {Q : Exit → Act → World → Prop} {E : Prop} (hgd : o.guard = none) (s x : Operand) (t : TypeId)
    (ho : o.op = .call { callee := .builtin .append, args := #[s, x], argTypes := #[t, t] }) (base B : Nat) (e : TypeId) (i : TypeInfo) (z : Value) (size bytes : Nat) (ht : P.underlying t = some (.slice e)) (hi : P.info? e = some i) (hz : i.zero = some z)
    (hsize : i.size = size) (hby : i.bytes = bytes) (hzs : z.cells.size = size) (hsz : 0 < size)
    (v : Value) (n : Nat) (xs : List Value) (hs : a.eval s = v) (hown : w.ownsRow base e size v n xs)
    (ao : Option Addr) (m c : Nat) (news : List Value) (hx : a.eval x = .slice ao m c) (hl : news.length = m * size) (hnews : Sl w B ao news) (h1 : ∀ u ∈ news, u.oneCell' = true)
    (h63 : n + m ≤ maxLen) (hbytes : (n + m) * bytes ≤ 140737488355328) (hbase : base ≤ w.heap.size)
    (h : ∀ v' w', w'.ownsRow base e size v' (n + m) (xs ++ news) → w.grownBy w' v.ownBlock → (∀ k, v'.ownBlock = some k → v.ownBlock = some k ∨ w.heap.size ≤ k) → K (a.put o.dst v') w') :
    if Region.wanted o (yielded ops a.tmps) = true then Oper.wp P o a w K Q else E := by
  have hw : Region.wanted o (yielded ops a.tmps) = true := by simp [Region.wanted, hgd]
  rw [if_pos hw]
  obtain ⟨v', w', hr, h2, h3, h4⟩ := run_spread (P := P) base B t o.type e i z size bytes ht hi hz hsize hby hzs hsz v n xs hown ao m c news hl hnews h1 h63 hbytes hbase
  unfold Oper.wp execOp
  simp only [ho, resolve, invoke, builtin, Sem.run_bind, Sem.run_pure, Result.andThen_ok, List.map_toArray, List.map_cons, List.map_nil, hs, hx, hr]
  exact h v' w' h2 h3 h4
end
end Go.Proofs.YtbkpgfccghombaaDoor.rx

/-! The law's expression, as Go's package has it. Conditions: as stated. -/
namespace Go.Proofs.YtbkpgfccghombaaDoor.rx
open Go.ChangeShapes Go.WideShapes Go.ChangeAt Go.RowKit
set_option linter.unusedVariables false

theorem grown_below {w w' : World} {B : Nat} {row : Option Nat} (h : w.grownBy w' row) (hr : ∀ k, row = some k → B ≤ k) (hB : B ≤ w.heap.size) : Below B w w' :=
  ⟨h.os, h.tape, h.output, h.size, fun k hk => h.block k (by omega) (fun e => by have := hr k e.symm; omega)⟩
theorem _root_.Go.World.grownBy.below_ {w w' : World} {B : Nat} {row : Option Nat} (h : w.grownBy w' row) (hr : ∀ k, row = some k → B ≤ k) (hB : B ≤ w.heap.size) : Below B w w' := grown_below h hr hB

/-- a node of Go's package -/
def snc (op : Nat) (mn mx : Int) (v v6 : Value) : List Value := [.int .u8 op, .int .u16 0, v, .pointer none, v6, .int .i32 0, .int .i32 0, .int .i64 mn, .int .i64 mx, .int .i64 0, .string ⟨#[]⟩]
/-- what must not be a part's -/
def Out (B N : Nat) (v : Value) (k : Nat) : Prop := k < B ∨ k = N ∨ v.ownBlock = some k
/-- how far the parts are laid -/
structure Ti (w wr : World) (N d op : Nat) (rs : List Int) (mn mx : Int) (subs : List Rx) (v v6 : Value) (qs : List Addr) (cs : List Value) : Prop where
  node : Blk wr N 88 (snc op mn mx v v6)
  row : wr.ownsRow w.heap.size 64 1 v qs.length (pvs qs)
  run : wr.ownsRow w.heap.size 21 1 v6 rs.length (rs.map (.int .i32))
  box : Blk wr w.heap.size 25 cs
  low : Below w.heap.size w wr
  hN : w.heap.size < N
  kids : ∀ x ∈ (subs.take qs.length).zip qs, Nd wr (Out w.heap.size N v) d x.1 x.2
theorem Ti.alloc {w wr : World} {N d op : Nat} {rs : List Int} {mn mx : Int} {subs : List Rx} {v v6 : Value} {qs : List Addr} {cs : List Value} (h : Ti w wr N d op rs mn mx subs v v6 qs cs) (o : Obj) : Ti w (wr.alloc o) N d op rs mn mx subs v v6 qs cs := by
  have hb : Below wr.heap.size wr (wr.alloc o) := (Below.refl _ _).alloc (Nat.le_refl _) _
  exact ⟨h.node.below hb h.node.lt, own_below h.row hb, own_below h.run hb, h.box.below hb h.box.lt, h.low.trans (hb.mono h.low.size), h.hN, fun x hx => Nd.go (Fr.none_of_below hb) (fun _ e => .inl e) d x.1 x.2 (h.kids x hx)⟩
theorem Ti.drew {w wr : World} {N d op : Nat} {rs : List Int} {mn mx : Int} {subs : List Rx} {v v6 : Value} {qs : List Addr} {cs : List Value} (h : Ti w wr N d op rs mn mx subs v v6 qs cs) : Ti w wr.drew N d op rs mn mx subs v v6 qs cs := by
  have hb : Below wr.heap.size wr wr.drew := (Below.refl _ _).drew
  exact ⟨h.node.below hb h.node.lt, own_below h.row hb, own_below h.run hb, h.box.below hb h.box.lt, h.low.trans (hb.mono h.low.size), h.hN, fun x hx => Nd.go (Fr.none_of_below hb) (fun _ e => .inl e) d x.1 x.2 (h.kids x hx)⟩
theorem Ti.next {w wq w5 w7 : World} {N d op : Nat} {rs : List Int} {mn mx : Int} {subs : List Rx} {v v6 : Value} {qs : List Addr} {cs : List Value} {q : Addr} {g7 c7 i : Nat} (hqi : qs.length = i) (h : Ti w wq N d op rs mn mx subs v v6 qs cs) (hlt : i < subs.length) (hq : Nd w5 (fun k => k < wq.heap.size) d subs[i] q) (hb : Below wq.heap.size wq w5)
    (ho : w7.ownsRow w.heap.size 64 1 (.slice (some ⟨g7, 0, none⟩) (i + 1) c7) (i + 1) (pvs qs ++ (#[.pointer (some q)] : Array Value).toList)) (hg : w5.grownBy w7 v.ownBlock) (hat : ∀ k, (Value.slice (some ⟨g7, 0, none⟩) (i + 1) c7).ownBlock = some k → v.ownBlock = some k ∨ w5.heap.size ≤ k) :
    w7.frozen? ⟨N, 2, none⟩ = false ∧ w7.cell? ⟨N, 2, none⟩ = some v ∧ Ti w (w7.setCell ⟨N, 2, none⟩ (.slice (some ⟨g7, 0, none⟩) (i + 1) c7)) N d op rs mn mx subs (.slice (some ⟨g7, 0, none⟩) (i + 1) c7) v6 (qs ++ [q]) cs := by
  subst hqi
  have hvN : v.ownBlock ≠ some N := row_blk h.row h.node (by decide)
  have h5 : Blk w5 N 88 (snc op mn mx v v6) := h.node.below hb h.node.lt
  have r5 : w5.ownsRow w.heap.size 21 1 v6 rs.length (rs.map (.int .i32)) := own_below h.run hb
  have x5 := own_below h.row hb
  have h7 : Blk w7 N 88 (snc op mn mx v v6) := h5.grown hg (fun e => hvN e.symm)
  have r7 : w7.ownsRow w.heap.size 21 1 v6 rs.length (rs.map (.int .i32)) := r5.kept hg (rows_apart r5 x5 (by decide)).kept
  have b5 : Blk w5 w.heap.size 25 cs := h.box.below hb h.box.lt
  have b7 : Blk w7 w.heap.size 25 cs := b5.grown hg (fun e => row_blk x5 b5 (by decide) e.symm)
  have lo5 : w.heap.size ≤ w5.heap.size := Nat.le_trans h.low.size hb.size
  have l7 : Below w.heap.size w w7 := (h.low.trans (hb.mono h.low.size)).trans (grown_below hg (own_block_ge x5) lo5)
  refine ⟨h7.frozen 2, h7.cell 2, ?_⟩
  have hset : (snc op mn mx v v6).set 2 (.slice (some ⟨g7, 0, none⟩) (qs.length + 1) c7) = snc op mn mx (.slice (some ⟨g7, 0, none⟩) (qs.length + 1) c7) v6 := rfl
  have hv7 : (Value.slice (some ⟨g7, 0, none⟩) (qs.length + 1) c7).ownBlock ≠ some N := row_blk ho h7 (by decide)
  have fr : Fr (Out w.heap.size N v) w5 (w7.setCell ⟨N, 2, none⟩ (.slice (some ⟨g7, 0, none⟩) (qs.length + 1) c7)) := (Fr.of_grown hg (fun k e => .inr (.inr e))).set _ _ (.inr (.inl rfl))
  have hO : ∀ k, Out w.heap.size N (.slice (some ⟨g7, 0, none⟩) (qs.length + 1) c7) k → Out w.heap.size N v k ∨ w5.heap.size ≤ k := by
    rintro k (e | e | e)
    · exact .inl (.inl e)
    · exact .inl (.inr (.inl e))
    · rcases hat k e with e | e
      · exact .inl (.inr (.inr e))
      · exact .inr e
  refine ⟨hset ▸ h7.set_ 2 _, ?_, own_far r7 _ _ (row_blk r7 h7 (by decide)), b7.far (p := ⟨N, 2, none⟩) (by have := h.hN; simp; omega) _, l7.setCell (p := ⟨N, 2, none⟩) (Nat.le_of_lt h.hN) _, h.hN, fun x hx => ?_⟩
  · have e1 : (qs ++ [q]).length = qs.length + 1 := by simp
    have e2 : pvs (qs ++ [q]) = pvs qs ++ (#[Value.pointer (some q)] : Array Value).toList := by simp [pvs]
    rw [e1, e2]
    exact own_far ho _ _ hv7
  · rw [List.length_append, List.length_cons, List.length_nil, Nat.zero_add, List.take_succ_eq_append_getElem hlt, List.zip_append (by rw [List.length_take]; omega)] at hx
    rcases List.mem_append.1 hx with hx | hx
    · exact Nd.go fr hO d x.1 x.2 (Nd.go (Fr.none_of_below hb) (fun _ e => .inl e) d x.1 x.2 (h.kids x hx))
    · simp at hx
      subst hx
      refine Nd.go fr hO d _ _ (Nd.go (Fr.refl _ _) ?_ d _ _ hq)
      rintro k (e | e | e)
      · exact .inl (Nat.lt_of_lt_of_le e h.low.size)
      · exact .inl (e ▸ h.node.lt)
      · exact .inl (own_block_lt h.row k e)

theorem RgC.form {w : World} {B d : Nat} {r : Rx} {cs : List Value} (h : RgC w B d r cs) : ∃ op mn mx ra rn rc sa sn sc, cs = rxc op mn mx ra rn rc sa sn sc := by
  match d, r, h with
  | d + 1, .nd op rs mn mx subs, h =>
    obtain ⟨ra, rc, sa, sc, ls, rfl, -⟩ := h
    exact ⟨_, _, _, _, _, _, _, _, _, rfl⟩
theorem wf_bd {d op : Nat} {rs : List Int} {mn mx : Int} {subs : List Rx} (h : wf 3 (d + 1) (.nd op rs mn mx subs)) : op ≤ 19 ∧ rs.length ≤ 8 ∧ subs.length ≤ 3 ∧ ∀ s ∈ subs, wf 3 d s := by
  rcases h with ⟨rfl, rfl, rfl⟩ | ⟨rfl, rfl, h1, h2, h3⟩ | ⟨h1, rfl⟩ | ⟨h1, rfl, h2, h3, h4⟩ | ⟨h1, rfl, h2, s, rfl, h3⟩
  · simp
  · simp; omega
  · rcases h1 with ⟨rfl, h1, -⟩ | ⟨rfl | rfl, rfl⟩ <;> simp <;> omega
  · exact ⟨by omega, by simp, h3, h4⟩
  · exact ⟨by omega, by simp, by simp, fun t ht => by simp at ht; subst ht; exact h3⟩
/-- all parts are laid -/
theorem Ti.done_ {w wr : World} {N d op : Nat} {rs : List Int} {mn mx : Int} {subs : List Rx} {a a6 : Option Addr} {c c6 : Nat} {qs : List Addr} {cs : List Value} (h : Ti w wr N d op rs mn mx subs (.slice a subs.length c) (.slice a6 rs.length c6) qs cs) (hq : qs.length = subs.length) : Nd wr (fun k => k < w.heap.size) (d + 1) (.nd op rs mn mx subs) ⟨N, 0, none⟩ := by
  have hr := h.row
  rw [hq] at hr
  refine ⟨a6, c6, a, c, .int .i64 0, .int .i64 0, .int .i64 0, qs, ?_, slo_of_own hr, hq, fun x hx => ?_⟩
  · have e := fun i => h.node.cell i
    exact { bl := h.node.lt, no := fun (g : N < w.heap.size) => by have := h.hN; omega, c0 := e 0, c1 := e 1, c2 := e 2, c3 := e 3, c4 := e 4, c5 := e 5, c6 := e 6, c7 := e 7, c8 := e 8, rs := slo_of_own h.run }
  · refine Nd.go (Fr.refl _ _) (fun k e => .inl (.inl e)) d x.1 x.2 (h.kids x ?_)
    rw [hq, List.take_length]
    exact hx
theorem infoT : (Tryd.prog.info? 64).map (fun i => (i.zero, i.size, i.bytes)) = some (some (.pointer none), 1, 8) := by kernel_rfl
def TreeOk (d : Nat) : Prop := ∀ (w : World) (r : Rx) (cs : List Value), RgC w w.heap.size d r cs → wf 3 d r → Calls Tryd.prog 32 #[.agg cs.toArray] w fun e w' => ∃ p, e = .returned (.pointer (some p)) ∧ Nd w' (fun k => k < w.heap.size) d r p ∧ Below w.heap.size w w'
set_option maxRecDepth 100000 in
set_option maxHeartbeats 3200000 in
theorem tree_step {d : Nat} (IH : TreeOk d) (op : Nat) (rs : List Int) (mn mx : Int) (subs : List Rx) (ra : Option Addr) (rc : Nat) (sa : Option Addr) (sc : Nat) (ls : List (List Value)) (w : World) (hop : op ≤ 19) (hrs : rs.length ≤ 8) (hsl : subs.length ≤ 3) (hw : ∀ s ∈ subs, wf 3 d s)
    (h2 : Sl w w.heap.size ra (rs.map (.int .i32))) (h3 : ls.length = subs.length) (h4 : ∀ x ∈ ls, x.length = 7) (h5 : Sl w w.heap.size sa (ls.flatMap id)) (h6 : ∀ x ∈ subs.zip ls, RgC w w.heap.size d x.1 x.2) :
    Calls Tryd.prog 32 #[.agg (rxc op mn mx ra rs.length rc sa subs.length sc).toArray] w fun e w' => ∃ p, e = .returned (.pointer (some p)) ∧ Nd w' (fun k => k < w.heap.size) (d + 1) (.nd op rs mn mx subs) p ∧ Below w.heap.size w w' := by
  obtain ⟨i0, hi0, hz0, hz1, hz2⟩ := info_parts infoR
  obtain ⟨j0, ji0, jz0, jz1, jz2⟩ := info_parts infoT
  have HB := Lib.hid (Bx.new w (rxc op mn mx ra rs.length rc sa subs.length sc))
  unfold rxc at *
  have HS := Lib.hid (And.intro h3 (And.intro h4 (And.intro h5 h6)))
  have HR := Lib.hid h2
  have HW := Lib.hid hw
  have IH := Lib.hid IH
  have e8 : IntKind.u8.wrap (op : Int) = op := by rw [IntKind.wrap_u8]; omega
  clear h2 h3 h4 h5 h6 hw
  go_enter Tryd.func32, Tryd.ntmps32
  go_wp2_with fail
  refine name_world ?_
  intro w1 hw1
  have HB := Lib.hid (show Bx w w1 _ from by rw [hw1]; exact HB.out)
  clear hw1
  have c0 := HB.out.b.cell 0
  have c1 := HB.out.b.cell 1
  have c2 := HB.out.b.cell 2
  have c3 := HB.out.b.cell 3
  simp only [List.getElem?_cons_zero, List.getElem?_cons_succ] at c0 c1 c2 c3
  have HSK := Lib.hid (show ∀ W W' : World, Below (w.heap.size + 1) W W' → (W.cell? ⟨w.heap.size, 0, none⟩ = some (.int .i64 op) ∧ W.cell? ⟨w.heap.size, 1, none⟩ = some (.slice ra rs.length rc) ∧ W.cell? ⟨w.heap.size, 2, none⟩ = some (.int .i64 mn) ∧ W.cell? ⟨w.heap.size, 3, none⟩ = some (.int .i64 mx)) →
    (W'.cell? ⟨w.heap.size, 0, none⟩ = some (.int .i64 op) ∧ W'.cell? ⟨w.heap.size, 1, none⟩ = some (.slice ra rs.length rc) ∧ W'.cell? ⟨w.heap.size, 2, none⟩ = some (.int .i64 mn) ∧ W'.cell? ⟨w.heap.size, 3, none⟩ = some (.int .i64 mx)) from fun W W' hb h =>
      ⟨(hb.cell (p := ⟨w.heap.size, 0, none⟩) (Nat.lt_succ_self _)).trans h.1, (hb.cell (p := ⟨w.heap.size, 1, none⟩) (Nat.lt_succ_self _)).trans h.2.1, (hb.cell (p := ⟨w.heap.size, 2, none⟩) (Nat.lt_succ_self _)).trans h.2.2.1, (hb.cell (p := ⟨w.heap.size, 3, none⟩) (Nat.lt_succ_self _)).trans h.2.2.2⟩)
  have OWN0 := Lib.hid (show (w1.drew.alloc (.cells #[] 21)).ownsRow w.heap.size 21 1 (.slice (some ⟨w1.heap.size, 0, none⟩) 0 0) 0 [] from World.ownsRow_lit w1.drew #[] 0 HB.out.l.size (by simp [maxLen]) rfl)
  have SZ0 := Lib.hid (show w.heap.size ≤ (w1.drew.alloc (.cells #[] 21)).heap.size from by have := HB.out.s; simp; omega)
  have SRC := Lib.hid (show Sl (w1.drew.alloc (.cells #[] 21)) w.heap.size ra (rs.map (.int .i32)) from HR.out.below (HB.out.l.drew.alloc (by simpa using HB.out.l.size) _))
  refine wp_region_ks (fun W => W.cell? ⟨w.heap.size, 0, none⟩ = some (.int .i64 op) ∧ W.cell? ⟨w.heap.size, 1, none⟩ = some (.slice ra rs.length rc) ∧ W.cell? ⟨w.heap.size, 2, none⟩ = some (.int .i64 mn) ∧ W.cell? ⟨w.heap.size, 3, none⟩ = some (.int .i64 mx)) [12] (by kernel_rfl) ?_
  simp only [List.size_toArray, List.length_cons, List.length_nil, Nat.reduceAdd]
  refine ks_pure (i := 0) (oi := ?oi0a) (v := ?v0a) ?hi0a (by kernel_rfl) (by kernel_rfl) (by kernel_rfl) ?hQ0a ?hy0a ?rest0a
  case hi0a =>
    simp only [List.getElem?_toArray, List.getElem?_cons_zero]
    rfl
  case hQ0a => exact fun _ _ _ h => h
  case hy0a =>
    refine yields_if (by rfl) (fun W hW => ?_)
    try dsimp only at hW
    go_simp
    first | done | with_reducible rfl
  simp only [Act.put, List.setIfInBounds_toArray, List.set_cons_zero, List.set_cons_succ]
  refine ks_via [2, 11] (i := 1) (oi := ?oi1a) (v := ?v1a) ?hi1a (by kernel_rfl) (by kernel_rfl) (by kernel_rfl) (by kernel_rfl) (by kernel_rfl) ?hQ1a ?hS1a ?hy1a ?rest1a
  case hi1a =>
    simp only [List.getElem?_toArray, List.getElem?_cons_succ, List.getElem?_cons_zero]
    rfl
  case hQ1a => exact fun _ _ _ h => h
  case hS1a => exact ⟨c0, c1, c2, c3⟩
  case hy1a =>
    refine yields_if (by rfl) (fun W hW => ?_)
    obtain ⟨hW0, hW1, hW2, hW3⟩ := hW
    go_simp
    first | done | with_reducible rfl
  simp only [Act.put, List.setIfInBounds_toArray, List.set_cons_zero, List.set_cons_succ]
  refine ks_pure (i := 2) (oi := ?oi2a) (v := ?v2a) ?hi2a (by kernel_rfl) (by kernel_rfl) (by kernel_rfl) ?hQ2a ?hy2a ?rest2a
  case hi2a =>
    simp only [List.getElem?_toArray, List.getElem?_cons_succ, List.getElem?_cons_zero]
    rfl
  case hQ2a => exact fun _ _ _ h => h
  case hy2a =>
    refine yields_if (by rfl) (fun W hW => ?_)
    try dsimp only at hW
    go_simp
    first | done | with_reducible rfl
  simp only [Act.put, List.setIfInBounds_toArray, List.set_cons_zero, List.set_cons_succ]
  refine ks_pure (i := 4) (oi := ?oi4a) (v := ?v4a) ?hi4a (by kernel_rfl) (by kernel_rfl) (by kernel_rfl) ?hQ4a ?hy4a ?rest4a
  case hi4a =>
    simp only [List.getElem?_toArray, List.getElem?_cons_succ, List.getElem?_cons_zero]
    rfl
  case hQ4a => exact fun _ _ _ h => h
  case hy4a =>
    refine yields_if (by rfl) (fun W hW => ?_)
    try dsimp only at hW
    go_simp
    first | done | with_reducible rfl
  simp only [Act.put, List.setIfInBounds_toArray, List.set_cons_zero, List.set_cons_succ]
  refine ks_via [6, 11] (i := 5) (oi := ?oi5a) (v := ?v5a) ?hi5a (by kernel_rfl) (by kernel_rfl) (by kernel_rfl) (by kernel_rfl) (by kernel_rfl) ?hQ5a ?hS5a ?hy5a ?rest5a
  case hi5a =>
    simp only [List.getElem?_toArray, List.getElem?_cons_succ, List.getElem?_cons_zero]
    rfl
  case hQ5a => exact fun _ _ _ h => h
  case hS5a => exact ⟨c0, c1, c2, c3⟩
  case hy5a =>
    refine yields_if (by rfl) (fun W hW => ?_)
    obtain ⟨hW0, hW1, hW2, hW3⟩ := hW
    go_simp
    first | done | with_reducible rfl
  simp only [Act.put, List.setIfInBounds_toArray, List.set_cons_zero, List.set_cons_succ]
  refine ks_pure (i := 7) (oi := ?oi7a) (v := ?v7a) ?hi7a (by kernel_rfl) (by kernel_rfl) (by kernel_rfl) ?hQ7a ?hy7a ?rest7a
  case hi7a =>
    simp only [List.getElem?_toArray, List.getElem?_cons_succ, List.getElem?_cons_zero]
    rfl
  case hQ7a => exact fun _ _ _ h => h
  case hy7a =>
    refine yields_if (by rfl) (fun W hW => ?_)
    try dsimp only at hW
    go_simp
    first | done | with_reducible rfl
  simp only [Act.put, List.setIfInBounds_toArray, List.set_cons_zero, List.set_cons_succ]
  refine ks_via [11] (i := 8) (oi := ?oi8a) (v := ?v8a) ?hi8a (by kernel_rfl) (by kernel_rfl) (by kernel_rfl) (by kernel_rfl) (by kernel_rfl) ?hQ8a ?hS8a ?hy8a ?rest8a
  case hi8a =>
    simp only [List.getElem?_toArray, List.getElem?_cons_succ, List.getElem?_cons_zero]
    rfl
  case hQ8a => exact fun _ _ _ h => h
  case hS8a => exact ⟨c0, c1, c2, c3⟩
  case hy8a =>
    refine yields_if (by rfl) (fun W hW => ?_)
    obtain ⟨hW0, hW1, hW2, hW3⟩ := hW
    go_simp
    first | done | with_reducible rfl
  simp only [Act.put, List.setIfInBounds_toArray, List.set_cons_zero, List.set_cons_succ]
  refine ks_pure (i := 9) (oi := ?oi9a) (v := ?v9a) ?hi9a (by kernel_rfl) (by kernel_rfl) (by kernel_rfl) ?hQ9a ?hy9a ?rest9a
  case hi9a =>
    simp only [List.getElem?_toArray, List.getElem?_cons_succ, List.getElem?_cons_zero]
    rfl
  case hQ9a => exact fun _ _ _ h => h
  case hy9a =>
    refine yields_if (by rfl) (fun W hW => ?_)
    try dsimp only at hW
    go_simp
    first | done | with_reducible rfl
  simp only [Act.put, List.setIfInBounds_toArray, List.set_cons_zero, List.set_cons_succ]
  refine ks_via [11] (i := 10) (oi := ?oi10a) (v := ?v10a) ?hi10a (by kernel_rfl) (by kernel_rfl) (by kernel_rfl) (by kernel_rfl) (by kernel_rfl) ?hQ10a ?hS10a ?hy10a ?rest10a
  case hi10a =>
    simp only [List.getElem?_toArray, List.getElem?_cons_succ, List.getElem?_cons_zero]
    rfl
  case hQ10a => exact fun _ _ _ h => h
  case hS10a => exact ⟨c0, c1, c2, c3⟩
  case hy10a =>
    refine yields_if (by rfl) (fun W hW => ?_)
    obtain ⟨hW0, hW1, hW2, hW3⟩ := hW
    go_simp
    first | done | with_reducible rfl
  simp only [Act.put, List.setIfInBounds_toArray, List.set_cons_zero, List.set_cons_succ]
  refine ks_one (i := 3) (o := ?o3a) ?ho3a (by kernel_rfl) (fun K9 hK => ?_)
  case ho3a =>
    simp only [List.getElem?_toArray, List.getElem?_cons_succ, List.getElem?_cons_zero]
    rfl
  go_simp
  refine hK _ _ (fun _ hS => HSK.out _ _ (((Below.refl _ _).drew).alloc (by have := HB.out.s; simpa using this) _) hS) ?_
  clear hK K9
  try simp only [Act.put, List.setIfInBounds_toArray, List.set_cons_zero, List.set_cons_succ]
  refine ks_one (i := 6) (o := ?o6a) ?ho6a (by kernel_rfl) (fun K9 hK => ?_)
  case ho6a =>
    simp only [List.getElem?_toArray, List.getElem?_cons_succ, List.getElem?_cons_zero]
    rfl
  refine step_spread rfl (.tmp 9) (.tmp 11) 22 rfl w.heap.size w.heap.size 21 i0 _ 1 4 Tryd.underlying22 hi0 hz0 hz1 hz2 rfl (by omega) (.slice (some ⟨w1.heap.size, 0, none⟩) 0 0) 0 [] rfl OWN0.out ra rs.length rc (rs.map (.int .i32)) rfl (by simp) SRC.out (fun u hu => by obtain ⟨x, -, rfl⟩ := List.mem_map.1 hu; rfl) (by unfold maxLen; omega) (by omega) SZ0.out ?_
  intro v6 w6 ho6 hg6 hat6
  simp only [Nat.zero_add, List.nil_append] at ho6
  obtain ⟨a6, c6, rfl⟩ := own_value ho6
  refine hK _ _ (fun _ hS => HSK.out _ _ (hg6.below_ (fun k hk => by simp [Value.ownBlock] at hk; have := HB.out.s; omega) (by have := HB.out.s; simp; omega)) hS) ?_
  clear hK K9
  try simp only [Act.put, List.setIfInBounds_toArray, List.set_cons_zero, List.set_cons_succ]
  refine ks_pure (i := 11) (oi := ?oi11a) (v := ?v11a) ?hi11a (by kernel_rfl) (by kernel_rfl) (by kernel_rfl) ?hQ11a ?hy11a ?rest11a
  case hi11a =>
    simp only [List.getElem?_toArray, List.getElem?_cons_succ, List.getElem?_cons_zero]
    rfl
  case hQ11a => exact fun _ _ _ h => h
  case hy11a =>
    refine yields_if (by rfl) (fun W hW => ?_)
    try dsimp only at hW
    go_simp
    first | done | with_reducible rfl
  simp only [Act.put, List.setIfInBounds_toArray, List.set_cons_zero, List.set_cons_succ]
  refine ks_one (i := 12) (o := ?o12a) ?ho12a (by kernel_rfl) (fun K9 hK => ?_)
  case ho12a =>
    simp only [List.getElem?_toArray, List.getElem?_cons_succ, List.getElem?_cons_zero]
    rfl
  go_simp
  refine hK _ _ (by simp) ?_
  clear hK K9
  try simp only [Act.put, List.setIfInBounds_toArray, List.set_cons_zero, List.set_cons_succ]
  refine ks_pure (i := 13) (oi := ?oi13a) (v := ?v13a) ?hi13a (by kernel_rfl) (by kernel_rfl) (by kernel_rfl) ?hQ13a ?hy13a ?rest13a
  case hi13a =>
    simp only [List.getElem?_toArray, List.getElem?_cons_succ, List.getElem?_cons_zero]
    rfl
  case hQ13a => exact fun _ _ _ h => h
  case hy13a =>
    refine yields_if (by rfl) (fun W hW => ?_)
    try dsimp only at hW
    go_simp
    first | done | with_reducible rfl
  simp only [Act.put, List.setIfInBounds_toArray, List.set_cons_zero, List.set_cons_succ]
  refine ks_done (by kernel_rfl) ?_ _
  try simp only [Exit.then]
  rename_i hK1
  refine hK1 _ _ ?_
  clear hK1
  clear c0 c1 c2 c3 HSK OWN0 SZ0 SRC
  refine name_world ?_
  intro w2 hw2
  have BA := HB.out.b.alloc (.cells #[] 21)
  have LA : Below w.heap.size w (w1.alloc (.cells #[] 21)).drew := (HB.out.l.alloc HB.out.l.size _).drew
  have T2 := Lib.hid (show Ti w w2 w6.heap.size d op rs mn mx subs (.slice none 0 0) (.slice a6 rs.length c6) [] [.int .i64 op, .slice ra rs.length rc, .int .i64 mn, .int .i64 mx, .bool false, .bool false, .slice sa subs.length sc] from by
    rw [hw2]
    have g6 : Below w.heap.size (w1.alloc (.cells #[] 21)).drew w6 := grown_below hg6 (fun k hk => by simp [Value.ownBlock] at hk; have := HB.out.s; omega) LA.size
    have b6 : Blk w6 w.heap.size 25 _ := BA.drew.grown hg6 (fun e => by simp [Value.ownBlock] at e; have := HB.out.s; omega)
    have l6 := LA.trans (g6.mono (Nat.le_refl _))
    refine ⟨Blk.new w6 _ _, World.ownsRow_nil _ _ _ _, own_below ho6 ((Below.refl _ _).alloc (Nat.le_refl _) _), b6.alloc _, l6.alloc l6.size _, ?_, by simp⟩
    exact b6.lt)
  clear hw2 BA LA ho6 hg6 hat6 HB
  generalize w6.heap.size = N at *
  have b4 := T2.out.box.cell 4
  have b5 := T2.out.box.cell 5
  have b6 := T2.out.box.cell 6
  simp only [List.getElem?_cons_zero, List.getElem?_cons_succ] at b4 b5 b6
  go_wp2_with fail
  clear b4 b5 b6
  go_loopw [5, 40] (fun _ v40 wr => ∃ (i c : Nat) (a : Option Addr) (qs : List Addr), i ≤ subs.length ∧ v40 = .int .i64 i ∧ Hid (qs.length = i ∧ Ti w wr N d op rs mn mx subs (.slice a i c) (.slice a6 rs.length c6) qs [.int .i64 op, .slice ra rs.length rc, .int .i64 mn, .int .i64 mx, .bool false, .bool false, .slice sa subs.length sc])) (fun _ v40 _ => subs.length - (intOf v40).toNat)
  case atStart => exact ⟨0, 0, none, [], by omega, rfl, Lib.hid ⟨rfl, T2.out⟩⟩
  case round =>
    obtain ⟨i, c, a, qs, hi, rfl, H1⟩ := hrel
    by_cases hlt : i < subs.length
    · obtain ⟨ad, v0, v1, v2, v3, v4, v5, v6, rfl, -, hR, e0, e1, e2, e3, e4, e5, e6⟩ := sub_at HS.out.1 HS.out.2.1 (HS.out.2.2.1.below H1.out.2.low) (fun x hx => (HS.out.2.2.2 x hx).below H1.out.2.low) i hlt
      obtain ⟨o1, m1, x1, r1, rn1, rc1, s1, sn1, sc1, hf⟩ := hR.form
      unfold rxc at hf
      simp only [List.cons.injEq, and_true] at hf
      obtain ⟨rfl, rfl, rfl, rfl, rfl, rfl, rfl⟩ := hf
      have HRS := Lib.hid (hR.more H1.out.2.low.size)
      clear hR
      go_upto_region 9 with fail
      clear e0 e1 e2 e3 e4 e5 e6
      have HK := Lib.hid (Blk.new wr 25 [.int .i64 o1, .slice r1 rn1 rc1, .int .i64 m1, .int .i64 x1, .bool false, .bool false, .slice s1 sn1 sc1])
      have H2 := Lib.hid (show Ti w (wr.alloc (.cells #[.int .i64 o1, .slice r1 rn1 rc1, .int .i64 m1, .int .i64 x1, .bool false, .bool false, .slice s1 sn1 sc1] 25)).drew N d op rs mn mx subs (.slice a i c) (.slice a6 rs.length c6) qs _ from (H1.out.2.alloc _).drew)
      have hqi : Hid (qs.length = i) := Lib.hid H1.out.1
      have HSZ := Lib.hid (show (wr.alloc (.cells #[.int .i64 o1, .slice r1 rn1 rc1, .int .i64 m1, .int .i64 x1, .bool false, .bool false, .slice s1 sn1 sc1] 25)).drew.heap.size = wr.heap.size + 1 from by simp)
      have HNL := Lib.hid (show N < wr.heap.size from H1.out.2.node.lt)
      have CT := Lib.hid (IH.out (wr.alloc (.cells #[.int .i64 o1, .slice r1 rn1 rc1, .int .i64 m1, .int .i64 x1, .bool false, .bool false, .slice s1 sn1 sc1] 25)).drew subs[i] [.int .i64 o1, .slice r1 rn1 rc1, .int .i64 m1, .int .i64 x1, .bool false, .bool false, .slice s1 sn1 sc1] ((HRS.out.below ((Below.refl _ _).alloc (Nat.le_refl _) _).drew).more (by rw [HSZ.out]; omega)) (HW.out _ (List.getElem_mem hlt)))
      have n2 : (wr.alloc (.cells #[.int .i64 o1, .slice r1 rn1 rc1, .int .i64 m1, .int .i64 x1, .bool false, .bool false, .slice s1 sn1 sc1] 25)).cell? ⟨N, 2, none⟩ = some (.slice a i c) := ((H1.out.2.alloc _).node.cell 2)
      have k0 := HK.out.cell 0
      have k1 := HK.out.cell 1
      have k2 := HK.out.cell 2
      have k3 := HK.out.cell 3
      have k4 := HK.out.cell 4
      have k5 := HK.out.cell 5
      have k6 := HK.out.cell 6
      simp only [List.getElem?_cons_zero, List.getElem?_cons_succ] at k0 k1 k2 k3 k4 k5 k6
      have HSK2 := Lib.hid (show ∀ W W' : World, Below (wr.heap.size + 1) W W' → (W.cell? ⟨N, 2, none⟩ = some (.slice a i c) ∧ W.cell? ⟨wr.heap.size, 0, none⟩ = some (.int .i64 o1) ∧ W.cell? ⟨wr.heap.size, 1, none⟩ = some (.slice r1 rn1 rc1) ∧ W.cell? ⟨wr.heap.size, 2, none⟩ = some (.int .i64 m1) ∧ W.cell? ⟨wr.heap.size, 3, none⟩ = some (.int .i64 x1) ∧ W.cell? ⟨wr.heap.size, 4, none⟩ = some (.bool false) ∧ W.cell? ⟨wr.heap.size, 5, none⟩ = some (.bool false) ∧ W.cell? ⟨wr.heap.size, 6, none⟩ = some (.slice s1 sn1 sc1)) →
        (W'.cell? ⟨N, 2, none⟩ = some (.slice a i c) ∧ W'.cell? ⟨wr.heap.size, 0, none⟩ = some (.int .i64 o1) ∧ W'.cell? ⟨wr.heap.size, 1, none⟩ = some (.slice r1 rn1 rc1) ∧ W'.cell? ⟨wr.heap.size, 2, none⟩ = some (.int .i64 m1) ∧ W'.cell? ⟨wr.heap.size, 3, none⟩ = some (.int .i64 x1) ∧ W'.cell? ⟨wr.heap.size, 4, none⟩ = some (.bool false) ∧ W'.cell? ⟨wr.heap.size, 5, none⟩ = some (.bool false) ∧ W'.cell? ⟨wr.heap.size, 6, none⟩ = some (.slice s1 sn1 sc1)) from fun W W' hb h =>
          ⟨(hb.cell (p := ⟨N, 2, none⟩) (Nat.lt_succ_of_lt HNL.out)).trans h.1, (hb.cell (p := ⟨wr.heap.size, 0, none⟩) (Nat.lt_succ_self _)).trans h.2.1, (hb.cell (p := ⟨wr.heap.size, 1, none⟩) (Nat.lt_succ_self _)).trans h.2.2.1, (hb.cell (p := ⟨wr.heap.size, 2, none⟩) (Nat.lt_succ_self _)).trans h.2.2.2.1, (hb.cell (p := ⟨wr.heap.size, 3, none⟩) (Nat.lt_succ_self _)).trans h.2.2.2.2.1,
            (hb.cell (p := ⟨wr.heap.size, 4, none⟩) (Nat.lt_succ_self _)).trans h.2.2.2.2.2.1, (hb.cell (p := ⟨wr.heap.size, 5, none⟩) (Nat.lt_succ_self _)).trans h.2.2.2.2.2.2.1, (hb.cell (p := ⟨wr.heap.size, 6, none⟩) (Nat.lt_succ_self _)).trans h.2.2.2.2.2.2.2⟩)
      refine wp_region_ks (fun W => W.cell? ⟨N, 2, none⟩ = some (.slice a i c) ∧ W.cell? ⟨wr.heap.size, 0, none⟩ = some (.int .i64 o1) ∧ W.cell? ⟨wr.heap.size, 1, none⟩ = some (.slice r1 rn1 rc1) ∧ W.cell? ⟨wr.heap.size, 2, none⟩ = some (.int .i64 m1) ∧ W.cell? ⟨wr.heap.size, 3, none⟩ = some (.int .i64 x1) ∧ W.cell? ⟨wr.heap.size, 4, none⟩ = some (.bool false) ∧ W.cell? ⟨wr.heap.size, 5, none⟩ = some (.bool false) ∧ W.cell? ⟨wr.heap.size, 6, none⟩ = some (.slice s1 sn1 sc1)) [8, 11] (by kernel_rfl) ?_
      simp only [List.size_toArray, List.length_cons, List.length_nil, Nat.reduceAdd]
      refine ks_pure (i := 0) (oi := ?oi0b) (v := ?v0b) ?hi0b (by kernel_rfl) (by kernel_rfl) (by kernel_rfl) ?hQ0b ?hy0b ?rest0b
      case hi0b =>
        simp only [List.getElem?_toArray, List.getElem?_cons_zero]
        rfl
      case hQ0b => exact fun _ _ _ h => h
      case hy0b =>
        refine yields_if (by rfl) (fun W hW => ?_)
        try dsimp only at hW
        go_simp
        first | done | with_reducible rfl
      simp only [Act.put, List.setIfInBounds_toArray, List.set_cons_zero, List.set_cons_succ]
      refine ks_pure (i := 1) (oi := ?oi1b) (v := ?v1b) ?hi1b (by kernel_rfl) (by kernel_rfl) (by kernel_rfl) ?hQ1b ?hy1b ?rest1b
      case hi1b =>
        simp only [List.getElem?_toArray, List.getElem?_cons_succ, List.getElem?_cons_zero]
        rfl
      case hQ1b => exact fun _ _ _ h => h
      case hy1b =>
        refine yields_if (by rfl) (fun W hW => ?_)
        try dsimp only at hW
        go_simp
        first | done | with_reducible rfl
      simp only [Act.put, List.setIfInBounds_toArray, List.set_cons_zero, List.set_cons_succ]
      refine ks_pure (i := 2) (oi := ?oi2b) (v := ?v2b) ?hi2b (by kernel_rfl) (by kernel_rfl) (by kernel_rfl) ?hQ2b ?hy2b ?rest2b
      case hi2b =>
        simp only [List.getElem?_toArray, List.getElem?_cons_succ, List.getElem?_cons_zero]
        rfl
      case hQ2b => exact fun _ _ _ h => h
      case hy2b =>
        refine yields_if (by rfl) (fun W hW => ?_)
        try dsimp only at hW
        go_simp
        first | done | with_reducible rfl
      simp only [Act.put, List.setIfInBounds_toArray, List.set_cons_zero, List.set_cons_succ]
      refine ks_pure (i := 3) (oi := ?oi3b) (v := ?v3b) ?hi3b (by kernel_rfl) (by kernel_rfl) (by kernel_rfl) ?hQ3b ?hy3b ?rest3b
      case hi3b =>
        simp only [List.getElem?_toArray, List.getElem?_cons_succ, List.getElem?_cons_zero]
        rfl
      case hQ3b => exact fun _ _ _ h => h
      case hy3b =>
        refine yields_if (by rfl) (fun W hW => ?_)
        try dsimp only at hW
        go_simp
        first | done | with_reducible rfl
      simp only [Act.put, List.setIfInBounds_toArray, List.set_cons_zero, List.set_cons_succ]
      refine ks_via [8] (i := 4) (oi := ?oi4b) (v := ?v4b) ?hi4b (by kernel_rfl) (by kernel_rfl) (by kernel_rfl) (by kernel_rfl) (by kernel_rfl) ?hQ4b ?hS4b ?hy4b ?rest4b
      case hi4b =>
        simp only [List.getElem?_toArray, List.getElem?_cons_succ, List.getElem?_cons_zero]
        rfl
      case hQ4b => exact fun _ _ _ h => h
      case hS4b => exact ⟨n2, k0, k1, k2, k3, k4, k5, k6⟩
      case hy4b =>
        refine yields_if (by rfl) (fun W hW => ?_)
        obtain ⟨hN, h0, h1, h2, h3, h4, h5, h6⟩ := hW
        go_simp
        first | done | with_reducible rfl
      simp only [Act.put, List.setIfInBounds_toArray, List.set_cons_zero, List.set_cons_succ]
      refine ks_via [6, 7, 8] (i := 5) (oi := ?oi5b) (v := ?v5b) ?hi5b (by kernel_rfl) (by kernel_rfl) (by kernel_rfl) (by kernel_rfl) (by kernel_rfl) ?hQ5b ?hS5b ?hy5b ?rest5b
      case hi5b =>
        simp only [List.getElem?_toArray, List.getElem?_cons_succ, List.getElem?_cons_zero]
        rfl
      case hQ5b => exact fun _ _ _ h => h
      case hS5b => exact ⟨n2, k0, k1, k2, k3, k4, k5, k6⟩
      case hy5b =>
        refine yields_if (by rfl) (fun W hW => ?_)
        obtain ⟨hN, h0, h1, h2, h3, h4, h5, h6⟩ := hW
        go_simp
        first | done | with_reducible rfl
      simp only [Act.put, List.setIfInBounds_toArray, List.set_cons_zero, List.set_cons_succ]
      refine ks_one (i := 6) (o := ?o6b) ?ho6b (by kernel_rfl) (fun K9 hK => ?_)
      case ho6b =>
        simp only [List.getElem?_toArray, List.getElem?_cons_succ, List.getElem?_cons_zero]
        rfl
      go_simp
      refine CT.out.mono ?_
      rintro e w5 ⟨q, rfl, hq5, hb5⟩
      refine hK _ _ (fun _ hS => HSK2.out _ _ (by rw [← HSZ.out]; exact hb5) hS) ?_
      clear hK K9
      try simp only [Act.put, List.setIfInBounds_toArray, List.set_cons_zero, List.set_cons_succ]
      refine ks_one (i := 7) (o := ?o7b) ?ho7b (by kernel_rfl) (fun K9 hK => ?_)
      case ho7b =>
        simp only [List.getElem?_toArray, List.getElem?_cons_succ, List.getElem?_cons_zero]
        rfl
      go_simp
      refine hK _ _ (fun _ hS => HSK2.out _ _ ((Below.refl _ _).alloc (by rw [← HSZ.out]; exact hb5.size) _) hS) ?_
      clear hK K9
      try simp only [Act.put, List.setIfInBounds_toArray, List.set_cons_zero, List.set_cons_succ]
      refine ks_one (i := 8) (o := ?o8b) ?ho8b (by kernel_rfl) (fun K9 hK => ?_)
      case ho8b =>
        simp only [List.getElem?_toArray, List.getElem?_cons_succ, List.getElem?_cons_zero]
        rfl
      refine step_append1 w5 #[.pointer (some q)] rfl (.tmp 48) (.tmp 51) 84 rfl w.heap.size 64 j0 _ 1 8 Tryd.underlying84 ji0 jz0 jz1 jz2 rfl (by omega) rfl (.slice a i c) i (pvs qs) rfl (by have := own_below H2.out.row hb5; rw [hqi.out] at this; exact this) w5.heap.size rfl rfl (by simp [Value.oneCell']) (by unfold maxLen; omega) (by omega) (Nat.le_trans H2.out.low.size hb5.size) ?_
      intro g7 c7 w7 ho7 hg7 hat7
      have H7 := Lib.hid (H2.out.next hqi.out hlt hq5 hb5 ho7 hg7 hat7)
      have f7 := H7.out.1
      have n7 := H7.out.2.1
      refine hK _ _ (by simp) ?_
      clear hK K9
      try simp only [Act.put, List.setIfInBounds_toArray, List.set_cons_zero, List.set_cons_succ]
      refine ks_pure (i := 9) (oi := ?oi9b) (v := ?v9b) ?hi9b (by kernel_rfl) (by kernel_rfl) (by kernel_rfl) ?hQ9b ?hy9b ?rest9b
      case hi9b =>
        simp only [List.getElem?_toArray, List.getElem?_cons_succ, List.getElem?_cons_zero]
        rfl
      case hQ9b => exact fun _ _ _ h => h
      case hy9b =>
        refine yields_if (by rfl) (fun W hW => ?_)
        try dsimp only at hW
        go_simp
        first | done | with_reducible rfl
      simp only [Act.put, List.setIfInBounds_toArray, List.set_cons_zero, List.set_cons_succ]
      refine ks_pure (i := 10) (oi := ?oi10b) (v := ?v10b) ?hi10b (by kernel_rfl) (by kernel_rfl) (by kernel_rfl) ?hQ10b ?hy10b ?rest10b
      case hi10b =>
        simp only [List.getElem?_toArray, List.getElem?_cons_succ, List.getElem?_cons_zero]
        rfl
      case hQ10b => exact fun _ _ _ h => h
      case hy10b =>
        refine yields_if (by rfl) (fun W hW => ?_)
        try dsimp only at hW
        go_simp
        first | done | with_reducible rfl
      simp only [Act.put, List.setIfInBounds_toArray, List.set_cons_zero, List.set_cons_succ]
      refine ks_one (i := 11) (o := ?o11b) ?ho11b (by kernel_rfl) (fun K9 hK => ?_)
      case ho11b =>
        simp only [List.getElem?_toArray, List.getElem?_cons_succ, List.getElem?_cons_zero]
        rfl
      go_simp
      refine hK _ _ (by simp) ?_
      clear hK K9
      try simp only [Act.put, List.setIfInBounds_toArray, List.set_cons_zero, List.set_cons_succ]
      refine ks_done (by kernel_rfl) ?_ _
      try simp only [Exit.then]
      rename_i hK1
      refine hK1 _ _ ?_
      clear hK1
      refine name_world ?_
      intro w8 hw8
      have H8 := Lib.hid (show (qs ++ [q]).length = i + 1 ∧ Ti w w8 N d op rs mn mx subs (.slice (some ⟨g7, 0, none⟩) (i + 1) c7) (.slice a6 rs.length c6) (qs ++ [q]) _ from ⟨by simp [hqi.out], by rw [hw8]; exact H7.out.2.2⟩)
      clear hw8 H7 f7 n7
      go_wp2
      go_roundw
      case rel => exact ⟨i + 1, c7, _, qs ++ [q], by omega, by go_num, H8⟩
      case measure => simp [intOf]; omega
    · obtain rfl : i = subs.length := by omega
      have HF := Lib.hid H1.out.2.done_
      go_wp2
      go_ret
      exact ⟨_, rfl, HF.out H1.out.1, H1.out.2.low⟩
/-- an expression as Go's package has it -/
theorem tree_ok : ∀ d, TreeOk d
  | 0 => fun _ _ _ h => h.elim
  | d + 1 => by
    have IH := tree_ok d
    intro w r cs h hw
    obtain ⟨op, rs, mn, mx, subs⟩ := r
    obtain ⟨ra, rc, sa, sc, ls, rfl, h2, h3, h4, h5, h6⟩ := h
    obtain ⟨g1, g2, g3, g4⟩ := wf_bd hw
    exact tree_step IH op rs mn mx subs ra rc sa sc ls w g1 g2 g3 g4 h2 h3 h4 h5 h6
end Go.Proofs.YtbkpgfccghombaaDoor.rx

/-! What is wrong, as a number. Conditions: as stated. -/
namespace Go.Proofs.YtbkpgfccghombaaDoor.rx
open Go.ChangeShapes Go.WideShapes Go.ChangeAt Go.RowKit
set_option linter.unusedVariables false

/-- an error of the package's: where it lies -/
def ErrAt (w : World) (g : Nat) (a : Addr) : Prop := w.cell? ⟨g, 0, none⟩ = some (.iface 208 (.pointer (some a))) ∧ ∃ c t, w.heap[a.block]? = some (.cells c t (0, 0))
/-- the package's errors: no two of them are one -/
structure Errs (w : World) (a0 a1 a2 a3 : Addr) : Prop where
  g0 : ErrAt w 0 a0
  g1 : ErrAt w 1 a1
  g2 : ErrAt w 2 a2
  g3 : ErrAt w 3 a3
  n0 : a3 ≠ a0
  n1 : a3 ≠ a1
  n2 : a3 ≠ a2
  big : 10 ≤ w.heap.size
theorem ErrAt.below {w w' : World} {g : Nat} {a : Addr} (h : ErrAt w g a) (hb : Below w.heap.size w w') (hg : g < w.heap.size) : ErrAt w' g a := by
  obtain ⟨h1, c, t, h2⟩ := h
  refine ⟨(hb.cell (p := ⟨g, 0, none⟩) hg).trans h1, c, t, ?_⟩
  have : a.block < w.heap.size := (Array.getElem?_eq_some_iff.1 h2).1
  exact (hb.block _ this).trans h2
theorem Errs.below {w w' : World} {a0 a1 a2 a3 : Addr} (h : Errs w a0 a1 a2 a3) (hb : Below w.heap.size w w') : Errs w' a0 a1 a2 a3 := by
  have := h.big
  exact ⟨h.g0.below hb (by omega), h.g1.below hb (by omega), h.g2.below hb (by omega), h.g3.below hb (by omega), h.n0, h.n1, h.n2, Nat.le_trans h.big hb.size⟩
theorem compE : (Tryd.prog.info? 208).map (·.comparable) = some true := by kernel_rfl
theorem sizeE : (Tryd.prog.info? 210).map (·.size) = some 1 := by kernel_rfl
set_option maxRecDepth 100000 in
theorem wrong_big {w : World} {a0 a1 a2 a3 : Addr} (h : Errs w a0 a1 a2 a3) : Calls Tryd.prog 33 #[.iface 208 (.pointer (some a3))] w fun e w' => e = .returned (.int .i64 4) ∧ w = w' := by
  obtain ⟨⟨g0, c0, t0, h0⟩, ⟨g1, c1, t1, h1⟩, ⟨g2, c2, t2, h2⟩, ⟨g3, c3, t3, h3⟩, n0, n1, n2, -⟩ := h
  obtain ⟨i, hi, hcmp⟩ := Option.map_eq_some_iff.1 compE
  obtain ⟨j, hj, hjs⟩ := Option.map_eq_some_iff.1 sizeE
  have b0 := run_eql_iface_ptr_other (P := Tryd.prog) w Tryd.underlying61 Tryd.underlying208 hi hcmp hj (by rw [hjs]; decide) n0 h3 h0
  have b1 := run_eql_iface_ptr_other (P := Tryd.prog) w Tryd.underlying61 Tryd.underlying208 hi hcmp hj (by rw [hjs]; decide) n1 h3 h1
  have b2 := run_eql_iface_ptr_other (P := Tryd.prog) w Tryd.underlying61 Tryd.underlying208 hi hcmp hj (by rw [hjs]; decide) n2 h3 h2
  have b3 := run_eql_iface_ptr_same (P := Tryd.prog) w a3 Tryd.underlying61 Tryd.underlying208 hi hcmp hj
  clear h0 h1 h2 h3 n0 n1 n2 hi hcmp hj hjs
  go_enter Tryd.func33, Tryd.ntmps33
  go_wp2
  go_ret
  exact ⟨rfl, rfl⟩
end Go.Proofs.YtbkpgfccghombaaDoor.rx

/-! The instructions of an expression, as the law has them. Conditions: as stated. -/
namespace Go.Proofs.YtbkpgfccghombaaDoor.rx
open Go.ChangeShapes Go.WideShapes Go.ChangeAt Go.RowKit
set_option linter.unusedVariables false

set_option maxRecDepth 100000 in
theorem zzi_any (b o : Nat) (v1 v2 v3 v4 v5 : Value) (v0 : Int) (w : World) (c0 : w.cell? ⟨b, o, none⟩ = some (.int .i64 v0)) (c1 : w.cell? ⟨b, o + 1, none⟩ = some v1) (c2 : w.cell? ⟨b, o + 2, none⟩ = some v2) (c3 : w.cell? ⟨b, o + 3, none⟩ = some v3) (c4 : w.cell? ⟨b, o + 4, none⟩ = some v4) (c5 : w.cell? ⟨b, o + 5, none⟩ = some v5) :
    Calls Tryd.prog 34 #[.pointer (some ⟨b, o, none⟩)] w fun e w' => e = .returned (.tuple #[.int .i64 v0, v1, v2, v3, v4, v5]) ∧ ∃ n, w' = w.drewN n := by
  have mixed : Tryd.prog.follows .mixedOrders = true := by kernel_rfl
  go_enter Tryd.func34, Tryd.ntmps34
  go_wp2
  go_quiet (fail)
  go_wp2
  go_returns
  exact ⟨rfl, _, rfl⟩

theorem insC_ints (x : Ins) : ∃ o t a b l h : Int, insC x = [.int .i64 o, .int .u64 t, .int .u64 a, .int .u64 b, .int .u8 l, .int .u8 h] := by
  cases x <;> exact ⟨_, _, _, _, _, _, rfl⟩
theorem flat_take (P : List Ins) (i : Nat) (h : i < P.length) : (P.take (i + 1)).flatMap insC = (P.take i).flatMap insC ++ insC P[i] := by
  rw [List.take_succ_eq_append_getElem h, List.flatMap_append]
  simp
theorem infoI : (Tryd.prog.info? 71).map (fun i => (i.zero, i.size, i.bytes)) = some (some (.agg #[.int .i64 0, .int .u64 0, .int .u64 0, .int .u64 0, .int .u8 0, .int .u8 0]), 6, 40) := by kernel_rfl
/-- what the law is told: the instructions, or that they are too many -/
def Told (w : World) (d lim : Nat) (r : Rx) (e : Ending) (w' : World) : Prop :=
  Below w.heap.size w w' ∧ ((fits lim d 0 r ∧ ∃ a c, e = .returned (.tuple #[.slice (some a) (comp d 0 r ++ [Ins.mt]).length c, .int .i64 0]) ∧ Sl w' w'.heap.size (some a) ((comp d 0 r ++ [Ins.mt]).flatMap insC)) ∨ (¬ fits lim d 0 r ∧ e = .returned (.tuple #[.slice none 0 0, .int .i64 4])))
set_option maxRecDepth 100000 in
set_option maxHeartbeats 3200000 in
theorem prog_any {d : Nat} (lim : Nat) (r : Rx) (cs : List Value) (w : World) {a0 a1 a2 a3 : Addr} (hR : RgC w w.heap.size d r cs) (hw : wf 3 d r) (hn : (comp d 0 r).length ≤ 900000000000) (hl : lim ≤ 1000000000000) (hNs : Nils w) (hE : Errs w a0 a1 a2 a3) :
    Calls Tryd.prog 13 #[.agg cs.toArray, .int .u64 lim] w (Told w d lim r) := by
  obtain ⟨i0, hi0, hz0, hz1, hz2⟩ := info_parts infoI
  have hB0 := hE.big
  obtain ⟨o1, m1, x1, r1, rn1, rc1, s1, sn1, sc1, rfl⟩ := hR.form
  unfold rxc at *
  have HN := Lib.hid hNs
  have HE := Lib.hid hE
  have HHN := Lib.hid hn
  have HBX := Lib.hid (Bx.new w [.int .i64 o1, .slice r1 rn1 rc1, .int .i64 m1, .int .i64 x1, .bool false, .bool false, .slice s1 sn1 sc1])
  have CT := Lib.hid (tree_ok d (w.alloc (.cells #[.int .i64 o1, .slice r1 rn1 rc1, .int .i64 m1, .int .i64 x1, .bool false, .bool false, .slice s1 sn1 sc1] 25)) r _ ((hR.below HBX.out.l).more (by simp)) hw)
  have HW := Lib.hid hw
  obtain ⟨P, hP⟩ : ∃ P, P = comp d 0 r ++ [Ins.mt] := ⟨_, rfl⟩
  have hPl : P.length ≤ 900000000001 := by rw [hP, List.length_append]; simp; omega
  have hPp : 0 < P.length := by rw [hP]; simp
  have HP := Lib.hid hP
  clear hR hNs hE hn hw hP
  go_enter Tryd.func13, Tryd.ntmps13
  go_upto_region 2 with (first | (go_at_call 32; refine CT.out.mono ?_; rintro e w2 ⟨p, rfl, hN2, hb2⟩; have HB2 := Lib.hid (HBX.out.l.trans (hb2.mono (by simp))); have CZ0 := (zzc_any (T := 208) (X := .pointer (some a3)) (m := 3) (by omega) lim r p w2 hN2 HW.out HHN.out hl (HN.out.below HB2.out hB0) (Nat.le_trans hB0 HB2.out.size) (HE.out.below HB2.out).g3.1); rw [← HP.out] at CZ0; have CZ := Lib.hid CZ0; clear CZ0 hN2 hb2 CT HBX) | (go_at_call 31; refine CZ.out.mono ?_; rintro e w3 ⟨hb3, ⟨hok, K, rfl, h3⟩ | ⟨hok, rfl⟩⟩) | fail)
  · have H3 := Lib.hid h3
    have HB3 := Lib.hid (HB2.out.trans (hb3.mono HB2.out.size))
    have HOK := Lib.hid hok
    clear h3 hok hb3 CZ HHN
    go_wp2_with fail
    go_loopw [4, 9, 10, 11, 12, 13, 14, 15, 29] (fun v4 _ _ _ _ _ _ _ v29 wr => ∃ (i c : Nat) (a : Option Addr), i ≤ P.length ∧ v29 = .int .i64 i ∧ v4 = .slice a i c ∧ Hid (wr.ownsRow w3.heap.size 71 6 (.slice a i c) i ((P.take i).flatMap insC) ∧ Below w3.heap.size w3 wr)) (fun _ _ _ _ _ _ _ _ v29 _ => P.length - (intOf v29).toNat)
    case atStart => exact ⟨0, 0, none, by omega, rfl, rfl, Lib.hid ⟨World.ownsRow_nil _ _ _ _, Below.refl _ _⟩⟩
    case round =>
      obtain ⟨i, c, a, hi, rfl, rfl, H1⟩ := hrel
      by_cases hlt : i < P.length
      · obtain ⟨ad, had, hadl, hc0⟩ := sl_of_own H3.out.row i (.pointer (some (adr K.G i))) (by simp [ptrs, List.getElem?_range hlt])
        have hc := (H1.out.2.cell (p := ad.add i) (by rw [block_add]; exact hadl)).trans hc0
        have hbl : (adr K.G i).block < w3.heap.size := (H3.out.O_lt _ (H3.out.adr_P hlt).o).2
        obtain ⟨o, t, x, y, lo, hh, hx⟩ := insC_ints P[i]
        have HI := Lib.hid (fun k (hk : k < 6) => (H1.out.2.cell (p := ⟨(adr K.G i).block, (adr K.G i).off + k, none⟩) hbl).trans (H3.out.ins hlt k hk).1)
        rw [hx] at HI
        have HT := Lib.hid (flat_take P i hlt)
        rw [hx] at HT
        obtain ⟨b, f, hbf⟩ : ∃ b f, adr K.G i = ⟨b, f, none⟩ := ⟨_, _, rfl⟩
        rw [hbf] at hc HI
        have CI := Lib.hid (zzi_any b f (.int .u64 t) (.int .u64 x) (.int .u64 y) (.int .u8 lo) (.int .u8 hh) o wr (HI.out 0 (by omega)) (HI.out 1 (by omega)) (HI.out 2 (by omega)) (HI.out 3 (by omega)) (HI.out 4 (by omega)) (HI.out 5 (by omega)))
        clear hc0 hbl hx hbf hadl
        rw [had] at *
        have ho2 := H1.out.1
        go_upto_region 9 with (first | (go_at_call 34; refine CI.out.mono ?_; rintro e w5 ⟨rfl, n5, rfl⟩) | (at_builtin; refine append1_at (wr.drewN n5) #[.int .i64 o, .int .u64 t, .int .u64 x, .int .u64 y, .int .u8 lo, .int .u8 hh] rfl (.tmp 42) (.tmp 50) 30 rfl w3.heap.size 71 i0 _ 6 40 Tryd.underlying30 hi0 hz0 hz1 hz2 rfl (by omega) rfl (.slice a i c) i ((P.take i).flatMap insC) rfl (own_below H1.out.1 (below_drewN (Below.refl _ _) n5)) wr.heap.size rfl rfl (by simp [Value.oneCell']) (by unfold maxLen; omega) (by omega) H1.out.2.size ?_; intro v7 w7 ho7 hg7 _ hat7; obtain ⟨a7, c7, rfl⟩ := own_value ho7; have H7 := Lib.hid (And.intro ho7 ((below_drewN H1.out.2 n5).grown hg7 H1.out.2.size (own_block_ge H1.out.1))); clear ho7 hg7 hat7 hc) | fail)
        go_wp2
        go_roundw
        case rel => exact ⟨i + 1, c7, a7, by omega, by go_num, rfl, Lib.hid ⟨by rw [HT.out]; exact H7.out.1, H7.out.2⟩⟩
        case measure => simp [intOf]; omega
      · obtain rfl : i = P.length := by omega
        have HO := Lib.hid H1.out.1
        rw [List.take_length] at HO
        obtain ⟨ad, rfl⟩ : ∃ ad, a = some ad := by
          have hl : 0 < (P.flatMap insC).length := by rw [flat_len insC 6 insC_len]; omega
          obtain ⟨ad, h, -⟩ := sl_of_own HO.out 0 _ (List.getElem?_eq_getElem hl)
          exact ⟨ad, h⟩
        have HBE := Lib.hid (HB3.out.trans (H1.out.2.mono HB3.out.size))
        go_wp2
        go_ret2
        refine ⟨HBE.out, .inl ⟨HOK.out, ad, c, ?_, ?_⟩⟩
        · rw [← HP.out]
          rfl
        · rw [← HP.out]
          exact sl_of_own HO.out
  · have HB3 := Lib.hid (HB2.out.trans (hb3.mono HB2.out.size))
    have HOK := Lib.hid hok
    have CW := Lib.hid (wrong_big (HE.out.below HB3.out))
    clear hok hb3 CZ HHN
    go_wp2_with (first | (go_at_call 33; refine CW.out.mono ?_; rintro e w5 ⟨rfl, rfl⟩) | fail)
    go_ret2
    exact ⟨HB3.out, .inr ⟨HOK.out, rfl⟩⟩
end Go.Proofs.YtbkpgfccghombaaDoor.rx
