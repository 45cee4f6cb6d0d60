/-
  Parts of the proof in one text: Ry, Rz, RCo, RLn, Wi, Wa. Conditions: as each states.
-/
import Derived.Test.YtbkpgfccghombaaDoorM05
import Derived.Test.YtbkpgfccghombaaDoorRepXZz
import Derived.Test.YtbkpgfccghombaaDoorM07
import Derived.Test.YtbkpgfccghombaaDoorM04
import Derived.Test.YtbkpgfccghombaaDoorM00
import Derived.Test.YtbkpgfccghombaaDoorM03
import Derived.Handy
/-! Regular expressions: the compiler: any rune. Conditions: as stated. -/
namespace Go.Proofs.YtbkpgfccghombaaDoor.rx
open Go.ChangeShapes Go.WideShapes Go.ChangeAt Go.RowKit
set_option linter.unusedVariables false


section
variable {w : World} {B n : Nat} {eT : Value} {T : TypeId} {X : Value} {K : Ks} {code : List Ins}
/-- a class in a block of its own -/
theorem cls_new (h : Cs w B eT K code code.length) (c6 : Value) (l : List Int) (x y : Int) (hl : l = [x, y]) (hk : okPairs l) (hn : (code ++ clsC code.length (pairs l)).length ≤ 999999999999) (f1 : Value) (hf : f1 = .int .u16 0) (R : List Value)
    (hR : R = [.int .u8 4, f1, .slice none 0 0, .pointer none, .slice (some ⟨w.heap.size, 5, none⟩) 2 2, .int .i32 x, .int .i32 y, .int .i64 0, .int .i64 0, .int .i64 0, .string ⟨#[]⟩]) :
    Calls Tryd.prog 56 #[.pointer (some ⟨K.C, 0, none⟩), .pointer (some ⟨w.heap.size, 0, none⟩)] (w.alloc (.cells R.toArray 88)) fun e w' => ∃ K', e = .returned .nilIface ∧ Cs w' B eT K' (code ++ clsC code.length (pairs l)) (code ++ clsC code.length (pairs l)).length ∧ Ev K w w' K' := by
  have b1 : Below w.heap.size w (w.alloc (.cells R.toArray 88)) := (Below.refl _ _).alloc (Nat.le_refl _) _
  have hb := Blk.new w 88 R
  have hO : ¬ K.O w.heap.size := fun e => by have := (h.O_lt _ e).2; omega
  subst hf hl
  have cl : ∀ j v, R[j]? = some v → (w.alloc (.cells R.toArray 88)).cell? ⟨w.heap.size, j, none⟩ = some v := fun j v e => (hb.cell j).trans e
  refine (c_cls (h.new b1) ⟨w.heap.size, 0, none⟩ (some ⟨w.heap.size, 5, none⟩) 2 [x, y] (cl 0 _ (by rw [hR]; rfl)) (cl 1 _ (by rw [hR]; rfl)) (by simp) ⟨by simp, hO, cl 4 _ (by rw [hR]; rfl)⟩ ?_ hk hn).mono ?_
  · intro j v hj
    refine ⟨_, rfl, by simp, hO, ?_⟩
    match j, hj with
    | 0, hj => exact cl 5 v (by rw [hR]; exact hj)
    | 1, hj => exact cl 6 v (by rw [hR]; exact hj)
    | j + 2, hj => simp [rvs] at hj
  · rintro e w' ⟨K', he, h1, h2⟩
    exact ⟨K', he, h1, (Es.of_below K b1).ev.trans h2⟩

set_option maxRecDepth 100000 in
set_option maxHeartbeats 3200000 in
theorem c_any (h : Cs w B eT K code code.length) (p : Addr) (c0 : w.cell? p = some (.int .u8 6)) (c1 : w.cell? ⟨p.block, p.off + 1, none⟩ = some (.int .u16 0)) (hn : (code ++ clsC code.length [(0, 1114111)]).length ≤ 999999999999) :
    Calls Tryd.prog 56 #[.pointer (some ⟨K.C, 0, none⟩), .pointer (some p)] w fun e w' => ∃ K', e = .returned .nilIface ∧ Cs w' B eT K' (code ++ clsC code.length [(0, 1114111)]) (code ++ clsC code.length [(0, 1114111)]).length ∧ Ev K w w' K' := by
  have CC := Lib.hid (cls_new h .nilIface [0, 1114111] 0 1114111 rfl ⟨by decide, by decide, by decide⟩ hn (.int .u16 (bits BinOp.and IntKind.u16 0 1)) (by kernel_rfl) _ rfl)
  have H := Lib.hid h
  clear h
  go_enter Tryd.func56, Tryd.ntmps56
  go_upto_region 40 with fail
  go_wp2_with (first | (go_at_call 56; refine CC.out.mono ?_; rintro e w1 ⟨K1, rfl, h1⟩; have H1 := Lib.hid h1; clear h1 CC) | fail)
  go_ret
  exact ⟨K1, rfl, H1.out⟩

theorem cls_new4 (h : Cs w B eT K code code.length) (hn : (code ++ clsC code.length [(0, 9), (11, 1114111)]).length ≤ 999999999999) (f1 : Value) (hf : f1 = .int .u16 0) :
    Calls Tryd.prog 56 #[.pointer (some ⟨K.C, 0, none⟩), .pointer (some ⟨w.heap.size + 1, 0, none⟩)] ((w.alloc (.cells #[.int .i32 0, .int .i32 9, .int .i32 11, .int .i32 1114111] 21)).alloc (.cells #[.int .u8 4, f1, .slice none 0 0, .pointer none, .slice (some ⟨w.heap.size, 0, none⟩) 4 4, .int .i32 0, .int .i32 0, .int .i64 0, .int .i64 0, .int .i64 0, .string ⟨#[]⟩] 88)) fun e w' => ∃ K', e = .returned .nilIface ∧ Cs w' B eT K' (code ++ clsC code.length [(0, 9), (11, 1114111)]) (code ++ clsC code.length [(0, 9), (11, 1114111)]).length ∧ Ev K w w' K' := by
  obtain ⟨w1, hw1⟩ : ∃ w1, w1 = w.alloc (.cells #[.int .i32 0, .int .i32 9, .int .i32 11, .int .i32 1114111] 21) := ⟨_, rfl⟩
  have b1 : Below w.heap.size w w1 := by rw [hw1]; exact (Below.refl _ _).alloc (Nat.le_refl _) _
  have hb1 : Blk w1 w.heap.size 21 [.int .i32 0, .int .i32 9, .int .i32 11, .int .i32 1114111] := by rw [hw1]; exact Blk.new w _ _
  have hs : w1.heap.size = w.heap.size + 1 := by rw [hw1]; simp
  rw [← hw1]
  obtain ⟨w2, hw2⟩ : ∃ w2, w2 = w1.alloc (.cells #[.int .u8 4, f1, .slice none 0 0, .pointer none, .slice (some ⟨w.heap.size, 0, none⟩) 4 4, .int .i32 0, .int .i32 0, .int .i64 0, .int .i64 0, .int .i64 0, .string ⟨#[]⟩] 88) := ⟨_, rfl⟩
  have b2 : Below w1.heap.size w1 w2 := by rw [hw2]; exact (Below.refl _ _).alloc (Nat.le_refl _) _
  have hb2 : Blk w2 w1.heap.size 88 [.int .u8 4, f1, .slice none 0 0, .pointer none, .slice (some ⟨w.heap.size, 0, none⟩) 4 4, .int .i32 0, .int .i32 0, .int .i64 0, .int .i64 0, .int .i64 0, .string ⟨#[]⟩] := by rw [hw2]; exact Blk.new w1 _ _
  have hs2 : w2.heap.size = w.heap.size + 2 := by rw [hw2]; simp; omega
  rw [← hw2]
  rw [hs] at hb2
  have hb3 : Blk w2 w.heap.size 21 [.int .i32 0, .int .i32 9, .int .i32 11, .int .i32 1114111] := (b2.block _ (by omega)).trans hb1
  have b12 : Below w.heap.size w w2 := b1.trans (b2.mono (by omega))
  have hO : ∀ g, w.heap.size ≤ g → ¬ K.O g := fun g hg e => by have := (h.O_lt _ e).2; omega
  subst hf
  refine (c_cls (h.new b12) ⟨w.heap.size + 1, 0, none⟩ (some ⟨w.heap.size, 0, none⟩) 4 [0, 9, 11, 1114111] (hb2.cell 0) (hb2.cell 1) (by simp) ⟨by simp; omega, hO _ (by simp), hb2.cell 4⟩ (SlO.of_blk hb3 (hO _ (Nat.le_refl _))) ⟨by decide, by decide, by decide⟩ hn).mono ?_
  rintro e w' ⟨K', he, h1, h2⟩
  exact ⟨K', he, h1, (Es.of_below K b12).ev.trans h2⟩

set_option maxRecDepth 100000 in
set_option maxHeartbeats 3200000 in
theorem c_anyNL (h : Cs w B eT K code code.length) (p : Addr) (c0 : w.cell? p = some (.int .u8 5)) (c1 : w.cell? ⟨p.block, p.off + 1, none⟩ = some (.int .u16 0)) (hn : (code ++ clsC code.length [(0, 9), (11, 1114111)]).length ≤ 999999999999) :
    Calls Tryd.prog 56 #[.pointer (some ⟨K.C, 0, none⟩), .pointer (some p)] w fun e w' => ∃ K', e = .returned .nilIface ∧ Cs w' B eT K' (code ++ clsC code.length [(0, 9), (11, 1114111)]) (code ++ clsC code.length [(0, 9), (11, 1114111)]).length ∧ Ev K w w' K' := by
  have CC := Lib.hid (cls_new4 h hn (.int .u16 (bits BinOp.and IntKind.u16 0 1)) (by kernel_rfl))
  have H := Lib.hid h
  clear h
  go_enter Tryd.func56, Tryd.ntmps56
  go_upto_region 43 with fail
  go_wp2_with (first | (go_at_call 56; refine CC.out.mono ?_; rintro e w1 ⟨K1, rfl, h1⟩; have H1 := Lib.hid h1; clear h1 CC) | fail)
  go_ret
  exact ⟨K1, rfl, H1.out⟩
end

end Go.Proofs.YtbkpgfccghombaaDoor.rx

/-! Regular expressions: the compiler: letters. Conditions: as stated. -/
namespace Go.Proofs.YtbkpgfccghombaaDoor.rx
open Go.ChangeShapes Go.WideShapes Go.ChangeAt Go.RowKit
set_option linter.unusedVariables false

section
variable {w : World} {B n : Nat} {eT : Value} {T : TypeId} {X : Value} {K : Ks} {code : List Ins}
theorem lit_step (rs : List Int) (i : Nat) (h : i < rs.length) : litC (rs.take (i + 1)) = litC (rs.take i) ++ rgs (sq (rs[i], rs[i])) := by
  rw [List.take_succ_eq_append_getElem h, sq_self]
  simp only [litC, List.flatMap_append, rgs, List.map_map, List.flatMap_cons, List.flatMap_nil, List.append_nil]
  rfl
theorem one_of {L : List Sq} {x : Int} (h : L.map (·.2.2) = sqs [(x, x)]) : ∃ x0, L = [x0] ∧ x0.2.2 = sq (x, x) := by
  match L, h with
  | [], h => simp [sqs] at h
  | [x0], h => exact ⟨x0, rfl, by simpa [sqs] using h⟩
  | _ :: _ :: _, h => simp [sqs] at h
theorem lit_len (rs : List Int) : (litC rs).length ≤ 4 * rs.length := by
  induction rs with
  | nil => simp [litC]
  | cons c r ih =>
    have e : litC (c :: r) = ((ub c).map fun x => Ins.rg x x) ++ litC r := by simp [litC]
    rw [e, List.length_append, List.length_map, List.length_cons]
    have := (ub_len c).2
    omega
set_option maxRecDepth 100000 in
set_option maxHeartbeats 6400000 in
theorem c_lit (h : Cs w B (.iface T X) K code code.length) (p : Addr) (ra : Option Addr) (rc : Nat) (l : List Int) (c0 : w.cell? p = some (.int .u8 3)) (c1 : w.cell? ⟨p.block, p.off + 1, none⟩ = some (.int .u16 0)) (h1 : CellO w K.O ⟨p.block, p.off + 1, none⟩ (.int .u16 0)) (hr : CellO w K.O ⟨p.block, p.off + 4, none⟩ (.slice ra l.length rc)) (hl : SlO w K.O ra (rvs l)) (hk : ∀ c ∈ l, isL c = true) (hl8 : l.length ≤ 1000000) (hn0 : (code ++ litC l).length ≤ 900000000000) (hlim : K.lim ≤ 1000000000000) :
    Calls Tryd.prog 56 #[.pointer (some ⟨K.C, 0, none⟩), .pointer (some p)] w (Done w B (.iface T X) K code (litC l) ((code.length + (litC l).length) * 40 ≤ K.lim)) := by
  have HN0 := Lib.hid hn0
  have hn : code.length ≤ 900000000000 := by simp only [List.length_append] at hn0; omega
  clear hn0
  have H := Lib.hid h
  have HR := Lib.hid hl
  have HF := Lib.hid h1
  have HK := Lib.hid hk
  have c4 := hr.2.2
  clear h hr hl h1 hk
  go_enter Tryd.func56, Tryd.ntmps56
  go_wp2_with fail
  clear c0 c1 c4
  go_loopw [4, 6, 7, 8, 10, 82] (fun _ _ _ _ _ v8 wr => ∃ (i : Nat) (K1 : Ks) (cd : List Ins), i ≤ l.length ∧ v8 = .int .i64 i ∧ cd.length ≤ 900000000000 + 4 * i ∧ Hid (cd = code ++ litC (l.take i) ∧ Cs wr B (.iface T X) K1 cd cd.length ∧ Ev K w wr K1)) (fun _ _ _ _ _ v8 _ => l.length - (intOf v8).toNat)
  case atStart => exact ⟨0, K, code, by omega, rfl, by omega, Lib.hid ⟨by simp [litC], H.out, Ev.refl K w⟩⟩
  case round =>
    obtain ⟨i, K1, cd, hi, rfl, hcl, H1⟩ := hrel
    have hc1 : K1.C = K.C := H1.out.2.2.c
    by_cases hlt : i < l.length
    · obtain ⟨-, -, -, c3, c4, c5, c6⟩ := H1.out.2.1.cells
      have f3 := H1.out.2.1.c.frozen 3
      have f4 := H1.out.2.1.c.frozen 4
      rw [hc1] at c3 c4 c5 c6 f3 f4
      have c1 := (HF.out.go H1.out.2.2.fr H1.out.2.2.o).2.2
      obtain ⟨ad, had, -, -, hx⟩ := (HR.out.ev H1.out.2.2) i (.int .i32 l[i]) (by rw [rvs, List.getElem?_map, List.getElem?_eq_getElem hlt]; rfl)
      subst had
      have hL := HK.out l[i] (List.getElem_mem hlt)
      have HST := Lib.hid (lit_step l i hlt)
      generalize l[i] = x at *
      have o0 : 0 ≤ x := by unfold isL at hL; simp at hL; omega
      have o1 : x ≤ 1114111 := by unfold isL at hL; simp at hL; omega
      have HLX := Lib.hid (pieces_self hL)
      have CP := Lib.hid (fun m => pre_any (rn := K1.rn) (kn := K1.kn) (H1.out.2.1.drewN m).pre x x o0 (Int.le_refl _) o1)
      clear hL
      go_upto_region 28 with fail
      clear c1 hx
      refine wp_region_ks (fun W => W.cell? ⟨K.C, 3, none⟩ = some (.slice K1.ra K1.rn K1.rc) ∧ W.cell? ⟨K.C, 4, none⟩ = some (.slice K1.ka K1.kn K1.kc) ∧ W.cell? ⟨K.C, 5, none⟩ = some (.slice (some ⟨K1.sb, 0, none⟩) 4 4) ∧ W.cell? ⟨K.C, 6, none⟩ = some (.slice (some ⟨K1.eb, 0, none⟩) 4 4)) [20, 27, 30] (by kernel_rfl) ?_
      simp only [List.size_toArray, List.length_cons, List.length_nil, Nat.reduceAdd]
      refine ks_pure (i := 0) (oi := ?oi0) (v := ?v0) ?hi0 (by kernel_rfl) (by kernel_rfl) (by kernel_rfl) ?hQ0 ?hy0 ?rest0
      case hi0 =>
        simp only [List.getElem?_toArray, List.getElem?_cons_zero]
        rfl
      case hQ0 => exact fun _ _ _ h => h
      case hy0 =>
        refine yields_if (by rfl) (fun W hW => ?_)
        try dsimp only at hW
        go_simp
        first | done | with_reducible rfl
      simp only [Act.put, List.setIfInBounds_toArray, List.set_cons_zero, List.set_cons_succ]
      refine ks_pure (i := 1) (oi := ?oi1) (v := ?v1) ?hi1 (by kernel_rfl) (by kernel_rfl) (by kernel_rfl) ?hQ1 ?hy1 ?rest1
      case hi1 =>
        simp only [List.getElem?_toArray, List.getElem?_cons_succ, List.getElem?_cons_zero]
        rfl
      case hQ1 => exact fun _ _ _ h => h
      case hy1 =>
        refine yields_if (by rfl) (fun W hW => ?_)
        try dsimp only at hW
        go_simp
        first | done | with_reducible rfl
      simp only [Act.put, List.setIfInBounds_toArray, List.set_cons_zero, List.set_cons_succ]
      refine ks_pure (i := 2) (oi := ?oi2) (v := ?v2) ?hi2 (by kernel_rfl) (by kernel_rfl) (by kernel_rfl) ?hQ2 ?hy2 ?rest2
      case hi2 =>
        simp only [List.getElem?_toArray, List.getElem?_cons_succ, List.getElem?_cons_zero]
        rfl
      case hQ2 => exact fun _ _ _ h => h
      case hy2 =>
        refine yields_if (by rfl) (fun W hW => ?_)
        try dsimp only at hW
        go_simp
        first | done | with_reducible rfl
      simp only [Act.put, List.setIfInBounds_toArray, List.set_cons_zero, List.set_cons_succ]
      refine ks_pure (i := 3) (oi := ?oi3) (v := ?v3) ?hi3 (by kernel_rfl) (by kernel_rfl) (by kernel_rfl) ?hQ3 ?hy3 ?rest3
      case hi3 =>
        simp only [List.getElem?_toArray, List.getElem?_cons_succ, List.getElem?_cons_zero]
        rfl
      case hQ3 => exact fun _ _ _ h => h
      case hy3 =>
        refine yields_if (by rfl) (fun W hW => ?_)
        try dsimp only at hW
        go_simp
        first | done | with_reducible rfl
      simp only [Act.put, List.setIfInBounds_toArray, List.set_cons_zero, List.set_cons_succ]
      refine ks_pure (i := 4) (oi := ?oi4) (v := ?v4) ?hi4 (by kernel_rfl) (by kernel_rfl) (by kernel_rfl) ?hQ4 ?hy4 ?rest4
      case hi4 =>
        simp only [List.getElem?_toArray, List.getElem?_cons_succ, List.getElem?_cons_zero]
        rfl
      case hQ4 => exact fun _ _ _ h => h
      case hy4 =>
        refine yields_if (by rfl) (fun W hW => ?_)
        try dsimp only at hW
        go_simp
        first | done | with_reducible rfl
      simp only [Act.put, List.setIfInBounds_toArray, List.set_cons_zero, List.set_cons_succ]
      refine ks_pure (i := 5) (oi := ?oi5) (v := ?v5) ?hi5 (by kernel_rfl) (by kernel_rfl) (by kernel_rfl) ?hQ5 ?hy5 ?rest5
      case hi5 =>
        simp only [List.getElem?_toArray, List.getElem?_cons_succ, List.getElem?_cons_zero]
        rfl
      case hQ5 => exact fun _ _ _ h => h
      case hy5 =>
        refine yields_if (by rfl) (fun W hW => ?_)
        try dsimp only at hW
        go_simp
        first | done | with_reducible rfl
      simp only [Act.put, List.setIfInBounds_toArray, List.set_cons_zero, List.set_cons_succ]
      refine ks_pure (i := 6) (oi := ?oi6) (v := ?v6) ?hi6 (by kernel_rfl) (by kernel_rfl) (by kernel_rfl) ?hQ6 ?hy6 ?rest6
      case hi6 =>
        simp only [List.getElem?_toArray, List.getElem?_cons_succ, List.getElem?_cons_zero]
        rfl
      case hQ6 => exact fun _ _ _ h => h
      case hy6 =>
        refine yields_if (by rfl) (fun W hW => ?_)
        try dsimp only at hW
        go_simp
        first | done | with_reducible rfl
      simp only [Act.put, List.setIfInBounds_toArray, List.set_cons_zero, List.set_cons_succ]
      refine ks_take (i := 7) (oi := ?oi7) (v := ?v7) ?hi7 (by kernel_rfl) (by kernel_rfl) (by kernel_rfl) (by kernel_rfl) ?hQ7 ?hS7 ?hy7 ?rest7
      case hi7 =>
        simp only [List.getElem?_toArray, List.getElem?_cons_succ, List.getElem?_cons_zero]
        rfl
      case hQ7 => exact fun _ _ _ h => h
      case hS7 => exact ⟨c3, c4, c5, c6⟩
      case hy7 =>
        refine yields_if (by rfl) (fun W hW => ?_)
        try dsimp only at hW
        go_simp
        first | done | with_reducible rfl
      simp only [Act.put, List.setIfInBounds_toArray, List.set_cons_zero, List.set_cons_succ]
      refine ks_pure (i := 8) (oi := ?oi8) (v := ?v8) ?hi8 (by kernel_rfl) (by kernel_rfl) (by kernel_rfl) ?hQ8 ?hy8 ?rest8
      case hi8 =>
        simp only [List.getElem?_toArray, List.getElem?_cons_succ, List.getElem?_cons_zero]
        rfl
      case hQ8 => exact fun _ _ _ h => h
      case hy8 =>
        refine yields_if (by rfl) (fun W hW => ?_)
        try dsimp only at hW
        go_simp
        first | done | with_reducible rfl
      simp only [Act.put, List.setIfInBounds_toArray, List.set_cons_zero, List.set_cons_succ]
      refine ks_pure (i := 9) (oi := ?oi9) (v := ?v9) ?hi9 (by kernel_rfl) (by kernel_rfl) (by kernel_rfl) ?hQ9 ?hy9 ?rest9
      case hi9 =>
        simp only [List.getElem?_toArray, List.getElem?_cons_succ, List.getElem?_cons_zero]
        rfl
      case hQ9 => exact fun _ _ _ h => h
      case hy9 =>
        refine yields_if (by rfl) (fun W hW => ?_)
        try dsimp only at hW
        go_simp
        first | done | with_reducible rfl
      simp only [Act.put, List.setIfInBounds_toArray, List.set_cons_zero, List.set_cons_succ]
      refine ks_pure (i := 10) (oi := ?oi10) (v := ?v10) ?hi10 (by kernel_rfl) (by kernel_rfl) (by kernel_rfl) ?hQ10 ?hy10 ?rest10
      case hi10 =>
        simp only [List.getElem?_toArray, List.getElem?_cons_succ, List.getElem?_cons_zero]
        rfl
      case hQ10 => exact fun _ _ _ h => h
      case hy10 =>
        refine yields_if (by rfl) (fun W hW => ?_)
        try dsimp only at hW
        go_simp
        first | done | with_reducible rfl
      simp only [Act.put, List.setIfInBounds_toArray, List.set_cons_zero, List.set_cons_succ]
      refine ks_take (i := 11) (oi := ?oi11) (v := ?v11) ?hi11 (by kernel_rfl) (by kernel_rfl) (by kernel_rfl) (by kernel_rfl) ?hQ11 ?hS11 ?hy11 ?rest11
      case hi11 =>
        simp only [List.getElem?_toArray, List.getElem?_cons_succ, List.getElem?_cons_zero]
        rfl
      case hQ11 => exact fun _ _ _ h => h
      case hS11 => exact ⟨c3, c4, c5, c6⟩
      case hy11 =>
        refine yields_if (by rfl) (fun W hW => ?_)
        try dsimp only at hW
        go_simp
        first | done | with_reducible rfl
      simp only [Act.put, List.setIfInBounds_toArray, List.set_cons_zero, List.set_cons_succ]
      refine ks_pure (i := 12) (oi := ?oi12) (v := ?v12) ?hi12 (by kernel_rfl) (by kernel_rfl) (by kernel_rfl) ?hQ12 ?hy12 ?rest12
      case hi12 =>
        simp only [List.getElem?_toArray, List.getElem?_cons_succ, List.getElem?_cons_zero]
        rfl
      case hQ12 => exact fun _ _ _ h => h
      case hy12 =>
        refine yields_if (by rfl) (fun W hW => ?_)
        try dsimp only at hW
        go_simp
        first | done | with_reducible rfl
      simp only [Act.put, List.setIfInBounds_toArray, List.set_cons_zero, List.set_cons_succ]
      refine ks_pure (i := 13) (oi := ?oi13) (v := ?v13) ?hi13 (by kernel_rfl) (by kernel_rfl) (by kernel_rfl) ?hQ13 ?hy13 ?rest13
      case hi13 =>
        simp only [List.getElem?_toArray, List.getElem?_cons_succ, List.getElem?_cons_zero]
        rfl
      case hQ13 => exact fun _ _ _ h => h
      case hy13 =>
        refine yields_if (by rfl) (fun W hW => ?_)
        try dsimp only at hW
        go_simp
        first | done | with_reducible rfl
      simp only [Act.put, List.setIfInBounds_toArray, List.set_cons_zero, List.set_cons_succ]
      refine ks_pure (i := 14) (oi := ?oi14) (v := ?v14) ?hi14 (by kernel_rfl) (by kernel_rfl) (by kernel_rfl) ?hQ14 ?hy14 ?rest14
      case hi14 =>
        simp only [List.getElem?_toArray, List.getElem?_cons_succ, List.getElem?_cons_zero]
        rfl
      case hQ14 => exact fun _ _ _ h => h
      case hy14 =>
        refine yields_if (by rfl) (fun W hW => ?_)
        try dsimp only at hW
        go_simp
        first | done | with_reducible rfl
      simp only [Act.put, List.setIfInBounds_toArray, List.set_cons_zero, List.set_cons_succ]
      refine ks_take (i := 15) (oi := ?oi15) (v := ?v15) ?hi15 (by kernel_rfl) (by kernel_rfl) (by kernel_rfl) (by kernel_rfl) ?hQ15 ?hS15 ?hy15 ?rest15
      case hi15 =>
        simp only [List.getElem?_toArray, List.getElem?_cons_succ, List.getElem?_cons_zero]
        rfl
      case hQ15 => exact fun _ _ _ h => h
      case hS15 => exact ⟨c3, c4, c5, c6⟩
      case hy15 =>
        refine yields_if (by rfl) (fun W hW => ?_)
        try dsimp only at hW
        go_simp
        first | done | with_reducible rfl
      simp only [Act.put, List.setIfInBounds_toArray, List.set_cons_zero, List.set_cons_succ]
      refine ks_pure (i := 16) (oi := ?oi16) (v := ?v16) ?hi16 (by kernel_rfl) (by kernel_rfl) (by kernel_rfl) ?hQ16 ?hy16 ?rest16
      case hi16 =>
        simp only [List.getElem?_toArray, List.getElem?_cons_succ, List.getElem?_cons_zero]
        rfl
      case hQ16 => exact fun _ _ _ h => h
      case hy16 =>
        refine yields_if (by rfl) (fun W hW => ?_)
        try dsimp only at hW
        go_simp
        first | done | with_reducible rfl
      simp only [Act.put, List.setIfInBounds_toArray, List.set_cons_zero, List.set_cons_succ]
      refine ks_pure (i := 17) (oi := ?oi17) (v := ?v17) ?hi17 (by kernel_rfl) (by kernel_rfl) (by kernel_rfl) ?hQ17 ?hy17 ?rest17
      case hi17 =>
        simp only [List.getElem?_toArray, List.getElem?_cons_succ, List.getElem?_cons_zero]
        rfl
      case hQ17 => exact fun _ _ _ h => h
      case hy17 =>
        refine yields_if (by rfl) (fun W hW => ?_)
        try dsimp only at hW
        go_simp
        first | done | with_reducible rfl
      simp only [Act.put, List.setIfInBounds_toArray, List.set_cons_zero, List.set_cons_succ]
      refine ks_pure (i := 18) (oi := ?oi18) (v := ?v18) ?hi18 (by kernel_rfl) (by kernel_rfl) (by kernel_rfl) ?hQ18 ?hy18 ?rest18
      case hi18 =>
        simp only [List.getElem?_toArray, List.getElem?_cons_succ, List.getElem?_cons_zero]
        rfl
      case hQ18 => exact fun _ _ _ h => h
      case hy18 =>
        refine yields_if (by rfl) (fun W hW => ?_)
        try dsimp only at hW
        go_simp
        first | done | with_reducible rfl
      simp only [Act.put, List.setIfInBounds_toArray, List.set_cons_zero, List.set_cons_succ]
      refine ks_take (i := 19) (oi := ?oi19) (v := ?v19) ?hi19 (by kernel_rfl) (by kernel_rfl) (by kernel_rfl) (by kernel_rfl) ?hQ19 ?hS19 ?hy19 ?rest19
      case hi19 =>
        simp only [List.getElem?_toArray, List.getElem?_cons_succ, List.getElem?_cons_zero]
        rfl
      case hQ19 => exact fun _ _ _ h => h
      case hS19 => exact ⟨c3, c4, c5, c6⟩
      case hy19 =>
        refine yields_if (by rfl) (fun W hW => ?_)
        try dsimp only at hW
        go_simp
        first | done | with_reducible rfl
      simp only [Act.put, List.setIfInBounds_toArray, List.set_cons_zero, List.set_cons_succ]
      refine ks_one (i := 20) (o := ?o20) ?ho20 (by kernel_rfl) (fun K' hK => ?_)
      case ho20 =>
        simp only [List.getElem?_toArray, List.getElem?_cons_succ, List.getElem?_cons_zero]
        rfl
      go_simp
      refine (CP.out _).mono ?_
      rintro e w1 ⟨rv, sk, L, rfl, hGot⟩
      obtain ⟨ra', rc', rfl⟩ := own_value hGot.orv
      obtain ⟨ka', kc', rfl⟩ := own_value hGot.osk
      have HGT := Lib.hid hGot
      clear hGot CP
      refine hK _ _ (by simp) ?_
      clear hK K'
      try simp only [Act.put, List.setIfInBounds_toArray, List.set_cons_zero, List.set_cons_succ]
      obtain ⟨g3, g4, k3, k4⟩ : w1.frozen? ⟨K.C, 3, none⟩ = false ∧ w1.frozen? ⟨K.C, 4, none⟩ = false ∧ w1.cell? ⟨K.C, 3, none⟩ = some (.slice K1.ra K1.rn K1.rc) ∧ w1.cell? ⟨K.C, 4, none⟩ = some (.slice K1.ka K1.kn K1.kc) := by
        have HD := H1.out.2.1.drewN 1
        have C1 := HGT.out.fr.blk HD.c (HD.blk_Q HD.c (by decide) (by decide) (by decide))
        rw [hc1] at C1
        exact ⟨C1.frozen 3, C1.frozen 4, C1.cell 3, C1.cell 4⟩
      clear c3 c4 c5 c6
      refine ks_pure (i := 21) (oi := ?oi21) (v := ?v21) ?hi21 (by kernel_rfl) (by kernel_rfl) (by kernel_rfl) ?hQ21 ?hy21 ?rest21
      case hi21 =>
        simp only [List.getElem?_toArray, List.getElem?_cons_succ, List.getElem?_cons_zero]
        rfl
      case hQ21 => exact fun _ _ _ h => h
      case hy21 =>
        refine yields_if (by rfl) (fun W hW => ?_)
        try dsimp only at hW
        go_simp
        first | done | with_reducible rfl
      simp only [Act.put, List.setIfInBounds_toArray, List.set_cons_zero, List.set_cons_succ]
      refine ks_pure (i := 22) (oi := ?oi22) (v := ?v22) ?hi22 (by kernel_rfl) (by kernel_rfl) (by kernel_rfl) ?hQ22 ?hy22 ?rest22
      case hi22 =>
        simp only [List.getElem?_toArray, List.getElem?_cons_succ, List.getElem?_cons_zero]
        rfl
      case hQ22 => exact fun _ _ _ h => h
      case hy22 =>
        refine yields_if (by rfl) (fun W hW => ?_)
        try dsimp only at hW
        go_simp
        first | done | with_reducible rfl
      simp only [Act.put, List.setIfInBounds_toArray, List.set_cons_zero, List.set_cons_succ]
      refine ks_pure (i := 23) (oi := ?oi23) (v := ?v23) ?hi23 (by kernel_rfl) (by kernel_rfl) (by kernel_rfl) ?hQ23 ?hy23 ?rest23
      case hi23 =>
        simp only [List.getElem?_toArray, List.getElem?_cons_succ, List.getElem?_cons_zero]
        rfl
      case hQ23 => exact fun _ _ _ h => h
      case hy23 =>
        refine yields_if (by rfl) (fun W hW => ?_)
        try dsimp only at hW
        go_simp
        first | done | with_reducible rfl
      simp only [Act.put, List.setIfInBounds_toArray, List.set_cons_zero, List.set_cons_succ]
      refine ks_pure (i := 24) (oi := ?oi24) (v := ?v24) ?hi24 (by kernel_rfl) (by kernel_rfl) (by kernel_rfl) ?hQ24 ?hy24 ?rest24
      case hi24 =>
        simp only [List.getElem?_toArray, List.getElem?_cons_succ, List.getElem?_cons_zero]
        rfl
      case hQ24 => exact fun _ _ _ h => h
      case hy24 =>
        refine yields_if (by rfl) (fun W hW => ?_)
        try dsimp only at hW
        go_simp
        first | done | with_reducible rfl
      simp only [Act.put, List.setIfInBounds_toArray, List.set_cons_zero, List.set_cons_succ]
      refine ks_pure (i := 25) (oi := ?oi25) (v := ?v25) ?hi25 (by kernel_rfl) (by kernel_rfl) (by kernel_rfl) ?hQ25 ?hy25 ?rest25
      case hi25 =>
        simp only [List.getElem?_toArray, List.getElem?_cons_succ, List.getElem?_cons_zero]
        rfl
      case hQ25 => exact fun _ _ _ h => h
      case hy25 =>
        refine yields_if (by rfl) (fun W hW => ?_)
        try dsimp only at hW
        go_simp
        first | done | with_reducible rfl
      simp only [Act.put, List.setIfInBounds_toArray, List.set_cons_zero, List.set_cons_succ]
      refine ks_pure (i := 26) (oi := ?oi26) (v := ?v26) ?hi26 (by kernel_rfl) (by kernel_rfl) (by kernel_rfl) ?hQ26 ?hy26 ?rest26
      case hi26 =>
        simp only [List.getElem?_toArray, List.getElem?_cons_succ, List.getElem?_cons_zero]
        rfl
      case hQ26 => exact fun _ _ _ h => h
      case hy26 =>
        refine yields_if (by rfl) (fun W hW => ?_)
        try dsimp only at hW
        go_simp
        first | done | with_reducible rfl
      simp only [Act.put, List.setIfInBounds_toArray, List.set_cons_zero, List.set_cons_succ]
      refine ks_one (i := 27) (o := ?o27) ?ho27 (by kernel_rfl) (fun K2 hK => ?_)
      case ho27 =>
        simp only [List.getElem?_toArray, List.getElem?_cons_succ, List.getElem?_cons_zero]
        rfl
      go_simp
      refine hK _ _ (by simp) ?_
      clear hK K2
      try simp only [Act.put, List.setIfInBounds_toArray, List.set_cons_zero, List.set_cons_succ]
      refine ks_pure (i := 28) (oi := ?oi28) (v := ?v28) ?hi28 (by kernel_rfl) (by kernel_rfl) (by kernel_rfl) ?hQ28 ?hy28 ?rest28
      case hi28 =>
        simp only [List.getElem?_toArray, List.getElem?_cons_succ, List.getElem?_cons_zero]
        rfl
      case hQ28 => exact fun _ _ _ h => h
      case hy28 =>
        refine yields_if (by rfl) (fun W hW => ?_)
        try dsimp only at hW
        go_simp
        first | done | with_reducible rfl
      simp only [Act.put, List.setIfInBounds_toArray, List.set_cons_zero, List.set_cons_succ]
      refine ks_pure (i := 29) (oi := ?oi29) (v := ?v29) ?hi29 (by kernel_rfl) (by kernel_rfl) (by kernel_rfl) ?hQ29 ?hy29 ?rest29
      case hi29 =>
        simp only [List.getElem?_toArray, List.getElem?_cons_succ, List.getElem?_cons_zero]
        rfl
      case hQ29 => exact fun _ _ _ h => h
      case hy29 =>
        refine yields_if (by rfl) (fun W hW => ?_)
        try dsimp only at hW
        go_simp
        first | done | with_reducible rfl
      simp only [Act.put, List.setIfInBounds_toArray, List.set_cons_zero, List.set_cons_succ]
      refine ks_one (i := 30) (o := ?o30) ?ho30 (by kernel_rfl) (fun K2 hK => ?_)
      case ho30 =>
        simp only [List.getElem?_toArray, List.getElem?_cons_succ, List.getElem?_cons_zero]
        rfl
      go_simp
      refine hK _ _ (by simp) ?_
      clear hK K2
      try simp only [Act.put, List.setIfInBounds_toArray, List.set_cons_zero, List.set_cons_succ]
      refine ks_pure (i := 31) (oi := ?oi31) (v := ?v31) ?hi31 (by kernel_rfl) (by kernel_rfl) (by kernel_rfl) ?hQ31 ?hy31 ?rest31
      case hi31 =>
        simp only [List.getElem?_toArray, List.getElem?_cons_succ, List.getElem?_cons_zero]
        rfl
      case hQ31 => exact fun _ _ _ h => h
      case hy31 =>
        refine yields_if (by rfl) (fun W hW => ?_)
        try dsimp only at hW
        go_simp
        first | done | with_reducible rfl
      simp only [Act.put, List.setIfInBounds_toArray, List.set_cons_zero, List.set_cons_succ]
      refine ks_done (by kernel_rfl) ?_ _
      simp only [Exit.then]
      rename_i hK1
      refine hK1 _ _ ?_
      clear hK1
      refine name_world ?_
      intro w2 hw2
      obtain ⟨K2, e2, c2, ev2, hn2, hs2, hq2⟩ := (H1.out.2.1.drewN 1).seqs HGT.out
      rw [hc1, ← hw2] at c2 ev2 hs2 hq2
      have HALL := HGT.out.all
      rw [HLX.out] at HALL
      obtain ⟨x0, hLe, hx0⟩ := one_of HALL
      have hq0 := hq2 x0 (by rw [hLe]; simp)
      have hs0 : SlO w2 K2.P K2.ra [seqv x0] := by rw [hLe] at hs2; exact hs2
      have hl4 := (HGT.out.len x0 (by rw [hLe]; simp)).2
      have hL1 : L.length = 1 := by rw [hLe]; rfl
      clear hLe
      obtain ⟨x1, xc, xs⟩ := x0
      simp only [seqv] at hs0 hl4 hx0 hq0
      obtain ⟨ad2, had2, -, -, hcell⟩ := hs0 0 _ rfl
      have e8 : ad2.add 0 = ad2 := by simp [Addr.add]
      rw [e8] at hcell
      have hc2 : K2.C = K.C := ev2.c.trans hc1
      have C2 := Lib.hid c2
      have E2 := Lib.hid ((H1.out.2.2.drewN 1).trans ev2)
      have S2 := Lib.hid hs2
      have Q2 := Lib.hid hq0
      obtain ⟨rfl, -, rfl⟩ : ra' = K2.ra ∧ True ∧ rc' = K2.rc := by injection e2 with e3 e4 e5; exact ⟨e3, trivial, e5⟩
      obtain ⟨-, -, -, c3, -⟩ := C2.out.cells
      rw [hc2, hn2, had2, hL1] at c3
      have HX := Lib.hid hx0
      have HAD := Lib.hid had2
      clear hL1 HGT HALL e2 c2 ev2 hn2 hs2 hq2 hq0 hs0 hw2 g3 g4 k3 k4 had2 hx0
      have U := utf_any (c := xc) C2.out xs Q2.out (by omega) (by omega)
      rw [hc2] at U
      have CU := Lib.hid U
      clear U
      go_wp2_with fail
      clear c3
      go_loopw [10, 160] (fun _ v8 wq => (v8 = .int .i64 0 ∧ wq = w2) ∨ (v8 = .int .i64 1 ∧ ∃ K5, Hid (Cs wq B (.iface T X) K5 (cd ++ rgs xs) (cd ++ rgs xs).length ∧ Ev K w wq K5))) (fun _ v8 _ => 1 - (intOf v8).toNat)
      case atStart => exact .inl ⟨rfl, rfl⟩
      case round =>
        rcases hrel with ⟨rfl, rfl⟩ | ⟨rfl, K5, H5⟩
        · go_wp2_with (first | (go_at_call 68; refine CU.out.mono ?_; rintro e w5 ⟨K5, rfl, h5, e5⟩; have H5 := Lib.hid (And.intro h5 (E2.out.trans e5.ev)); clear h5 e5 CU) | fail)
          go_roundw
          case rel => exact .inr ⟨by go_num, K5, H5⟩
          case measure => simp [intOf]
        · have HR5 : Hid (cd ++ rgs xs = code ++ litC (l.take (i + 1)) ∧ (cd ++ rgs xs).length ≤ 900000000000 + 4 * (i + 1)) := Lib.hid ⟨by rw [HST.out, HX.out, H1.out.1, List.append_assoc], by rw [List.length_append, rgs_len]; omega⟩
          go_wp2
          go_roundw
          case rel => exact ⟨i + 1, K5, cd ++ rgs xs, by omega, by go_num, HR5.out.2, Lib.hid ⟨HR5.out.1, H5.out⟩⟩
          case measure => simp [intOf]; omega
    · obtain rfl : i = l.length := by omega
      have CK := Lib.hid (show Calls Tryd.prog 75 #[.pointer (some ⟨K.C, 0, none⟩)] wr (Done w B (.iface T X) K code (litC l) ((code.length + (litC l).length) * 40 ≤ K.lim)) from by
        have h1 := H1.out.2.1
        have e9 : cd = code ++ litC l := by have := H1.out.1; rw [List.take_of_length_le (Nat.le_refl _)] at this; exact this
        rw [e9] at h1 hcl
        exact Done.size h1 H1.out.2.2 hlim HN0.out Iff.rfl (H1.out.2.2.below H.out))
      go_wp2_with (first | (go_at_call 75; refine CK.out.mono ?_; rintro e w9 h9; obtain ⟨r, rfl⟩ := h9.ret; have H9 := Lib.hid h9; clear h9 CK) | fail)
      go_ret
      exact H9.out
end

end Go.Proofs.YtbkpgfccghombaaDoor.rx

/-! Regular expressions: the compiler does what it should with right expressions of any number of levels. Conditions: as stated. -/
namespace Go.Proofs.YtbkpgfccghombaaDoor.rx
open Go.ChangeShapes Go.WideShapes Go.ChangeAt Go.RowKit
set_option linter.unusedVariables false

section
variable {B : Nat} {T : TypeId} {X : Value}
theorem done_of {w : World} {eT : Value} {K : Ks} {code out : List Ins} {ok : Prop} (hok : ok) {e : Ending} {w' : World} (h : ∃ K', e = .returned .nilIface ∧ Cs w' B eT K' (code ++ out) (code ++ out).length ∧ Ev K w w' K') : Done w B eT K code out ok e w' := .inl ⟨hok, h⟩
theorem comp_ok (m : Nat) (hm : m ≤ 1000000) : ∀ d, CompOk B (.iface T X) m d
  | 0 => fun _ _ _ _ _ _ _ hw => hw.elim
  | d + 1 => by
    have IH := comp_ok m hm d
    intro w K code r p h hN hw hn hl
    obtain ⟨op, rs, mn, mx, subs⟩ := r
    rcases hw with ⟨rfl, rfl, rfl⟩ | ⟨rfl, rfl, h1, h2, h3⟩ | ⟨h1, rfl⟩ | ⟨h1, rfl, h2, h3, h4⟩ | ⟨h1, rfl, h2, s, rfl, h3⟩
    · obtain ⟨ra, rc, sa, sc, s0, r0, r1, qs, hH, -⟩ := hN
      refine (c_empty h p hH.c0 hH.c1).mono ?_
      rintro e w' ⟨rfl, rfl⟩
      exact .inl ⟨by simp [fits], K, rfl, by simpa [comp] using h, Ev.refl K _⟩
    · obtain ⟨ra, rc, sa, sc, s0, r0, r1, qs, hH, -⟩ := hN
      have e1 : comp (d + 1) code.length (.nd 3 rs mn mx []) = litC rs := by simp [comp]
      have e2 : fits K.lim (d + 1) code.length (.nd 3 rs mn mx []) = ((code.length + (litC rs).length) * 40 ≤ K.lim) := by simp [fits]
      rw [e1] at hn ⊢
      rw [e2]
      exact c_lit h p ra rc rs hH.c0 hH.c1 ⟨hH.bl, hH.no, hH.c1⟩ ⟨hH.bl, hH.no, hH.c4⟩ hH.rs h3 (by omega) hn hl
    · obtain ⟨ra, rc, sa, sc, s0, r0, r1, qs, hH, -⟩ := hN
      have e1 : comp (d + 1) code.length (.nd op rs mn mx []) = clsC code.length (pairs (rngs op rs)) := by
        rcases h1 with ⟨rfl, -⟩ | ⟨rfl | rfl, -⟩ <;> simp [comp]
      have e2 : fits K.lim (d + 1) code.length (.nd op rs mn mx []) := by
        rcases h1 with ⟨rfl, -⟩ | ⟨rfl | rfl, -⟩ <;> simp [fits]
      rw [e1] at hn ⊢
      rcases h1 with ⟨rfl, h5, h6⟩ | ⟨rfl | rfl, h5⟩
      · exact (c_cls h p ra rc rs hH.c0 hH.c1 (by omega) ⟨hH.bl, hH.no, hH.c4⟩ hH.rs h6 (Nat.le_trans hn (by omega))).mono (fun _ _ g => done_of e2 g)
      · exact (c_anyNL h p hH.c0 hH.c1 (Nat.le_trans hn (by omega))).mono (fun _ _ g => done_of e2 g)
      · exact (c_any h p hH.c0 hH.c1 (Nat.le_trans hn (by omega))).mono (fun _ _ g => done_of e2 g)
    · rcases h1 with rfl | rfl
      · have e1 : comp (d + 1) code.length (.nd 18 [] mn mx subs) = catC (comp d) code.length subs := by simp [comp]
        have e2 : fits K.lim (d + 1) code.length (.nd 18 [] mn mx subs) = catF (comp d) (fits K.lim d) code.length subs := by simp [fits]
        rw [e1] at hn ⊢
        rw [e2]
        exact c_cat IH h p subs [] mn mx hN h4 (by omega) hn hl
      · have e1 : comp (d + 1) code.length (.nd 19 [] mn mx subs) = altE (comp d) code.length subs := by simp [comp]
        have e2 : fits K.lim (d + 1) code.length (.nd 19 [] mn mx subs) = (altF (comp d) (fits K.lim d) code.length subs ∧ (code.length + (altE (comp d) code.length subs).length) * 40 ≤ K.lim) := by simp [fits]
        rw [e1] at hn ⊢
        rw [e2]
        exact c_alt IH h p subs [] mn mx hN h4 (by omega) h2 hn hl
    · rcases h1 with rfl | rfl | rfl | rfl | rfl
      · have e1 : comp (d + 1) code.length (.nd 13 [] mn mx [s]) = comp d code.length s := by simp [comp]
        have e2 : fits K.lim (d + 1) code.length (.nd 13 [] mn mx [s]) = fits K.lim d code.length s := by simp [fits]
        rw [e1] at hn ⊢
        rw [e2]
        exact c_capt IH h p s [] mn mx hN h3 hn hl
      · have e1 : comp (d + 1) code.length (.nd 14 [] mn mx [s]) = starC (comp d) code.length s := by simp [comp]
        have e2 : fits K.lim (d + 1) code.length (.nd 14 [] mn mx [s]) = (fits K.lim d (code.length + 1) s ∧ (code.length + (starC (comp d) code.length s).length) * 40 ≤ K.lim) := by simp [fits]
        rw [e1] at hn ⊢
        rw [e2]
        obtain ⟨ra, rc, ad, sc, s0, r0, r1, q, hH, hq, g1, g2, hS⟩ := one_sub hN
        exact c_star IH h p s ad q sc hH.c0 hH.c1 ⟨hH.bl, hH.no, hH.c2⟩ ⟨g1, g2, hq⟩ hS h3 hn hl
      · have e1 : comp (d + 1) code.length (.nd 15 [] mn mx [s]) = plusC (comp d) code.length s := by simp [comp]
        have e2 : fits K.lim (d + 1) code.length (.nd 15 [] mn mx [s]) = (fits K.lim d code.length s ∧ (code.length + (plusC (comp d) code.length s).length) * 40 ≤ K.lim) := by simp [fits]
        rw [e1] at hn ⊢
        rw [e2]
        exact c_plus IH h p s [] mn mx hN h3 hn hl
      · have e1 : comp (d + 1) code.length (.nd 16 [] mn mx [s]) = questC (comp d) code.length s := by simp [comp]
        have e2 : fits K.lim (d + 1) code.length (.nd 16 [] mn mx [s]) = (fits K.lim d (code.length + 1) s ∧ (code.length + (questC (comp d) code.length s).length) * 40 ≤ K.lim) := by simp [fits]
        rw [e1] at hn ⊢
        rw [e2]
        exact c_quest IH h p s [] mn mx hN h3 hn hl
      · obtain ⟨g1, g2, g3⟩ := h2 rfl
        obtain ⟨mn, rfl⟩ : ∃ k : Nat, mn = k := ⟨mn.toNat, by omega⟩
        rcases g3 with rfl | ⟨g3, g4⟩
        · have e1 : comp (d + 1) code.length (.nd 17 [] mn (-1) [s]) = repC (comp d) code.length s mn (-1) := by simp [comp]
          have e2 : fits K.lim (d + 1) code.length (.nd 17 [] mn (-1) [s]) = (catF (comp d) (fits K.lim d) code.length (List.replicate mn s) ∧ fits K.lim d (code.length + (catC (comp d) code.length (List.replicate mn s)).length + 1) s ∧ (code.length + (repC (comp d) code.length s mn (-1)).length) * 40 ≤ K.lim) := by simp [fits]
          rw [e1] at hn ⊢
          rw [e2]
          exact c_repM IH h p s [] mn hN h3 (by omega) hn hl
        · obtain ⟨u, rfl⟩ : ∃ u : Nat, mx = ((mn + u : Nat) : Int) := ⟨(mx - mn).toNat, by omega⟩
          have e1 : comp (d + 1) code.length (.nd 17 [] mn ((mn + u : Nat) : Int) [s]) = repC (comp d) code.length s mn ((mn + u : Nat) : Int) := by simp [comp]
          have e3 : ¬ (((mn + u : Nat) : Int) < 0) := by omega
          have e4 : (((mn + u : Nat) : Int) - (mn : Int)).toNat = u := by omega
          have e2 : fits K.lim (d + 1) code.length (.nd 17 [] mn ((mn + u : Nat) : Int) [s]) = (catF (comp d) (fits K.lim d) code.length (List.replicate mn s) ∧ optF (comp d) (fits K.lim d) (code.length + (catC (comp d) code.length (List.replicate mn s)).length) s u ∧ (code.length + (repC (comp d) code.length s mn ((mn + u : Nat) : Int)).length) * 40 ≤ K.lim) := by
            unfold fits
            simp only [e4, Int.toNat_natCast]
            rw [if_neg e3]
            simp
          rw [e1] at hn ⊢
          rw [e2]
          exact c_repX IH h p s [] mn u hN h3 (by omega) (by omega) hn hl
end

end Go.Proofs.YtbkpgfccghombaaDoor.rx

/-! Regular expressions: how long the code is; a small one keeps its limit. Plain. Conditions: none. -/
namespace Go.Proofs.YtbkpgfccghombaaDoor.rx
set_option linter.unusedVariables false

section
variable {α : Type} {f : Nat → α → List Ins} {F : Nat → α → Prop} {x : Nat}
theorem catC_le : ∀ (l : List α) (b : Nat), (∀ s ∈ l, ∀ b, (f b s).length ≤ x) → (catC f b l).length ≤ l.length * x
  | [], _, _ => by simp [catC]
  | s :: r, b, h => by
    have h1 := h s (by simp) b
    have h2 := catC_le r (b + (f b s).length) (fun t ht => h t (by simp [ht]))
    simp only [catC, List.length_append, List.length_cons]
    rw [Nat.succ_mul]
    omega
theorem altC_le (e : Nat) : ∀ (l : List α) (b : Nat), (∀ s ∈ l, ∀ b, (f b s).length ≤ x) → (altC f e b l).length ≤ l.length * (x + 2)
  | [], _, _ => by simp [altC]
  | [s], b, h => by
    have h1 := h s (by simp) b
    simp only [altC, List.length_cons, List.length_nil]
    omega
  | s :: t :: r, b, h => by
    have h1 := h s (by simp) (b + 1)
    have h2 := altC_le e (t :: r) (b + 2 + (f (b + 1) s).length) (fun t ht => h t (by simp at ht; simp; exact .inr ht))
    have h3 : (altC f e b (s :: t :: r)).length = 2 + (f (b + 1) s).length + (altC f e (b + 2 + (f (b + 1) s).length) (t :: r)).length := by
      simp only [altC, List.length_cons, List.length_append]; omega
    rw [h3]
    have h4 : (s :: t :: r).length * (x + 2) = (t :: r).length * (x + 2) + (x + 2) := Nat.succ_mul _ _
    omega
theorem optC_le (e : Nat) (s : α) : ∀ (n b : Nat), (∀ b, (f b s).length ≤ x) → (optC f e s b n).length ≤ n * (x + 1)
  | 0, _, _ => by simp [optC]
  | n + 1, b, h => by
    have h1 := h (b + 1)
    have h2 := optC_le e s n (b + 1 + (f (b + 1) s).length) h
    simp only [optC, List.length_append, List.length_cons]
    rw [Nat.succ_mul]
    omega
end

/-- a bound on the code of an expression whose classes have at most L instructions -/
def bnd (L : Nat) : Nat → Nat
  | 0 => L
  | d + 1 => 5 * bnd L d + 12
theorem bnd_ge (L : Nat) : ∀ d, L ≤ bnd L d
  | 0 => Nat.le_refl _
  | d + 1 => by have := bnd_ge L d; unfold bnd; omega
/-- all classes of an expression -/
def allCls (P : List Int → Prop) : Nat → Rx → Prop
  | 0, _ => True
  | d + 1, .nd op rs mn mx subs => (op = 4 ∨ op = 5 ∨ op = 6 → P (rngs op rs)) ∧ ∀ s ∈ subs, allCls P d s

theorem mul_le3 {n x : Nat} (h : n ≤ 3) : n * x ≤ 3 * x := Nat.mul_le_mul_right x h
theorem mul_le5 {n x : Nat} (h : n ≤ 5) : n * x ≤ 5 * x := Nat.mul_le_mul_right x h
theorem litC_len (rs : List Int) : (litC rs).length = (rs.flatMap ub).length := by
  unfold litC
  rw [List.length_flatMap, List.length_flatMap]
  simp
theorem lit_le (rs : List Int) : (rs.flatMap ub).length ≤ 4 * rs.length := by
  induction rs with
  | nil => simp
  | cons c r ih =>
    have := (ub_len c).2
    simp only [List.flatMap_cons, List.length_append, List.length_cons]
    omega

theorem comp_len {L : Nat} (hL : 16 ≤ L) {P : List Int → Prop} (hP : ∀ l, P l → ∀ b, (clsC b (pairs l)).length ≤ L) : ∀ (d : Nat) (r : Rx) (b : Nat), wf 3 d r → allCls P d r → (comp d b r).length ≤ bnd L d
  | 0, _, _, h, _ => h.elim
  | d + 1, .nd op rs mn mx subs, b, h, ha => by
    have hg := bnd_ge L d
    have ih : ∀ s ∈ subs, wf 3 d s → ∀ b, (comp d b s).length ≤ bnd L d := fun s hs h b => comp_len hL hP d s b h (ha.2 s hs)
    have e0 : bnd L (d + 1) = 5 * bnd L d + 12 := rfl
    rw [e0]
    rcases h with ⟨rfl, rfl, rfl⟩ | ⟨rfl, rfl, h1, h2, h3⟩ | ⟨h1, rfl⟩ | ⟨h1, rfl, h2, h3, h4⟩ | ⟨h1, rfl, h2, s, rfl, h3⟩
    · simp [comp]
    · have e1 : comp (d + 1) b (.nd 3 rs mn mx []) = litC rs := by simp [comp]
      have := lit_le rs
      rw [e1, litC_len]
      omega
    · have e1 : comp (d + 1) b (.nd op rs mn mx []) = clsC b (pairs (rngs op rs)) := by
        rcases h1 with ⟨rfl, -⟩ | ⟨rfl | rfl, -⟩ <;> simp [comp]
      have := hP _ (ha.1 (by rcases h1 with ⟨rfl, -⟩ | ⟨rfl | rfl, -⟩ <;> simp)) b
      rw [e1]
      omega
    · rcases h1 with rfl | rfl
      · have e1 : comp (d + 1) b (.nd 18 [] mn mx subs) = catC (comp d) b subs := by simp [comp]
        have := catC_le (f := comp d) subs b (fun s hs b => ih s hs (h4 s hs) b)
        have := mul_le3 (x := bnd L d) h3
        rw [e1]
        omega
      · have e1 : comp (d + 1) b (.nd 19 [] mn mx subs) = altE (comp d) b subs := by simp [comp]
        have := altC_le (f := comp d) 0 subs b (fun s hs b => ih s hs (h4 s hs) b)
        have := mul_le3 (x := bnd L d + 2) h3
        rw [e1, altE_len]
        omega
    · have ih := ih s (by simp) h3
      rcases h1 with rfl | rfl | rfl | rfl | rfl
      · have e1 : comp (d + 1) b (.nd 13 [] mn mx [s]) = comp d b s := by simp [comp]
        have := ih b
        rw [e1]
        omega
      · have e1 : comp (d + 1) b (.nd 14 [] mn mx [s]) = starC (comp d) b s := by simp [comp]
        have := ih (b + 1)
        rw [e1]
        simp only [starC, List.length_append, List.length_cons, List.length_nil]
        omega
      · have e1 : comp (d + 1) b (.nd 15 [] mn mx [s]) = plusC (comp d) b s := by simp [comp]
        have := ih b
        rw [e1]
        simp only [plusC, List.length_append, List.length_cons, List.length_nil]
        omega
      · have e1 : comp (d + 1) b (.nd 16 [] mn mx [s]) = questC (comp d) b s := by simp [comp]
        have := ih (b + 1)
        rw [e1]
        simp only [questC, List.length_cons]
        omega
      · have e1 : comp (d + 1) b (.nd 17 [] mn mx [s]) = repC (comp d) b s mn mx := by simp [comp]
        obtain ⟨g1, g2, g3⟩ := h2 rfl
        have h5 := catC_le (f := comp d) (List.replicate mn.toNat s) b (fun t ht b => by rw [(List.mem_replicate.1 ht).2]; exact ih b)
        rw [List.length_replicate] at h5
        rw [e1]
        unfold repC
        rw [List.length_append]
        rcases g3 with rfl | ⟨g3, g4⟩
        · rw [if_pos (by decide)]
          have h6 := ih (b + (catC (comp d) b (List.replicate mn.toNat s)).length + 1)
          have := mul_le3 (n := mn.toNat) (x := bnd L d) (by omega)
          simp only [starC, List.length_append, List.length_cons, List.length_nil]
          omega
        · rw [if_neg (by omega), optE_len]
          have h6 := optC_le (f := comp d) 0 s (mx - mn).toNat (b + (catC (comp d) b (List.replicate mn.toNat s)).length) ih
          have h7 : mn.toNat * bnd L d + (mx - mn).toNat * (bnd L d + 1) ≤ 5 * bnd L d + 5 := by
            have : mn.toNat * bnd L d ≤ mn.toNat * (bnd L d + 1) := Nat.mul_le_mul_left _ (by omega)
            have h8 : mn.toNat * (bnd L d + 1) + (mx - mn).toNat * (bnd L d + 1) = (mn.toNat + (mx - mn).toNat) * (bnd L d + 1) := (Nat.add_mul _ _ _).symm
            have h9 := mul_le5 (n := mn.toNat + (mx - mn).toNat) (x := bnd L d + 1) (by omega)
            omega
          omega

/-! classes: any, and small ones -/
theorem pw_len : ∀ (l : List (Int × Int)) (a z : Int), (∀ p ∈ l, a ≤ p.1 ∧ p.1 ≤ p.2 ∧ p.2 ≤ z) → l.Pairwise (fun p q => p.2 < q.1) → a ≤ z + 1 → (l.length : Int) ≤ z - a + 1
  | [], a, z, _, _, h => by simp; omega
  | p :: r, a, z, h, hp, _ => by
    have h1 := h p (by simp)
    rw [List.pairwise_cons] at hp
    have := pw_len r (p.2 + 1) z (fun q hq => by have := hp.1 q hq; have := h q (by simp [hq]); omega) hp.2 (by omega)
    simp only [List.length_cons]
    omega
theorem pieces_len {a z : Int} (h0 : 0 ≤ a) (h : a ≤ z) (hz : z ≤ 1114111) : (pieces a z).length ≤ 1114112 := by
  have := pw_len (pieces a z) a z (fun p hp => by have := pieces_in a z p hp; exact ⟨this.1, this.2.2.le, this.2.1⟩) (pieces_rise a z) (by omega)
  omega
theorem sq_le (p : Int × Int) : (sq p).length ≤ 4 := by
  unfold sq
  split
  · simp
  · rw [List.length_zip]
    have := (ub_len p.1).2
    omega
theorem rangeC_le (b : Nat) (p : Int × Int) (h : p.1 ≤ p.2 ∧ p.2 ≤ 1114111 ∧ isL p.1 = true) : (rangeC b p).length ≤ 6684672 := by
  have h0 := (of_decide_eq_true h.2.2).1
  have h1 := pieces_len h0 h.1 h.2.1
  have h2 := altC_le (f := pieceC) (x := 4) 0 (pieces p.1 p.2) b (fun q _ b => by simp only [pieceC, List.length_map]; exact sq_le q)
  unfold rangeC
  rw [altE_len]
  omega
theorem altC_le2 {α : Type} {f : Nat → α → List Ins} {x : Nat} (e : Nat) (l : List α) (b : Nat) (h : ∀ s ∈ l, ∀ b, (f b s).length ≤ x) : (altC f e b l).length ≤ l.length * (x + 2) := altC_le e l b h
def okCls (l : List Int) : Prop := okPairs l ∧ l.length ≤ 8
theorem cls_le (l : List Int) (h : okCls l) (b : Nat) : (clsC b (pairs l)).length ≤ 26738696 := by
  have h1 := altC_le (f := rangeC) (x := 6684672) 0 (pairs l) b (fun q hq b => rangeC_le b q (h.1.2.2 q hq))
  have h2 := h.1.2.1
  have h3 := h.2
  have h4 : (pairs l).length * (6684672 + 2) ≤ 4 * (6684672 + 2) := Nat.mul_le_mul_right _ (by omega)
  unfold clsC
  rw [altE_len]
  omega
theorem wf_cls : ∀ (d : Nat) (r : Rx), wf 3 d r → allCls okCls d r
  | 0, _, h => trivial
  | d + 1, .nd op rs mn mx subs, h => by
    rcases h with ⟨rfl, rfl, rfl⟩ | ⟨rfl, rfl, h1, h2, h3⟩ | ⟨h1, rfl⟩ | ⟨h1, rfl, h2, h3, h4⟩ | ⟨h1, rfl, h2, s, rfl, h3⟩
    · exact ⟨by omega, by simp⟩
    · exact ⟨by omega, by simp⟩
    · refine ⟨fun _ => ?_, by simp⟩
      rcases h1 with ⟨rfl, h5, h6⟩ | ⟨h1, rfl⟩
      · exact ⟨h6, h5⟩
      · refine ⟨rngs_ok (.inr h1), ?_⟩
        rcases h1 with rfl | rfl <;> simp [rngs]
    · exact ⟨by omega, fun s hs => wf_cls d s (h4 s hs)⟩
    · exact ⟨by omega, fun t ht => by simp at ht; subst ht; exact wf_cls d t h3⟩
theorem comp_le (r : Rx) (b : Nat) (h : wf 3 5 r) : (comp 5 b r).length ≤ 83558434372 := by
  have := comp_len (L := 26738696) (by omega) cls_le 5 r b h (wf_cls 5 r h)
  have e : bnd 26738696 5 = 83558434372 := by decide
  omega

/-- about how many ranges of bytes an expression is made of -/
def plcR (ps : List (Int × Int)) : Nat := (ps.map fun p => if 128 ≤ p.2 then 31 else 1).sum
def plc : Nat → Rx → Nat
  | 0, _ => 0
  | d + 1, .nd op rs mn mx subs =>
    if op = 2 then 0 else if op = 3 then (rs.flatMap ub).length else if op = 4 ∨ op = 5 ∨ op = 6 then plcR (pairs (rngs op rs))
    else if op = 17 then (subs.map (plc d)).sum * (max mn mx + 1).toNat else if op = 15 then (subs.map (plc d)).sum * 2 else (subs.map (plc d)).sum
def smCls (l : List Int) : Prop := (pairs l).length ≤ 5 ∧ ∀ p ∈ pairs l, 0 ≤ p.1 ∧ p.1 ≤ p.2 ∧ p.2 ≤ 127
theorem plcR_ge (ps : List (Int × Int)) : ps.length ≤ plcR ps := by
  induction ps with
  | nil => simp [plcR]
  | cons p r ih =>
    unfold plcR at ih ⊢
    simp only [List.map_cons, List.sum_cons, List.length_cons]
    split <;> omega
theorem plcR_small (ps : List (Int × Int)) (h : plcR ps ≤ 5) : ∀ p ∈ ps, p.2 ≤ 127 := by
  induction ps with
  | nil => simp
  | cons q r ih =>
    unfold plcR at ih h
    simp only [List.map_cons, List.sum_cons] at h
    intro p hp
    rcases List.mem_cons.1 hp with rfl | hp
    · by_cases c : 128 ≤ p.2
      · rw [if_pos c] at h; omega
      · omega
    · exact ih (by omega) p hp
theorem pieces_small {a z : Int} (h0 : 0 ≤ a) (h : a ≤ z) (hz : z ≤ 127) : pieces a z = [(a, z)] :=
  pieces_one h0 h (by omega) (by unfold cutAt; rw [if_neg (by omega), if_neg (by omega), if_neg (by omega), if_pos hz])
theorem sm_le (l : List Int) (h : smCls l) (b : Nat) : (clsC b (pairs l)).length ≤ 16 := by
  have h1 := altC_le (f := rangeC) (x := 1) 0 (pairs l) b (fun q hq b => by
    obtain ⟨g1, g2, g3⟩ := h.2 q hq
    unfold rangeC
    rw [pieces_small g1 g2 g3]
    simp [altE, altC, pieceC, sq, g3])
  have h3 := h.1
  unfold clsC
  rw [altE_len]
  omega
theorem sum_ge {α : Type} (g : α → Nat) : ∀ (l : List α) (s : α), s ∈ l → g s ≤ (l.map g).sum
  | t :: r, s, h => by
    simp only [List.map_cons, List.sum_cons]
    rcases List.mem_cons.1 h with rfl | h
    · omega
    · have := sum_ge g r s h; omega
theorem plc_small : ∀ (d : Nat) (r : Rx), wf 3 d r → plc d r ≤ 5 → allCls smCls d r
  | 0, _, h, _ => trivial
  | d + 1, .nd op rs mn mx subs, h, hp => by
    rcases h with ⟨rfl, rfl, rfl⟩ | ⟨rfl, rfl, h1, h2, h3⟩ | ⟨h1, rfl⟩ | ⟨h1, rfl, h2, h3, h4⟩ | ⟨h1, rfl, h2, s, rfl, h3⟩
    · exact ⟨by omega, by simp⟩
    · exact ⟨by omega, by simp⟩
    · refine ⟨fun _ => ?_, by simp⟩
      have e : plc (d + 1) (.nd op rs mn mx []) = plcR (pairs (rngs op rs)) := by rcases h1 with ⟨rfl, -⟩ | ⟨rfl | rfl, -⟩ <;> simp [plc]
      rw [e] at hp
      have hk : okPairs (rngs op rs) := rngs_ok (h1.elim (fun g => .inl ⟨g.1, g.2.2⟩) (fun g => .inr g.1))
      exact ⟨Nat.le_trans (plcR_ge _) hp, fun p hp2 => ⟨(of_decide_eq_true (hk.2.2 p hp2).2.2).1, (hk.2.2 p hp2).1, plcR_small _ hp p hp2⟩⟩
    · refine ⟨by omega, fun s hs => plc_small d s (h4 s hs) ?_⟩
      have e : plc (d + 1) (.nd op [] mn mx subs) = (subs.map (plc d)).sum := by rcases h1 with rfl | rfl <;> simp [plc]
      have := sum_ge (plc d) subs s hs
      omega
    · refine ⟨by omega, fun t ht => ?_⟩
      simp at ht
      subst ht
      refine plc_small d t h3 ?_
      rcases h1 with rfl | rfl | rfl | rfl | rfl
      · simpa [plc] using hp
      · simpa [plc] using hp
      · simp [plc] at hp; omega
      · simpa [plc] using hp
      · obtain ⟨g1, g2, g3⟩ := h2 rfl
        have h7 : plc (d + 1) (.nd 17 [] mn mx [t]) = plc d t * (max mn mx + 1).toNat := by simp [plc]
        rw [h7] at hp
        have : plc d t * 1 ≤ plc d t * (max mn mx + 1).toNat := Nat.mul_le_mul_left _ (by omega)
        omega

/-! what fits -/
section
variable {α : Type} {f : Nat → α → List Ins} {F : Nat → α → Prop} {lim : Nat}
theorem catF_of : ∀ (l : List α) (b : Nat), (∀ s ∈ l, ∀ b, (b + (f b s).length) * 40 ≤ lim → F b s) → (b + (catC f b l).length) * 40 ≤ lim → catF f F b l
  | [], _, _, _ => trivial
  | s :: r, b, h, hb => by
    simp only [catC, List.length_append] at hb
    exact ⟨h s (by simp) b (by omega), catF_of r _ (fun t ht => h t (by simp [ht])) (by omega)⟩
theorem altF_of (e : Nat) : ∀ (l : List α) (b : Nat), (∀ s ∈ l, ∀ b, (b + (f b s).length) * 40 ≤ lim → F b s) → (b + (altC f e b l).length) * 40 ≤ lim → altF f F b l
  | [], _, _, _ => trivial
  | [s], b, h, hb => by
    simp only [altC] at hb
    exact h s (by simp) b (by omega)
  | s :: t :: r, b, h, hb => by
    have h3 : (altC f e b (s :: t :: r)).length = 2 + (f (b + 1) s).length + (altC f e (b + 2 + (f (b + 1) s).length) (t :: r)).length := by
      simp only [altC, List.length_cons, List.length_append]; omega
    rw [h3] at hb
    exact ⟨h s (by simp) (b + 1) (by omega), altF_of e (t :: r) _ (fun t ht => h t (by simp at ht; simp; exact .inr ht)) (by omega)⟩
theorem optF_of (e : Nat) (s : α) : ∀ (n b : Nat), (∀ b, (b + (f b s).length) * 40 ≤ lim → F b s) → (b + (optC f e s b n).length) * 40 ≤ lim → optF f F b s n
  | 0, _, _, _ => trivial
  | n + 1, b, h, hb => by
    simp only [optC, List.length_append, List.length_cons] at hb
    exact ⟨h (b + 1) (by omega), optF_of e s n _ h (by omega)⟩
end
theorem fits_of {lim : Nat} : ∀ (d : Nat) (r : Rx) (b : Nat), (b + (comp d b r).length) * 40 ≤ lim → fits lim d b r
  | 0, _, _, _ => trivial
  | d + 1, .nd op rs mn mx subs, b, h => by
    have ih : ∀ s ∈ subs, ∀ b, (b + (comp d b s).length) * 40 ≤ lim → fits lim d b s := fun s _ b hb => fits_of d s b hb
    unfold fits
    unfold comp at h
    by_cases c1 : op = 2 ∨ op = 4 ∨ op = 5 ∨ op = 6
    · rw [if_pos c1]; trivial
    rw [if_neg c1]
    by_cases c2 : op = 3
    · rw [if_pos c2]
      rw [if_neg (by omega), if_pos c2] at h
      exact h
    rw [if_neg c2]
    rw [if_neg (by omega), if_neg c2, if_neg (by omega)] at h
    by_cases c3 : op = 18
    · rw [if_pos c3] at h ⊢
      exact catF_of subs b ih h
    rw [if_neg c3] at h ⊢
    by_cases c4 : op = 19
    · rw [if_pos c4] at h ⊢
      exact ⟨altF_of 0 subs b ih (by rw [altE_len] at h; exact h), h⟩
    rw [if_neg c4] at h ⊢
    match subs, ih with
    | [], _ => trivial
    | s :: _, ih =>
      have ih := ih s (by simp)
      simp only at h ⊢
      by_cases c5 : op = 13
      · rw [if_pos c5] at h ⊢
        exact ih b h
      rw [if_neg c5] at h ⊢
      by_cases c6 : op = 14
      · rw [if_pos c6] at h ⊢
        exact ⟨ih (b + 1) (by simp only [starC, List.length_append, List.length_cons, List.length_nil] at h; omega), h⟩
      rw [if_neg c6] at h ⊢
      by_cases c7 : op = 15
      · rw [if_pos c7] at h ⊢
        exact ⟨ih b (by simp only [plusC, List.length_append, List.length_cons, List.length_nil] at h; omega), h⟩
      rw [if_neg c7] at h ⊢
      by_cases c8 : op = 16
      · rw [if_pos c8] at h ⊢
        exact ⟨ih (b + 1) (by simp only [questC, List.length_cons] at h; omega), h⟩
      rw [if_neg c8] at h ⊢
      have h0 := h
      unfold repC at h
      rw [List.length_append] at h
      refine ⟨catF_of _ b (fun t ht b => by rw [(List.mem_replicate.1 ht).2]; exact ih b) (by omega), ?_, h0⟩
      by_cases c9 : mx < 0
      · rw [if_pos c9] at h ⊢
        exact ih _ (by simp only [starC, List.length_append, List.length_cons, List.length_nil] at h; omega)
      · rw [if_neg c9] at h ⊢
        rw [optE_len] at h
        exact optF_of 0 s _ _ ih (by omega)
/-- a small expression fits -/
theorem small_fits (r : Rx) (h : wf 3 5 r) (hp : plc 5 r ≤ 5) : fits 10485760 5 0 r := by
  refine fits_of 5 r 0 ?_
  have := comp_len (L := 16) (by omega) sm_le 5 r 0 h (plc_small 5 r h hp)
  have e : bnd 16 5 = 59372 := by decide
  omega
end Go.Proofs.YtbkpgfccghombaaDoor.rx

/-! A new compiler; what it compiles, with the match behind it. Conditions: as stated. -/
namespace Go.Proofs.YtbkpgfccghombaaDoor.rx
open Go.ChangeShapes Go.WideShapes Go.ChangeAt Go.RowKit
set_option linter.unusedVariables false

/-- a compiler that has done nothing yet -/
def newK (lim C sb eb : Nat) : Ks := ⟨C, sb, eb, lim, [], none, 0, .slice none 0 0, none, 0, 0, none, 0, 0⟩
theorem new_cs {w w3 : World} {lim sb eb : Nat} {eT : Value} (hC : Blk w3 (w.heap.size + 2) 128 (cellsK (newK lim (w.heap.size + 2) sb eb) 0)) (hs : Four w3 sb) (he : Four w3 eb) (h1 : sb ≠ eb) (h2 : w.heap.size ≤ sb) (h3 : w.heap.size ≤ eb) (hN : Nils w) (hB : 10 ≤ w.heap.size) (hb : Below w.heap.size w w3)
    (herr : w.cell? ⟨3, 0, none⟩ = some eT) : Cs w3 w.heap.size eT (newK lim (w.heap.size + 2) sb eb) [] 0 :=
  { c := hC, row := World.ownsRow_nil _ _ _ _, pools := fun j h => by simp [newK] at h, nd := by simp [newK], gl := by simp [newK], gB := by simp [newK], pv := .inl ⟨rfl, none, 0, rfl⟩, n := Nat.le_refl _,
    rv := ⟨[], World.ownsRow_nil _ _ _ _⟩, sk := ⟨[], World.ownsRow_nil _ _ _ _⟩, fp := hs, fq := he, pq := h1, bC := by simp [newK], bs := h2, be := h3, nils := hN.below hb hB, hB := hB, hw := hb.size, err := (hb.cell (p := ⟨_, 0, none⟩) (by simp; omega)).trans herr }
theorem three (w : World) (t t1 t2 : TypeId) (l l1 l2 : List Value) :
    Blk ((((w.alloc (.cells l.toArray t)).alloc (.cells l1.toArray t1)).alloc (.cells l2.toArray t2)).drew) w.heap.size t l ∧
    Blk ((((w.alloc (.cells l.toArray t)).alloc (.cells l1.toArray t1)).alloc (.cells l2.toArray t2)).drew) (w.heap.size + 1) t1 l1 ∧
    Blk ((((w.alloc (.cells l.toArray t)).alloc (.cells l1.toArray t1)).alloc (.cells l2.toArray t2)).drew) (w.heap.size + 1 + 1) t2 l2 := by
  refine ⟨(((Blk.new w t l).alloc _).alloc _).drew, ?_, ?_⟩
  · have h := ((Blk.new (w.alloc (.cells l.toArray t)) t1 l1).alloc (.cells l2.toArray t2)).drew
    simpa using h
  · have h := (Blk.new ((w.alloc (.cells l.toArray t)).alloc (.cells l1.toArray t1)) t2 l2).drew
    simpa using h
theorem below_three (w : World) (o o2 o3 : Obj) : Below w.heap.size w ((((w.alloc o).alloc o2).alloc o3).drew) := ((((Below.refl _ _).alloc (Nat.le_refl _) o).alloc (by simp) o2).alloc (by simp; omega) o3).drew
theorem newK_O (lim C sb eb n : Nat) (h : n ≤ C) (h1 : n ≤ sb) (h2 : n ≤ eb) : ∀ k, (newK lim C sb eb).O k → n ≤ k := by
  rintro k (rfl | rfl | rfl | e | e | e | e)
  · exact h
  · exact h1
  · exact h2
  · simp [newK] at e
  · simp [newK, isAt] at e
  · simp [newK, isAt] at e
  · simp [newK, isAt] at e
set_option maxRecDepth 100000 in
theorem new_any (lim : Nat) (w : World) (eT : Value) (hN : Nils w) (hB : 10 ≤ w.heap.size) (herr : w.cell? ⟨3, 0, none⟩ = some eT) :
    Calls Tryd.prog 45 #[.int .u64 lim] w fun e w' => ∃ K, e = .returned (.pointer (some ⟨K.C, 0, none⟩)) ∧ Cs w' w.heap.size eT K [] 0 ∧ K.lim = lim ∧ Below w.heap.size w w' ∧ ∀ k, K.O k → w.heap.size ≤ k := by
  have hmk : ∀ w : World, (Instr.makeSlice 79 (.int .i64 4) (.int .i64 4)).run Tryd.prog w = .ok (.slice (some ⟨w.heap.size, 0, none⟩) 4 4) (w.alloc (.cells #[.int .u8 0, .int .u8 0, .int .u8 0, .int .u8 0] 5)) := fun _ => by kernel_rfl
  have HN := Lib.hid hN
  have HB := Lib.hid hB
  have HE := Lib.hid herr
  clear hN hB herr
  go_enter Tryd.func45, Tryd.ntmps45
  go_wp2_with fail
  go_region
  · go_wp2
    go_ret
    have h3 := three w 5 5 128 [.int .u8 0, .int .u8 0, .int .u8 0, .int .u8 0] [.int .u8 0, .int .u8 0, .int .u8 0, .int .u8 0] (cellsK (newK lim (w.heap.size + 2) w.heap.size (w.heap.size + 1)) 0)
    exact ⟨newK lim (w.heap.size + 2) w.heap.size (w.heap.size + 1), rfl, new_cs h3.2.2 ⟨_, _, _, _, h3.1⟩ ⟨_, _, _, _, h3.2.1⟩ (by omega) (Nat.le_refl _) (by omega) HN.out HB.out (below_three _ _ _ _) HE.out, rfl, below_three _ _ _ _, newK_O _ _ _ _ _ (Nat.le_add_right _ _) (Nat.le_refl _) (Nat.le_add_right _ _)⟩
  · go_wp2
    go_ret
    have h3 := three w 5 5 128 [.int .u8 0, .int .u8 0, .int .u8 0, .int .u8 0] [.int .u8 0, .int .u8 0, .int .u8 0, .int .u8 0] (cellsK (newK lim (w.heap.size + 2) (w.heap.size + 1) w.heap.size) 0)
    exact ⟨newK lim (w.heap.size + 2) (w.heap.size + 1) w.heap.size, rfl, new_cs h3.2.2 ⟨_, _, _, _, h3.2.1⟩ ⟨_, _, _, _, h3.1⟩ (by omega) (by omega) (Nat.le_refl _) HN.out HB.out (below_three _ _ _ _) HE.out, rfl, below_three _ _ _ _, newK_O _ _ _ _ _ (Nat.le_add_right _ _) (Nat.le_add_right _ _) (Nat.le_refl _)⟩

section
variable {w : World} {B n : Nat} {T : TypeId} {X : Value} {K : Ks} {code : List Ins}
/-- what the compiler answers for a whole expression -/
def Whole_ (w : World) (B : Nat) (eT : Value) (K : Ks) (out : List Ins) (ok : Prop) (e : Ending) (w' : World) : Prop :=
  (ok ∧ ∃ K', e = .returned (.tuple #[.slice K'.va out.length K'.vc, .nilIface]) ∧ Cs w' B eT K' out out.length ∧ Ev K w w' K') ∨ (¬ ok ∧ e = .returned (.tuple #[.slice none 0 0, eT]) ∧ Below B w w')
set_option maxRecDepth 100000 in
set_option maxHeartbeats 1600000 in
theorem compile_any {m d : Nat} (OK : CompOk B (.iface T X) m d) (h : Cs w B (.iface T X) K [] 0) (r : Rx) (p : Addr) (hN : Nd w K.O d r p) (hw : wf m d r) (hn : (comp d 0 r).length ≤ 900000000000) (hl : K.lim ≤ 1000000000000) :
    Calls Tryd.prog 46 #[.pointer (some ⟨K.C, 0, none⟩), .pointer (some p)] w (Whole_ w B (.iface T X) K (comp d 0 r ++ [.mt]) (fits K.lim d 0 r)) := by
  obtain ⟨i0, hi, hz0, hz1, hz2⟩ := info_parts infoP
  have CC := Lib.hid (OK w K [] r p h hN hw (by simpa using hn) hl)
  have HW := Lib.hid h.hw
  clear h hN hw OK
  go_enter Tryd.func46, Tryd.ntmps46
  go_upto_region 2 with (first | (go_at_call 56; refine CC.out.mono ?_; rintro e w1 h1; rcases h1 with ⟨hok, K1, rfl, h1, e1⟩ | ⟨hok, rfl, hb⟩) | fail)
  · simp only [List.nil_append, List.length_nil] at h1
    have HOK : Hid (fits K.lim d 0 r) := Lib.hid hok
    have CA := Lib.hid (alloc_any h1)
    have E1 := Lib.hid e1
    have hc1 : K1.C = K.C := e1.c
    rw [hc1] at CA
    generalize hcd : comp d 0 r = code at *
    have HCD := Lib.hid hcd
    clear hcd hok h1 e1 CC
    go_upto_region 5 with (first | (go_at_call 57; refine CA.out.mono ?_; rintro e w2 ⟨K2, rfl, h2, ev2, -, -⟩; have H2 := Lib.hid h2; have EV2 := Lib.hid ev2; obtain ⟨o0, o1⟩ := h2.opcell (i := code.length) (by simp); simp only [List.getElem_concat_length, insC, List.getElem?_cons_zero] at o0; clear h2 ev2) | fail)
    have S3 := Lib.hid (H2.out.store (i := code.length) (by simp) 0 (by omega) (.mt) (.int .i64 0) (by simp [insC]))
    go_upto_region 6 with fail
    refine name_world ?_
    intro w3 hw3
    have H3 := Lib.hid (show Cs w3 B (.iface T X) K2 (code ++ [.mt]) code.length by rw [hw3, ← mt_set]; exact S3.out.1)
    have EV3 := Lib.hid (show Es K1 w1 w3 K2 by rw [hw3]; exact EV2.out.trans S3.out.2)
    have hc2 : K2.C = K.C := EV2.out.c.trans hc1
    have c1 := H3.out.cells.2.1
    have f1 := H3.out.c.frozen 1
    rw [hc2] at c1 f1
    clear S3 H2 EV2 hw3 o0 o1 CA
    have C2 := Lib.hid (show ∀ (w5 : World) (row : Option Nat), w3.grownBy w5 row → row = (K2.v code.length).ownBlock → w5.cell? ⟨K.C, 1, none⟩ = some (.slice K2.va code.length K2.vc) ∧ w5.frozen? ⟨K.C, 1, none⟩ = false from fun w5 row hg e => by
      have := H3.out.c.grown hg (fun e2 => row_blk H3.out.row H3.out.c (by decide) (e ▸ e2.symm))
      rw [← hc2]
      exact ⟨this.cell 1, this.frozen 1⟩)
    have PUT := Lib.hid (fun (w5 : World) (v5 : Value) ho hg hat => H3.out.put (w' := w5) (v' := v5) (by simp) ho hg hat)
    have hcl : code.length ≤ 900000000000 := hn
    go_upto_region 7 with (first | (at_builtin; refine append1_at w3 #[.pointer (some (adr K2.G code.length))] rfl (.tmp 23) (.tmp 25) 59 rfl B 67 i0 _ 1 8 Tryd.underlying59 hi hz0 hz1 hz2 rfl (by omega) rfl (.slice K2.va code.length K2.vc) code.length (ptrs K2.G code.length) rfl H3.out.row w3.heap.size rfl rfl (by simp [Value.oneCell']) (by unfold maxLen; omega) (by omega) H3.out.hw ?_; intro v4 w4 ho4 hg4 _ hat4; obtain ⟨a4, c4, rfl⟩ := own_value ho4; obtain ⟨d1, d2⟩ := C2.out _ _ hg4 rfl; have P4 := Lib.hid (PUT.out _ _ ho4 hg4 hat4); clear ho4 hg4 hat4 c1 f1) | fail)
    refine name_world ?_
    intro w5 hw5
    obtain ⟨K5, h5, ev5⟩ := P4.out
    rw [hc2, ← hw5] at h5 ev5
    have k1 := h5.cells.2.1
    rw [ev5.c, hc2] at k1
    have H5 := Lib.hid h5
    have EV5 := Lib.hid ((E1.out.trans EV3.out.ev).trans ev5.ev)
    clear h5 ev5 P4 PUT C2 EV3 H3 d1 d2 hw5
    go_wp2
    go_ret2
    exact .inl ⟨HOK.out, K5, by rw [List.length_append]; rfl, by simpa using H5.out, EV5.out⟩
  · have HF := Lib.hid (And.intro hok hb)
    clear hok hb CC
    go_wp2
    go_ret2
    exact .inr ⟨HF.out.1, rfl, HF.out.2⟩
set_option maxRecDepth 100000 in
theorem zzc_any {O0 : Nat → Prop} {m d : Nat} (hm : m ≤ 1000000) (lim : Nat) (r : Rx) (p : Addr) (w : World) (hN : Nd w O0 d r p) (hw : wf m d r) (hn : (comp d 0 r).length ≤ 900000000000) (hl : lim ≤ 1000000000000) (hNs : Nils w) (hB : 10 ≤ w.heap.size) (herr : w.cell? ⟨3, 0, none⟩ = some (.iface T X)) :
    Calls Tryd.prog 31 #[.pointer (some p), .int .u64 lim] w fun e w' => Below w.heap.size w w' ∧ ((fits lim d 0 r ∧ ∃ K', e = .returned (.tuple #[.slice K'.va (comp d 0 r ++ [Ins.mt]).length K'.vc, .nilIface]) ∧ Cs w' w.heap.size (.iface T X) K' (comp d 0 r ++ [.mt]) (comp d 0 r ++ [Ins.mt]).length) ∨ (¬ fits lim d 0 r ∧ e = .returned (.tuple #[.slice none 0 0, .iface T X]))) := by
  have CN := Lib.hid (new_any lim w (.iface T X) hNs hB herr)
  have HN := Lib.hid hN
  clear hN hNs hB herr
  go_enter Tryd.func31, Tryd.ntmps31
  go_wp2_with (first | (go_at_call 45; refine CN.out.mono ?_; rintro e w1 ⟨K, rfl, h1, hlim, hb1, hO1⟩; subst hlim; have H1 := Lib.hid h1; have HB1 := Lib.hid hb1; have CC := Lib.hid (compile_any (comp_ok (T := T) (X := X) (B := w.heap.size) m hm d) h1 r p (Nd.go (Fr.none_of_below hb1) (fun k hk => .inr (hO1 k hk)) d r p HN.out) hw hn hl); clear h1 hb1 hO1 CN) | (go_at_call 46; refine CC.out.mono ?_; rintro e w2 h2; rcases h2 with ⟨hok, K2, rfl, h2, e2⟩ | ⟨hok, rfl, hb2⟩) | fail)
  · go_ret2
    exact ⟨HB1.out.trans (e2.below H1.out), .inl ⟨hok, K2, by rw [List.length_append]; rfl, h2⟩⟩
  · go_ret2
    exact ⟨HB1.out.trans hb2, .inr ⟨hok, rfl⟩⟩
end
end Go.Proofs.YtbkpgfccghombaaDoor.rx

/-! The law's small functions: numbers, runes, pairs. Conditions: as stated. -/
namespace Go.Proofs.YtbkpgfccghombaaDoor.rx
open Go.ChangeShapes Go.WideShapes Go.ChangeAt Go.RowKit
set_option linter.unusedVariables false

def atF (x : Int) (n : Nat) : Int := x % 18446744073709551616 % n
theorem atF_bd (x : Int) (n : Nat) (hn : 1 ≤ n) : 0 ≤ atF x n ∧ atF x n < n := ⟨Int.emod_nonneg _ (by omega), Int.emod_lt_of_pos _ (by omega)⟩

set_option maxHeartbeats 400000 in
theorem at_any (x : Int) (n : Nat) (w : World) (hn : 1 ≤ n) (hn2 : n ≤ 300) :
    Calls Tryd.prog 28 #[.int .i64 x, .int .i64 n] w fun e w' => e = .returned (.int .i64 (atF x n)) ∧ w = w' := by
  have e1 : IntKind.u64.wrap x = x % 18446744073709551616 := IntKind.wrap_u64 x
  have e2 : IntKind.u64.wrap (n : Int) = n := by rw [IntKind.wrap_u64]; omega
  have hnz : ((n : Int) == 0) = false := by rw [beq_eq_false_iff_ne]; omega
  have e3 : ((x % 18446744073709551616).tmod (n : Int)) = atF x n := by
    rw [Int.tmod_eq_emod_of_nonneg (by omega)]; rfl
  obtain ⟨b0, b1⟩ := atF_bd x n hn
  have e4 : wrap64 (atF x n) = atF x n := by unfold wrap64; omega
  have e5 : IntKind.i64.wrap (atF x n) = atF x n := by rw [IntKind.wrap_i64]; omega
  generalize atF x n = r at *
  go_enter Tryd.func28, Tryd.ntmps28
  go_wp2
  go_returns
  exact ⟨rfl, rfl⟩

set_option maxRecDepth 100000 in
theorem valid_any (r : Int) (w : World) : Calls Tryd.prog 39 #[.int .i32 r] w fun e w' => e = .returned (.bool (isL r)) ∧ w = w' := by
  by_cases h0 : 0 ≤ r
  · by_cases h1 : r ≤ 1114111
    · by_cases h2 : r < 55296
      · have e : isL r = true := decide_eq_true ⟨h0, h1, .inl h2⟩
        rw [e]; clear e
        go_enter Tryd.func39, Tryd.ntmps39
        go_wp2
        go_ret
        exact ⟨rfl, rfl⟩
      · by_cases h3 : 57343 < r
        · have e : isL r = true := decide_eq_true ⟨h0, h1, .inr h3⟩
          rw [e]; clear e
          go_enter Tryd.func39, Tryd.ntmps39
          go_wp2
          go_ret
          exact ⟨rfl, rfl⟩
        · have e : isL r = false := decide_eq_false (by omega)
          rw [e]; clear e
          go_enter Tryd.func39, Tryd.ntmps39
          go_wp2
          go_ret
          exact ⟨rfl, rfl⟩
    · have e : isL r = false := decide_eq_false (by omega)
      rw [e]; clear e
      go_enter Tryd.func39, Tryd.ntmps39
      go_wp2
      go_ret
      exact ⟨rfl, rfl⟩
  · have e : isL r = false := decide_eq_false (by omega)
    rw [e]; clear e
    go_enter Tryd.func39, Tryd.ntmps39
    go_wp2
    go_ret
    exact ⟨rfl, rfl⟩

/-- a letter that is made from any number -/
def fewL : List Int := [97, 98, 99, 100, 10, 233, 2047, 2048, 65535, 65536, 1114111, 55295]
def ltr (x : Int) : Int := if (32 ≤ x ∧ x < 127) ∨ (127 < x ∧ isL x = true) then x else fewL.getD (x % 4294967296 % 12).toNat 0
theorem ltr_few (x : Int) : ∃ v, fewL[(x % 4294967296 % 12).toNat]? = some v ∧ fewL.getD (x % 4294967296 % 12).toNat 0 = v ∧ isL v = true := by
  have h0 : 0 ≤ x % 4294967296 % 12 := Int.emod_nonneg _ (by omega)
  have h1 : x % 4294967296 % 12 < 12 := Int.emod_lt_of_pos _ (by omega)
  generalize x % 4294967296 % 12 = k at *
  obtain ⟨n, rfl⟩ : ∃ n : Nat, k = n := ⟨k.toNat, by omega⟩
  have : n < 12 := by omega
  simp only [Int.toNat_natCast]
  have : n = 0 ∨ n = 1 ∨ n = 2 ∨ n = 3 ∨ n = 4 ∨ n = 5 ∨ n = 6 ∨ n = 7 ∨ n = 8 ∨ n = 9 ∨ n = 10 ∨ n = 11 := by omega
  rcases this with rfl | rfl | rfl | rfl | rfl | rfl | rfl | rfl | rfl | rfl | rfl | rfl <;> exact ⟨_, rfl, rfl, by decide⟩
theorem ltr_ok (x : Int) : isL (ltr x) = true := by
  unfold ltr
  split
  · rename_i h
    rcases h with h | h
    · exact decide_eq_true (by omega)
    · exact h.2
  · obtain ⟨v, -, e, h⟩ := ltr_few x
    rw [e]
    exact h

/-- how many bytes a letter has that begins with a byte -/
def lng (b : Int) : Int := if b < 128 then 1 else if 194 ≤ b ∧ b < 224 then 2 else if 224 ≤ b ∧ b < 240 then 3 else if 240 ≤ b ∧ b < 245 then 4 else 0
set_option maxRecDepth 100000 in
theorem long_any (b : Int) (w : World) : Calls Tryd.prog 58 #[.int .u8 b] w fun e w' => e = .returned (.int .i64 (lng b)) ∧ w = w' := by
  have fin : ∀ x, lng b = x → lng b = x := fun _ h => h
  by_cases h0 : b < 128
  · have e : lng b = 1 := if_pos h0
    rw [e]; clear e fin
    go_enter Tryd.func58, Tryd.ntmps58
    go_wp2
    go_ret
    exact ⟨rfl, rfl⟩
  by_cases h1 : 194 ≤ b
  · by_cases h2 : b < 224
    · have e : lng b = 2 := by unfold lng; rw [if_neg h0, if_pos ⟨h1, h2⟩]
      rw [e]; clear e fin
      go_enter Tryd.func58, Tryd.ntmps58
      go_wp2
      go_ret
      exact ⟨rfl, rfl⟩
    · have h3 : 224 ≤ b := by omega
      by_cases h4 : b < 240
      · have e : lng b = 3 := by unfold lng; rw [if_neg h0, if_neg (by omega), if_pos ⟨h3, h4⟩]
        rw [e]; clear e fin
        go_enter Tryd.func58, Tryd.ntmps58
        go_wp2
        go_ret
        exact ⟨rfl, rfl⟩
      · have h5 : 240 ≤ b := by omega
        by_cases h6 : b < 245
        · have e : lng b = 4 := by unfold lng; rw [if_neg h0, if_neg (by omega), if_neg (by omega), if_pos ⟨h5, h6⟩]
          rw [e]; clear e fin
          go_enter Tryd.func58, Tryd.ntmps58
          go_wp2
          go_ret
          exact ⟨rfl, rfl⟩
        · have e : lng b = 0 := by unfold lng; rw [if_neg h0, if_neg (by omega), if_neg (by omega), if_neg (by omega)]
          rw [e]; clear e fin
          go_enter Tryd.func58, Tryd.ntmps58
          go_wp2
          go_ret
          exact ⟨rfl, rfl⟩
  · have e : lng b = 0 := by unfold lng; rw [if_neg h0, if_neg (by omega), if_neg (by omega), if_neg (by omega)]
    have h3 : ¬ 224 ≤ b := by omega
    have h4 : ¬ 240 ≤ b := by omega
    rw [e]; clear e fin
    go_enter Tryd.func58, Tryd.ntmps58
    go_wp2
    go_ret
    exact ⟨rfl, rfl⟩

/-- whether a set has no places -/
def noneB (l : List Bool) : Bool := l.all (! ·)
theorem noneB_take (l : List Bool) (n : Nat) (h : n < l.length) : noneB (l.take (n + 1)) = (noneB (l.take n) && ! l[n]) := by
  unfold noneB
  rw [List.take_succ_eq_append_getElem h, List.all_append]
  simp
theorem noneB_of {l : List Bool} {n : Nat} (h : n < l.length) (hb : l[n] = true) : noneB l = false := by
  unfold noneB
  rw [List.all_eq_false]
  exact ⟨l[n], List.getElem_mem h, by simp [hb]⟩
theorem bool_at {w : World} {B : Nat} {a : Option Addr} {l : List Bool} (h : Sl w B a (l.map .bool)) (j : Nat) (hj : j < l.length) : ∃ ad, a = some ad ∧ ad.block < B ∧ w.cell? (ad.add j) = some (.bool l[j]) :=
  h j (.bool l[j]) (by rw [List.getElem?_map, List.getElem?_eq_getElem hj]; rfl)
set_option maxRecDepth 100000 in
theorem none_any (a : Option Addr) (c : Nat) (l : List Bool) (B : Nat) (w : World) (hs : Sl w B a (l.map .bool)) (hn : l.length ≤ 1000000) :
    Calls Tryd.prog 52 #[.slice a l.length c] w fun e w' => e = .returned (.bool (noneB l)) ∧ w = w' := by
  have HS := Lib.hid hs
  clear hs
  go_enter Tryd.func52, Tryd.ntmps52
  go_wp2_with fail
  go_loopw [3] (fun k wr => ∃ m : Nat, m ≤ l.length ∧ k = .int .i64 m ∧ Hid (noneB (l.take m) = true) ∧ w = wr) (fun k _ => l.length - (intOf k).toNat)
  case atStart => exact ⟨0, by omega, rfl, Lib.hid (by simp [noneB]), rfl⟩
  case round =>
    obtain ⟨m, hm, rfl, hf, rfl⟩ := hrel
    by_cases hlt : m < l.length
    · obtain ⟨ad, rfl, hb, hc⟩ := bool_at HS.out m hlt
      have N1 := Lib.hid (@noneB_of l m hlt)
      have N2 := Lib.hid (noneB_take l m hlt)
      cases hv : l[m] with
      | true =>
        rw [hv] at hc
        have N3 := Lib.hid (N1.out hv)
        go_wp2
        go_ret
        rw [N3.out]
        exact ⟨rfl, rfl⟩
      | false =>
        rw [hv] at hc
        have N3 := Lib.hid (show noneB (l.take (m + 1)) = true by rw [N2.out, hv, hf.out]; rfl)
        go_wp2
        exact ⟨⟨m + 1, by omega, by go_num, N3, by first | rfl | trivial⟩, by simp [intOf]; omega⟩
    · obtain rfl : m = l.length := by omega
      have N3 := Lib.hid (show noneB l = true by have := hf.out; rwa [List.take_length] at this)
      go_wp2
      go_ret
      rw [N3.out]
      exact ⟨rfl, rfl⟩

/-- whether a rune is in pairs -/
def inP (l : List Int) (r : Int) : Bool := (pairs l).any fun p => decide (p.1 ≤ r ∧ r ≤ p.2)
theorem pairs_take : ∀ (l : List Int) (k : Nat), pairs (l.take (2 * k)) = (pairs l).take k
  | _, 0 => by simp [pairs]
  | [], k + 1 => by simp [pairs]
  | [a], k + 1 => by rw [show 2 * (k + 1) = 2 * k + 1 + 1 by omega]; simp [pairs]
  | a :: b :: r, k + 1 => by
    have := pairs_take r k
    rw [show 2 * (k + 1) = 2 * k + 1 + 1 by omega]
    simp [pairs, this]
theorem pairs_at : ∀ (l : List Int) (k : Nat) (h : 2 * k + 1 < l.length), (pairs l)[k]? = some (l[2 * k], l[2 * k + 1])
  | [], k, h => by simp at h
  | [a], k, h => by simp at h
  | a :: b :: r, 0, h => by simp [pairs]
  | a :: b :: r, k + 1, h => by
    have := pairs_at r k (by simp at h; omega)
    simp only [pairs, List.getElem?_cons_succ]
    rw [this]
    simp [show 2 * (k + 1) = 2 * k + 1 + 1 by omega]
theorem cell_next {w : World} {ad : Addr} {n : Nat} {v : Option Value} (h : w.cell? (ad.add (n + 1)) = v) : w.cell? ⟨ad.block, ad.off + (n + 1), none⟩ = v := by
  rw [← h]
  congr 1
theorem pairs_len : ∀ (l : List Int), (pairs l).length = l.length / 2
  | [] => rfl
  | [a] => by simp [pairs]
  | a :: b :: r => by
    have := pairs_len r
    simp only [pairs, List.length_cons]
    omega
theorem rune_at {w : World} {B : Nat} {a : Option Addr} {l : List Int} (h : Sl w B a (l.map (.int .i32))) (j : Nat) (hj : j < l.length) : ∃ ad, a = some ad ∧ ad.block < B ∧ w.cell? (ad.add j) = some (.int .i32 l[j]) :=
  h j (.int .i32 l[j]) (by rw [List.getElem?_map, List.getElem?_eq_getElem hj]; rfl)
theorem inP_yes {l : List Int} {r : Int} {m : Nat} (h : 2 * m + 1 < l.length) (h1 : l[2 * m] ≤ r) (h2 : r ≤ l[2 * m + 1]) : inP l r = true := by
  unfold inP
  rw [List.any_eq_true]
  exact ⟨_, List.mem_of_getElem? (pairs_at l m h), by simp [h1, h2]⟩
theorem inP_all {l : List Int} {r : Int} (h : ∀ m, (h : 2 * m + 1 < l.length) → ¬ (l[2 * m] ≤ r ∧ r ≤ l[2 * m + 1])) : inP l r = false := by
  unfold inP
  rw [List.any_eq_false]
  intro p hp
  obtain ⟨m, hm, rfl⟩ := List.getElem_of_mem hp
  rw [pairs_len] at hm
  have h1 : 2 * m + 1 < l.length := by omega
  have h2 := pairs_at l m h1
  rw [List.getElem?_eq_getElem (by rw [pairs_len]; exact hm)] at h2
  injection h2 with h2
  rw [h2]
  simpa using h m h1
set_option maxRecDepth 100000 in
theorem in_any (a : Option Addr) (c : Nat) (l : List Int) (r : Int) (B : Nat) (w : World) (hs : Sl w B a (l.map (.int .i32))) (hn : l.length ≤ 1000000) :
    Calls Tryd.prog 48 #[.slice a l.length c, .int .i32 r] w fun e w' => e = .returned (.bool (inP l r)) ∧ w = w' := by
  have HS := Lib.hid hs
  clear hs
  go_enter Tryd.func48, Tryd.ntmps48
  go_wp2_with fail
  go_loopw [5] (fun k wr => ∃ m : Nat, m ≤ l.length ∧ k = .int .i64 ((2 * m : Nat) : Int) ∧ Hid (∀ i, i < m → (h : 2 * i + 1 < l.length) → ¬ (l[2 * i] ≤ r ∧ r ≤ l[2 * i + 1])) ∧ w = wr) (fun k _ => l.length + 1 - (intOf k).toNat)
  case atStart => exact ⟨0, by omega, rfl, Lib.hid (fun i h => absurd h (by omega)), rfl⟩
  case round =>
    obtain ⟨m, hm, rfl, hf, rfl⟩ := hrel
    by_cases hlt : 2 * m + 1 < l.length
    · obtain ⟨ad, rfl, hb, hc⟩ := rune_at HS.out (2 * m) (by omega)
      obtain ⟨ad2, had, hb2, hc2⟩ := rune_at HS.out (2 * m + 1) hlt
      injection had with had
      subst had
      have hc2 := cell_next hc2
      have hlt2 : ((2 * m : Nat) : Int) + 1 < (l.length : Int) := by omega
      have e2 : ((2 * m : Nat) : Int) + 1 = ((2 * m + 1 : Nat) : Int) := by omega
      have e3 : ((2 * m : Nat) : Int) + 2 = ((2 * (m + 1) : Nat) : Int) := by omega
      have N1 := Lib.hid (@inP_yes l r m hlt)
      have N2 := Lib.hid (fun (h0 : ¬ (l[2 * m] ≤ r ∧ r ≤ l[2 * m + 1])) i (hi : i < m + 1) (h : 2 * i + 1 < l.length) => show ¬ (l[2 * i] ≤ r ∧ r ≤ l[2 * i + 1]) from by
        rcases Nat.lt_or_ge i m with h1 | h1
        · exact hf.out i h1 h
        · obtain rfl : i = m := by omega
          exact h0)
      generalize l[2 * m] = x at *
      generalize l[2 * m + 1] = y at *
      by_cases h1 : x ≤ r
      · by_cases h2 : r ≤ y
        · have N3 := Lib.hid (N1.out h1 h2)
          go_wp2
          go_ret
          rw [N3.out]
          exact ⟨rfl, rfl⟩
        · have N3 := Lib.hid (N2.out (fun h => h2 h.2))
          go_wp2
          exact ⟨⟨m + 1, by omega, by go_num, N3, by first | rfl | trivial⟩, by simp [intOf]; omega⟩
      · have N3 := Lib.hid (N2.out (fun h => h1 h.1))
        go_wp2
        exact ⟨⟨m + 1, by omega, by go_num, N3, by first | rfl | trivial⟩, by simp [intOf]; omega⟩
    · have N3 := Lib.hid (show inP l r = false from inP_all (fun i h => hf.out i (by omega) h))
      have hlt2 : ¬ (((2 * m : Nat) : Int) + 1 < (l.length : Int)) := by omega
      go_wp2
      go_ret
      rw [N3.out]
      exact ⟨rfl, rfl⟩
end Go.Proofs.YtbkpgfccghombaaDoor.rx
