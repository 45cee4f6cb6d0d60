/-
  FnStateFor: writer: Write, Flush; the header and the footer; an encoder is made. Conditions: as stated.
-/
import Derived.Test.YtjonmfaeonldcaaDoorStI
namespace Go.Proofs.YtjonmfaeonldcaaDoor.fnStateFor
open Go.ChangeShapes Go.WideShapes Go.ChangeAt Go.RowKit
set_option linter.unusedVariables false

/-- sixteen bytes are written, and counted -/
theorem wwr_any {W : World} {x : Wb} {rv : Value} {out : List Int} (h : En W x rv out) {g : Nat} {cs : List Int} (hc : cs.length = 16) (hg : Blk W g 5 (by8 cs)) (ho : ¬ Own x rv g) (hlim : out.length ≤ 100000000) :
    Calls Tryd.prog 28 #[.pointer (some ⟨x.w, 0, none⟩), .slice (some ⟨g, 0, none⟩) 16 16] W (Wr x W rv (out ++ cs) (.tuple #[.int .i64 16, .nilIface])) := by
  obtain ⟨fl, bu, rest, hout, h⟩ := h
  have CB := Lib.hid (bw_any h hout.symm hc hg ho (by rw [hout] at hlim; simpa using hlim))
  have c0 := h.w.cell 0
  simp only [List.getElem?_cons_zero] at c0
  have HC := Lib.hid hc
  clear h hout hc hg ho
  generalize hq : out.length = q at *
  have HQ := Lib.hid hq
  clear hq
  go_enter Tryd.func28, Tryd.ntmps28
  go_wp2_with fail
  refine CB.out.mono ?_
  rintro e w1 ⟨rv', fl', bu', rest', rfl, hout, hE, hV⟩
  have d1 := hE.w.cell 1
  have e1 := hE.w.frozen 1
  simp only [List.getElem?_cons_succ, List.getElem?_cons_zero] at d1
  have HO := Lib.hid hout
  have HE := Lib.hid hE
  have HV := Lib.hid hV
  clear hout hE hV
  go_wp2
  go_ret2
  refine ⟨rv', rfl, ⟨fl', bu', rest', HO.out, ?_⟩, HV.out.fr_ ((Fr.refl _ _).set _ _ (.inr (.inl rfl)))⟩
  have h1 := HE.out.count ((out ++ cs).length : Nat)
  have h2 : (((out ++ cs).length : Nat) : Int) = (q : Int) + 16 := by rw [List.length_append, HQ.out, HC.out]; rfl
  rw [h2] at h1 ⊢
  exact h1

theorem wfl_any {W : World} {x : Wb} {rv : Value} {out : List Int} (h : En W x rv out) (hlim : out.length ≤ 1000000000) :
    Calls Tryd.prog 33 #[.pointer (some ⟨x.w, 0, none⟩)] W (Flu x W rv out (out.length : Nat)) := by
  obtain ⟨fl, bu, rest, hout, h⟩ := h
  have CF : Calls Tryd.prog 48 #[.pointer (some ⟨x.f, 0, none⟩)] W (Flu x W rv out (out.length : Nat)) := by
    match bu, h, hout with
    | [], h, hout =>
      rw [List.append_nil] at hout
      subst hout
      exact flush_none h
    | y :: bu, h, hout =>
      have h2 := flush_some h (by simp) (by rw [hout] at hlim; simp at hlim ⊢; omega)
      rw [← hout] at h2
      exact h2
  have c0 := h.w.cell 0
  simp only [List.getElem?_cons_zero] at c0
  have HF := Lib.hid CF
  clear h hout CF
  generalize out.length = q at *
  go_enter Tryd.func33, Tryd.ntmps33
  go_wp2_with fail
  refine HF.out.mono ?_
  rintro e w1 ⟨rv', rest', rfl, hE, hV⟩
  have HE := Lib.hid hE
  have HV := Lib.hid hV
  clear hE hV
  go_wp2
  go_ret
  exact ⟨rv', rest', rfl, HE.out, HV.out⟩

/-- eight bytes of a number -/
def le8 (v : Nat) : List Int := (Lib.leBytes 8 v).map fun b => (b.toNat : Int)
theorem le8_len (v : Nat) : (le8 v).length = 8 := by simp [le8, Lib.leBytes]
theorem eight (l : List Value) (h : l.length = 8) : ∃ x0 x1 x2 x3 x4 x5 x6 x7, l = [x0, x1, x2, x3, x4, x5, x6, x7] := by
  match l, h with
  | [x0, x1, x2, x3, x4, x5, x6, x7], _ => exact ⟨x0, x1, x2, x3, x4, x5, x6, x7, rfl⟩
theorem put_any {W : World} {N o n c v : Nat} {pre old post : List Value} (hv : v < 18446744073709551616) (h : Blk W N 5 (pre ++ old ++ post)) (ho : o = pre.length) (h8 : old.length = 8) (hn : 8 ≤ n) :
    Calls Tryd.prog 27 #[.agg #[], .slice (some ⟨N, o, none⟩) n c, .int .u64 v] W fun e w' => e = .returned (.tuple #[]) ∧ Blk w' N 5 (pre ++ by8 (le8 v) ++ post) ∧ Fr (fun k => k = N) W w' := by
  subst ho
  obtain ⟨x0, x1, x2, x3, x4, x5, x6, x7, rfl⟩ := eight old h8
  have hC : ∀ j u, [x0, x1, x2, x3, x4, x5, x6, x7][j]? = some u → W.cell? ⟨N, pre.length + j, none⟩ = some u := fun j u hu => by
    rw [h.cell, List.append_assoc, List.getElem?_append_right (by omega), show pre.length + j - pre.length = j by omega, List.getElem?_append_left (List.getElem?_eq_some_iff.1 hu).1]
    exact hu
  refine (Tryd.binary_LE_PutUint64 N pre.length n c v hv x0 x1 x2 x3 x4 x5 x6 x7 W hn (hC 0 _ rfl) (hC 1 _ rfl) (hC 2 _ rfl) (hC 3 _ rfl) (hC 4 _ rfl) (hC 5 _ rfl) (hC 6 _ rfl) (hC 7 _ rfl)
    (h.frozen _) (h.frozen _) (h.frozen _) (h.frozen _) (h.frozen _) (h.frozen _) (h.frozen _) (h.frozen _)).mono ?_
  rintro e w' ⟨rfl, rfl⟩
  have e8 : by8 (le8 v) = Lib.byteCells (Lib.leBytes 8 v) := by simp [by8, le8, Lib.byteCells]
  refine ⟨rfl, ?_, Fr.setCells (O := fun k => k = N) ((Fr.refl _ _).alloc _) N rfl _ _⟩
  rw [e8]
  exact Blk.setCells (h.alloc _) (by simp [Lib.byteCells, Lib.leBytes])

/-- the encoder: a block that points to the writer -/
structure Ec (W : World) (x : Wb) (eb : Nat) (rv : Value) : Prop where
  e : Blk W eb 85 [.pointer (some ⟨x.w, 0, none⟩)]
  o : ¬ Own x rv eb
theorem Ec.go {W W' : World} {x : Wb} {eb : Nat} {rv rv' : Value} (h : Ec W x eb rv) (hv : Ev x W rv W' rv') : Ec W' x eb rv' := ⟨(hv.blk h.e h.o).1, (hv.blk h.e h.o).2⟩

theorem made_one (z : Value) (n : Nat) : (madeCells #[z] n).toList = List.replicate n z := by
  apply List.ext_getElem
  · simp [madeCells]
  · intro i h1 h2
    simp [madeCells, Nat.mod_one]
theorem sixteen (W : World) : Blk (W.alloc (.cells (madeCells #[.int .u8 0] 16) 5)) W.heap.size 5 ([] ++ List.replicate 8 (Value.int .u8 0) ++ List.replicate 8 (Value.int .u8 0)) := by
  have h : (madeCells #[Value.int .u8 0] 16) = ([] ++ List.replicate 8 (Value.int .u8 0) ++ List.replicate 8 (Value.int .u8 0)).toArray := by
    apply Array.ext'
    rw [made_one]
    rfl
  rw [h]
  exact Blk.new W _ _
theorem run16 : ∀ u : World, (Instr.makeSlice 34 (.int .i64 16) (.int .i64 16)).run Tryd.prog u = .ok (.slice (some ⟨u.heap.size, 0, none⟩) 16 16) (u.alloc (.cells (madeCells #[.int .u8 0] 16) 5)) := fun u => by
  obtain ⟨i0, hi, hz0, hz1, hz2⟩ := info_parts info8
  have h := run_make (P := Tryd.prog) u 34 5 i0 (.int .u8 0) Tryd.underlying34 hi hz0 .i64 .i64 16 16 (by omega) (Int.le_refl _) (by rw [hz2]; omega) (by omega)
  simpa [hz1, Value.cells] using h

theorem hdr_eq : le8 1 ++ le8 0 = hdr := by decide +kernel

set_option maxRecDepth 100000 in
set_option maxHeartbeats 800000 in
theorem start_any {W : World} {x : Wb} {eb : Nat} {rv : Value} (h : En W x rv []) (he : Ec W x eb rv) :
    Calls Tryd.prog 22 #[.pointer (some ⟨eb, 0, none⟩)] W (Wr x W rv hdr .nilIface) := by
  have H := Lib.hid h
  have HE := Lib.hid he
  have hmk := run16
  have hgt : ∀ M : Array Value, (W.alloc (.cells M 5)).heap.size = W.heap.size + 1 := fun M => by simp
  obtain ⟨M, hM⟩ : ∃ M, M = madeCells #[.int .u8 0] 16 := ⟨_, rfl⟩
  have B0 := sixteen W
  rw [← hM] at hmk B0
  have C1 := Lib.hid (put_any (n := 16) (c := 16) (v := 1) (by decide) B0 rfl rfl (by decide))
  clear h he hgt hM B0
  go_enter Tryd.func22, Tryd.ntmps22
  go_wp2_with fail
  refine C1.out.mono ?_
  rintro e w1 ⟨rfl, B1, F1⟩
  have B1' : Blk w1.drew W.heap.size 5 (by8 (le8 1) ++ List.replicate 8 (Value.int .u8 0) ++ []) := by
    have : Blk w1 W.heap.size 5 (by8 (le8 1) ++ List.replicate 8 (Value.int .u8 0) ++ []) := by simpa using B1
    exact this
  have C2 := Lib.hid (put_any (W := w1.drew) (n := 8) (c := 8) (v := 0) (pre := by8 (le8 1)) (old := List.replicate 8 (Value.int .u8 0)) (post := []) (by decide) B1' (by rw [by8_len, le8_len]) rfl (by decide))
  have HF1 := Lib.hid F1
  clear B1 B1' F1 C1
  go_wp2
  refine wp_region_still_tail 3 (by kernel_rfl) (by kernel_rfl) ?_
  simp only [List.take_succ_cons, List.take_zero, List.drop_succ_cons, List.drop_zero]
  change wpStill _ _ (World.drew _) _ _ _
  repeat still_step
  refine wpStill_nil ?_
  change wpList _ _ _ _ _ (World.drew _)
  go_wp2_with fail
  refine C2.out.mono ?_
  rintro e w2 ⟨rfl, B2, F2⟩
  have hF : Fr (fun _ => False) W w2 := by
    have h1 : Fr (fun k => k = W.heap.size) W w2 := (((Fr.refl _ W).alloc _).trans HF1.out (fun k _ e => e)).drew.trans F2 (fun k _ e => e)
    exact h1.mono (fun k hk e => by omega)
  have hg : W.heap.size < w2.heap.size := B2.lt
  obtain ⟨fl, bu, rest, ho, hE⟩ := H.out
  have hE2 : En w2 x rv [] := ⟨fl, bu, rest, ho, hE.keep hF (fun _ _ h => h)⟩
  have hno : ¬ Own x rv W.heap.size := fun e => by have := hE.lt _ e; omega
  have C3 := Lib.hid (wwr_any hE2 (cs := le8 1 ++ le8 0) (by simp [le8_len]) (by simpa [by8] using B2) hno (by simp))
  rw [hdr_eq, List.nil_append] at C3
  have HE2 := Lib.hid (hF.blk HE.out.e (fun h => h))
  have c0 := HE2.out.cell 0
  simp only [List.getElem?_cons_zero] at c0
  have HF := Lib.hid hF
  clear B2 F2 hF hE hE2 hno ho hg
  go_wp2_with fail
  refine C3.out.mono ?_
  rintro e w3 ⟨rv3, rfl, hE3, hV3⟩
  have HR := Lib.hid (⟨hE3, hV3⟩ : En w3 x rv3 hdr ∧ Ev x w2 rv w3 rv3)
  clear hE3 hV3
  go_wp2
  go_ret
  exact ⟨rv3, rfl, HR.out.1, (Ev.refl_fr (HF.out.mono (fun _ _ h => h.elim))).trans HR.out.2⟩

theorem zstart_any {W : World} {x : Wb} {eb : Nat} {rv : Value} (h : En W x rv []) (he : Ec W x eb rv) :
    Calls Tryd.prog 13 #[.pointer (some ⟨eb, 0, none⟩)] W (Wr x W rv hdr .nilIface) := by
  have C := Lib.hid (start_any h he)
  clear h he
  go_enter Tryd.func13, Tryd.ntmps13
  go_wp2_with fail
  refine C.out.mono ?_
  rintro e w1 ⟨rv', rfl, hE, hV⟩
  have HE := Lib.hid hE
  have HV := Lib.hid hV
  clear hE hV
  go_wp2
  go_ret
  exact ⟨rv', rfl, HE.out, HV.out⟩

set_option maxRecDepth 100000 in
set_option maxHeartbeats 1600000 in
theorem finish_any {W : World} {x : Wb} {eb : Nat} {rv : Value} {out : List Int} (h : En W x rv out) (he : Ec W x eb rv) (n r : Nat) (hn : n ≤ 1000000000) (hr : r ≤ 1000000000) (hlim : out.length ≤ 100000000) :
    Calls Tryd.prog 24 #[.pointer (some ⟨eb, 0, none⟩), .int .i64 n, .int .i64 r] W fun e w' => ∃ cnt, Flu x W rv (out ++ (le8 n ++ le8 r)) cnt e w' := by
  have H := Lib.hid h
  have HE := Lib.hid he
  have HL := Lib.hid hlim
  have hmk := run16
  obtain ⟨M, hM⟩ : ∃ M, M = madeCells #[.int .u8 0] 16 := ⟨_, rfl⟩
  have B0 := sixteen W
  rw [← hM] at hmk B0
  have C1 := Lib.hid (put_any (n := 16) (c := 16) (v := n) (by omega) B0 rfl rfl (by decide))
  clear h he hM B0 hlim
  go_enter Tryd.func24, Tryd.ntmps24
  go_wp2_with fail
  refine C1.out.mono ?_
  rintro e w1 ⟨rfl, B1, F1⟩
  have B1' : Blk w1.drew W.heap.size 5 (by8 (le8 n) ++ List.replicate 8 (Value.int .u8 0) ++ []) := by
    have : Blk w1 W.heap.size 5 (by8 (le8 n) ++ List.replicate 8 (Value.int .u8 0) ++ []) := by simpa using B1
    exact this
  have C2 := Lib.hid (put_any (W := w1.drew) (n := 8) (c := 8) (v := r) (pre := by8 (le8 n)) (old := List.replicate 8 (.int .u8 0)) (post := []) (by omega) B1' (by rw [by8_len, le8_len]) rfl (by decide))
  have HF1 := Lib.hid F1
  clear B1 B1' F1 C1
  go_wp2
  refine wp_region_still_tail 5 (by kernel_rfl) (by kernel_rfl) ?_
  simp only [List.take_succ_cons, List.take_zero, List.drop_succ_cons, List.drop_zero]
  change wpStill _ _ (World.drew _) _ _ _
  repeat still_step
  refine wpStill_nil ?_
  change wpList _ _ _ _ _ (World.drew _)
  go_wp2_with fail
  refine C2.out.mono ?_
  rintro e w2 ⟨rfl, B2, F2⟩
  have hF : Fr (fun _ => False) W w2 := by
    have h1 : Fr (fun k => k = W.heap.size) W w2 := (((Fr.refl _ W).alloc _).trans HF1.out (fun k _ e => e)).drew.trans F2 (fun k _ e => e)
    exact h1.mono (fun k hk e => by omega)
  have hg : W.heap.size < w2.heap.size := B2.lt
  obtain ⟨fl, bu, rest, ho, hE⟩ := H.out
  have hE2 : En w2 x rv out := ⟨fl, bu, rest, ho, hE.keep hF (fun _ _ h => h)⟩
  have hno : ¬ Own x rv W.heap.size := fun e => by have := hE.lt _ e; omega
  have C3 := Lib.hid (wwr_any hE2 (cs := le8 n ++ le8 r) (by simp [le8_len]) (by simpa [by8] using B2) hno HL.out)
  have HE2 := Lib.hid (⟨hF.blk HE.out.e (fun h => h), HE.out.o⟩ : Ec w2 x eb rv)
  have c0 := HE2.out.e.cell 0
  simp only [List.getElem?_cons_zero] at c0
  have HF := Lib.hid hF
  clear B2 F2 hF hE hE2 hno ho hg
  go_wp2_with fail
  refine C3.out.mono ?_
  rintro e w3 ⟨rv3, rfl, hE3, hV3⟩
  have HR := Lib.hid (⟨hE3, hV3⟩ : En w3 x rv3 _ ∧ Ev x w2 rv w3 rv3)
  have C4 := Lib.hid (wfl_any hE3 (by have := HL.out; simp [le8_len]; omega))
  have d0 := (HE2.out.go hV3).e.cell 0
  simp only [List.getElem?_cons_zero] at d0
  clear hE3 hV3
  go_wp2_with fail
  refine C4.out.mono ?_
  rintro e w4 ⟨rv4, rest4, rfl, hE4, hV4⟩
  have HR4 := Lib.hid (⟨hE4, hV4⟩ : En0 w4 x rv4 _ [] rest4 _ ∧ Ev x w3 rv3 w4 rv4)
  clear hE4 hV4
  go_wp2
  go_ret
  exact ⟨_, rv4, rest4, rfl, HR4.out.1, ((Ev.refl_fr (HF.out.mono (fun _ _ h => h.elim))).trans HR.out.2).trans HR4.out.2⟩

theorem zfinish_any {W : World} {x : Wb} {eb : Nat} {rv : Value} {out : List Int} (h : En W x rv out) (he : Ec W x eb rv) (n r : Nat) (hn : n ≤ 1000000000) (hr : r ≤ 1000000000) (hlim : out.length ≤ 100000000) :
    Calls Tryd.prog 17 #[.pointer (some ⟨eb, 0, none⟩), .int .i64 n, .int .i64 r] W fun e w' => ∃ cnt, Flu x W rv (out ++ (le8 n ++ le8 r)) cnt e w' := by
  have C := Lib.hid (finish_any h he n r hn hr hlim)
  clear h he hlim
  go_enter Tryd.func17, Tryd.ntmps17
  go_wp2_with fail
  refine C.out.mono ?_
  rintro e w1 ⟨cnt, rv', rest, rfl, hE, hV⟩
  have HE := Lib.hid hE
  have HV := Lib.hid hV
  clear hE hV
  go_wp2
  go_ret
  exact ⟨cnt, rv', rest, rfl, HE.out, HV.out⟩

end Go.Proofs.YtjonmfaeonldcaaDoor.fnStateFor
