/-
  FnStateFor: bufio.Writer: WriteByte; writer: WriteByte, WritePackedUintIn, Flush. Conditions: as stated.
-/
import Derived.Test.YtjonmfaeonldcaaDoorStG
import Derived.Laws.BitsAllLaws
namespace Go.Proofs.YtjonmfaeonldcaaDoor.fnStateFor
open Go.ChangeShapes Go.WideShapes Go.ChangeAt Go.RowKit
set_option linter.unusedVariables false

set_option maxRecDepth 20000 in
set_option maxHeartbeats 800000 in
theorem bwb_full {W : World} {x : Wb} {rv : Value} {fl bu : List Int} {cnt : Int} (h : En0 W x rv fl bu [] cnt) (c : Int) (hlim : fl.length + bu.length ≤ 140737488355328) :
    Calls Tryd.prog 55 #[.pointer (some ⟨x.f, 0, none⟩), .int .u8 c] W (Wr0 x W rv ((fl ++ bu) ++ [c]) cnt .nilIface) := by
  obtain ⟨c0, c1, c2, c3, f2⟩ := f_cells h
  have CA := Lib.hid (avail_any h)
  have hb : bu.length = 4096 := by have := h.len; simp at this; omega
  have CF := Lib.hid (fun k => flush_some (h.drewN k) (by omega) hlim)
  have H := Lib.hid h
  clear h hb
  go_enter Tryd.func55, Tryd.ntmps55
  go_wp2_with fail
  refine CA.out.mono ?_
  rintro e w1 ⟨rfl, n1, rfl⟩
  go_wp2_with fail
  refine (CF.out n1).mono ?_
  rintro e w1 ⟨rv', rest, rfl, hE, hV⟩
  obtain ⟨d0, d1, d2, d3, g2⟩ := f_cells hE
  have hl := hE.len
  simp at hl
  obtain ⟨r, rest', rfl⟩ : ∃ r rest', rest = r :: rest' := by
    match rest, hl with
    | r :: rest', _ => exact ⟨r, rest', rfl⟩
  have hu : w1.cell? ⟨x.u, 0, none⟩ = some (.int .u8 r) := by rw [hE.u.cell]; simp [by8]
  have fu := hE.u.frozen 0
  have hne : ¬ x.f = x.u := hE.fu
  have hne' : ¬ x.u = x.f := fun e => hne e.symm
  have HE := Lib.hid hE
  have HV := Lib.hid hV
  simp only [List.length_nil, Int.natCast_zero] at d2
  clear hE hV hl
  go_wp2
  refine wp_region_still_tail 10 (by kernel_rfl) (by kernel_rfl) ?_
  simp only [List.take_succ_cons, List.take_zero, List.drop_succ_cons, List.drop_zero]
  change wpStill _ _ (World.drew _) _ _ _
  repeat still_step
  refine wpStill_nil ?_
  change wpList _ _ _ _ _ (World.drew _)
  go_wp2
  go_ret
  refine ⟨rv', fl ++ bu, [c], rest', rfl, rfl, ?_, ?_⟩
  · have h1 := HE.out.put c
    simp only [List.length_nil, List.nil_append, List.length_cons] at h1
    exact h1.drewN 1
  · have hV2 : Ev x W rv w1 rv' := (Ev.refl_fr ((Fr.refl _ W).drewN n1)).trans HV.out
    exact hV2.fr_ ((((Fr.refl _ _).set _ _ (.inr (.inr (.inr (.inl rfl))))).set _ _ (.inr (.inr (.inl rfl)))).drew)

theorem bwb_any {W : World} {x : Wb} {rv : Value} {fl bu rest : List Int} {cnt : Int} (h : En0 W x rv fl bu rest cnt) (c : Int) (hlim : fl.length + bu.length ≤ 140737488355328) :
    Calls Tryd.prog 55 #[.pointer (some ⟨x.f, 0, none⟩), .int .u8 c] W (Wr0 x W rv ((fl ++ bu) ++ [c]) cnt .nilIface) := by
  match rest, h with
  | [], h => exact bwb_full h c hlim
  | r :: rest, h => exact bwb_room h c

/-- a byte is written, and counted -/
theorem wwb_any {W : World} {x : Wb} {rv : Value} {out : List Int} (h : En W x rv out) (c : Int) (hlim : out.length ≤ 1000000000) :
    Calls Tryd.prog 44 #[.pointer (some ⟨x.w, 0, none⟩), .int .u8 c] W (Wr x W rv (out ++ [c]) .nilIface) := by
  obtain ⟨fl, bu, rest, rfl, h⟩ := h
  have CB := Lib.hid (bwb_any h c (by simp at hlim; omega))
  have c0 := h.w.cell 0
  simp only [List.getElem?_cons_zero] at c0
  have HL := Lib.hid hlim
  clear h
  generalize hq : ((fl ++ bu).length : Nat) = q at *
  have HQ := Lib.hid hq
  clear hq
  go_enter Tryd.func44, Tryd.ntmps44
  go_wp2_with fail
  refine CB.out.mono ?_
  rintro e w1 ⟨rv', fl', bu', rest', rfl, hout, hE, hV⟩
  have d1 := hE.w.cell 1
  have e1 := hE.w.frozen 1
  simp only [List.getElem?_cons_succ, List.getElem?_cons_zero] at d1
  have HO := Lib.hid hout
  have HE := Lib.hid hE
  have HV := Lib.hid hV
  clear hout hE hV
  go_wp2
  go_ret
  refine ⟨rv', rfl, ⟨fl', bu', rest', HO.out, ?_⟩, HV.out.fr_ ((Fr.refl _ _).set _ _ (.inr (.inl rfl)))⟩
  have h1 := HE.out.count ((fl ++ bu ++ [c]).length : Nat)
  have h2 : (((fl ++ bu ++ [c]).length : Nat) : Int) = (q : Int) + 1 := by rw [List.length_append, HQ.out]; rfl
  rw [h2] at h1 ⊢
  exact h1

theorem byt_eq (v : Int) (i : Nat) : byt v i = v / 2 ^ (8 * i) % 256 := by
  unfold byt
  rw [Int.pow_mul]
  rfl

set_option maxHeartbeats 800000 in
theorem wpk_any {W : World} {x : Wb} {rv : Value} {out : List Int} (h : En W x rv out) (v : Int) (n : Nat) (hn : n ≤ 8) (hv0 : 0 ≤ v) (hv : v ≤ 18446744073709551615) (hlim : out.length ≤ 100000000) :
    Calls Tryd.prog 43 #[.pointer (some ⟨x.w, 0, none⟩), .int .u64 v, .int .i64 n] W (Wr x W rv (out ++ pk v n) .nilIface) := by
  have H := Lib.hid h
  have HL := Lib.hid hlim
  have hw1 : IntKind.i64.wrap ((n : Int) * 8) = (n : Int) * 8 := by rw [IntKind.wrap_i64]; omega
  have hw2 : IntKind.u64.wrap ((n : Int) * 8) = (n : Int) * 8 := by rw [IntKind.wrap_u64]; omega
  clear h hlim
  go_enter Tryd.func43, Tryd.ntmps43
  go_wp2
  go_loopw [7] (fun s wr => ∃ (i : Nat) (rv' : Value), i ≤ n ∧ s = .int .u64 (8 * (i : Int)) ∧ Hid (En wr x rv' (out ++ pk v i) ∧ Ev x W rv wr rv')) (fun s _ => n * 8 - (intOf s).toNat)
  case atStart => exact ⟨0, rv, by omega, rfl, Lib.hid ⟨by simpa [pk] using H.out, Ev.refl _ _ _⟩⟩
  case round =>
    obtain ⟨i, rv', hi, rfl, HE⟩ := hrel
    by_cases hlt : i < n
    · have CB := wwb_any HE.out.1 (byt v i) (by have := HL.out; simp [pk_len]; omega)
      rw [List.append_assoc, ← pk_succ, byt_eq] at CB
      have CB := Lib.hid CB
      have hl1 : (8 * (i : Int)) < (n : Int) * 8 := by omega
      go_wp2_with fail
      refine CB.out.mono ?_
      rintro e w1 ⟨rv2, rfl, hE2, hV2⟩
      have HE2 := Lib.hid (⟨hE2, HE.out.2.trans hV2⟩ : En w1 x rv2 (out ++ pk v (i + 1)) ∧ Ev x W rv w1 rv2)
      clear hE2 hV2 CB
      go_wp2
      go_roundw
      case rel => exact ⟨i + 1, rv2, by omega, by go_num, HE2⟩
      case measure => simp [intOf]; omega
    · obtain rfl : i = n := by omega
      go_wp2
      go_ret
      exact ⟨rv', rfl, HE.out.1, HE.out.2⟩

end Go.Proofs.YtjonmfaeonldcaaDoor.fnStateFor
