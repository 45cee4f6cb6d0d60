/-
  FnStateFor: bufio.Writer: Available, Buffered, WriteByte where there is room. Conditions: as stated.
-/
import Derived.Test.YtjonmfaeonldcaaDoorStA
namespace Go.Proofs.YtjonmfaeonldcaaDoor.fnStateFor
open Go.ChangeShapes Go.WideShapes Go.ChangeAt Go.RowKit
set_option linter.unusedVariables false

section
variable {W : World} {x : Wb} {rv : Value} {fl bu rest : List Int} {cnt : Int}
theorem f_cells (h : En0 W x rv fl bu rest cnt) : W.cell? ⟨x.f, 0, none⟩ = some .nilIface ∧ W.cell? ⟨x.f, 1, none⟩ = some (.slice (some ⟨x.u, 0, none⟩) 4096 4096) ∧ W.cell? ⟨x.f, 2, none⟩ = some (.int .i64 bu.length) ∧
    W.cell? ⟨x.f, 3, none⟩ = some (.iface 55 (.pointer (some ⟨x.b, 0, none⟩))) ∧ W.frozen? ⟨x.f, 2, none⟩ = false :=
  ⟨h.f.cell 0, h.f.cell 1, h.f.cell 2, h.f.cell 3, h.f.frozen 2⟩
end

theorem avail_any {W : World} {x : Wb} {rv : Value} {fl bu rest : List Int} {cnt : Int} (h : En0 W x rv fl bu rest cnt) :
    Calls Tryd.prog 53 #[.pointer (some ⟨x.f, 0, none⟩)] W fun e w' => e = .returned (.int .i64 rest.length) ∧ ∃ n, w' = W.drewN n := by
  obtain ⟨c0, c1, c2, c3, f2⟩ := f_cells h
  have hl := h.len
  clear h
  have e1 : IntKind.i64.wrap (4096 - (bu.length : Int)) = rest.length := by rw [IntKind.wrap_i64]; omega
  go_enter Tryd.func53, Tryd.ntmps53
  go_wp2
  go_quiet (fail)
  go_wp2
  go_ret
  exact ⟨rfl, _, rfl⟩

theorem bufd_any {W : World} {x : Wb} {rv : Value} {fl bu rest : List Int} {cnt : Int} (h : En0 W x rv fl bu rest cnt) :
    Calls Tryd.prog 54 #[.pointer (some ⟨x.f, 0, none⟩)] W fun e w' => e = .returned (.int .i64 bu.length) ∧ w' = W := by
  obtain ⟨c0, c1, c2, c3, f2⟩ := f_cells h
  clear h
  go_enter Tryd.func54, Tryd.ntmps54
  go_wp2
  go_ret
  exact ⟨rfl, rfl⟩

set_option maxRecDepth 20000 in
set_option maxHeartbeats 800000 in
theorem bwb_room {W : World} {x : Wb} {rv : Value} {fl bu rest : List Int} {r cnt : Int} (h : En0 W x rv fl bu (r :: rest) cnt) (c : Int) :
    Calls Tryd.prog 55 #[.pointer (some ⟨x.f, 0, none⟩), .int .u8 c] W (Wr0 x W rv ((fl ++ bu) ++ [c]) cnt .nilIface) := by
  obtain ⟨c0, c1, c2, c3, f2⟩ := f_cells h
  obtain ⟨m, hm⟩ : ∃ m : Nat, m = (r :: rest).length := ⟨_, rfl⟩
  have hm0 : (0 : Int) < (m : Int) := by simp at hm; omega
  have CA := avail_any h
  rw [← hm] at CA
  have CA := Lib.hid CA
  have hb : (bu.length : Int) < 4096 := by have := h.len; simp at this; omega
  clear hm
  have hu : W.cell? ⟨x.u, bu.length, none⟩ = some (.int .u8 r) := by rw [h.u.cell]; simp [by8]
  have fu := h.u.frozen bu.length
  have hne : ¬ x.f = x.u := h.fu
  have hne' : ¬ x.u = x.f := fun e => hne e.symm
  have H := Lib.hid h
  clear h
  go_enter Tryd.func55, Tryd.ntmps55
  go_wp2_with fail
  refine CA.out.mono ?_
  rintro e w1 ⟨rfl, n1, rfl⟩
  go_wp2
  refine wp_region_still_tail 10 (by kernel_rfl) (by kernel_rfl) ?_
  simp only [List.take_succ_cons, List.take_zero, List.drop_succ_cons, List.drop_zero]
  change wpStill _ _ (World.drew _) _ _ _
  repeat still_step
  refine wpStill_nil ?_
  change wpList _ _ _ _ _ (World.drew _)
  go_wp2
  go_ret
  refine ⟨rv, fl, bu ++ [c], rest, rfl, by simp, ?_, Ev.refl_fr ?_⟩
  · have h1 := (H.out.drewN (n1 + 1)).put c
    simpa using h1
  · exact (((Fr.refl _ _).drewN _).set _ _ (.inr (.inr (.inr (.inl rfl))))).set _ _ (.inr (.inr (.inl rfl)))

end Go.Proofs.YtjonmfaeonldcaaDoor.fnStateFor
