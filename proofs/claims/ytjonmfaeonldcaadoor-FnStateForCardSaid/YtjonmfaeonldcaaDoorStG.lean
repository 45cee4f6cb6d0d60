/-
  FnStateFor: bufio.Writer: Flush; WriteByte. Conditions: as stated.
-/
import Derived.Test.YtjonmfaeonldcaaDoorStB
namespace Go.Proofs.YtjonmfaeonldcaaDoor.fnStateFor
open Go.ChangeShapes Go.WideShapes Go.ChangeAt Go.RowKit
set_option linter.unusedVariables false

/-- all is in the Buffer -/
def Flu (x : Wb) (W : World) (rv : Value) (out : List Int) (cnt : Int) (e : Ending) (w' : World) : Prop := ∃ rv' rest, e = .returned .nilIface ∧ En0 w' x rv' out [] rest cnt ∧ Ev x W rv w' rv'

section
variable {W w1 : World} {x : Wb} {rv rv' : Value} {fl bu rest : List Int} {cnt : Int}
/-- the writer behind its Buffer's Write -/
theorem En0.wrote (h : En0 W x rv fl bu rest cnt) {e : Ending} (hw : Bf w1 x.b rv' (fl ++ bu)) (hf : Fr (fun k => k = x.b ∨ rv.ownBlock = some k) W w1) (hs : ∀ k, rv'.ownBlock = some k → rv.ownBlock = some k ∨ W.heap.size ≤ k) :
    En0 (w1.setCell ⟨x.f, 2, none⟩ (.int .i64 0)) x rv' (fl ++ bu) [] (bu ++ rest) cnt ∧ Ev x W rv (w1.setCell ⟨x.f, 2, none⟩ (.int .i64 0)) rv' := by
  have nf : ¬ (x.f = x.b ∨ rv.ownBlock = some x.f) := by rintro (e | e); exact h.bf_ e.symm; exact h.rf e
  have nw : ¬ (x.w = x.b ∨ rv.ownBlock = some x.w) := by rintro (e | e); exact h.bw e.symm; exact h.rw_ e
  have nu : ¬ (x.u = x.b ∨ rv.ownBlock = some x.u) := by rintro (e | e); exact h.bu_ e.symm; exact h.ru e
  have hf1 := hf.blk h.f nf
  have hne : rv'.ownBlock ≠ some x.f := by
    intro e
    rcases hs _ e with e | e
    · exact h.rf e
    · have := h.f.lt; omega
  obtain ⟨lr, hb⟩ := hw.s
  refine ⟨{ bf := ⟨⟨lr, hb.far h.bf_ _⟩, own_set hw.row _ _ hne, hw.z⟩, w := (hf.blk h.w nw).far h.wf _, f := hf1.set_ 2 _, u := (hf.blk h.u nu).far (fun e => h.fu e.symm) _, len := by simpa using h.len, ru := fun e => ?_ }, ?_⟩
  · rcases hs _ e with e | e
    · exact h.ru e
    · have := h.u.lt; omega
  · refine ⟨(hf.mono (fun k _ e => ?_)).set _ _ (.inr (.inr (.inl rfl))), hs⟩
    rcases e with e | e
    · exact .inl e
    · exact .inr (.inr (.inr (.inr e)))
theorem En0.cells1 (h : En0 W x rv fl bu rest cnt) (hf : Fr (fun k => k = x.b ∨ rv.ownBlock = some k) W w1) : w1.cell? ⟨x.f, 1, none⟩ = some (.slice (some ⟨x.u, 0, none⟩) 4096 4096) ∧ w1.cell? ⟨x.f, 2, none⟩ = some (.int .i64 bu.length) ∧
    w1.cell? ⟨x.f, 3, none⟩ = some (.iface 55 (.pointer (some ⟨x.b, 0, none⟩))) ∧ w1.frozen? ⟨x.f, 2, none⟩ = false := by
  have nf : ¬ (x.f = x.b ∨ rv.ownBlock = some x.f) := by rintro (e | e); exact h.bf_ e.symm; exact h.rf e
  have hf1 := hf.blk h.f nf
  exact ⟨hf1.cell 1, hf1.cell 2, hf1.cell 3, hf1.frozen 2⟩
end

theorem write_drew {W : World} {b u c : Nat} {v : Value} {fl cs : List Int} {r : List Value} (h : Bf W b v fl) (hn : 1 ≤ cs.length) (hu : Blk W u 5 (by8 cs ++ r)) (hub : u ≠ b) (hvu : v.ownBlock ≠ some u) (hlim : fl.length + cs.length ≤ 140737488355328) :
    Calls Tryd.prog 75 #[.pointer (some ⟨b, 0, none⟩), .slice (some ⟨u, 0, none⟩) cs.length c] W.drew (Wrote W b cs.length v (fl ++ cs)) := by
  refine (write_any (W := W.drew) (v := v) ⟨h.s, h.row, h.z⟩ hn hu hub hvu hlim).mono ?_
  rintro e w' ⟨rfl, v', hB, hf, hs⟩
  exact ⟨rfl, v', hB, ⟨hf.os, hf.tape, hf.output, hf.size, hf.block⟩, hs⟩

theorem flush_none {W : World} {x : Wb} {rv : Value} {fl rest : List Int} {cnt : Int} (h : En0 W x rv fl [] rest cnt) :
    Calls Tryd.prog 48 #[.pointer (some ⟨x.f, 0, none⟩)] W (Flu x W rv fl cnt) := by
  obtain ⟨c0, c1, c2, c3, f2⟩ := f_cells h
  have H := Lib.hid h
  clear h
  go_enter Tryd.func48, Tryd.ntmps48
  go_wp2
  go_ret
  exact ⟨rv, rest, rfl, H.out, Ev.refl _ _ _⟩

set_option maxRecDepth 100000 in
set_option maxHeartbeats 1600000 in
theorem flush_some {W : World} {x : Wb} {rv : Value} {fl bu rest : List Int} {cnt : Int} (h : En0 W x rv fl bu rest cnt) (hn : 1 ≤ bu.length) (hlim : fl.length + bu.length ≤ 140737488355328) :
    Calls Tryd.prog 48 #[.pointer (some ⟨x.f, 0, none⟩)] W (Flu x W rv (fl ++ bu) cnt) := by
  obtain ⟨c0, c1, c2, c3, f2⟩ := f_cells h
  have hu0 : Blk W x.u 5 (by8 bu ++ by8 rest) := by
    have := h.u
    simpa [by8] using this
  have CW := Lib.hid (write_drew (W := W) (c := 4096) h.bf hn hu0 (fun e => h.bu_ e.symm) h.ru hlim)
  have hb0 : ¬ (bu.length : Int) = 0 := by omega
  have hb1 : ((bu.length : Int) == 0) = false := by rw [beq_eq_false_iff_ne]; omega
  have hb2 : (bu.length : Int) ≤ 4096 := by have := h.len; omega
  have hb3 : (0 : Int) ≤ (bu.length : Int) := by omega
  have mixed : Tryd.prog.follows .mixedOrders = true := by kernel_rfl
  have H := Lib.hid h
  clear h hu0
  go_enter Tryd.func48, Tryd.ntmps48
  go_wp2
  go_region_with_o (go_at_call 75; refine CW.out.mono ?_; rintro e w1 ⟨rfl, rv', hB, hf, hs⟩; have HW := Lib.hid (H.out.wrote (e := .returned .nilIface) hB hf hs); have HC := Lib.hid (H.out.cells1 hf); have d1 := HC.out.1; have d2 := HC.out.2.1; have d3 := HC.out.2.2.1; have e2 := HC.out.2.2.2; clear hB hf hs HC)
  all_goals
    go_wp2
    go_ret
    exact ⟨rv', bu ++ rest, rfl, HW.out.1, HW.out.2⟩

end Go.Proofs.YtjonmfaeonldcaaDoor.fnStateFor
