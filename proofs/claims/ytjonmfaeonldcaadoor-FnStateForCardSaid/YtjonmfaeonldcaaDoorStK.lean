/-
  FnStateFor: an encoder is made; a node, an arc. Conditions: as stated.
-/
import Derived.Test.YtjonmfaeonldcaaDoorStJ
namespace Go.Proofs.YtjonmfaeonldcaaDoor.fnStateFor
open Go.ChangeShapes Go.WideShapes Go.ChangeAt Go.RowKit
set_option linter.unusedVariables false

theorem run4096 : ∀ u : World, (Instr.makeSlice 34 (.int .i64 4096) (.int .i64 4096)).run Tryd.prog u = .ok (.slice (some ⟨u.heap.size, 0, none⟩) 4096 4096) (u.alloc (.cells (madeCells #[.int .u8 0] 4096) 5)) := fun u => by
  obtain ⟨i0, hi, hz0, hz1, hz2⟩ := info_parts info8
  have h := run_make (P := Tryd.prog) u 34 5 i0 (.int .u8 0) Tryd.underlying34 hi hz0 .i64 .i64 4096 4096 (by omega) (Int.le_refl _) (by rw [hz2]; omega) (by omega)
  simpa [hz1, Value.cells] using h
theorem made4096 (W : World) : Blk (W.alloc (.cells (madeCells #[.int .u8 0] 4096) 5)) W.heap.size 5 (List.replicate 4096 (Value.int .u8 0)) := by
  have h : (madeCells #[Value.int .u8 0] 4096) = (List.replicate 4096 (Value.int .u8 0)).toArray := by
    apply Array.ext'
    rw [made_one]
  rw [h]
  exact Blk.new W _ _

/-- a bufio.Writer over a Buffer is made -/
theorem nws_any {W : World} (b : Nat) : Calls Tryd.prog 52 #[.iface 55 (.pointer (some ⟨b, 0, none⟩)), .int .i64 4096] W fun e w' =>
    e = .returned (.pointer (some ⟨W.heap.size + 1, 0, none⟩)) ∧ Blk w' W.heap.size 5 (List.replicate 4096 (Value.int .u8 0)) ∧
      Blk w' (W.heap.size + 1) 115 [.nilIface, .slice (some ⟨W.heap.size, 0, none⟩) 4096 4096, .int .i64 0, .iface 55 (.pointer (some ⟨b, 0, none⟩))] ∧ Below W.heap.size W w' := by
  have hmk := run4096
  have HB := Lib.hid (made4096 W)
  obtain ⟨M, hM⟩ : ∃ M, M = madeCells #[Value.int .u8 0] 4096 := ⟨_, rfl⟩
  rw [← hM] at hmk HB
  have hta : ∀ w, (Instr.typeAssert (.iface 55 (.pointer (some ⟨b, 0, none⟩))) 66 94 true).run Tryd.prog w = .ok (.tuple #[.pointer none, .bool false]) w := fun w => by kernel_rfl
  clear hM
  go_enter Tryd.func52, Tryd.ntmps52
  go_wp2
  go_ret
  refine ⟨rfl, HB.out.alloc _, ?_, ((Below.refl _ _).alloc (Nat.le_refl _) _).alloc (by simp) _⟩
  have h := Blk.new (W.alloc (.cells M 5)) 115 [.nilIface, .slice (some ⟨W.heap.size, 0, none⟩) 4096 4096, .int .i64 0, .iface 55 (.pointer (some ⟨b, 0, none⟩))]
  simpa using h

/-- .. and an encoder over it -/
def Mk (W : World) (b : Nat) (e : Ending) (w' : World) : Prop :=
  ∃ (x : Wb) (eb : Nat), x.b = b ∧ e = .returned (.pointer (some ⟨eb, 0, none⟩)) ∧ En w' x (.slice none 0 0) [] ∧ Ec w' x eb (.slice none 0 0) ∧ Below W.heap.size W w' ∧ W.heap.size ≤ x.w ∧ W.heap.size ≤ x.f ∧ W.heap.size ≤ x.u ∧ W.heap.size ≤ eb

theorem mk_end {W w1 : World} {b : Nat} (h : Bf W b (.slice none 0 0) []) (hb : Blk w1 W.heap.size 5 (List.replicate 4096 (Value.int .u8 0)) ∧
      Blk w1 (W.heap.size + 1) 115 [.nilIface, .slice (some ⟨W.heap.size, 0, none⟩) 4096 4096, .int .i64 0, .iface 55 (.pointer (some ⟨b, 0, none⟩))] ∧ Below W.heap.size W w1) :
    Mk W b (.returned (.pointer (some ⟨w1.heap.size + 1, 0, none⟩))) ((w1.alloc (.cells #[.pointer (some ⟨W.heap.size + 1, 0, none⟩), .int .i64 0] 97)).alloc (.cells #[.pointer (some ⟨w1.heap.size, 0, none⟩)] 85)) := by
  obtain ⟨h1, h2, h3⟩ := hb
  have e8 : by8 ([] ++ List.replicate 4096 0) = List.replicate 4096 (Value.int .u8 0) := by unfold by8; rw [List.nil_append, List.map_replicate]
  have hlt := h.s.lt
  have hs := h1.lt
  have hs2 := h2.lt
  obtain ⟨lr, hbk⟩ := h.s
  have b1 : Blk w1 b 52 [.slice none 0 0, .int .i64 0, .int .i8 lr] := hbk.below h3 hlt
  have w0 := Blk.new w1 97 [.pointer (some ⟨W.heap.size + 1, 0, none⟩), .int .i64 0]
  have e0 := Blk.new (w1.alloc (.cells #[.pointer (some ⟨W.heap.size + 1, 0, none⟩), .int .i64 0] 97)) 85 [.pointer (some ⟨w1.heap.size, 0, none⟩)]
  have hsz : (w1.alloc (.cells #[.pointer (some ⟨W.heap.size + 1, 0, none⟩), .int .i64 0] 97)).heap.size = w1.heap.size + 1 := by simp
  rw [hsz] at e0
  refine ⟨⟨b, w1.heap.size, W.heap.size + 1, W.heap.size⟩, w1.heap.size + 1, rfl, rfl, ⟨[], [], List.replicate 4096 0, rfl, ?_⟩, ⟨e0, ?_⟩, (h3.alloc (by omega) _).alloc (by rw [hsz]; omega) _, by show _ ≤ w1.heap.size; omega, by show _ ≤ W.heap.size + 1; omega, Nat.le_refl _, by omega⟩
  · exact { bf := ⟨⟨lr, (b1.alloc _).alloc _⟩, World.ownsRow_nil _ _ _ _, fun _ => rfl⟩, w := w0.alloc _, f := (h2.alloc _).alloc _, u := by rw [e8]; exact (h1.alloc _).alloc _, len := by rw [List.length_replicate]; rfl, ru := by simp [Value.ownBlock] }
  · rintro (e | e | e | e | e)
    · simp only at e; omega
    · simp only at e; omega
    · simp only at e; omega
    · simp only at e; omega
    · simp [Value.ownBlock] at e

set_option maxHeartbeats 800000 in
theorem nenc_any {W : World} {b : Nat} (h : Bf W b (.slice none 0 0) []) : Calls Tryd.prog 21 #[.iface 55 (.pointer (some ⟨b, 0, none⟩))] W (Mk W b) := by
  have C := Lib.hid (nws_any (W := W) b)
  have H := Lib.hid h
  clear h
  go_enter Tryd.func21, Tryd.ntmps21
  go_wp2_with fail
  go_in
  go_wp2_with fail
  go_in
  go_wp2_with fail
  refine C.out.mono ?_
  rintro e w1 ⟨rfl, B1, B2, hb⟩
  have HB := Lib.hid (⟨B1, B2, hb⟩ : Blk w1 _ _ _ ∧ Blk w1 _ _ _ ∧ Below _ _ _)
  clear B1 B2 hb
  go_wp2
  go_ret
  exact mk_end H.out HB.out

theorem zenc_any {W : World} {b : Nat} (h : Bf W b (.slice none 0 0) []) : Calls Tryd.prog 12 #[.iface 55 (.pointer (some ⟨b, 0, none⟩))] W (Mk W b) := by
  have C := Lib.hid (nenc_any h)
  clear h
  go_enter Tryd.func12, Tryd.ntmps12
  go_wp2_with fail
  refine C.out.mono ?_
  rintro e w1 ⟨x, eb, hx, rfl, hr⟩
  have HR := Lib.hid hr
  have HX := Lib.hid hx
  clear hr hx
  go_wp2
  go_ret
  exact ⟨x, eb, HX.out, rfl, HR.out⟩

end Go.Proofs.YtjonmfaeonldcaaDoor.fnStateFor
