/-
  FnStateFor: a state is read: at, stateAt. Conditions: as stated.
-/
import Derived.Test.YtjonmfaeonldcaaDoorStRd
namespace Go.Proofs.YtjonmfaeonldcaaDoor.fnStateFor
open Go.ChangeShapes Go.WideShapes Go.ChangeAt Go.RowKit
set_option linter.unusedVariables false

def zeroL : List Value := [.slice none 0 0, .int .i64 0, .int .i64 0, .int .i64 0, .int .u8 0, .bool false, .int .u64 0, .int .u64 0, .int .i64 0, .int .i64 0, .bool false, .int .i64 0, .int .i64 0, .int .i64 0, .int .i64 0, .int .i64 0, .int .i64 0, .int .i64 0]

set_option maxRecDepth 100000 in
set_option maxHeartbeats 1600000 in
theorem at_any {W : World} {N g n cap t : Nat} {D : List Int} {hd : Int} {b : Bool} {l : List Arc} (hB : Blk W N 78 zeroL) (hD : Dt W g D) (hn : n = D.length) (hg : g < W.heap.size) (hgN : g ≠ N) (ht : At D t [hd])
    (hb : hd / 128 = if b then 1 else 0) (hd0 : 0 ≤ hd) (hd1 : hd ≤ 255) (hcap : n ≤ cap) (hmax : n ≤ 100000000) (h16 : 16 ≤ t)
    (hS : b = true → ∀ W1, Blk W1 N 78 (begL g n cap t) ∧ Fr (fun k => k = N) W W1 → Calls Tryd.prog 37 #[.pointer (some ⟨N, 0, none⟩), .slice (some ⟨g, 0, none⟩) n cap, .int .i64 t] W1 (RdS N l W1))
    (hM : b = false → ∀ W1, Blk W1 N 78 (begL g n cap t) ∧ Fr (fun k => k = N) W W1 → Calls Tryd.prog 38 #[.pointer (some ⟨N, 0, none⟩), .slice (some ⟨g, 0, none⟩) n cap, .int .i64 t] W1 (RdS N l W1)) :
    Calls Tryd.prog 25 #[.pointer (some ⟨N, 0, none⟩), .slice (some ⟨g, 0, none⟩) n cap, .int .i64 t] W (RdS N l W) := by
  have c0 := hB.cell 0
  have c1 := hB.cell 1
  have c2 := hB.cell 2
  have f := hB.frozen
  simp only [zeroL, List.getElem?_cons_zero, List.getElem?_cons_succ] at c0 c1 c2
  have htn : (t : Int) < (n : Int) := by have := ht.len; simp at this; omega
  have hle : ¬ (n : Int) < (t : Int) := by omega
  have h161 : ¬ (t : Int) < 16 := by omega
  have ht0 : ((t : Int) == 0) = false := by rw [beq_eq_false_iff_ne]; omega
  have ht1 : ((t : Int) == 1) = false := by rw [beq_eq_false_iff_ne]; omega
  have HB := Lib.hid hB
  have mixed : Tryd.prog.follows .mixedOrders = true := by kernel_rfl
  have HI := Lib.hid (fun (W1 : World) (h : Blk W1 N 78 (begL g n cap t) ∧ Fr (fun k => k = N) W W1) => ies_any (b := b) (h.1.cell 0) (h.1.cell 1) ⟨fun i hi => (h.2.cell_ne hg hgN ⟨g, i, none⟩ rfl).trans (hD.c i hi)⟩ hn ht hb hd0 hd1 hmax)
  cases b
  · have HM := Lib.hid (fun (W1 : World) (h : Blk W1 N 78 (begL g n cap t) ∧ Fr (fun k => k = N) W W1) => (hM rfl W1 h).mono (fun e w' q => show e = .returned .nilIface ∧ Hid (Fr (fun k => k = N) W w' ∧ Rd w' N l) from ⟨q.1, Lib.hid ⟨h.2.trans q.2.1 (fun _ _ e => e), q.2.2⟩⟩))
    clear hB hD ht hn hb hS hM
    go_enter Tryd.func25, Tryd.ntmps25
    go_wp2_with (first
      | (go_at_call 36; refine (HI.out _ (cut_end (by
          apply Exists.intro
          refine ⟨?_, ?_⟩
          · (repeat (with_reducible (first | exact HB.out | apply Blk.set_ | apply Blk.drewN | apply Blk.drew)))
          · rfl) (by (repeat (with_reducible (first | exact Fr.refl _ _ | refine Fr.set ?_ _ _ (by rfl) | apply Fr.drewN | apply Fr.drew)))))).mono ?_; rintro e w1 ⟨rfl, k1, rfl⟩)
      | (go_at_call 38; refine (HM.out _ (cut_end (by
          apply Exists.intro
          refine ⟨?_, ?_⟩
          · (repeat (with_reducible (first | exact HB.out | apply Blk.set_ | apply Blk.drewN | apply Blk.drew)))
          · rfl) (by (repeat (with_reducible (first | exact Fr.refl _ _ | refine Fr.set ?_ _ _ (by rfl) | apply Fr.drewN | apply Fr.drew)))))).mono ?_; rintro e w2 ⟨rfl, hq⟩)
      | fail)
    go_ret
    exact ⟨rfl, hq.out⟩
  · have HM := Lib.hid (fun (W1 : World) (h : Blk W1 N 78 (begL g n cap t) ∧ Fr (fun k => k = N) W W1) => (hS rfl W1 h).mono (fun e w' q => show e = .returned .nilIface ∧ Hid (Fr (fun k => k = N) W w' ∧ Rd w' N l) from ⟨q.1, Lib.hid ⟨h.2.trans q.2.1 (fun _ _ e => e), q.2.2⟩⟩))
    clear hB hD ht hn hb hS hM
    go_enter Tryd.func25, Tryd.ntmps25
    go_wp2_with (first
      | (go_at_call 36; refine (HI.out _ (cut_end (by
          apply Exists.intro
          refine ⟨?_, ?_⟩
          · (repeat (with_reducible (first | exact HB.out | apply Blk.set_ | apply Blk.drewN | apply Blk.drew)))
          · rfl) (by (repeat (with_reducible (first | exact Fr.refl _ _ | refine Fr.set ?_ _ _ (by rfl) | apply Fr.drewN | apply Fr.drew)))))).mono ?_; rintro e w1 ⟨rfl, k1, rfl⟩)
      | (go_at_call 37; refine (HM.out _ (cut_end (by
          apply Exists.intro
          refine ⟨?_, ?_⟩
          · (repeat (with_reducible (first | exact HB.out | apply Blk.set_ | apply Blk.drewN | apply Blk.drew)))
          · rfl) (by (repeat (with_reducible (first | exact Fr.refl _ _ | refine Fr.set ?_ _ _ (by rfl) | apply Fr.drewN | apply Fr.drew)))))).mono ?_; rintro e w2 ⟨rfl, hq⟩)
      | fail)
    go_ret
    exact ⟨rfl, hq.out⟩

theorem beg_some {W : World} {N : Nat} (g n cap t : Nat) (hB : Blk W N 78 zeroL) : ∃ W1, Blk W1 N 78 (begL g n cap t) ∧ Fr (fun k => k = N) W W1 := by
  have h1 : Fr (fun k => k = N) W (W.setCell ⟨N, 0, none⟩ (.slice (some ⟨g, 0, none⟩) n cap)) := (Fr.refl (fun k => k = N) W).set _ _ rfl
  have h2 : Fr (fun k => k = N) W ((W.setCell ⟨N, 0, none⟩ (.slice (some ⟨g, 0, none⟩) n cap)).setCell ⟨N, 1, none⟩ (.int .i64 t)) := h1.set ⟨N, 1, none⟩ _ rfl
  have h3 : Fr (fun k => k = N) W (((W.setCell ⟨N, 0, none⟩ (.slice (some ⟨g, 0, none⟩) n cap)).setCell ⟨N, 1, none⟩ (.int .i64 t)).setCell ⟨N, 2, none⟩ (.int .i64 t)) := h2.set ⟨N, 2, none⟩ _ rfl
  exact ⟨_, cut_end ⟨_, ((hB.set_ 0 _).set_ 1 _).set_ 2 _, rfl⟩ h3⟩

/-- what a state's bytes are told by: one arc in short, or any number -/
theorem state_any {W : World} {N g n cap t S : Nat} {D : List Int} {o last : Int} {f : Bool} {l : List Arc} (hB : Blk W N 78 zeroL) (hD : Dt W g D) (hn : n = D.length) (hg : g < W.heap.size) (hgN : g ≠ N) (hcap : n ≤ cap) (hmax : n ≤ 100000000)
    (h16 : 16 ≤ S) (hT : ∀ w, Fr (fun k => k = N) W w → Tabs w) (hA : At D S (stB cd S f o l last)) (ht : t + 1 = S + (stB cd S f o l last).length)
    (hm : l.length ≤ 256) (hl : ∀ x ∈ l, okArc S x) (hr : ∀ j k (hj : j < l.length) (hk : k < l.length), k < j → l[j].1 ≠ l[k].1) (hlast : ∀ y, l = [y] → y.2.1 = 0 ∧ y.2.2 = last → y.2.2 = (S : Int) - 1) :
    Calls Tryd.prog 25 #[.pointer (some ⟨N, 0, none⟩), .slice (some ⟨g, 0, none⟩) n cap, .int .i64 t] W (RdS N l W) := by
  have hlen := stB_len cd S f o l last hm
  have h16t : 16 ≤ t := by omega
  have hP : ∀ W1, Blk W1 N 78 (begL g n cap t) ∧ Fr (fun k => k = N) W W1 → Pl W1 N g n cap t D := fun W1 h =>
    ⟨h.1, h.2.dt hD hg hgN, hn, Nat.lt_of_lt_of_le hg h.2.size, hgN, hcap, hmax, h16t, fun w hw => hT w (h.2.trans hw (fun _ _ e => e))⟩
  by_cases h1 : f = true ∨ l.length ≠ 1
  · rw [stB_many h1] at hA ht
    obtain ⟨W1, hW1⟩ : ∃ W1, Blk W1 N 78 (begL g n cap t) ∧ Fr (fun k => k = N) W W1 := beg_some g n cap t hB
    obtain ⟨hd, a1, a2, a3, a4⟩ := (many_state (hP W1 hW1) hA ht hm hl hr).2
    exact at_any (b := false) hB hD hn hg hgN a1 a2 a3 a4 hcap hmax h16t (fun h => by cases h) (fun _ W1 h => (many_state (hP W1 h) hA ht hm hl hr).1)
  · have hf : f = false := by cases f <;> simp_all
    have hl1 : l.length = 1 := by
      by_cases h : l.length = 1
      · exact h
      · exact absurd (.inr h) h1
    subst hf
    match l, hl1 with
    | [y], _ =>
      obtain ⟨W1, hW1⟩ : ∃ W1, Blk W1 N 78 (begL g n cap t) ∧ Fr (fun k => k = N) W W1 := beg_some g n cap t hB
      have hy := hl y (by simp)
      obtain ⟨hd, a1, a2, a3, a4⟩ := (one_state (hP W1 hW1) hA ht hy (hlast y rfl) h16).2
      exact at_any (b := true) hB hD hn hg hgN a1 a2 a3 a4 hcap hmax h16t (fun _ W1 h => (one_state (hP W1 h) hA ht hy (hlast y rfl) h16).1) (fun h => by cases h)

end Go.Proofs.YtjonmfaeonldcaaDoor.fnStateFor
