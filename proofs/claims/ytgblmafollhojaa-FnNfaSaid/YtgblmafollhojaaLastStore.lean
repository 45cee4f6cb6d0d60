/-
  A region that draws its order and whose last operation stores into what it has loaded: what is loaded first is asked to hold up to that store alone. Conditions: as stated.
-/
import Derived.Test.YtgblmafollhojaaBase
import Derived.OrdersHeld
import Derived.RegionTactic
import Derived.StillTail
namespace Go.Proofs.Ytgblmafollhojaa
open Go.ChangeShapes Go.WideShapes Go.ChangeAt Go.RowKit
set_option linter.unusedVariables false

section
variable {P : Program} {ops : Array Oper} {Q : Exit → Act → World → Prop} {md : Region.Mode} {S : World → Prop} {k : Nat}

/-- whatever order is picked; S holds behind each operation but number k -/
def wpUpto (P : Program) (md : Region.Mode) (ops : Array Oper) (Q : Exit → Act → World → Prop) (S : World → Prop) (k : Nat) : Nat → Array Bool → Act → World → Prop
  | 0, listed, a, w => Region.ready md ops listed = [] ∧ Q .normal a w
  | n + 1, listed, a, w => (Region.ready md ops listed = [] → Q .normal a w) ∧
      ∀ i ∈ Region.ready md ops listed, wpOp P ops Q i (fun a' w' => (i = k ∨ S w') ∧ wpUpto P md ops Q S k n (listed.setIfInBounds i true) a' w') a w

theorem any_of_upto : ∀ (n : Nat) (listed : Array Bool) (a : Act) (w : World), wpUpto P md ops Q S k n listed a w → wpAny P md ops Q n listed a w
  | 0, _, _, _, h => h
  | n + 1, _, _, _, h => ⟨h.1, fun i hi => wpOp_mono (fun a' w' h' => any_of_upto n _ a' w' h'.2) (h.2 i hi)⟩

/-- who waits for i does not come ahead of it -/
theorem not_ready {i j : Nat} {listed : Array Bool} (h : Region.waitsFor md ops j i = true) (hi : i ∈ Region.ready md ops listed) : j ∉ Region.ready md ops listed := by
  intro hj
  obtain ⟨oj, hoj, e, he, hb, rfl⟩ := Region.waitsFor_spec h
  obtain ⟨h1, o, ho, -⟩ := mem_ready.1 hi
  obtain ⟨-, o', ho', hall⟩ := mem_ready.1 hj
  rw [hoj] at ho'
  injection ho' with ho'
  subst ho'
  have h2 := hall e he hb
  rcases Nat.lt_or_ge e.on listed.size with h' | h'
  · simp [h'] at h1 h2
    rw [h1] at h2
    cases h2
  · simp [Array.getElem?_eq_none h'] at h2

theorem upto_first {i : Nat} {oi : Oper} {v : Value} (hi : ops[i]? = some oi) (hsel : ∀ (j : Nat) (o : Oper) cs b, ops[j]? = some o → o.op ≠ .select cs b)
    (hQ : ∀ c a w, Q (.panic c) (a.put oi.dst v) w → Q (.panic c) a w) (hk : Region.waitsFor md ops k i = true) :
    ∀ (n : Nat) (listed : Array Bool) (a : Act) (w : World),
      (∀ j oj, ops[j]? = some oj → j ≠ i → listed.getD j true = false → (∀ e ∈ oj.after, Region.binds md e = true → e.on ≠ i) → oi.apart ops oj = true) →
      i ∈ Region.ready md ops listed → YieldsIf P ops S oi v a → S w →
      wpUpto P md ops Q S k n (listed.setIfInBounds i true) (a.put oi.dst v) w → wpUpto P md ops Q S k (n + 1) listed a w := by
  intro n
  induction n with
  | zero =>
    intro listed a w _ hr hy hS H
    refine ⟨fun h => (by rw [h] at hr; cases hr), fun j hj => ?_⟩
    by_cases hji : j = i
    · subst hji
      exact hy.wpOp hi hS ⟨.inr hS, H⟩
    · have := ready_mono hj hji
      rw [H.1] at this
      cases this
  | succ n ih =>
    intro listed a w hfree hr hy hS H
    refine ⟨fun h => (by rw [h] at hr; cases hr), fun j hj => ?_⟩
    by_cases hji : j = i
    · subst hji
      exact hy.wpOp hi hS ⟨.inr hS, H⟩
    · have hjk : j ≠ k := fun e => not_ready hk hr (e ▸ hj)
      have h1 := H.2 j (ready_mono hj hji)
      obtain ⟨hjun, oj, hoj, hall⟩ := mem_ready.1 hj
      have hnot : ∀ e ∈ oj.after, Region.binds md e = true → e.on ≠ i := fun e he hb heq =>
        not_ready (j := j) (i := i) (by
          unfold Region.waitsFor
          rw [hoj]
          exact Array.any_eq_true'.2 ⟨e, he, by simp [hb, heq]⟩) hr hj
      have h2 := wpOp_putIf hoj (hfree j oj hoj hji hjun hnot) (fun cs b => hsel i oi cs b hi) (fun cs b => hsel j oj cs b hoj) hQ hy h1
      refine wpOp_mono (fun a' w' h3 => ?_) h2
      have hS' : S w' := h3.2.1.resolve_left hjk
      refine ⟨.inr hS', ih (listed.setIfInBounds j true) a' w' (fun k' ok hk' hki hun hno => hfree k' ok hk' hki ?_ hno) (ready_mono hr (Ne.symm hji)) h3.1 hS' ?_⟩
      · by_cases e : j = k'
        · subst e
          exact hjun
        · rw [getD_set_ne true e] at hun
          exact hun
      · rw [Array.setIfInBounds_comm _ _ hji]
        exact h3.2.2

/-- take number i first -/
theorem upto_take {i : Nat} {oi : Oper} {v : Value} {n : Nat} {listed : Array Bool} {a : Act} {w : World} (hi : ops[i]? = some oi)
    (hs : Region.noSelect ops = true) (hk : Region.waitsFor md ops k i = true) (hf : Region.free md ops listed i = true) (hr : (Region.ready md ops listed).contains i = true)
    (hQ : ∀ c a w, Q (.panic c) (a.put oi.dst v) w → Q (.panic c) a w) (hS : S w) (hy : YieldsIf P ops S oi v a)
    (h : wpUpto P md ops Q S k n (listed.setIfInBounds i true) (a.put oi.dst v) w) : wpUpto P md ops Q S k (n + 1) listed a w :=
  upto_first hi (Region.noSelect_spec hs) hQ hk n listed a w (Region.free_spec hi hf) (by simpa using hr) hy hS h

/-- number i alone may come up -/
theorem upto_one {i : Nat} {o : Oper} {n : Nat} {listed : Array Bool} {a : Act} {w : World} (ho : ops[i]? = some o) (hr : Region.ready md ops listed = [i])
    (h : ∀ K' : Act → World → Prop, (∀ a w, (i = k ∨ S w) → wpUpto P md ops Q S k n (listed.setIfInBounds i true) a w → K' a w) → if Region.wanted o (yielded ops a.tmps) = true then Oper.wp P o a w K' Q else K' (a.put o.dst undef) w) :
    wpUpto P md ops Q S k (n + 1) listed a w :=
  ⟨fun h0 => (by rw [hr] at h0; cases h0), fun j hj => by
    rw [hr] at hj
    obtain rfl : j = i := by simpa using hj
    exact wpOp_step ho (fun K' hK => h K' (fun a w h1 h2 => hK a w ⟨h1, h2⟩))⟩

theorem upto_done {listed : Array Bool} {a : Act} {w : World} (hr : Region.ready md ops listed = []) (h : Q .normal a w) : ∀ n, wpUpto P md ops Q S k n listed a w
  | 0 => ⟨hr, h⟩
  | _ + 1 => ⟨fun _ => h, by rw [hr]; simp⟩

theorem wp_region_upto {id : Nat} {a : Act} {w : World} (S : World → Prop) (k : Nat) (hm : P.follows .mixedOrders = true)
    (h : wpUpto P .any ops Q S k ops.size (Array.replicate ops.size false) a w.drew) : (Code.region id ops true).wp P Q a w :=
  wp_region_any hm (any_of_upto _ _ _ _ h)

theorem yields_if {o : Oper} {v : Value} {a : Act} (hw : Region.wanted o (yielded ops a.tmps) = true) (h : ∀ w, S w → (execOp a.eval o).run P w = .ok (.value v) w) : YieldsIf P ops S o v a := .inl ⟨hw, h⟩
theorem yields_not {o : Oper} {a : Act} (hw : Region.wanted o (yielded ops a.tmps) = false) : YieldsIf P ops S o undef a := .inr ⟨hw, rfl⟩
end

end Go.Proofs.Ytgblmafollhojaa
