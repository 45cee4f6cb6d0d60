/-
  FnStateFor: a state is encoded. Conditions: as stated.
-/
import Derived.Test.YtjonmfaeonldcaaDoorStQ
namespace Go.Proofs.YtjonmfaeonldcaaDoor.fnStateFor
open Go.ChangeShapes Go.WideShapes Go.ChangeAt Go.RowKit
set_option linter.unusedVariables false

theorem stB_many {cd : Int → Int} {S : Int} {f : Bool} {o last : Int} {l : List Arc} (h : f = true ∨ l.length ≠ 1) : stB cd S f o l last = manyB S f o l := by
  unfold stB
  rcases h with rfl | h
  · rfl
  · split
    · match l, h with
      | [], _ => rfl
      | [_], h => exact absurd rfl h
      | _ :: _ :: _, _ => rfl
    · rfl
theorem stB_next {cd : Int → Int} {S o last : Int} {y : Arc} (h : y.2.1 = 0 ∧ y.2.2 = last) : stB cd S false o [y] last = finB cd y.1 64 := by
  show (if y.2.1 = 0 ∧ y.2.2 = last then finB cd y.1 64 else oneB cd S y) = _
  rw [if_pos h]
theorem stB_one {cd : Int → Int} {S o last : Int} {y : Arc} (h : ¬ (y.2.1 = 0 ∧ y.2.2 = last)) : stB cd S false o [y] last = oneB cd S y := by
  show (if y.2.1 = 0 ∧ y.2.2 = last then finB cd y.1 64 else oneB cd S y) = _
  rw [if_neg h]

/-- what is asked of a state -/
structure Ok (S : Nat) (o : Int) (l : List Arc) : Prop where
  n : l.length ≤ 256
  ob : 0 ≤ o ∧ o ≤ 18446744073709551615
  a : okArcs S l
  z : l.length = 0 → o ≠ 0
  s : S ≤ 10000000

set_option maxRecDepth 100000 in
set_option maxHeartbeats 3200000 in
theorem es_any {x : Wb} {eb nb c : Nat} {f : Bool} {o : Int} {a : Option Addr} {l : List Arc} {W : World} {rv : Value} {out : List Int} (h : Cx x ⟨eb, nb, f, o, a, c, l⟩ W rv out) (S : Nat) (hS : S = out.length) (hk : Ok S o l) (last : Int) :
    Calls Tryd.prog 23 #[.pointer (some ⟨eb, 0, none⟩), .pointer (some ⟨nb, 0, none⟩), .int .i64 last] W (Wd x ⟨eb, nb, f, o, a, c, l⟩ W rv (out ++ stB cd S f o l last)) := by
  obtain ⟨hE, -, hn0, hn1, hn2⟩ := h.cells
  simp only at hE hn0 hn1 hn2
  by_cases h1 : f = true ∨ l.length ≠ 1
  · have CM := Lib.hid (many_any h S hS hk.n hk.ob hk.a hk.s)
    rw [← stB_many (cd := cd) (last := last) h1] at CM
    obtain ⟨Q, hQ⟩ : ∃ Q, Q = (out ++ stB cd S f o l last).length := ⟨_, rfl⟩
    have HQ := Lib.hid hQ
    have hz : l.length = 0 → (o == 0) = false := fun e => by rw [beq_eq_false_iff_ne]; exact hk.z e
    clear h hQ hE
    have tail : ∀ (b : Bool), True := fun _ => trivial
    by_cases h0 : l.length = 0
    · have hob := hz h0
      have h00 : ((l.length : Int) == 0) = true := by rw [beq_iff_eq]; omega
      have h01 : ((l.length : Int) != 1) = true := by rw [bne_iff_ne]; omega
      clear hz h0 h1
      generalize l.length = n at *
      cases f
      all_goals
        go_enter Tryd.func23, Tryd.ntmps23
        go_wp2_with fail
        refine CM.out.mono ?_
        rintro e w1 ⟨rv1, he, hC, hV⟩
        rw [← HQ.out] at he
        subst he
        have HC := Lib.hid (And.intro hC hV)
        clear hC hV CM
        go_wp2
        go_ret2
        exact ⟨rv1, by rw [← HQ.out]; rfl, HC.out.1, HC.out.2⟩
    · have h00 : ((l.length : Int) == 0) = false := by rw [beq_eq_false_iff_ne]; omega
      clear hz h0
      by_cases h01 : l.length = 1
      · obtain rfl : f = true := by rcases h1 with h1 | h1; exact h1; exact absurd h01 h1
        have h01b : ((l.length : Int) != 1) = false := by rw [bne_eq_false_iff_eq]; omega
        clear h01 h1
        generalize l.length = n at *
        go_enter Tryd.func23, Tryd.ntmps23
        go_wp2_with fail
        refine CM.out.mono ?_
        rintro e w1 ⟨rv1, he, hC, hV⟩
        rw [← HQ.out] at he
        subst he
        have HC := Lib.hid (And.intro hC hV)
        clear hC hV CM
        go_wp2
        go_ret2
        exact ⟨rv1, by rw [← HQ.out]; rfl, HC.out.1, HC.out.2⟩
      · have h01b : ((l.length : Int) != 1) = true := by rw [bne_iff_ne]; omega
        clear h01 h1
        generalize l.length = n at *
        go_enter Tryd.func23, Tryd.ntmps23
        go_wp2_with fail
        refine CM.out.mono ?_
        rintro e w1 ⟨rv1, he, hC, hV⟩
        rw [← HQ.out] at he
        subst he
        have HC := Lib.hid (And.intro hC hV)
        clear hC hV CM
        go_wp2
        go_ret2
        exact ⟨rv1, by rw [← HQ.out]; rfl, HC.out.1, HC.out.2⟩
  · obtain rfl : f = false := by cases f; rfl; exact absurd (.inl rfl) h1
    obtain ⟨y, rfl⟩ : ∃ y, l = [y] := by
      match l, h1 with
      | [y], _ => exact ⟨y, rfl⟩
      | [], h1 => exact absurd (.inr (by simp)) h1
      | _ :: _ :: _, h1 => exact absurd (.inr (by simp)) h1
    clear h1
    obtain ⟨⟨i1, i2⟩, hyo, hya⟩ := hk.a y (by simp)
    obtain ⟨ad, had, -, -, -⟩ := h.arc 0 Nat.zero_lt_one
    simp only at had
    subst had
    have hn1' := h.node1 rfl rfl
    simp only at hn1'
    obtain ⟨a0, a1, a2⟩ := h.one rfl rfl
    by_cases hlo : y.2.1 = 0 ∧ y.2.2 = last
    · have CM := one1_any h rfl i1 i2 64 (.inr rfl) (by have := hk.s; omega)
      simp only at CM
      rw [← stB_next (cd := cd) (S := S) (o := o) hlo] at CM
      have CM := Lib.hid CM
      obtain ⟨Q, hQ⟩ : ∃ Q, Q = (out ++ stB cd S false o [y] last).length := ⟨_, rfl⟩
      have HQ := Lib.hid hQ
      obtain ⟨hl1, hl2⟩ := hlo
      have e1 : (y.2.1 == 0) = true := by rw [beq_iff_eq]; exact hl1
      have e2 : (y.2.2 == last) = true := by rw [beq_iff_eq]; exact hl2
      obtain ⟨yi, yo, ya⟩ := y
      simp only at *
      clear h hQ hE hn1 hl1 hl2
      go_enter Tryd.func23, Tryd.ntmps23
      go_wp2_with fail
      refine CM.out.mono ?_
      rintro e w1 ⟨rv1, he, hC, hV⟩
      rw [← HQ.out] at he
      subst he
      have HC := Lib.hid (And.intro hC hV)
      clear hC hV CM
      go_wp2
      go_ret2
      exact ⟨rv1, by rw [← HQ.out]; rfl, HC.out.1, HC.out.2⟩
    · have CM := one_any h rfl ⟨i1, i2⟩ hyo (by rw [← hS]; exact hya) (by have := hk.s; omega)
      simp only at CM
      rw [← hS, ← stB_one (cd := cd) (S := S) (o := o) hlo] at CM
      have CM := Lib.hid CM
      obtain ⟨Q, hQ⟩ : ∃ Q, Q = (out ++ stB cd S false o [y] last).length := ⟨_, rfl⟩
      have HQ := Lib.hid hQ
      clear h hQ hE hn1
      by_cases e0 : y.2.1 = 0
      · have e1 : (y.2.1 == 0) = true := by rw [beq_iff_eq]; exact e0
        have e2 : (y.2.2 == last) = false := by rw [beq_eq_false_iff_ne]; exact fun e => hlo ⟨e0, e⟩
        clear hlo e0
        obtain ⟨yi, yo, ya⟩ := y
        simp only at *
        go_enter Tryd.func23, Tryd.ntmps23
        go_wp2_with fail
        refine CM.out.mono ?_
        rintro e w1 ⟨rv1, he, hC, hV⟩
        rw [← HQ.out] at he
        subst he
        have HC := Lib.hid (And.intro hC hV)
        clear hC hV CM
        go_wp2
        go_ret2
        exact ⟨rv1, by rw [← HQ.out]; rfl, HC.out.1, HC.out.2⟩
      · have e1 : (y.2.1 == 0) = false := by rw [beq_eq_false_iff_ne]; exact e0
        clear hlo e0
        obtain ⟨yi, yo, ya⟩ := y
        simp only at *
        go_enter Tryd.func23, Tryd.ntmps23
        go_wp2_with fail
        refine CM.out.mono ?_
        rintro e w1 ⟨rv1, he, hC, hV⟩
        rw [← HQ.out] at he
        subst he
        have HC := Lib.hid (And.intro hC hV)
        clear hC hV CM
        go_wp2
        go_ret2
        exact ⟨rv1, by rw [← HQ.out]; rfl, HC.out.1, HC.out.2⟩

theorem zes_any {x : Wb} {eb nb c : Nat} {f : Bool} {o : Int} {a : Option Addr} {l : List Arc} {W : World} {rv : Value} {out : List Int} (h : Cx x ⟨eb, nb, f, o, a, c, l⟩ W rv out) (S : Nat) (hS : S = out.length) (hk : Ok S o l) (last : Int) :
    Calls Tryd.prog 16 #[.pointer (some ⟨eb, 0, none⟩), .pointer (some ⟨nb, 0, none⟩), .int .i64 last] W (Wd x ⟨eb, nb, f, o, a, c, l⟩ W rv (out ++ stB cd S f o l last)) := by
  have CM := Lib.hid (es_any h S hS hk last)
  obtain ⟨Q, hQ⟩ : ∃ Q, Q = (out ++ stB cd S f o l last).length := ⟨_, rfl⟩
  have HQ := Lib.hid hQ
  clear h hQ hk
  go_enter Tryd.func16, Tryd.ntmps16
  go_wp2_with fail
  refine CM.out.mono ?_
  rintro e w1 ⟨rv1, he, hC, hV⟩
  rw [← HQ.out] at he
  subst he
  have HC := Lib.hid (And.intro hC hV)
  clear hC hV CM
  go_wp2
  go_ret2
  exact ⟨rv1, by rw [← HQ.out]; rfl, HC.out.1, HC.out.2⟩

end Go.Proofs.YtjonmfaeonldcaaDoor.fnStateFor
