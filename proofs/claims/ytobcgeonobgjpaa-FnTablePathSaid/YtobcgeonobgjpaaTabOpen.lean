/-
  FnTablePath: a table as an argument, opened. Conditions: none.
-/
import Derived.Test.YtobcgeonobgjpaaOpen
import Derived.Lib.SmallJoins
namespace Go.Proofs.Ytobcgeonobgjpaa.fnTablePath
open Go.ChangeShapes Go.WideShapes Go.ChangeAt Go.RowKit
set_option linter.unusedVariables false

/-- a field that is a slice whose elements take k cells each; an element's reading tells where what it names lies -/
theorem open_slice_field2 {H : Type} {enc : TypeId × Value → H} {P : Program} {w : World} {α : Type} (f : α → List Value) (k : Nat) (good : α → Prop) (hk : ∀ x, (f x).length = k) (hk0 : 0 < k)
    {t e : TypeId} {base B : Nat} {v : Value} {y : DataW H × List MemPlace} {n : Nat} (ht : P.underlying t = some (.slice e)) (hc : P.cellsOf e = k)
    (hread : ∀ fuel cs y, cs.length = k → (∀ x ∈ y.2, x.block < B) → DataW.trod enc P w base (fun _ => true) true fuel e cs = some y → ∃ x, cs = f x ∧ good x)
    (hd : DataW.trod enc P w base (fun _ => true) true n t [v] = some y) (hlt : ∀ x ∈ y.2, x.block < B) :
    ∃ (a : Option Addr) (c : Nat) (l : List α), v = .slice a l.length c ∧ l.length ≤ c ∧ c ≤ maxLen ∧ (∀ x ∈ l, good x) ∧ Sl w B a (l.flatMap f) := by
  rcases Deep.open_slice ht hd with ⟨hcs, hx⟩ | ⟨a, len, cap, m, n', D, Pl, hcs, _, hl, hm, hmm, hx, hi⟩
  · simp at hcs
    subst hcs
    exact ⟨none, 0, [], rfl, Nat.le_refl _, by simp [maxLen], by simp, Sl.nil⟩
  · simp at hcs
    subst hcs
    simp only [if_true] at hmm
    subst hmm
    subst hx
    rw [hc] at hlt hi
    obtain ⟨l, hll, hlp⟩ := choose_list (p := fun i x => good x ∧ w.cells? base (a.add (i * k)) k = some (f x)) len (fun i hi' => by
      obtain ⟨cs', hcs', htr⟩ := hi i (by omega)
      obtain ⟨_, hcl, _⟩ := World.cells?_some hcs'
      obtain ⟨x, rfl, hg⟩ := hread _ _ _ hcl (fun x hx => hlt x (List.mem_append_right _ (List.mem_flatMap.2 ⟨i, List.mem_range.2 (by omega), hx⟩))) htr
      exact ⟨x, hg, hcs'⟩)
    refine ⟨some a, m, l, by rw [hll], by omega, hm, fun x hx' => ?_, fun j u hu => ⟨a, rfl, ?_, ?_⟩⟩
    · obtain ⟨i, hi', rfl⟩ := List.getElem_of_mem hx'
      exact (hlp i _ (List.getElem?_eq_getElem hi')).1
    · have hj : j < (l.flatMap f).length := (List.getElem?_eq_some_iff.1 hu).1
      rw [flat_len f k hk, hll] at hj
      have hpos : 0 < m * k := by
        have h1 : 0 < len * k := by omega
        exact Nat.lt_of_lt_of_le h1 (Nat.mul_le_mul_right k hl)
      have hin : MemPlace.cell a.block (a.off + 0) ∈ MemPlace.row a (m * k) := by
        simp only [MemPlace.row, List.mem_map, List.mem_range]
        exact ⟨0, hpos, rfl⟩
      have := hlt _ (List.mem_append_left _ hin)
      simpa [MemPlace.block] using this
    · have hj : j < (l.flatMap f).length := (List.getElem?_eq_some_iff.1 hu).1
      rw [flat_len f k hk, hll] at hj
      have hdm : j / k * k + j % k = j := Nat.div_add_mod' j k
      have hq : j / k < len := (Nat.div_lt_iff_lt_mul hk0).2 hj
      have hr : j % k < k := Nat.mod_lt _ hk0
      rw [← hdm, flat_get f k hk l _ _ hr, List.getElem?_eq_getElem (by omega)] at hu
      have h2 := (hlp (j / k) _ (List.getElem?_eq_getElem (by omega))).2
      obtain ⟨_, _, h3⟩ := World.cells?_some h2
      have h4 := h3 (j % k) hr
      rw [Deep.add_add, hdm] at h4
      rw [h4]
      exact hu

theorem flat_one {α : Type} (g : α → Value) (l : List α) : l.flatMap (fun x => [g x]) = l.map g := by
  induction l with
  | nil => rfl
  | cons x l ih => simp [ih]

section
variable {H : Type} {enc : TypeId × Value → H} {w : World} {base b0 B : Nat}
theorem open_ints_f {v : Value} {y : DataW H × List MemPlace} {n : Nat} (hd : DataW.trod enc Try.prog w base (fun _ => true) true n 37 [v] = some y) (hlt : ∀ x ∈ y.2, x.block < B) :
    ∃ (a : Option Addr) (c : Nat) (l : List Int), v = .slice a l.length c ∧ l.length ≤ maxLen ∧ Sl w B a (l.map (.int .i64)) := by
  obtain ⟨a, c, l, rfl, h1, h2, -, hs⟩ := open_slice_field2 (fun x : Int => [Value.int .i64 x]) 1 (fun _ => True) (fun _ => rfl) (by omega) Try.underlying37 (by kernel_rfl) (fun fuel cs y hl _ h => by
    obtain ⟨z, hz, _⟩ := DataW.trod_int Try.underlying3 h
    exact ⟨z, hz, trivial⟩) hd hlt
  rw [flat_one] at hs
  exact ⟨a, c, l, rfl, by omega, hs⟩
theorem open_bools_f {v : Value} {y : DataW H × List MemPlace} {n : Nat} (hd : DataW.trod enc Try.prog w base (fun _ => true) true n 39 [v] = some y) (hlt : ∀ x ∈ y.2, x.block < B) :
    ∃ (a : Option Addr) (c : Nat) (l : List Bool), v = .slice a l.length c ∧ l.length ≤ maxLen ∧ Sl w B a (l.map .bool) := by
  obtain ⟨a, c, l, rfl, h1, h2, -, hs⟩ := open_slice_field2 (fun x : Bool => [Value.bool x]) 1 (fun _ => True) (fun _ => rfl) (by omega) Try.underlying39 (by kernel_rfl) (fun fuel cs y hl _ h => by
    obtain ⟨z, hz, _⟩ := DataW.trod_bool Try.underlying4 h
    exact ⟨z, hz, trivial⟩) hd hlt
  rw [flat_one] at hs
  exact ⟨a, c, l, rfl, by omega, hs⟩

/-- a row as it lies: where, its numbers, its room -/
def rowv (r : Option Addr × Nat × List Int) : Value := .slice r.1 r.2.2.length r.2.1

theorem open_table {v : Value} {d : DataW H} {p : List MemPlace} (hv : Value.okWide Try.prog w .any b0 41 v) (h : DataW.Trod enc Try.prog w base (fun _ => true) true 41 v d p) (hlt : ∀ x ∈ p, x.block < B) :
    ∃ (st : Int) (a0 a1 a2 a3 a4 : Option Addr) (n3 n4 c0 c1 c2 c3 c4 : Nat) (cl : List Int) (rws : List (Option Addr × Nat × List Int)) (mt : List Bool),
      v = .agg #[.int .i64 st, .slice a0 cl.length c0, .slice a1 rws.length c1, .slice a2 mt.length c2, .slice a3 n3 c3, .slice a4 n4 c4] ∧
      cl.length ≤ maxLen ∧ rws.length ≤ maxLen ∧ mt.length ≤ maxLen ∧ n3 ≤ maxLen ∧ n4 ≤ maxLen ∧ (∀ r ∈ rws, r.2.2.length ≤ maxLen ∧ Sl w B r.1 (r.2.2.map (.int .i64))) ∧
      Sl w B a0 (cl.map (.int .i64)) ∧ Sl w B a1 (rws.map rowv) ∧ Sl w B a2 (mt.map .bool) := by
  obtain ⟨cs, rfl, hsz⟩ := okWide_struct Try.underlying41 hv
  rw [show Try.prog.cellsOf 41 = 6 by kernel_rfl] at hsz
  obtain ⟨cs⟩ := cs
  match cs, hsz with
  | [v0, v1, v2, v3, v4, v5], _ =>
    obtain ⟨fuel, hf⟩ := h
    obtain ⟨xs, n, _, hx, hl, hlen, hg⟩ := DataW.trod_struct Try.underlying41 hf
    match xs, hlen with
    | [y0, y1, y2, y3, y4, y5], _ =>
      have e3 : Try.prog.cellsOf 3 = 1 := by kernel_rfl
      have e37 : Try.prog.cellsOf 37 = 1 := by kernel_rfl
      have e38 : Try.prog.cellsOf 38 = 1 := by kernel_rfl
      have e39 : Try.prog.cellsOf 39 = 1 := by kernel_rfl
      have g0 := hg 0 _ rfl
      have g1 := hg 1 _ rfl
      have g2 := hg 2 _ rfl
      have g3 := hg 3 _ rfl
      have g4 := hg 4 _ rfl
      have g5 := hg 5 _ rfl
      simp [Value.cells, e3, e37, e38, e39] at g0 g1 g2 g3 g4 g5
      simp at hx
      obtain ⟨-, rfl⟩ := hx
      obtain ⟨st, q0, _, _⟩ := DataW.trod_int Try.underlying3 g0
      simp at q0
      subst q0
      obtain ⟨a0, c0, cl, rfl, l0, s0⟩ := open_ints_f g1 (fun x hx => hlt x (by simp [hx]))
      obtain ⟨a1, c1, rws, rfl, l1, m1, r1, s1⟩ := open_slice_field2 (B := B) (fun r : Option Addr × Nat × List Int => [rowv r]) 1 (fun r => r.2.2.length ≤ maxLen ∧ Sl w B r.1 (r.2.2.map (.int .i64))) (fun _ => rfl) (by omega) Try.underlying38 (by kernel_rfl)
        (fun fuel cs y hl hb h => by
          match cs, hl with
          | [c], _ =>
            obtain ⟨a, k, l, rfl, hl, hs⟩ := open_ints_f h hb
            exact ⟨(a, k, l), rfl, hl, hs⟩) g2 (fun x hx => hlt x (by simp [hx]))
      rw [flat_one] at s1
      obtain ⟨a2, c2, mt, rfl, l2, s2⟩ := open_bools_f g3 (fun x hx => hlt x (by simp [hx]))
      obtain ⟨a3, c3, m3, rfl, l3, s3⟩ := open_bools_f g4 (fun x hx => hlt x (by simp [hx]))
      obtain ⟨a4, c4, m4, rfl, l4, s4⟩ := open_bools_f g5 (fun x hx => hlt x (by simp [hx]))
      exact ⟨st, a0, a1, a2, a3, a4, m3.length, m4.length, c0, c1, c2, c3, c4, cl, rws, mt, rfl, l0, by omega, l2, l3, l4, r1, s0, s1, s2⟩
end

end Go.Proofs.Ytobcgeonobgjpaa.fnTablePath
