/-
  Parts of the proof in one text: Open, Raw. Conditions: as each states.
-/
import Derived.Test.YtbkpgfccghombaaDoorM00
import Derived.Test.YtbkpgfccghombaaDoorM11
import Derived.Lib.SmallJoins
/-! A slice that is a field of an argument, opened. Conditions: none. -/
namespace Go.Proofs.YtbkpgfccghombaaDoor
open Go.ChangeShapes Go.WideShapes Go.ChangeAt Go.RowKit
set_option linter.unusedVariables false

/-- a field that is a slice whose elements take k cells each -/
theorem open_slice_field {H : Type} {enc : TypeId × Value → H} {P : Program} {w : World} {α : Type} (f : α → List Value) (k : Nat) (good : α → Prop) (hk : ∀ x, (f x).length = k) (hk0 : 0 < k)
    {t e : TypeId} {base B : Nat} {v : Value} {y : DataW H × List MemPlace} {n : Nat} (ht : P.underlying t = some (.slice e)) (hc : P.cellsOf e = k)
    (hread : ∀ fuel cs y, cs.length = k → DataW.trod enc P w base (fun _ => true) true fuel e cs = some y → ∃ x, cs = f x ∧ good x)
    (hd : DataW.trod enc P w base (fun _ => true) true n t [v] = some y) (hlt : ∀ x ∈ y.2, x.block < B) :
    ∃ (a : Option Addr) (c : Nat) (l : List α), v = .slice a l.length c ∧ l.length ≤ c ∧ c ≤ maxLen ∧ (∀ x ∈ l, good x) ∧ Sl w B a (l.flatMap f) := by
  rcases Deep.open_slice ht hd with ⟨hcs, hx⟩ | ⟨a, len, cap, m, n', D, Pl, hcs, _, hl, hm, hmm, hx, hi⟩
  · simp at hcs
    subst hcs
    exact ⟨none, 0, [], rfl, Nat.le_refl _, by simp [maxLen], by simp, Sl.nil⟩
  · simp at hcs
    subst hcs
    simp only [if_true] at hmm
    subst hmm
    subst hx
    rw [hc] at hlt hi
    obtain ⟨l, hll, hlp⟩ := choose_list (p := fun i x => good x ∧ w.cells? base (a.add (i * k)) k = some (f x)) len (fun i hi' => by
      obtain ⟨cs', hcs', htr⟩ := hi i (by omega)
      obtain ⟨_, hcl, _⟩ := World.cells?_some hcs'
      obtain ⟨x, rfl, hg⟩ := hread _ _ _ hcl htr
      exact ⟨x, hg, hcs'⟩)
    refine ⟨some a, m, l, by rw [hll], by omega, hm, fun x hx' => ?_, fun j u hu => ⟨a, rfl, ?_, ?_⟩⟩
    · obtain ⟨i, hi', rfl⟩ := List.getElem_of_mem hx'
      exact (hlp i _ (List.getElem?_eq_getElem hi')).1
    · have hj : j < (l.flatMap f).length := (List.getElem?_eq_some_iff.1 hu).1
      rw [flat_len f k hk, hll] at hj
      have hpos : 0 < m * k := by
        have h1 : 0 < len * k := by omega
        exact Nat.lt_of_lt_of_le h1 (Nat.mul_le_mul_right k hl)
      have hin : MemPlace.cell a.block (a.off + 0) ∈ MemPlace.row a (m * k) := by
        simp only [MemPlace.row, List.mem_map, List.mem_range]
        exact ⟨0, hpos, rfl⟩
      have := hlt _ (List.mem_append_left _ hin)
      simpa [MemPlace.block] using this
    · have hj : j < (l.flatMap f).length := (List.getElem?_eq_some_iff.1 hu).1
      rw [flat_len f k hk, hll] at hj
      have hdm : j / k * k + j % k = j := Nat.div_add_mod' j k
      have hq : j / k < len := (Nat.div_lt_iff_lt_mul hk0).2 hj
      have hr : j % k < k := Nat.mod_lt _ hk0
      rw [← hdm, flat_get f k hk l _ _ hr, List.getElem?_eq_getElem (by omega)] at hu
      have h2 := (hlp (j / k) _ (List.getElem?_eq_getElem (by omega))).2
      obtain ⟨_, _, h3⟩ := World.cells?_some h2
      have h4 := h3 (j % k) hr
      rw [Deep.add_add, hdm] at h4
      rw [h4]
      exact hu

end Go.Proofs.YtbkpgfccghombaaDoor

/-! Any expression that is an argument, opened. Conditions: as stated. -/
namespace Go.Proofs.YtbkpgfccghombaaDoor.rx
open Go.ChangeShapes Go.WideShapes Go.ChangeAt Go.RowKit Go.Deep
set_option linter.unusedVariables false

/-- the same, where an element asks where its memory lies -/
theorem open_slice_field2 {H : Type} {enc : TypeId × Value → H} {P : Program} {w : World} {α : Type} (f : α → List Value) (k : Nat) (good : α → Prop) (hk : ∀ x, (f x).length = k) (hk0 : 0 < k)
    {t e : TypeId} {base B : Nat} {v : Value} {y : DataW H × List MemPlace} {n : Nat} (ht : P.underlying t = some (.slice e)) (hc : P.cellsOf e = k)
    (hread : ∀ fuel cs y, cs.length = k → DataW.trod enc P w base (fun _ => true) true fuel e cs = some y → (∀ x ∈ y.2, x.block < B) → ∃ x, cs = f x ∧ good x)
    (hd : DataW.trod enc P w base (fun _ => true) true n t [v] = some y) (hlt : ∀ x ∈ y.2, x.block < B) :
    ∃ (a : Option Addr) (c : Nat) (l : List α), v = .slice a l.length c ∧ l.length ≤ c ∧ c ≤ maxLen ∧ (∀ x ∈ l, good x) ∧ Sl w B a (l.flatMap f) := by
  rcases Deep.open_slice ht hd with ⟨hcs, hx⟩ | ⟨a, len, cap, m, n', D, Pl, hcs, _, hl, hm, hmm, hx, hi⟩
  · simp at hcs
    subst hcs
    exact ⟨none, 0, [], rfl, Nat.le_refl _, by simp [maxLen], by simp, Sl.nil⟩
  · simp at hcs
    subst hcs
    simp only [if_true] at hmm
    subst hmm
    subst hx
    rw [hc] at hlt hi
    obtain ⟨l, hll, hlp⟩ := choose_list (p := fun i x => good x ∧ w.cells? base (a.add (i * k)) k = some (f x)) len (fun i hi' => by
      obtain ⟨cs', hcs', htr⟩ := hi i (by omega)
      obtain ⟨_, hcl, _⟩ := World.cells?_some hcs'
      obtain ⟨x, rfl, hg⟩ := hread _ _ _ hcl htr (fun x hx => hlt x (List.mem_append_right _ (List.mem_flatMap.2 ⟨i, by simp; omega, hx⟩)))
      exact ⟨x, hg, hcs'⟩)
    refine ⟨some a, m, l, by rw [hll], by omega, hm, fun x hx' => ?_, fun j u hu => ⟨a, rfl, ?_, ?_⟩⟩
    · obtain ⟨i, hi', rfl⟩ := List.getElem_of_mem hx'
      exact (hlp i _ (List.getElem?_eq_getElem hi')).1
    · have hj : j < (l.flatMap f).length := (List.getElem?_eq_some_iff.1 hu).1
      rw [flat_len f k hk, hll] at hj
      have hpos : 0 < m * k := by
        have h1 : 0 < len * k := by omega
        exact Nat.lt_of_lt_of_le h1 (Nat.mul_le_mul_right k hl)
      have hin : MemPlace.cell a.block (a.off + 0) ∈ MemPlace.row a (m * k) := by
        simp only [MemPlace.row, List.mem_map, List.mem_range]
        exact ⟨0, hpos, rfl⟩
      have := hlt _ (List.mem_append_left _ hin)
      simpa [MemPlace.block] using this
    · have hj : j < (l.flatMap f).length := (List.getElem?_eq_some_iff.1 hu).1
      rw [flat_len f k hk, hll] at hj
      have hdm : j / k * k + j % k = j := Nat.div_add_mod' j k
      have hq : j / k < len := (Nat.div_lt_iff_lt_mul hk0).2 hj
      have hr : j % k < k := Nat.mod_lt _ hk0
      rw [← hdm, flat_get f k hk l _ _ hr, List.getElem?_eq_getElem (by omega)] at hu
      have h2 := (hlp (j / k) _ (List.getElem?_eq_getElem (by omega))).2
      obtain ⟨_, _, h3⟩ := World.cells?_some h2
      have h4 := h3 (j % k) hr
      rw [Deep.add_add, hdm] at h4
      rw [h4]
      exact hu


section
variable {H : Type} {enc : TypeId × Value → H} {w : World}
theorem read_i32 {base : Nat} (fuel : Nat) (cs : List Value) (y : DataW H × List MemPlace) (hl : cs.length = 1)
    (h : DataW.trod enc Tryd.prog w base (fun _ => true) true fuel 21 cs = some y) : ∃ x : Int, cs = [Value.int .i32 x] ∧ (-2147483648 ≤ x ∧ x ≤ 2147483647) := by
  obtain ⟨z, e, _, hw⟩ := DataW.trod_int Tryd.underlying21 h
  exact ⟨z, e, bd_i32 hw⟩
theorem field_at {P : Program} {base n o : Nat} {t : TypeId} {cs : List Value} {c : Value} {x : Option (DataW H × List MemPlace)} (h : DataW.trod enc P w base (fun _ => true) true n t ((cs.drop o).take (P.cellsOf t)) = x) (hk : P.cellsOf t = 1) (hc : cs[o]? = some c) : DataW.trod enc P w base (fun _ => true) true n t [c] = x := by
  obtain ⟨ho, rfl⟩ := List.getElem?_eq_some_iff.1 hc
  rw [hk, List.drop_eq_getElem_cons ho, List.take_succ_cons, List.take_zero] at h
  exact h
set_option maxRecDepth 100000 in
/-- the seven cells of an expression -/
theorem read_raw {base B : Nat} : ∀ (d : Nat) (fuel : Nat) (cs : List Value) (y : DataW H × List MemPlace), cs.length = 7 → DataW.trod enc Tryd.prog w base (fun _ => true) true fuel 25 cs = some y → (∀ x ∈ y.2, x.block < B) → RawC w B d cs
  | 0, _, _, _, _, _, _ => trivial
  | d + 1, fuel, cs, y, hl, h, hlt => by
    obtain ⟨xs, n, _, rfl, _, hxl, hf⟩ := DataW.trod_struct Tryd.underlying25 h
    match cs, hl, xs, hxl with
    | [c0, c1, c2, c3, c4, c5, c6], _, [y0, y1, y2, y3, y4, y5, y6], _ =>
      have k1 : Tryd.prog.cellsOf 3 = 1 := by kernel_rfl
      have k2 : Tryd.prog.cellsOf 22 = 1 := by kernel_rfl
      have k3 : Tryd.prog.cellsOf 4 = 1 := by kernel_rfl
      have k4 : Tryd.prog.cellsOf 23 = 1 := by kernel_rfl
      have r0 : DataW.trod enc Tryd.prog w base (fun _ => true) true n 3 [c0] = some y0 := field_at (hf 0 _ rfl) k1 rfl
      have r1 : DataW.trod enc Tryd.prog w base (fun _ => true) true n 22 [c1] = some y1 := field_at (hf 1 _ rfl) k2 rfl
      have r2 : DataW.trod enc Tryd.prog w base (fun _ => true) true n 3 [c2] = some y2 := field_at (hf 2 _ rfl) k1 rfl
      have r3 : DataW.trod enc Tryd.prog w base (fun _ => true) true n 3 [c3] = some y3 := field_at (hf 3 _ rfl) k1 rfl
      have r4 : DataW.trod enc Tryd.prog w base (fun _ => true) true n 4 [c4] = some y4 := field_at (hf 4 _ rfl) k3 rfl
      have r5 : DataW.trod enc Tryd.prog w base (fun _ => true) true n 4 [c5] = some y5 := field_at (hf 5 _ rfl) k3 rfl
      have r6 : DataW.trod enc Tryd.prog w base (fun _ => true) true n 23 [c6] = some y6 := field_at (hf 6 _ rfl) k4 rfl
      obtain ⟨z0, e0, _, w0⟩ := DataW.trod_int Tryd.underlying3 r0
      obtain ⟨z2, e2, _, w2⟩ := DataW.trod_int Tryd.underlying3 r2
      obtain ⟨z3, e3, _, w3⟩ := DataW.trod_int Tryd.underlying3 r3
      obtain ⟨b4, e4, _⟩ := DataW.trod_bool Tryd.underlying4 r4
      obtain ⟨b5, e5, _⟩ := DataW.trod_bool Tryd.underlying4 r5
      simp at e0 e2 e3 e4 e5
      subst e0 e2 e3 e4 e5
      obtain ⟨ra, rc, rs, rfl, hr1, hr2, hr3, hr4⟩ := open_slice_field (α := Int) (fun x => [Value.int .i32 x]) 1 (fun x => -2147483648 ≤ x ∧ x ≤ 2147483647) (fun _ => rfl) (by decide) Tryd.underlying22 (by kernel_rfl) (fun fuel cs y hl h => read_i32 fuel cs y hl h) r1 (fun x hx => hlt x (by simp [hx]))
      obtain ⟨sa, sc, ls, rfl, hs1, hs2, hs3, hs4⟩ := open_slice_field2 (B := B) (α := List Value) (fun l => l.take 7 ++ List.replicate (7 - l.length) undef) 7 (fun l => l.length = 7 ∧ RawC w B d l) (fun l => by simp; omega) (by decide) Tryd.underlying23 (by kernel_rfl) (fun fuel cs y hl h hlt => ⟨cs, by simp [hl, List.take_of_length_le], hl, read_raw d fuel cs y hl h hlt⟩) r6 (fun x hx => hlt x (by simp [hx]))
      have e7 : ls.flatMap (fun l => l.take 7 ++ List.replicate (7 - l.length) undef) = ls.flatMap id := by
        have : ∀ m : List (List Value), (∀ x ∈ m, x.length = 7) → m.flatMap (fun l => l.take 7 ++ List.replicate (7 - l.length) undef) = m.flatMap id := by
          intro m
          induction m with
          | nil => simp
          | cons a m ih =>
            intro hm
            rw [List.flatMap_cons, List.flatMap_cons, ih (fun x hx => hm x (by simp [hx]))]
            have := hm a (by simp)
            simp [this, List.take_of_length_le]
        exact this ls (fun x hx => (hs3 x hx).1)
      rw [e7] at hs4
      have er : ∀ m : List Int, m.flatMap (fun x => [Value.int .i32 x]) = m.map (.int .i32) := by
        intro m
        induction m with
        | nil => rfl
        | cons a m ih => rw [List.flatMap_cons, ih]; rfl
      rw [er] at hr4
      have := bd_i64 w0
      have := bd_i64 w2
      have := bd_i64 w3
      exact ⟨z0, z2, z3, b4, b5, ra, rc, sa, sc, rs, ls, rfl, ⟨by omega, by omega, by omega, by unfold maxLen at hr2; omega, by unfold maxLen at hs2; omega, hr3, hr4, hs4, fun x hx => (hs3 x hx).1⟩, fun x hx => (hs3 x hx).2⟩
set_option maxRecDepth 100000 in
theorem open_raw {base b0 B : Nat} {v : Value} {d : DataW H} {p : List MemPlace} (hv : Value.okWide Tryd.prog w .any b0 25 v) (h : DataW.Trod enc Tryd.prog w base (fun _ => true) true 25 v d p) (hlt : ∀ x ∈ p, x.block < B) :
    ∃ cs : List Value, v = .agg cs.toArray ∧ ∀ n, RawC w B n cs := by
  obtain ⟨cs, rfl, hsz⟩ := okWide_struct Tryd.underlying25 hv
  obtain ⟨fuel, hf⟩ := h
  have h7 : cs.toList.length = 7 := by
    have : Tryd.prog.cellsOf 25 = 7 := by kernel_rfl
    rw [Array.length_toList]
    exact hsz.trans this
  exact ⟨cs.toList, by simp, fun n => read_raw n fuel cs.toList _ h7 hf hlt⟩
end
end Go.Proofs.YtbkpgfccghombaaDoor.rx
