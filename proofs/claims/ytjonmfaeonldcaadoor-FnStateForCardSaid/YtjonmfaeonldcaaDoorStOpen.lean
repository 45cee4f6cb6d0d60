/-
  FnStateFor: states as an argument, opened. Conditions: none.
-/
import Derived.Test.YtjonmfaeonldcaaDoorStP
import Derived.Lib.SmallJoins
namespace Go.Proofs.YtjonmfaeonldcaaDoor.fnStateFor
open Go.ChangeShapes Go.WideShapes Go.ChangeAt Go.RowKit
set_option linter.unusedVariables false

def goodArc (x : Arc) : Prop := (0 ≤ x.1 ∧ x.1 ≤ 255) ∧ (0 ≤ x.2.1 ∧ x.2.1 ≤ 18446744073709551615) ∧ (-9223372036854775808 ≤ x.2.2 ∧ x.2.2 ≤ 9223372036854775807)
def ac (x : Arc) : List Value := [.int .u8 x.1, .int .u64 x.2.1, .int .i64 x.2.2]
theorem ac_len (x : Arc) : (ac x).length = 3 := rfl

/-- a state as it lies: final, its output, where its arcs are, their room, the arcs -/
structure LS where
  f : Bool
  o : Int
  a : Option Addr
  c : Nat
  l : List Arc
def lsc (s : LS) : List Value := [.bool s.f, .int .u64 s.o, .slice s.a s.l.length s.c]
theorem lsc_len (s : LS) : (lsc s).length = 3 := rfl
structure goodLS (w : World) (B : Nat) (s : LS) : Prop where
  ob : 0 ≤ s.o ∧ s.o ≤ 18446744073709551615
  n : s.l.length ≤ maxLen
  g : ∀ x ∈ s.l, goodArc x
  s : Sl w B s.a (s.l.flatMap ac)

theorem read_arc {H : Type} {enc : TypeId × Value → H} {w : World} {base : Nat} (fuel : Nat) (cs : List Value) (y : DataW H × List MemPlace) (hl : cs.length = 3)
    (h : DataW.trod enc Tryd.prog w base (fun _ => true) true fuel 31 cs = some y) : ∃ x : Arc, cs = ac x ∧ goodArc x := by
  match cs, hl with
  | [c0, c1, c2], _ =>
    obtain ⟨y0, y1, y2, n, _, _, h0, h1, h2⟩ := Deep.trod_struct3 Tryd.underlying31 h
    have e0 : Tryd.prog.cellsOf 5 = 1 := by kernel_rfl
    have e1 : Tryd.prog.cellsOf 24 = 1 := by kernel_rfl
    have e2 : Tryd.prog.cellsOf 3 = 1 := by kernel_rfl
    simp only [e0, e1, e2, List.drop_zero, List.drop_succ_cons, List.take_succ_cons, List.take_zero] at h0 h1 h2
    obtain ⟨z0, q0, _, w0⟩ := DataW.trod_int Tryd.underlying5 h0
    obtain ⟨z1, q1, _, w1⟩ := DataW.trod_int Tryd.underlying24 h1
    obtain ⟨z2, q2, _, w2⟩ := DataW.trod_int Tryd.underlying3 h2
    simp at q0 q1 q2
    subst q0 q1 q2
    exact ⟨(z0, z1, z2), rfl, bd_u8 w0, bd_u64 w1, bd_i64 w2⟩

/-- a field that is a slice whose elements take k cells each; an element's reading tells where what it names lies -/
theorem open_slice_field2 {H : Type} {enc : TypeId × Value → H} {P : Program} {w : World} {α : Type} (f : α → List Value) (k : Nat) (good : α → Prop) (hk : ∀ x, (f x).length = k) (hk0 : 0 < k)
    {t e : TypeId} {base B : Nat} {v : Value} {y : DataW H × List MemPlace} {n : Nat} (ht : P.underlying t = some (.slice e)) (hc : P.cellsOf e = k)
    (hread : ∀ fuel cs y, cs.length = k → (∀ x ∈ y.2, x.block < B) → DataW.trod enc P w base (fun _ => true) true fuel e cs = some y → ∃ x, cs = f x ∧ good x)
    (hd : DataW.trod enc P w base (fun _ => true) true n t [v] = some y) (hlt : ∀ x ∈ y.2, x.block < B) :
    ∃ (a : Option Addr) (c : Nat) (l : List α), v = .slice a l.length c ∧ l.length ≤ c ∧ c ≤ maxLen ∧ (∀ x ∈ l, good x) ∧ Sl w B a (l.flatMap f) := by
  rcases Deep.open_slice ht hd with ⟨hcs, hx⟩ | ⟨a, len, cap, m, n', D, Pl, hcs, _, hl, hm, hmm, hx, hi⟩
  · simp at hcs
    subst hcs
    exact ⟨none, 0, [], rfl, Nat.le_refl _, by simp [maxLen], by simp, Sl.nil⟩
  · simp at hcs
    subst hcs
    simp only [if_true] at hmm
    subst hmm
    subst hx
    rw [hc] at hlt hi
    obtain ⟨l, hll, hlp⟩ := choose_list (p := fun i x => good x ∧ w.cells? base (a.add (i * k)) k = some (f x)) len (fun i hi' => by
      obtain ⟨cs', hcs', htr⟩ := hi i (by omega)
      obtain ⟨_, hcl, _⟩ := World.cells?_some hcs'
      obtain ⟨x, rfl, hg⟩ := hread _ _ _ hcl (fun x hx => hlt x (List.mem_append_right _ (List.mem_flatMap.2 ⟨i, List.mem_range.2 (by omega), hx⟩))) htr
      exact ⟨x, hg, hcs'⟩)
    refine ⟨some a, m, l, by rw [hll], by omega, hm, fun x hx' => ?_, fun j u hu => ⟨a, rfl, ?_, ?_⟩⟩
    · obtain ⟨i, hi', rfl⟩ := List.getElem_of_mem hx'
      exact (hlp i _ (List.getElem?_eq_getElem hi')).1
    · have hj : j < (l.flatMap f).length := (List.getElem?_eq_some_iff.1 hu).1
      rw [flat_len f k hk, hll] at hj
      have hpos : 0 < m * k := by
        have h1 : 0 < len * k := by omega
        exact Nat.lt_of_lt_of_le h1 (Nat.mul_le_mul_right k hl)
      have hin : MemPlace.cell a.block (a.off + 0) ∈ MemPlace.row a (m * k) := by
        simp only [MemPlace.row, List.mem_map, List.mem_range]
        exact ⟨0, hpos, rfl⟩
      have := hlt _ (List.mem_append_left _ hin)
      simpa [MemPlace.block] using this
    · have hj : j < (l.flatMap f).length := (List.getElem?_eq_some_iff.1 hu).1
      rw [flat_len f k hk, hll] at hj
      have hdm : j / k * k + j % k = j := Nat.div_add_mod' j k
      have hq : j / k < len := (Nat.div_lt_iff_lt_mul hk0).2 hj
      have hr : j % k < k := Nat.mod_lt _ hk0
      rw [← hdm, flat_get f k hk l _ _ hr, List.getElem?_eq_getElem (by omega)] at hu
      have h2 := (hlp (j / k) _ (List.getElem?_eq_getElem (by omega))).2
      obtain ⟨_, _, h3⟩ := World.cells?_some h2
      have h4 := h3 (j % k) hr
      rw [Deep.add_add, hdm] at h4
      rw [h4]
      exact hu

set_option maxRecDepth 100000 in
theorem read_state {H : Type} {enc : TypeId × Value → H} {w : World} {base B : Nat} (fuel : Nat) (cs : List Value) (y : DataW H × List MemPlace) (hl : cs.length = 3) (hlt : ∀ x ∈ y.2, x.block < B)
    (h : DataW.trod enc Tryd.prog w base (fun _ => true) true fuel 29 cs = some y) : ∃ x : LS, cs = lsc x ∧ goodLS w B x := by
  match cs, hl with
  | [c0, c1, c2], _ =>
    obtain ⟨y0, y1, y2, n, hy, _, h0, h1, h2⟩ := Deep.trod_struct3 Tryd.underlying29 h
    have e0 : Tryd.prog.cellsOf 4 = 1 := by kernel_rfl
    have e1 : Tryd.prog.cellsOf 24 = 1 := by kernel_rfl
    have e2 : Tryd.prog.cellsOf 27 = 1 := by kernel_rfl
    simp only [e0, e1, e2, List.drop_zero, List.drop_succ_cons, List.take_succ_cons, List.take_zero] at h0 h1 h2
    obtain ⟨f, q0, _⟩ := DataW.trod_bool Tryd.underlying4 h0
    obtain ⟨o, q1, _, w1⟩ := DataW.trod_int Tryd.underlying24 h1
    simp at q0 q1
    subst q0 q1
    obtain ⟨a, c, l, rfl, hl, hc, hg, hs⟩ := open_slice_field2 (B := B) ac 3 goodArc ac_len (by omega) Tryd.underlying27 (by kernel_rfl) (fun fuel cs y hl _ h => read_arc fuel cs y hl h) h2 (fun x hx => hlt x (by rw [hy]; simp [hx]))
    exact ⟨⟨f, o, a, c, l⟩, rfl, bd_u64 w1, Nat.le_trans hl hc, hg, hs⟩

set_option maxRecDepth 100000 in
theorem open_states {H : Type} {enc : TypeId × Value → H} {w : World} {base b0 B : Nat} {v : Value} {d : DataW H} {ps : List MemPlace}
    (hv : Value.okWide Tryd.prog w .any b0 22 v) (hd : DataW.Trod enc Tryd.prog w base (fun _ => true) true 22 v d ps) (hlt : ∀ x ∈ ps, x.block < B) :
    ∃ (a : Option Addr) (c : Nat) (ls : List LS), v = .slice a ls.length c ∧ ls.length ≤ maxLen ∧ (∀ x ∈ ls, goodLS w B x) ∧ Sl w B a (ls.flatMap lsc) := by
  obtain ⟨a0, len, cap, rfl⟩ := okWide_slice Tryd.underlying22 hv
  obtain ⟨fuel, hf⟩ := hd
  have hf' : DataW.trod enc Tryd.prog w base (fun _ => true) true fuel 22 [.slice a0 len cap] = some (d, ps) := by simpa [Value.cells] using hf
  obtain ⟨a, c, ls, h1, h2, h3, h4, h5⟩ := open_slice_field2 (B := B) lsc 3 (goodLS w B) lsc_len (by omega) Tryd.underlying22 (by kernel_rfl) (fun fuel cs y hl hb h => read_state fuel cs y hl hb h) hf' hlt
  exact ⟨a, c, ls, h1, Nat.le_trans h2 h3, h4, h5⟩

/-- the states without where they lie -/
def LS.sta (s : LS) : Sta := (s.f, s.o, s.l)

end Go.Proofs.YtjonmfaeonldcaaDoor.fnStateFor
