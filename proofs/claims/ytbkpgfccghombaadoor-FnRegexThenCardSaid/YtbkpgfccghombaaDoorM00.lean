/-
  Parts of the proof in one text: Base, QA, Append, StepApp, QC, Utf8, Encode, QD, QE. Conditions: as each states.
-/
import Derived.Test.YtbkpgfccghombaaDoorRows
import Derived.WalkKit
import Derived.ProofKit
import Derived.OpenShut
import Derived.Deep.QuietTactic
import Derived.BigQuiet
import Derived.SizedLaws
import Derived.JoinedCond
import Derived.Deep.CondSized
import Derived.Below
import Derived.WalkSpells
import Derived.Deep.Draws
import Derived.Lib.Hide
import Derived.StillTailTactics
import Derived.OwnWalk
import Derived.Laws.IdiomCopy
import Derived.Deep.Slices
import Derived.Deep.Fields
import Derived.Lib.SmallJoins
import Derived.Deep.AppendLies
import Derived.Maps.AppendAt
import Derived.Deep.RegionHeld3
import Derived.Outline
import Derived.Handy
import Derived.Deep.RegionLaw
import Derived.Laws.BitsAllLaws
/-! Ground lemmas for every law of this seat: the frame of a law's row (the law returns true and what was there before is untouched), small lemmas on worlds and integers. Conditions: none. -/
namespace Go.Proofs.YtbkpgfccghombaaDoor
open Go.ChangeShapes Go.WideShapes Go.ChangeAt Go.RowKit

theorem own : ownKnob Tryd.prog.godebug = none := by kernel_rfl
theorem laidOut : laidOutB Tryd.prog = true := by kernel_rfl

section
variable {H : Type} {enc : TypeId × Value → H} {P : Program}

/-- all arguments read as they did, where below the old heap nothing has turned -/
theorem trodAll_below (hl : laidOutB P = true) {W W' : World} (hb : Below W.heap.size W W') {sp : Nat → Bool} :
    ∀ (ts : List TypeId) (vs : List Value) (ds : List (DataW H)) (ps : List MemPlace), ts.all (fun t => P.readableRec t && decide (t < P.types.size)) = true →
      (∀ p ∈ ps, p.block < W.heap.size ∧ sp p.block = true) →
      DataW.TrodAll enc P W 0 (fun _ => true) true ts vs ds ps → DataW.TrodAll enc P W' 0 sp true ts vs ds ps
  | [], [], [], _, _, _, h => h
  | t :: ts, v :: vs, d :: ds, ps, ht, hp, h => by
    obtain ⟨p, q, h1, h2, rfl⟩ := h
    simp only [List.all_cons, Bool.and_eq_true, decide_eq_true_eq] at ht
    exact ⟨p, q, WideElems.Trod_stays hl ht.1.1 ht.1.2 h1 (fun x hx => hb.same (hp x (by simp [hx])).1) (fun x hx => (hp x (by simp [hx])).2),
      trodAll_below hl hb ts vs ds q ht.2 (fun x hx => hp x (by simp [hx])) h2, rfl⟩
  | [], _ :: _, _, _, _, _, h => h.elim
  | [], [], _ :: _, _, _, _, h => h.elim
  | _ :: _, [], _, _, _, _, h => h.elim
  | _ :: _, _ :: _, [], _, _, _, h => h.elim

theorem trodAll_length {W : World} {base : Nat} {sp : Nat → Bool} {hd : Bool} :
    ∀ (ts : List TypeId) (vs : List Value) (ds : List (DataW H)) (ps : List MemPlace), DataW.TrodAll enc P W base sp hd ts vs ds ps → vs.length = ts.length ∧ ds.length = ts.length
  | [], [], [], _, _ => ⟨rfl, rfl⟩
  | _ :: ts, _ :: vs, _ :: ds, _, h => by
    obtain ⟨_, q, _, h2, _⟩ := h
    have := trodAll_length ts vs ds q h2
    simp only [List.length_cons]
    omega
  | [], _ :: _, _, _, h => h.elim
  | [], [], _ :: _, _, h => h.elim
  | _ :: _, [], _, _, h => h.elim
  | _ :: _, _ :: _, [], _, h => h.elim

/-- the row's post of a law: true, and nothing old has turned -/
theorem law_post {f : Func} {s : ChangeSpec} {apart fresh handsOn again : Bool} {W W' : World} {args : Array Value} {ds gs : List (DataW H)} {before : List MemPlace} {tb : TypeId}
    (hl : laidOutB P = true) (hvars : s.vars = []) (hres : f.resultTypes = #[tb]) (htb : P.underlying tb = some .bool)
    (hpar : f.params.toList.all (fun t => P.readableRec t && decide (t < P.types.size)) = true)
    (hspec : s.fn H ds = { results := [.lit (.bool true)], args := ds })
    (hW : DataW.Whole enc P f.params.toList s.vars apart W args.toList ds gs before) (hb : Below W.heap.size W W') :
    s.post enc P f apart fresh handsOn again W args (.bool true) W' := by
  have hlt : ∀ p ∈ before, p.block < W.heap.size := fun p hp => hW.lt p hp
  obtain ⟨p, q, hA, hV, hpq, hz, hn⟩ := id hW
  have hVn : DataW.TrodVars enc P W (fun _ => true) [] gs q := hvars ▸ hV
  obtain ⟨rfl, rfl⟩ := trodVars_none hVn
  simp only [List.append_nil] at hpq
  subst hpq
  have hargs : ∀ sp : Nat → Bool, (∀ x ∈ before, sp x.block = true) → DataW.TrodAll enc P W' 0 sp true f.params.toList args.toList (s.fn H (ds ++ [])).args before := fun sp hsp => by
    rw [List.append_nil, hspec]
    exact trodAll_below hl hb _ _ _ _ hpar (fun x hx => ⟨hlt x hx, hsp x hx⟩) hA
  have hresl : ((Value.bool true).resultList f.resultTypes.size) = [.bool true] := by rw [hres]; rfl
  have hrest : f.resultTypes.toList = [tb] := by rw [hres]
  have hres' : ∀ (b : Nat) (sp : Nat → Bool) (hd : Bool), DataW.TrodAll enc P W' b sp hd f.resultTypes.toList ((Value.bool true).resultList f.resultTypes.size) (s.fn H (ds ++ [])).results [] := fun b sp hd => by
    rw [List.append_nil, hspec, hresl, hrest]
    exact trodAll_cons_mk (shut_bool htb _) trodAll_mk0
  have hvars' : ∀ (W : World) (sp : Nat → Bool), DataW.TrodVars enc P W sp s.vars (s.fn H (ds ++ [])).vars [] := fun W sp => by
    rw [List.append_nil, hspec, hvars]
    rfl
  have hold : ∀ x ∈ before, (fun b => decide (b < W.heap.size)) x.block = true := fun x hx => by simpa using hlt x hx
  refine ⟨ds, [], before, [], before, [], hW, hres' _ _ _, hargs _ hold, hvars' _ _, World.keptBut_mono (fun x hx => ⟨hx, .inr (.inl hx)⟩) (hb.frame (· ∈ before)), fun _ => ?_⟩
  refine ⟨?_, _, _, ([] ++ before) ++ [], ⟨[] ++ before, [], trodAll_append (hargs _ (fun _ _ => rfl)) (hres' _ _ _), hvars' _ _, rfl, ?_, ?_⟩, ?_⟩
  · intro j t r hj hr
    rw [hresl] at hr
    rw [hres] at hj
    rcases j with _ | j
    · simp at hj hr
      subst hj hr
      exact okWide_bool_mk htb _
    · simp at hj
  · intro b off hp
    have hin : MemPlace.cell b off ∈ before := by simpa using hp
    rw [hb.frozen (hlt _ hin)]
    exact hz b off hin
  · intro ha
    have := hn ha
    simpa using this
  · intro x hx _
    simpa using hx

/-- A LAW'S STEP, whatever its parameters: what is left is the witness and the walk. -/
theorem law_lift {C : Checked} {os : Os} {F : FuncId} {fn : Func} {s : ChangeSpec} {apart fresh handsOn again : Bool} {tb : TypeId}
    (hown : ownKnob C.prog.godebug = none) (started : os.Started) (noInit : C.prog.inits.idxOf? F = none) (hfn : C.prog.funcs[F]? = some fn)
    (hl : laidOutB C.prog = true) (hvars : s.vars = []) (hres : fn.resultTypes = #[tb]) (htb : C.prog.underlying tb = some .bool)
    (hpar : fn.params.toList.all (fun t => C.prog.readableRec t && decide (t < C.prog.types.size)) = true)
    (hspec : ∀ ds : List (DataW H), ds.length = fn.params.toList.length → s.fn H ds = { results := [.lit (.bool true)], args := ds })
    (witness : ∃ (w : World) (tape : Tape) (i : Input), w.os = os ∧ (w.forCall tape i).Shaped C.prog ∧ i.vars = [] ∧ Input.okWide C.prog (w.forCall tape i) .any w.heap.size F i ∧
      s.pre6 enc C.prog fn [] apart (w.forCall tape i).memory i.args ∧ ({} : Assume).holds C.prog (lone (Frame.enter C.prog F i.args .normal) [] (w.forCall tape i)))
    (contract : ∀ (W : World) (base : Nat) (args : Array Value) (ds : List (DataW H)) (p : List MemPlace),
      (∀ (j : Nat) t v, fn.params[j]? = some t → args[j]? = some v → Value.okWide C.prog W .any base t v) →
      DataW.TrodAll enc C.prog W 0 (fun _ => true) true fn.params.toList args.toList ds p → (∀ x ∈ p, x.block < W.heap.size) →
      (DataW.weightsEach C.prog fn.params.toList ds).all (· ≤ reachBytes) = true →
      Calls C.prog F args W fun e W' => e = .returned (.bool true) ∧ Below W.heap.size W W') :
    ReturnsInHanded {} C os F .any (s.pre6 enc C.prog fn [] apart) (s.post enc C.prog fn apart fresh handsOn again) := by
  refine returnsInHanded_of_change_sized hown started noInit hfn witness ?_
  intro W base args ds gs before hval hW _ hsz _
  have hlt : ∀ p ∈ before, p.block < W.heap.size := fun p hp => hW.lt p hp
  obtain ⟨p, q, hA, hV, hpq, hz, hn⟩ := id hW
  have hVn : DataW.TrodVars enc C.prog W (fun _ => true) [] gs q := hvars ▸ hV
  obtain ⟨hg, hq⟩ := trodVars_none hVn
  subst hg hq
  simp only [List.append_nil] at hpq
  subst hpq
  have hvt : s.plain.varTypes C.prog = [] := by
    have : s.plain.vars = [] := hvars
    simp [DataSpec.varTypes, this]
  rw [hvt] at hsz
  simp only [List.append_nil] at hsz
  refine (contract W base args ds before hval hA hlt hsz).mono fun e W' ⟨he, hb⟩ => ?_
  exact ⟨_, he, law_post hl hvars hres htb hpar (hspec ds (trodAll_length _ _ _ _ hA).2) hW hb⟩
end

/-! ### slices that are read -/

/-- the slice that begins at a holds the cells xs, below block B -/
def Sl (w : World) (B : Nat) (a : Option Addr) (xs : List Value) : Prop := ∀ j v, xs[j]? = some v → ∃ ad, a = some ad ∧ ad.block < B ∧ w.cell? (ad.add j) = some v

theorem Sl.nil {w : World} {B : Nat} {a : Option Addr} : Sl w B a [] := fun j v h => by simp at h

theorem Sl.of_len0 {w : World} {B : Nat} {a : Option Addr} {xs : List Value} (h : xs.length = 0) : Sl w B a xs := by
  obtain rfl : xs = [] := List.eq_nil_of_length_eq_zero h
  exact Sl.nil

theorem block_add (a : Addr) (n : Nat) : (a.add n).block = a.block := by unfold Addr.add; split <;> rfl

theorem Sl.keep {w w' : World} {B : Nat} {a : Option Addr} {xs : List Value} (h : Sl w B a xs) (hk : ∀ p : Addr, p.block < B → w'.cell? p = w.cell? p) : Sl w' B a xs :=
  fun j v hv => by
    obtain ⟨ad, e, hb, hc⟩ := h j v hv
    exact ⟨ad, e, hb, (hk _ (by rw [block_add]; exact hb)).trans hc⟩

theorem Sl.below {w w' : World} {B : Nat} {a : Option Addr} {xs : List Value} (h : Sl w B a xs) (hb : Below B w w') : Sl w' B a xs := h.keep fun _ hp => hb.cell hp

theorem Sl.more {w : World} {B B' : Nat} {a : Option Addr} {xs : List Value} (h : Sl w B a xs) (hb : B ≤ B') : Sl w B' a xs :=
  fun j v hv => by
    obtain ⟨ad, e, hb', hc⟩ := h j v hv
    exact ⟨ad, e, by omega, hc⟩

theorem Sl.drewN {w : World} {B : Nat} {a : Option Addr} {xs : List Value} (h : Sl w B a xs) (n : Nat) : Sl (w.drewN n) B a xs := h

theorem Sl.ints {w : World} {B : Nat} {a : Option Addr} {k : IntKind} {zs : List Int} (h : Sl w B a (zs.map (.int k))) (j : Nat) (hj : j < zs.length) :
    ∃ ad, a = some ad ∧ w.cell? (ad.add j) = some (.int k (zs.getD j 0)) := by
  obtain ⟨ad, e, _, hc⟩ := h j (.int k (zs.getD j 0)) (by simp [List.getElem?_map, List.getElem?_eq_getElem hj])
  exact ⟨ad, e, hc⟩

/-- a cell behind an element's first one, as the walk spells it -/
theorem cell_off {w : World} {ad : Addr} {i j : Nat} {v : Value} (h : w.cell? (ad.add (i + j)) = some v) : w.cell? ⟨(ad.add i).block, (ad.add i).off + j, none⟩ = some v := by
  have e : (⟨(ad.add i).block, (ad.add i).off + j, none⟩ : Addr) = { ad.add (i + j) with spot := none } := by
    unfold Addr.add
    by_cases hi : i = 0 <;> by_cases hj : j = 0 <;> simp [hi, hj, Nat.add_assoc]
  rw [e]
  unfold World.cell? at h ⊢
  simp only at h ⊢
  cases hsp : (ad.add (i + j)).spot with
  | none => simpa [hsp] using h
  | some q =>
    simp only [hsp] at h
    split at h <;> simp at h

/-- cell j of element i, where each element takes k cells -/
theorem flat_get {α : Type} (f : α → List Value) (k : Nat) (hk : ∀ x, (f x).length = k) : ∀ (l : List α) (i j : Nat), j < k → (l.flatMap f)[i * k + j]? = (l[i]?).bind fun x => (f x)[j]?
  | [], i, j, _ => by simp
  | x :: l, 0, j, hj => by
    simp only [List.flatMap_cons, Nat.zero_mul, Nat.zero_add]
    rw [List.getElem?_append_left (by rw [hk]; exact hj)]
    rfl
  | x :: l, i + 1, j, hj => by
    simp only [List.flatMap_cons]
    rw [List.getElem?_append_right (by rw [hk, Nat.succ_mul]; omega), hk, show (i + 1) * k + j - k = i * k + j by rw [Nat.succ_mul]; omega, flat_get f k hk l i j hj]
    rfl

theorem flat_len {α : Type} (f : α → List Value) (k : Nat) (hk : ∀ x, (f x).length = k) : ∀ (l : List α), (l.flatMap f).length = l.length * k
  | [] => by simp
  | x :: l => by
    simp only [List.flatMap_cons, List.length_append, hk, flat_len f k hk l, List.length_cons, Nat.succ_mul]
    omega

/-- cell j of element i of a slice whose elements take k cells -/
theorem Sl.elem {α : Type} {w : World} {B : Nat} {a : Option Addr} {f : α → List Value} {k : Nat} (hk : ∀ x, (f x).length = k) {l : List α} (h : Sl w B a (l.flatMap f)) (i j : Nat) (hj : j < k) (hi : i < l.length) (v : Value)
    (hv : (f l[i])[j]? = some v) : ∃ ad, a = some ad ∧ ad.block < B ∧ w.cell? (ad.add (i * k + j)) = some v :=
  h (i * k + j) v (by rw [flat_get f k hk l i j hj, List.getElem?_eq_getElem hi]; exact hv)

section
variable {H : Type} {enc : TypeId × Value → H} {P : Program} {w : World}

/-- an argument that is a slice of integers -/
theorem open_ints_arg {t e : TypeId} {k : IntKind} {base b0 B : Nat} {v : Value} {d : DataW H} {ps : List MemPlace} (ht : P.underlying t = some (.slice e)) (he : P.underlying e = some (.int k)) (hc : P.cellsOf e = 1)
    (hval : Value.okWide P w .any b0 t v) (hd : DataW.Trod enc P w base (fun _ => true) true t v d ps) (hlt : ∀ x ∈ ps, x.block < B) :
    ∃ (a : Option Addr) (c : Nat) (zs : List Int), v = .slice a zs.length c ∧ zs.length ≤ c ∧ c ≤ maxLen ∧ (∀ z ∈ zs, (Lit.int k z).wf = true) ∧ Sl w B a (zs.map (.int k)) ∧
      (d = .nil ∨ ∃ sp, d = .slice (lits k zs) sp) := by
  obtain ⟨a0, len, cap, rfl⟩ := okWide_slice ht hval
  obtain ⟨fuel, hf⟩ := hd
  rcases open_ints ht he hc hf with ⟨hcs, hx⟩ | ⟨a, len', cap', zs, hcs, _, hl, hm, hz, hx, hcell, hwz⟩
  · simp [Value.cells] at hcs
    obtain ⟨rfl, rfl, rfl⟩ := hcs
    simp only [Prod.mk.injEq] at hx
    exact ⟨none, 0, [], rfl, Nat.le_refl _, by simp [maxLen], by simp, Sl.nil, .inl hx.1⟩
  · simp [Value.cells] at hcs
    obtain ⟨rfl, rfl, rfl⟩ := hcs
    simp only [if_true] at hz
    simp only [Prod.mk.injEq] at hx
    have hlen : (zs.take len).length = len := by rw [List.length_take]; omega
    refine ⟨some a, cap, zs.take len, by rw [hlen], by omega, hm, fun z hz' => hwz z (List.mem_of_mem_take hz'), fun j u hu => ⟨a, rfl, ?_, ?_⟩, .inr ⟨_, hx.1⟩⟩
    · have hj : j < (zs.take len).length := by
        have := (List.getElem?_eq_some_iff.1 hu).1
        simpa using this
      have hin : MemPlace.cell (a.add 0).block (a.add 0).off ∈ ps := by
        rw [hx.2]
        simp only [MemPlace.row, List.mem_map, List.mem_range]
        exact ⟨0, by omega, by simp [Addr.add]⟩
      have := hlt _ hin
      simpa [MemPlace.block, block_add] using this
    · have hj : j < (zs.take len).length := by
        have := (List.getElem?_eq_some_iff.1 hu).1
        simpa using this
      rw [hcell j (by omega)]
      rw [List.getElem?_map, List.getElem?_eq_getElem hj] at hu
      simp only [Option.map_some, Option.some.injEq] at hu
      rw [← hu]
      simp [List.getD_eq_getElem?_getD, List.getElem?_eq_getElem (show j < zs.length by omega)]
end

/-! ### a block that is known whole -/

/-- block g is just the cells l of element type t, none frozen -/
def Blk (w : World) (g : Nat) (t : TypeId) (l : List Value) : Prop := w.heap[g]? = some (.cells l.toArray t (0, 0))

section
variable {w w' : World} {g : Nat} {t : TypeId} {l : List Value}
theorem Blk.lt (h : Blk w g t l) : g < w.heap.size := by
  rcases Nat.lt_or_ge g w.heap.size with hlt | hge
  · exact hlt
  · unfold Blk at h; rw [Array.getElem?_eq_none hge] at h; cases h
theorem Blk.cell (h : Blk w g t l) (i : Nat) : w.cell? ⟨g, i, none⟩ = l[i]? := by
  rw [cell_of_row w g i l.toArray t (0, 0) h]
  simp
theorem Blk.frozen (h : Blk w g t l) (i : Nat) : w.frozen? ⟨g, i, none⟩ = false := by
  unfold Blk at h
  simp [World.frozen?, h]
theorem Blk.new (w : World) (t : TypeId) (l : List Value) : Blk (w.alloc (.cells l.toArray t)) w.heap.size t l := heap_alloc_new w _
theorem Blk.drew (h : Blk w g t l) : Blk w.drew g t l := h
theorem Blk.drewN (h : Blk w g t l) (n : Nat) : Blk (w.drewN n) g t l := h
theorem Blk.alloc (h : Blk w g t l) (o : Obj) : Blk (w.alloc o) g t l := (Below.heap_alloc w o g h.lt).trans h
theorem Blk.set_ (h : Blk w g t l) (i : Nat) (u : Value) : Blk (w.setCell ⟨g, i, none⟩ u) g t (l.set i u) := by
  unfold Blk at h ⊢
  simp [World.setCell, Array.getElem?_modify, h]
theorem Blk.far (h : Blk w g t l) {p : Addr} (hp : g ≠ p.block) (u : Value) : Blk (w.setCell p u) g t l := (Below.heap_setCell w p u g hp).trans h
theorem Blk.below {B : Nat} (h : Blk w g t l) (hb : Below B w w') (hg : g < B) : Blk w' g t l := (hb.block g hg).trans h
theorem Blk.grown {row : Option Nat} (h : Blk w g t l) (hb : w.grownBy w' row) (hg : some g ≠ row) : Blk w' g t l := (hb.block g h.lt hg).trans h
theorem Blk.ne_ {g' : Nat} {t' : TypeId} {l' : List Value} (h : Blk w g t l) (h' : Blk w g' t' l') (hne : t ≠ t') : g ≠ g' := by
  rintro rfl
  unfold Blk at h h'
  rw [h] at h'
  injection h' with h'
  injection h' with _ ht
  exact hne ht
/-- a run of cells in its midst, stored anew -/
theorem Blk.setCells {pre old post vs : List Value} (h : Blk w g t (pre ++ old ++ post)) (hl : old.length = vs.length) : Blk (w.setCells g pre.length vs) g t (pre ++ vs ++ post) := by
  induction vs generalizing w pre old with
  | nil =>
    obtain rfl : old = [] := List.eq_nil_of_length_eq_zero hl
    exact h
  | cons v vs ih =>
    match old, hl with
    | x :: old, hl =>
      have h1 := h.set_ pre.length v
      have e : (pre ++ x :: old ++ post).set pre.length v = (pre ++ [v]) ++ old ++ post := by simp
      rw [e] at h1
      have h2 := ih h1 (by simpa using hl)
      simp only [World.setCells]
      have e2 : (pre ++ [v]).length = pre.length + 1 := by simp
      rw [e2] at h2
      simpa using h2
/-- a slice over the block's beginning -/
theorem Blk.sl {B : Nat} (h : Blk w g t l) (hB : g < B) : Sl w B (some ⟨g, 0, none⟩) l := fun j v hv => ⟨_, rfl, hB, by
  have e : ((⟨g, 0, none⟩ : Addr).add j) = ⟨g, j, none⟩ := by
    unfold Addr.add
    by_cases h0 : j = 0 <;> simp [h0]
  rw [e, h.cell j]
  exact hv⟩
end

theorem choose_list {α : Type} {p : Nat → α → Prop} : ∀ (n : Nat), (∀ i, i < n → ∃ x, p i x) → ∃ l : List α, l.length = n ∧ ∀ i x, l[i]? = some x → p i x
  | 0, _ => ⟨[], rfl, fun i x h => by simp at h⟩
  | n + 1, h => by
    obtain ⟨l, hl, hp⟩ := choose_list n (fun i hi => h i (by omega))
    obtain ⟨x, hx⟩ := h n (by omega)
    refine ⟨l ++ [x], by simp [hl], fun i y hy => ?_⟩
    rcases Nat.lt_or_ge i l.length with hi | hi
    · rw [List.getElem?_append_left hi] at hy
      exact hp i y hy
    · rw [List.getElem?_append_right hi] at hy
      have h0 : i - l.length = 0 := by
        rcases Nat.eq_zero_or_pos (i - l.length) with h0 | h0
        · exact h0
        · have := (List.getElem?_eq_some_iff.1 hy).1
          simp at this
          omega
      rw [h0] at hy
      simp at hy
      subst hy
      have : i = n := by omega
      subst this
      exact hx

/-- an argument that is a slice whose elements take k cells each -/
theorem open_slice_arg {H : Type} {enc : TypeId × Value → H} {P : Program} {w : World} {α : Type} (f : α → List Value) (k : Nat) (good : α → Prop) (hk : ∀ x, (f x).length = k) (hk0 : 0 < k)
    {t e : TypeId} {base b0 B : Nat} {v : Value} {d : DataW H} {ps : List MemPlace} (ht : P.underlying t = some (.slice e)) (hc : P.cellsOf e = k)
    (hread : ∀ fuel cs y, cs.length = k → DataW.trod enc P w base (fun _ => true) true fuel e cs = some y → ∃ x, cs = f x ∧ good x)
    (hval : Value.okWide P w .any b0 t v) (hd : DataW.Trod enc P w base (fun _ => true) true t v d ps) (hlt : ∀ x ∈ ps, x.block < B) :
    ∃ (a : Option Addr) (c : Nat) (l : List α), v = .slice a l.length c ∧ l.length ≤ c ∧ c ≤ maxLen ∧ (∀ x ∈ l, good x) ∧ Sl w B a (l.flatMap f) := by
  obtain ⟨a0, len, cap, rfl⟩ := okWide_slice ht hval
  obtain ⟨fuel, hf⟩ := hd
  rcases Deep.open_slice ht hf with ⟨hcs, hx⟩ | ⟨a, len', cap', m, n, D, Pl, hcs, _, hl, hm, hmm, hx, hi⟩
  · simp [Value.cells] at hcs
    obtain ⟨rfl, rfl, rfl⟩ := hcs
    exact ⟨none, 0, [], rfl, Nat.le_refl _, by simp [maxLen], by simp, Sl.nil⟩
  · simp [Value.cells] at hcs
    obtain ⟨rfl, rfl, rfl⟩ := hcs
    simp only [if_true] at hmm
    subst hmm
    simp only [Prod.mk.injEq] at hx
    rw [hc] at hx hi
    obtain ⟨l, hll, hlp⟩ := choose_list (p := fun i x => good x ∧ w.cells? base (a.add (i * k)) k = some (f x)) len (fun i hi' => by
      obtain ⟨cs', hcs', htr⟩ := hi i (by omega)
      obtain ⟨_, hcl, _⟩ := World.cells?_some hcs'
      obtain ⟨x, rfl, hg⟩ := hread _ _ _ hcl htr
      exact ⟨x, hg, hcs'⟩)
    refine ⟨some a, m, l, by rw [hll], by omega, hm, fun x hx' => ?_, fun j u hu => ⟨a, rfl, ?_, ?_⟩⟩
    · obtain ⟨i, hi', rfl⟩ := List.getElem_of_mem hx'
      exact (hlp i _ (List.getElem?_eq_getElem hi')).1
    · have hj : j < (l.flatMap f).length := (List.getElem?_eq_some_iff.1 hu).1
      rw [flat_len f k hk, hll] at hj
      have hpos : 0 < m * k := by
        have h1 : 0 < len * k := by omega
        exact Nat.lt_of_lt_of_le h1 (Nat.mul_le_mul_right k hl)
      have hin : MemPlace.cell a.block (a.off + 0) ∈ ps := by
        rw [hx.2]
        refine List.mem_append_left _ ?_
        simp only [MemPlace.row, List.mem_map, List.mem_range]
        exact ⟨0, hpos, rfl⟩
      have := hlt _ hin
      simpa [MemPlace.block] using this
    · have hj : j < (l.flatMap f).length := (List.getElem?_eq_some_iff.1 hu).1
      rw [flat_len f k hk, hll] at hj
      have hdm : j / k * k + j % k = j := Nat.div_add_mod' j k
      have hq : j / k < len := (Nat.div_lt_iff_lt_mul hk0).2 hj
      have hr : j % k < k := Nat.mod_lt _ hk0
      rw [← hdm, flat_get f k hk l _ _ hr, List.getElem?_eq_getElem (by omega)] at hu
      have h2 := (hlp (j / k) _ (List.getElem?_eq_getElem (by omega))).2
      obtain ⟨_, _, h3⟩ := World.cells?_some h2
      have h4 := h3 (j % k) hr
      rw [Deep.add_add, hdm] at h4
      rw [h4]
      exact hu

/-- append of one element that has just been laid in a block of its own -/
theorem append1 {P : Program} {ops : Array Oper} {rest : List Oper} {o : Oper} {a : Act} {Q : Exit → Act → World → Prop} (W : World) (cs : Array Value) (hgd : o.guard = none) (s x : Operand) (t : TypeId)
    (ho : o.op = .call { callee := .builtin .append, args := #[s, x], argTypes := #[t, t] })
    (base : Nat) (e : TypeId) (i : TypeInfo) (z : Value) (size bytes : Nat) (ht : P.underlying t = some (.slice e)) (hi : P.info? e = some i) (hz : i.zero = some z)
    (hsize : i.size = size) (hby : i.bytes = bytes) (hzs : z.cells.size = size) (hsz : 0 < size) (hcs : cs.size = size)
    (v : Value) (n : Nat) (xs : List Value) (hs : a.eval s = v) (hown : W.ownsRow base e size v n xs)
    (N : Nat) (hN : W.heap.size = N) (hx : a.eval x = .slice (some ⟨N, 0, none⟩) 1 1) (h1 : ∀ u ∈ cs.toList, u.oneCell' = true)
    (h63 : n + 1 ≤ maxLen) (hbytes : (n + 1) * bytes ≤ 140737488355328) (hbase : base ≤ W.heap.size)
    (h : ∀ v' w', w'.ownsRow base e size v' (n + 1) (xs ++ cs.toList) → W.grownBy w' v.ownBlock → v' ≠ .slice none 0 0 → wpList P ops Q rest (a.put o.dst v') w') : wpList P ops Q (o :: rest) a (W.alloc (.cells cs e)) := by
  subst hN
  have hb : (W.alloc (.cells cs e)).heap[W.heap.size]? = some (.cells cs e (0, 0)) := heap_alloc_new W _
  refine wpList_append_own (W.alloc (.cells cs e)) hgd s x t ho base e i z size bytes ht hi hz hsize hby hzs hsz v n xs hs (hown.alloc _) ⟨W.heap.size, 0, none⟩ 1 1 cs.toList hx (by simpa using hcs) ?_ h1 h63 hbytes (by simp; omega) ?_
  · intro j u hu
    have hj : ((⟨W.heap.size, 0, none⟩ : Addr).add j) = ⟨W.heap.size, j, none⟩ := by
      unfold Addr.add
      by_cases h0 : j = 0 <;> simp [h0]
    rw [hj, cell_of_row _ _ j cs e (0, 0) hb, ← Array.getElem?_toList]
    exact hu
  · intro v' w' hown' hg hne
    refine h v' w' hown' ⟨hg.os, hg.tape, hg.output, Nat.le_trans (by simp) hg.size, fun k hk hne' => ?_⟩ (fun e => ?_)
    · exact (hg.block k (by simp; omega) hne').trans (Below.heap_alloc W _ k hk)
    · have := (hne.1 e).2
      omega

theorem sl_of_own {w : World} {base : Nat} {e : TypeId} {size n : Nat} {a : Option Addr} {cap : Nat} {xs : List Value} (h : w.ownsRow base e size (.slice a n cap) n xs) : Sl w w.heap.size a xs := by
  intro j u hu
  have hj : j < xs.length := (List.getElem?_eq_some_iff.1 hu).1
  have hn : 0 < n := by
    rcases Nat.eq_zero_or_pos n with h0 | h0
    · subst h0
      have := h.1
      omega
    · exact h0
  obtain ⟨g, cap', hv, _, hlt⟩ := World.ownsRow.form h hn
  have hA : a = some ⟨g, 0, none⟩ := by injection hv
  subst hA
  exact ⟨_, rfl, hlt, World.ownsRow.cells (g := g) h rfl j u hu⟩

/-- the value of an owned row is a slice of that length -/
theorem own_value {w : World} {base : Nat} {e : TypeId} {size n : Nat} {v : Value} {xs : List Value} (h : w.ownsRow base e size v n xs) : ∃ a cap, v = .slice a n cap := by
  rcases h.2 with ⟨rfl, rfl⟩ | ⟨g, cap, cur, rfl, _⟩
  · exact ⟨_, _, rfl⟩
  · exact ⟨_, _, rfl⟩

theorem own_block_ge {w : World} {base : Nat} {e : TypeId} {size n : Nat} {v : Value} {xs : List Value} (h : w.ownsRow base e size v n xs) : ∀ k, v.ownBlock = some k → base ≤ k := by
  intro k hk
  rcases h.2 with ⟨rfl, rfl⟩ | ⟨g, cap, cur, rfl, hg, _⟩
  · simp [Value.ownBlock] at hk
  · simp [Value.ownBlock] at hk
    omega

theorem only_set {a w : World} {g : Nat} (h : a.grownBy w (some g)) (i : Nat) (u : Value) : a.grownBy (w.setCell ⟨g, i, none⟩ u) (some g) :=
  ⟨h.os, h.tape, h.output, by simpa [World.setCell] using h.size, fun k hk hne => (Below.heap_setCell w ⟨g, i, none⟩ u k (by
    rintro rfl
    exact hne rfl)).trans (h.block k hk hne)⟩
theorem only_drew {a w : World} {row : Option Nat} (h : a.grownBy w row) : a.grownBy w.drew row := ⟨h.os, h.tape, h.output, h.size, h.block⟩
theorem only_drewN {a w : World} {row : Option Nat} (h : a.grownBy w row) (n : Nat) : a.grownBy (w.drewN n) row := ⟨h.os, h.tape, h.output, h.size, h.block⟩
theorem only_alloc {a w : World} {row : Option Nat} (h : a.grownBy w row) (o : Obj) : a.grownBy (w.alloc o) row :=
  ⟨h.os, h.tape, h.output, Nat.le_trans h.size (by simp), fun i hi hne => (Below.heap_alloc w o i (Nat.lt_of_lt_of_le hi h.size)).trans (h.block i hi hne)⟩

/-- the byte slice v holds the bytes l in w -/
def BytesV (w : World) (v : Value) (l : List Int) : Prop := ∃ a c, v = .slice a l.length c ∧ Sl w w.heap.size a (l.map (.int .u8))
theorem BytesV.below {w w' : World} {v : Value} {l : List Int} (h : BytesV w v l) (hb : Below w.heap.size w w') : BytesV w' v l := by
  obtain ⟨a, c, hv, hs⟩ := h
  exact ⟨a, c, hv, (hs.below hb).more hb.size⟩

/-- draws, many at once -/
theorem below_drewN {B : Nat} {a w : World} (h : Below B a w) (n : Nat) : Below B a (w.drewN n) := ⟨h.os, h.tape, h.output, h.size, h.block⟩

/-- the integers' bounds -/
theorem bd_u8 {x : Int} (h : (Lit.int .u8 x).wf = true) : 0 ≤ x ∧ x ≤ 255 := by simpa [Lit.wf, IntKind.min, IntKind.max, IntKind.signed, IntKind.bits] using h
theorem bd_u32 {x : Int} (h : (Lit.int .u32 x).wf = true) : 0 ≤ x ∧ x ≤ 4294967295 := by simpa [Lit.wf, IntKind.min, IntKind.max, IntKind.signed, IntKind.bits] using h
theorem bd_u64 {x : Int} (h : (Lit.int .u64 x).wf = true) : 0 ≤ x ∧ x ≤ 18446744073709551615 := by simpa [Lit.wf, IntKind.min, IntKind.max, IntKind.signed, IntKind.bits] using h
theorem bd_i32 {x : Int} (h : (Lit.int .i32 x).wf = true) : -2147483648 ≤ x ∧ x ≤ 2147483647 := by simpa [Lit.wf, IntKind.min, IntKind.max, IntKind.signed, IntKind.bits] using h
theorem bd_i64 {x : Int} (h : (Lit.int .i64 x).wf = true) : -9223372036854775808 ≤ x ∧ x ≤ 9223372036854775807 := by simpa [Lit.wf, IntKind.min, IntKind.max, IntKind.signed, IntKind.bits] using h

end Go.Proofs.YtbkpgfccghombaaDoor

/-! The sequences of ranges of bytes: small functions. Conditions: as stated. -/
namespace Go.Proofs.YtbkpgfccghombaaDoor
open Go.ChangeShapes Go.WideShapes Go.ChangeAt Go.RowKit
set_option linter.unusedVariables false

theorem maxsv_any (n : Int) (w : World) (h : 1 ≤ n ∧ n ≤ 3) : Calls Tryd.prog 89 #[.int .i64 n] w fun e w' => e = .returned (.int .i32 (if n = 1 then 127 else if n = 2 then 2047 else 65535)) ∧ w = w' := by
  have hn : n = 1 ∨ n = 2 ∨ n = 3 := by omega
  rcases hn with rfl | rfl | rfl
  · go_enter Tryd.func89, Tryd.ntmps89
    go_wp2
    go_returns
    exact ⟨rfl, rfl⟩
  · go_enter Tryd.func89, Tryd.ntmps89
    go_wp2
    go_returns
    exact ⟨rfl, rfl⟩
  · go_enter Tryd.func89, Tryd.ntmps89
    go_wp2
    go_returns
    exact ⟨rfl, rfl⟩

end Go.Proofs.YtbkpgfccghombaaDoor

/-! append to one of several rows of the call's own. Conditions: as stated. -/
namespace Go.Proofs.YtbkpgfccghombaaDoor
open Go.ChangeShapes Go.WideShapes Go.ChangeAt Go.RowKit
set_option linter.unusedVariables false

/-- append of one element that has just been laid in a block of its own; where the row lies then -/
theorem append1_at {P : Program} {ops : Array Oper} {rest : List Oper} {o : Oper} {a : Act} {Q : Exit → Act → World → Prop} (W : World) (cs : Array Value) (hgd : o.guard = none) (s x : Operand) (t : TypeId)
    (ho : o.op = .call { callee := .builtin .append, args := #[s, x], argTypes := #[t, t] })
    (base : Nat) (e : TypeId) (i : TypeInfo) (z : Value) (size bytes : Nat) (ht : P.underlying t = some (.slice e)) (hi : P.info? e = some i) (hz : i.zero = some z)
    (hsize : i.size = size) (hby : i.bytes = bytes) (hzs : z.cells.size = size) (hsz : 0 < size) (hcs : cs.size = size)
    (v : Value) (n : Nat) (xs : List Value) (hs : a.eval s = v) (hown : W.ownsRow base e size v n xs)
    (N : Nat) (hN : W.heap.size = N) (hx : a.eval x = .slice (some ⟨N, 0, none⟩) 1 1) (h1 : ∀ u ∈ cs.toList, u.oneCell' = true)
    (h63 : n + 1 ≤ maxLen) (hbytes : (n + 1) * bytes ≤ 140737488355328) (hbase : base ≤ W.heap.size)
    (h : ∀ v' w', w'.ownsRow base e size v' (n + 1) (xs ++ cs.toList) → W.grownBy w' v.ownBlock → v' ≠ .slice none 0 0 → (∀ k, v'.ownBlock = some k → v.ownBlock = some k ∨ W.heap.size ≤ k) → wpList P ops Q rest (a.put o.dst v') w') : wpList P ops Q (o :: rest) a (W.alloc (.cells cs e)) := by
  subst hN
  have hb : (W.alloc (.cells cs e)).heap[W.heap.size]? = some (.cells cs e (0, 0)) := heap_alloc_new W _
  refine wpList_append_own_at (W.alloc (.cells cs e)) hgd s x t ho base e i z size bytes ht hi hz hsize hby hzs hsz v n xs hs (hown.alloc _) ⟨W.heap.size, 0, none⟩ 1 1 cs.toList hx (by simpa using hcs) ?_ h1 h63 hbytes (by simp; omega) ?_
  · intro j u hu
    have hj : ((⟨W.heap.size, 0, none⟩ : Addr).add j) = ⟨W.heap.size, j, none⟩ := by
      unfold Addr.add
      by_cases h0 : j = 0 <;> simp [h0]
    rw [hj, cell_of_row _ _ j cs e (0, 0) hb, ← Array.getElem?_toList]
    exact hu
  · intro v' w' hown' hg hne hat
    refine h v' w' hown' ⟨hg.os, hg.tape, hg.output, Nat.le_trans (by simp) hg.size, fun k hk hne' => ?_⟩ (fun e => ?_) (fun k hk => ?_)
    · exact (hg.block k (by simp; omega) hne').trans (Below.heap_alloc W _ k hk)
    · have := (hne.1 e).2
      omega
    · rcases hat with hat | hat
      · exact Or.inl (hat ▸ hk)
      · rw [hk] at hat
        injection hat with hat
        exact Or.inr (by rw [hat]; simp)

theorem own_block_lt {w : World} {base : Nat} {e : TypeId} {size n : Nat} {v : Value} {xs : List Value} (h : w.ownsRow base e size v n xs) : ∀ k, v.ownBlock = some k → k < w.heap.size := by
  intro k hk
  rcases h.2 with ⟨rfl, rfl⟩ | ⟨g, cap, cur, rfl, hg, hh, _⟩
  · simp [Value.ownBlock] at hk
  · simp [Value.ownBlock] at hk
    subst hk
    exact (Array.getElem?_eq_some_iff.1 hh).1

/-- two rows that do not lie in one block -/
def Apart (u v : Value) : Prop := ∀ k, u.ownBlock = some k → v.ownBlock ≠ some k
theorem Apart.symm {u v : Value} (h : Apart u v) : Apart v u := fun k hk e => h k e hk
theorem Apart.none_ {v : Value} : Apart (.slice none 0 0) v := fun k hk => by simp [Value.ownBlock] at hk
/-- u's row stands where v's grows -/
theorem Apart.kept {u v : Value} (h : Apart u v) : u.ownBlock = none ∨ u.ownBlock ≠ v.ownBlock := by
  cases hu : u.ownBlock with
  | none => exact Or.inl rfl
  | some k => exact Or.inr (fun e => h k hu e.symm)
theorem Apart.next {u v v' : Value} {n : Nat} (h : Apart u v) (hu : ∀ k, u.ownBlock = some k → k < n) (hv : ∀ k, v'.ownBlock = some k → v.ownBlock = some k ∨ n ≤ k) : Apart u v' := fun k hk e => by
  rcases hv k e with h1 | h1
  · exact h k hk h1
  · have := hu k hk
    omega

/-- three rows of the call's own, apart from each other -/
structure R3 (w : World) (B : Nat) (e : TypeId) (v1 v2 v3 : Value) (n1 n2 n3 : Nat) (x1 x2 x3 : List Value) : Prop where
  o1 : w.ownsRow B e 1 v1 n1 x1
  o2 : w.ownsRow B e 1 v2 n2 x2
  o3 : w.ownsRow B e 1 v3 n3 x3
  p12 : Apart v1 v2
  p13 : Apart v1 v3
  p23 : Apart v2 v3

theorem grown_none {w w' : World} (h : Below w.heap.size w w') : w.grownBy w' none := ⟨h.os, h.tape, h.output, h.size, fun k hk _ => h.block k hk⟩
theorem own_below {w w' : World} {B : Nat} {e : TypeId} {size n : Nat} {v : Value} {xs : List Value} (o : w.ownsRow B e size v n xs) (h : Below w.heap.size w w') : w'.ownsRow B e size v n xs :=
  o.kept (grown_none h) (by cases v.ownBlock <;> simp)

section
variable {w w' : World} {B : Nat} {e : TypeId} {v1 v2 v3 v : Value} {n1 n2 n3 : Nat} {x1 x2 x3 y : List Value}
theorem R3.below (h : R3 w B e v1 v2 v3 n1 n2 n3 x1 x2 x3) (hb : Below w.heap.size w w') : R3 w' B e v1 v2 v3 n1 n2 n3 x1 x2 x3 :=
  ⟨own_below h.o1 hb, own_below h.o2 hb, own_below h.o3 hb, h.p12, h.p13, h.p23⟩
theorem R3.app1 (h : R3 w B e v1 v2 v3 n1 n2 n3 x1 x2 x3) (ho : w'.ownsRow B e 1 v (n1 + 1) (x1 ++ y)) (hg : w.grownBy w' v1.ownBlock) (hat : ∀ k, v.ownBlock = some k → v1.ownBlock = some k ∨ w.heap.size ≤ k) :
    R3 w' B e v v2 v3 (n1 + 1) n2 n3 (x1 ++ y) x2 x3 :=
  ⟨ho, h.o2.kept hg h.p12.symm.kept, h.o3.kept hg h.p13.symm.kept, (h.p12.symm.next (own_block_lt h.o2) hat).symm, (h.p13.symm.next (own_block_lt h.o3) hat).symm, h.p23⟩
theorem R3.app2 (h : R3 w B e v1 v2 v3 n1 n2 n3 x1 x2 x3) (ho : w'.ownsRow B e 1 v (n2 + 1) (x2 ++ y)) (hg : w.grownBy w' v2.ownBlock) (hat : ∀ k, v.ownBlock = some k → v2.ownBlock = some k ∨ w.heap.size ≤ k) :
    R3 w' B e v1 v v3 n1 (n2 + 1) n3 x1 (x2 ++ y) x3 :=
  ⟨h.o1.kept hg h.p12.kept, ho, h.o3.kept hg h.p23.symm.kept, h.p12.next (own_block_lt h.o1) hat, h.p13, (h.p23.symm.next (own_block_lt h.o3) hat).symm⟩
theorem R3.app3 (h : R3 w B e v1 v2 v3 n1 n2 n3 x1 x2 x3) (ho : w'.ownsRow B e 1 v (n3 + 1) (x3 ++ y)) (hg : w.grownBy w' v3.ownBlock) (hat : ∀ k, v.ownBlock = some k → v3.ownBlock = some k ∨ w.heap.size ≤ k) :
    R3 w' B e v1 v2 v n1 n2 (n3 + 1) x1 x2 (x3 ++ y) :=
  ⟨h.o1.kept hg h.p13.kept, h.o2.kept hg h.p23.kept, ho, h.p12, h.p13.next (own_block_lt h.o1) hat, h.p23.next (own_block_lt h.o2) hat⟩
end

end Go.Proofs.YtbkpgfccghombaaDoor

/-! append to one of several rows of the call's own, in a region that draws its order. Conditions: as stated. -/
namespace Go.Proofs.YtbkpgfccghombaaDoor
open Go.ChangeShapes Go.WideShapes Go.ChangeAt Go.RowKit
set_option linter.unusedVariables false

/-- append of one element that has just been laid in a block of its own; where the row lies then -/
theorem step_append1 {P : Program} {ops : Array Oper} {o : Oper} {a : Act} {K : Act → World → Prop} {Q : Exit → Act → World → Prop} {E : Prop} (W : World) (cs : Array Value) (hgd : o.guard = none) (s x : Operand) (t : TypeId)
    (ho : o.op = .call { callee := .builtin .append, args := #[s, x], argTypes := #[t, t] })
    (base : Nat) (e : TypeId) (i : TypeInfo) (z : Value) (size bytes : Nat) (ht : P.underlying t = some (.slice e)) (hi : P.info? e = some i) (hz : i.zero = some z)
    (hsize : i.size = size) (hby : i.bytes = bytes) (hzs : z.cells.size = size) (hsz : 0 < size) (hcs : cs.size = size)
    (v : Value) (n : Nat) (xs : List Value) (hs : a.eval s = v) (hown : W.ownsRow base e size v n xs)
    (N : Nat) (hN : W.heap.size = N) (hx : a.eval x = .slice (some ⟨N, 0, none⟩) 1 1) (h1 : ∀ u ∈ cs.toList, u.oneCell' = true)
    (h63 : n + 1 ≤ maxLen) (hbytes : (n + 1) * bytes ≤ 140737488355328) (hbase : base ≤ W.heap.size)
    (h : ∀ g cap w', w'.ownsRow base e size (.slice (some ⟨g, 0, none⟩) (n + 1) cap) (n + 1) (xs ++ cs.toList) → W.grownBy w' v.ownBlock → (∀ k, (Value.slice (some ⟨g, 0, none⟩) (n + 1) cap).ownBlock = some k → v.ownBlock = some k ∨ W.heap.size ≤ k) → K (a.put o.dst (.slice (some ⟨g, 0, none⟩) (n + 1) cap)) w') :
    if Region.wanted o (yielded ops a.tmps) = true then Oper.wp P o a (W.alloc (.cells cs e)) K Q else E := by
  subst hN
  have hb : (W.alloc (.cells cs e)).heap[W.heap.size]? = some (.cells cs e (0, 0)) := heap_alloc_new W _
  refine step_append_lies (W.alloc (.cells cs e)) hgd s x t ho base e i z size bytes ht hi hz hsize hby hzs hsz v n xs hs (hown.alloc _) ⟨W.heap.size, 0, none⟩ 1 1 cs.toList hx (by simpa using hcs) ?_ h1 (by omega) h63 hbytes (by simp; omega) _ rfl ?_
  · intro j u hu
    have hj : ((⟨W.heap.size, 0, none⟩ : Addr).add j) = ⟨W.heap.size, j, none⟩ := by
      unfold Addr.add
      by_cases h0 : j = 0 <;> simp [h0]
    rw [hj, cell_of_row _ _ j cs e (0, 0) hb, ← Array.getElem?_toList]
    exact hu
  · intro g cap w' hown' hg hat _
    refine h g cap w' hown' ⟨hg.os, hg.tape, hg.output, Nat.le_trans (by simp) hg.size, fun k hk hne' => ?_⟩ (fun k hk => ?_)
    · exact (hg.block k (by simp; omega) hne').trans (Below.heap_alloc W _ k hk)
    · simp [Value.ownBlock] at hk
      subst hk
      rcases hat with hat | hat
      · exact Or.inl hat
      · exact Or.inr (by rw [hat]; simp)

end Go.Proofs.YtbkpgfccghombaaDoor

/-! The sequences of ranges of bytes: Push, Pop, ranged. Conditions: as stated. -/
namespace Go.Proofs.YtbkpgfccghombaaDoor
open Go.ChangeShapes Go.WideShapes Go.ChangeAt Go.RowKit
set_option linter.unusedVariables false

def rngv (p : Int × Int) : List Value := [.int .i32 p.1, .int .i32 p.2]
def rngs (T : List (Int × Int)) : List Value := T.flatMap rngv
theorem rngv_len (p : Int × Int) : (rngv p).length = 2 := rfl
theorem rngs_len (T : List (Int × Int)) : (rngs T).length = T.length * 2 := flat_len rngv 2 rngv_len T
theorem rngs_snoc (T : List (Int × Int)) (p : Int × Int) : rngs (T ++ [p]) = rngs T ++ rngv p := by simp [rngs]
theorem infoR : (Tryd.prog.info? 184).map (fun i => (i.zero, i.size, i.bytes)) = some (some (.agg #[.int .i32 0, .int .i32 0]), 2, 8) := by kernel_rfl

/-- the variables of the package: no range -/
structure Nils (w : World) : Prop where
  s0 : w.cell? ⟨8, 0, none⟩ = some (.int .i32 65535)
  s1 : w.cell? ⟨8, 1, none⟩ = some (.int .i32 0)
  r0 : w.cell? ⟨9, 0, none⟩ = some (.int .u8 255)
  r1 : w.cell? ⟨9, 1, none⟩ = some (.int .u8 0)
theorem Nils.lt {w : World} (h : Nils w) : 10 ≤ w.heap.size := by
  have h1 := World.block_lt_of_cell? w _ h.r0
  have h2 := World.block_lt_of_cell? w _ h.s0
  simp only at h1 h2
  omega

theorem push_any (v : Value) (T : List (Int × Int)) (a z : Int) (B : Nat) (w : World) (hB : B ≤ w.heap.size) (hT : T.length ≤ 16777216) (hown : w.ownsRow B 184 2 v T.length (rngs T)) :
    Calls Tryd.prog 85 #[v, .agg #[.int .i32 a, .int .i32 z]] w fun e w' => ∃ v', e = .returned v' ∧ w'.ownsRow B 184 2 v' (T ++ [(a, z)]).length (rngs (T ++ [(a, z)])) ∧
      w.grownBy w' v.ownBlock ∧ (∀ k, v'.ownBlock = some k → v.ownBlock = some k ∨ w.heap.size ≤ k) := by
  obtain ⟨i0, hi, hz0, hz1, hz2⟩ := info_parts infoR
  have HO := Lib.hid hown
  have HS := Lib.hid (rngs_snoc T (a, z))
  generalize hn : T.length = n at *
  clear hown
  go_enter Tryd.func85, Tryd.ntmps85
  go_wp2_with (at_builtin; refine append1_at (w.alloc (.cells #[.int .i32 a, .int .i32 z] 184)) #[.int .i32 a, .int .i32 z] rfl (.tmp 5) (.tmp 7) 126 rfl B 184 i0 _ 2 8 Tryd.underlying126 hi hz0 hz1 hz2 rfl (by omega) rfl v n (rngs T) rfl (HO.out.alloc _) (w.heap.size + 1) (by simp) rfl (by simp [Value.oneCell']) (by unfold maxLen; omega) (by omega) (by simp; omega) ?_; intro v' w1 hown' hg' _ hat')
  go_ret
  refine ⟨v', rfl, ?_, ?_, ?_⟩
  · rw [HS.out]
    exact hown'
  · exact ⟨hg'.os, hg'.tape, hg'.output, Nat.le_trans (by simp) hg'.size, fun k hk hne => (hg'.block k (by simp; omega) hne).trans (Below.heap_alloc w _ k hk)⟩
  · intro k hk
    rcases hat' k hk with h | h
    · exact .inl h
    · exact .inr (Nat.le_trans (by simp) h)

theorem pop_none (v : Value) (B : Nat) (w : World) (hN : Nils w) (hown : w.ownsRow B 184 2 v 0 []) :
    Calls Tryd.prog 86 #[v] w fun e w' => e = .returned (.tuple #[v, .agg #[.int .i32 65535, .int .i32 0]]) ∧ Below w.heap.size w w' := by
  obtain ⟨a, c, rfl⟩ := own_value hown
  have hlt := hN.lt
  have s0 : ∀ o, (w.alloc o).cell? ⟨8, 0, none⟩ = some (.int .i32 65535) := fun o => ((Below.refl w.heap.size w).alloc (Nat.le_refl _) o).cell (by simp; omega) |>.trans hN.s0
  have s1 : ∀ o, (w.alloc o).cell? ⟨8, 1, none⟩ = some (.int .i32 0) := fun o => ((Below.refl w.heap.size w).alloc (Nat.le_refl _) o).cell (by simp; omega) |>.trans hN.s1
  clear hN hown
  go_enter Tryd.func86, Tryd.ntmps86
  go_wp2
  go_region
  all_goals
    go_wp2
    go_returns
    exact ⟨rfl, by repeat (first | exact Below.refl _ _ | apply Below.drew | refine Below.setCell ?_ (by simp) _ | refine Below.alloc ?_ (by simp) _)⟩

/-- the topmost range of the stack -/
theorem pop_some (v : Value) (T : List (Int × Int)) (a z : Int) (B : Nat) (w : World) (hT : T.length ≤ 16777216) (hown : w.ownsRow B 184 2 v (T ++ [(a, z)]).length (rngs (T ++ [(a, z)]))) :
    Calls Tryd.prog 86 #[v] w fun e w' => ∃ v', e = .returned (.tuple #[v', .agg #[.int .i32 a, .int .i32 z]]) ∧ v'.ownBlock = v.ownBlock ∧ w.ownsRow B 184 2 v' T.length (rngs T) ∧ Below w.heap.size w w' := by
  obtain ⟨g, cap, rfl, hbg, hgl⟩ := World.ownsRow.form hown (by simp)
  have hsmall : w.ownsRow B 184 2 (.slice (some ⟨g, 0, none⟩) T.length cap) T.length (rngs T) := by
    rcases hown.2 with ⟨h, _⟩ | ⟨g', cap', cur, he, h1, h2, h3, h4, h5, h6⟩
    · cases h
    · cases he
      refine ⟨rngs_len T, .inr ⟨g, cap, cur, rfl, h1, h2, by simp at h3; omega, h4, h5, ?_⟩⟩
      rw [rngs_snoc] at h6
      have h7 := congrArg (List.take (T.length * 2)) h6
      rw [List.take_take, List.take_left' (rngs_len T), Nat.min_eq_left (by simp; omega)] at h7
      exact h7
  have hcap : T.length + 1 ≤ cap := by
    rcases hown.2 with ⟨h, _⟩ | ⟨g', cap', cur, he, h1, h2, h3, h4, h5, h6⟩
    · cases h
    · cases he
      simpa using h3
  have c0' : w.cell? ((⟨g, 0, none⟩ : Addr).add (T.length * 2)) = some (.int .i32 a) := by
    refine World.ownsRow.cells hown rfl (T.length * 2) _ ?_
    rw [rngs_snoc, List.getElem?_append_right (by rw [rngs_len]; omega), rngs_len, Nat.sub_self]
    rfl
  have c1' : w.cell? ((⟨g, 0, none⟩ : Addr).add (T.length * 2 + 1)) = some (.int .i32 z) := by
    refine World.ownsRow.cells hown rfl (T.length * 2 + 1) _ ?_
    rw [rngs_snoc, List.getElem?_append_right (by rw [rngs_len]; omega), rngs_len, show T.length * 2 + 1 - T.length * 2 = 1 by omega]
    rfl
  have c2' := cell_off c1'
  have HS := Lib.hid hsmall
  rw [show (T ++ [(a, z)]).length = T.length + 1 by simp]
  generalize T.length = n at *
  have hb0 : ((⟨g, 0, none⟩ : Addr).add (n * 2)).block < w.heap.size := by rw [block_add]; exact hgl
  clear hown hsmall hbg c1'
  have HG : Hid ((Value.slice (some ⟨g, 0, none⟩) n cap).ownBlock = (Value.slice (some ⟨g, 0, none⟩) (n + 1) cap).ownBlock) := Lib.hid rfl
  generalize (⟨g, 0, none⟩ : Addr) = ad at *
  have c0 : ∀ o, (w.alloc o).cell? (ad.add (n * 2)) = some (.int .i32 a) := fun o => ((Below.refl w.heap.size w).alloc (Nat.le_refl _) o).cell hb0 |>.trans c0'
  have c1 : ∀ o, (w.alloc o).cell? ⟨(ad.add (n * 2)).block, (ad.add (n * 2)).off + 1, none⟩ = some (.int .i32 z) := fun o => ((Below.refl w.heap.size w).alloc (Nat.le_refl _) o).cell (p := ⟨(ad.add (n * 2)).block, (ad.add (n * 2)).off + 1, none⟩) hb0 |>.trans c2'
  have hidx : (((n + 1 : Nat) : Int) - 1) = (n : Int) := by omega
  clear c0' c2'
  go_enter Tryd.func86, Tryd.ntmps86
  go_wp2
  go_region
  all_goals
    go_wp2
    go_returns
    exact ⟨_, rfl, HG.out, HS.out, by repeat (first | exact Below.refl _ _ | apply Below.drew | refine Below.setCell ?_ (by simp) _ | refine Below.alloc ?_ (by simp) _)⟩

end Go.Proofs.YtbkpgfccghombaaDoor

/-! UTF-8 by its definition. Plain. Conditions: none. -/
namespace Go.Proofs.YtbkpgfccghombaaDoor
open Go.ChangeShapes Go.WideShapes Go.ChangeAt Go.RowKit
set_option linter.unusedVariables false

def isL (r : Int) : Bool := decide (0 ≤ r ∧ r ≤ 1114111 ∧ (r < 55296 ∨ 57343 < r))
/-- the bytes of a letter -/
def ub (r : Int) : List Int :=
  if r ≤ 127 then [r] else if r ≤ 2047 then [192 + r / 64, 128 + r % 64]
  else if r ≤ 65535 then [224 + r / 4096, 128 + r / 64 % 64, 128 + r % 64]
  else [240 + r / 262144, 128 + r / 4096 % 64, 128 + r / 64 % 64, 128 + r % 64]

theorem ub_bd (r : Int) (h0 : 0 ≤ r) (h1 : r ≤ 1114111) : ∀ b ∈ ub r, 0 ≤ b ∧ b ≤ 255 := by
  unfold ub
  intro b hb
  split at hb
  · simp at hb; omega
  · split at hb
    · simp at hb; omega
    · split at hb
      · simp at hb; omega
      · simp at hb; omega

end Go.Proofs.YtbkpgfccghombaaDoor

/-! The contract of unicode/utf8.EncodeRune at letters, over four bytes of the caller's own. Conditions: as stated. -/
namespace Go.Proofs.YtbkpgfccghombaaDoor
open Go.ChangeShapes Go.WideShapes Go.ChangeAt Go.RowKit
set_option linter.unusedVariables false

theorem or_192 (x : Int) (h0 : 0 ≤ x) (h : x < 32) : bits BinOp.or IntKind.u8 192 x = 192 + x := by
  obtain ⟨n, rfl⟩ := Int.eq_ofNat_of_zero_le h0
  have h1 := u8_or_nat 192 n (by omega) (by omega)
  rw [nat_join 6 192 n (by omega) (by omega)] at h1
  rw [show (192 : Int) = ((192 : Nat) : Int) from rfl, h1]
  omega
theorem or_224 (x : Int) (h0 : 0 ≤ x) (h : x < 16) : bits BinOp.or IntKind.u8 224 x = 224 + x := by
  obtain ⟨n, rfl⟩ := Int.eq_ofNat_of_zero_le h0
  have h1 := u8_or_nat 224 n (by omega) (by omega)
  rw [nat_join 5 224 n (by omega) (by omega)] at h1
  rw [show (224 : Int) = ((224 : Nat) : Int) from rfl, h1]
  omega
theorem or_240 (x : Int) (h0 : 0 ≤ x) (h : x < 16) : bits BinOp.or IntKind.u8 240 x = 240 + x := by
  obtain ⟨n, rfl⟩ := Int.eq_ofNat_of_zero_le h0
  have h1 := u8_or_nat 240 n (by omega) (by omega)
  rw [nat_join 4 240 n (by omega) (by omega)] at h1
  rw [show (240 : Int) = ((240 : Nat) : Int) from rfl, h1]
  omega
theorem or_128 (x : Int) (h0 : 0 ≤ x) (h : x < 64) : bits BinOp.or IntKind.u8 128 x = 128 + x := by
  obtain ⟨n, rfl⟩ := Int.eq_ofNat_of_zero_le h0
  have h1 := u8_or_nat 128 n (by omega) (by omega)
  rw [nat_join 6 128 n (by omega) (by omega)] at h1
  rw [show (128 : Int) = ((128 : Nat) : Int) from rfl, h1]
  omega
theorem and_63 (x : Int) (h0 : 0 ≤ x) (h : x < 256) : bits BinOp.and IntKind.u8 x 63 = x % 64 := by
  obtain ⟨n, rfl⟩ := Int.eq_ofNat_of_zero_le h0
  have h1 := u8_and_nat n 63 (by omega) (by omega)
  rw [nat_mask6] at h1
  rw [show (63 : Int) = ((63 : Nat) : Int) from rfl, h1]
  omega

set_option maxHeartbeats 1000000 in
theorem non_any (g c : Nat) (x0 x1 x2 x3 : Value) (r : Int) (w : World) (hr : isL r = true) (h127 : 127 < r) (hb : Blk w g 5 [x0, x1, x2, x3]) :
    Calls Tryd.prog 97 #[.slice (some ⟨g, 0, none⟩) 4 c, .int .i32 r] w fun e w' =>
      e = .returned (.int .i64 ((ub r).length : Nat)) ∧ (∃ rest, rest.length + (ub r).length = 4 ∧ Blk w' g 5 ((ub r).map (.int .u8) ++ rest)) ∧ w.grownBy w' (some g) := by
  have c0 := hb.cell 0
  have c1 := hb.cell 1
  have c2 := hb.cell 2
  have c3 := hb.cell 3
  have f0 := hb.frozen 0
  have f1 := hb.frozen 1
  have f2 := hb.frozen 2
  have f3 := hb.frozen 3
  simp only [List.getElem?_cons_zero, List.getElem?_cons_succ] at c0 c1 c2 c3
  have HB := Lib.hid hb
  clear hb
  have hl := of_decide_eq_true hr
  obtain ⟨h0, h1, h2⟩ := hl
  clear hr
  have k63 : ∀ x : Int, 0 ≤ x → x < 256 → bits BinOp.and IntKind.u8 x 63 = x % 64 := and_63
  by_cases h3 : r ≤ 2047
  · have HE := Lib.hid (show ub r = [192 + r / 64, 128 + r % 64] by unfold ub; rw [if_neg (by omega), if_pos h3])
    have w1 : IntKind.u8.wrap (r / 64) = r / 64 := by rw [IntKind.wrap_u8']; omega
    have o1 := or_192 (r / 64) (by omega) (by omega)
    have a1 := and_63 (r % 256) (by omega) (by omega)
    clear k63
    go_enter Tryd.func97, Tryd.ntmps97
    go_wp2
    go_ret
    refine ⟨by rw [HE.out]; rfl, ⟨[x2, x3], by rw [HE.out]; rfl, ?_⟩, only_set (only_set (World.grownBy.refl w _) _ _) _ _⟩
    rw [HE.out]
    exact (HB.out.set_ 0 _).set_ 1 _
  · by_cases h4 : r ≤ 65535
    · have HE := Lib.hid (show ub r = [224 + r / 4096, 128 + r / 64 % 64, 128 + r % 64] by unfold ub; rw [if_neg (by omega), if_neg (by omega), if_pos h4])
      have o1 := or_224 (r / 4096) (by omega) (by omega)
      clear k63
      rcases h2 with h2 | h2
      all_goals
        go_enter Tryd.func97, Tryd.ntmps97
        go_wp2
        go_ret
        refine ⟨by rw [HE.out]; rfl, ⟨[x3], by rw [HE.out]; rfl, ?_⟩, only_set (only_set (only_set (World.grownBy.refl w _) _ _) _ _) _ _⟩
        rw [HE.out]
        exact ((HB.out.set_ 0 _).set_ 1 _).set_ 2 _
    · have HE := Lib.hid (show ub r = [240 + r / 262144, 128 + r / 4096 % 64, 128 + r / 64 % 64, 128 + r % 64] by unfold ub; rw [if_neg (by omega), if_neg (by omega), if_neg h4])
      have o1 := or_240 (r / 262144) (by omega) (by omega)
      clear k63 h2
      go_enter Tryd.func97, Tryd.ntmps97
      go_wp2
      go_ret
      refine ⟨by rw [HE.out]; rfl, ⟨[], by rw [HE.out]; rfl, ?_⟩, only_set (only_set (only_set (only_set (World.grownBy.refl w _) _ _) _ _) _ _) _ _⟩
      rw [HE.out]
      exact (((HB.out.set_ 0 _).set_ 1 _).set_ 2 _).set_ 3 _

set_option maxHeartbeats 400000 in
theorem enc_any (g c : Nat) (x0 x1 x2 x3 : Value) (r : Int) (w : World) (hr : isL r = true) (hb : Blk w g 5 [x0, x1, x2, x3]) :
    Calls Tryd.prog 95 #[.slice (some ⟨g, 0, none⟩) 4 c, .int .i32 r] w fun e w' =>
      e = .returned (.int .i64 ((ub r).length : Nat)) ∧ (∃ rest, rest.length + (ub r).length = 4 ∧ Blk w' g 5 ((ub r).map (.int .u8) ++ rest)) ∧ w.grownBy w' (some g) := by
  have hl := of_decide_eq_true hr
  obtain ⟨h0, h1, h2⟩ := hl
  clear h2
  by_cases h127 : r ≤ 127
  · have HE := Lib.hid (show ub r = [r] by unfold ub; rw [if_pos h127])
    have c0 := hb.cell 0
    have f0 := hb.frozen 0
    simp only [List.getElem?_cons_zero] at c0
    have HB := Lib.hid hb
    clear hb hr
    go_enter Tryd.func95, Tryd.ntmps95
    go_wp2
    go_ret
    refine ⟨by rw [HE.out]; rfl, ⟨[x1, x2, x3], by rw [HE.out]; rfl, ?_⟩, only_set (World.grownBy.refl w _) _ _⟩
    rw [HE.out]
    exact HB.out.set_ 0 _
  · have C := Lib.hid (non_any g c x0 x1 x2 x3 r w hr (by omega) hb)
    clear hb hr
    go_enter Tryd.func95, Tryd.ntmps95
    go_wp2_with (first | (go_at_call 97; refine C.out.mono ?_; rintro e w' ⟨rfl, hB, hg⟩; have HB := Lib.hid hB; have HG := Lib.hid hg; clear hB hg))
    go_ret
    exact ⟨rfl, HB.out, HG.out⟩

end Go.Proofs.YtbkpgfccghombaaDoor

/-! The sequences of ranges of bytes: split, valid, ascii, encode, the sequence of two letters' bytes. Conditions: as stated. -/
namespace Go.Proofs.YtbkpgfccghombaaDoor
open Go.ChangeShapes Go.WideShapes Go.ChangeAt Go.RowKit
set_option linter.unusedVariables false

theorem al1 {w : World} {p : Addr} {v : Value} (h : w.cell? p = some v) : ∀ o, (w.alloc o).cell? p = some v := fun o =>
  (((Below.refl w.heap.size w).alloc (Nat.le_refl _) o).cell (World.block_lt_of_cell? w p h)).trans h
theorem al2 {w : World} {p : Addr} {v : Value} (h : w.cell? p = some v) : ∀ o o2, ((w.alloc o).alloc o2).cell? p = some v := fun o o2 => al1 (al1 h o) o2

theorem split_yes (R : Nat) (a z : Int) (w : World) (h0 : w.cell? ⟨R, 0, none⟩ = some (.int .i32 a)) (h1 : w.cell? ⟨R, 1, none⟩ = some (.int .i32 z)) (ha : a < 57344) (hz : 55295 < z) :
    Calls Tryd.prog 87 #[.pointer (some ⟨R, 0, none⟩)] w fun e w' => e = .returned (.tuple #[.agg #[.int .i32 a, .int .i32 55295], .agg #[.int .i32 57344, .int .i32 z]]) ∧ Below w.heap.size w w' := by
  have hR := World.block_lt_of_cell? w _ h0
  have s0 := al2 h0
  have s1 := al2 h1
  clear h0 h1
  go_enter Tryd.func87, Tryd.ntmps87
  go_wp2
  go_region
  all_goals
    go_wp2
    go_returns
    exact ⟨rfl, by repeat (first | exact Below.refl _ _ | apply Below.drew | refine Below.setCell ?_ (by simp) _ | refine Below.alloc ?_ (by simp) _)⟩

theorem split_no (R : Nat) (a z : Int) (w : World) (hN : Nils w) (h0 : w.cell? ⟨R, 0, none⟩ = some (.int .i32 a)) (h1 : w.cell? ⟨R, 1, none⟩ = some (.int .i32 z)) (h : 57344 ≤ a ∨ z ≤ 55295) :
    Calls Tryd.prog 87 #[.pointer (some ⟨R, 0, none⟩)] w fun e w' => e = .returned (.tuple #[.agg #[.int .i32 65535, .int .i32 0], .agg #[.int .i32 65535, .int .i32 0]]) ∧ Below w.heap.size w w' := by
  have hR := World.block_lt_of_cell? w _ h0
  have s0 := al2 h0
  have s1 := al2 h1
  have n0 := al2 hN.s0
  have n1 := al2 hN.s1
  have hlt := hN.lt
  clear h0 h1 hN
  by_cases ha : a < 57344
  · have hz : ¬ 55295 < z := by omega
    clear h
    go_enter Tryd.func87, Tryd.ntmps87
    go_wp2
    go_region
    all_goals
      go_wp2
      go_returns
      exact ⟨rfl, by repeat (first | exact Below.refl _ _ | apply Below.drew | refine Below.setCell ?_ (by simp) _ | refine Below.alloc ?_ (by simp) _)⟩
  · clear h
    go_enter Tryd.func87, Tryd.ntmps87
    go_wp2
    go_region
    all_goals
      go_wp2
      go_returns
      exact ⟨rfl, by repeat (first | exact Below.refl _ _ | apply Below.drew | refine Below.setCell ?_ (by simp) _ | refine Below.alloc ?_ (by simp) _)⟩

theorem valid_any (R : Nat) (a z : Int) (w : World) (h0 : w.cell? ⟨R, 0, none⟩ = some (.int .i32 a)) (h1 : w.cell? ⟨R, 1, none⟩ = some (.int .i32 z)) :
    Calls Tryd.prog 88 #[.pointer (some ⟨R, 0, none⟩)] w fun e w' => e = .returned (.bool (decide (a ≤ z))) ∧ ∃ n, w' = w.drewN n := by
  go_enter Tryd.func88, Tryd.ntmps88
  go_wp2
  go_quiet (fail)
  go_wp2
  go_returns
  exact ⟨rfl, _, rfl⟩

theorem ascii_yes (R : Nat) (a z : Int) (w : World) (h0 : w.cell? ⟨R, 0, none⟩ = some (.int .i32 a)) (h1 : w.cell? ⟨R, 1, none⟩ = some (.int .i32 z)) (ha : 0 ≤ a) (haz : a ≤ z) (hz : z ≤ 127) :
    Calls Tryd.prog 90 #[.pointer (some ⟨R, 0, none⟩)] w fun e w' => e = .returned (.agg #[.int .u8 a, .int .u8 z]) ∧ Below w.heap.size w w' := by
  have hR := World.block_lt_of_cell? w _ h0
  have s0 := al1 h0
  have s1 := al1 h1
  have C := fun o => valid_any R a z (w.alloc o) (s0 o) (s1 o)
  rw [decide_eq_true haz] at C
  have C' := Lib.hid C
  clear h0 h1 C
  go_enter Tryd.func90, Tryd.ntmps90
  go_wp2_with (first | (go_at_call 88; refine (C'.out _).mono ?_; rintro e w' ⟨rfl, m, rfl⟩))
  go_region
  all_goals
    go_wp2
    go_returns
    exact ⟨rfl, by repeat (first | exact Below.refl _ _ | apply Below.drew | apply below_drewN | refine Below.setCell ?_ (by simp) _ | refine Below.alloc ?_ (by simp) _)⟩

theorem ascii_no (R : Nat) (a z : Int) (w : World) (hN : Nils w) (h0 : w.cell? ⟨R, 0, none⟩ = some (.int .i32 a)) (h1 : w.cell? ⟨R, 1, none⟩ = some (.int .i32 z)) (haz : a ≤ z) (hz : ¬ z ≤ 127) :
    Calls Tryd.prog 90 #[.pointer (some ⟨R, 0, none⟩)] w fun e w' => e = .returned (.agg #[.int .u8 255, .int .u8 0]) ∧ Below w.heap.size w w' := by
  have hR := World.block_lt_of_cell? w _ h0
  have s0 := al1 h0
  have s1 := al1 h1
  have n0 := al1 hN.r0
  have n1 := al1 hN.r1
  have hlt := hN.lt
  have C := fun o => valid_any R a z (w.alloc o) (s0 o) (s1 o)
  rw [decide_eq_true haz] at C
  have C' := Lib.hid C
  clear h0 h1 C hN
  go_enter Tryd.func90, Tryd.ntmps90
  go_wp2_with (first | (go_at_call 88; refine (C'.out _).mono ?_; rintro e w' ⟨rfl, m, rfl⟩))
  go_returns
  exact ⟨rfl, by repeat (first | exact Below.refl _ _ | apply Below.drew | apply below_drewN | refine Below.setCell ?_ (by simp) _ | refine Below.alloc ?_ (by simp) _)⟩

set_option maxRecDepth 100000 in
set_option maxHeartbeats 400000 in
theorem senc_any (gs ga gb ca cb : Nat) (x0 x1 x2 x3 y0 y1 y2 y3 : Value) (a b : Int) (w : World) (ha : isL a = true) (hb : isL b = true)
    (s0 : w.cell? ⟨gs, 0, none⟩ = some (.int .i32 a)) (s1 : w.cell? ⟨gs, 1, none⟩ = some (.int .i32 b)) (hA : Blk w ga 5 [x0, x1, x2, x3]) (hB : Blk w gb 5 [y0, y1, y2, y3]) (h1 : ga ≠ gs) (h3 : ga ≠ gb) :
    Calls Tryd.prog 91 #[.pointer (some ⟨gs, 0, none⟩), .slice (some ⟨ga, 0, none⟩) 4 ca, .slice (some ⟨gb, 0, none⟩) 4 cb] w fun e w' =>
      e = .returned (.tuple #[.int .i64 ((ub a).length : Nat), .int .i64 ((ub b).length : Nat)]) ∧ (∃ r, r.length + (ub a).length = 4 ∧ Blk w' ga 5 ((ub a).map (.int .u8) ++ r)) ∧ (∃ r, r.length + (ub b).length = 4 ∧ Blk w' gb 5 ((ub b).map (.int .u8) ++ r)) ∧
        ∃ w1, w.grownBy w1 (some ga) ∧ w1.grownBy w' (some gb) := by
  have C1 := Lib.hid (enc_any ga ca x0 x1 x2 x3 a w ha hA)
  have C2 := Lib.hid (fun (W : World) (h : Blk W gb 5 [y0, y1, y2, y3]) => enc_any gb cb y0 y1 y2 y3 b W hb h)
  have HA := Lib.hid hA
  have HB := Lib.hid hB
  have H3 := Lib.hid h3
  have S1 := Lib.hid s1
  have hgs := World.block_lt_of_cell? w _ s0
  clear hA hB s1 ha hb
  go_enter Tryd.func91, Tryd.ntmps91
  go_wp2_with fail
  refine C1.out.mono ?_
  rintro e w1 ⟨rfl, ⟨r1, hr1, hb1⟩, hg1⟩
  have s1 : w1.cell? ⟨gs, 1, none⟩ = some (.int .i32 b) := (World.cell?_of_block (w := w) (hg1.block gs hgs (fun e => h1 (by injection e with e; exact e.symm)))).trans S1.out
  have HB1 := Lib.hid (HB.out.grown hg1 (fun e => H3.out (by injection e with e; exact e.symm)))
  have HA1 := Lib.hid hb1
  have HG1 := Lib.hid hg1
  have HR1 := Lib.hid hr1
  clear hb1 hg1 hr1 HB C1
  go_wp2_with fail
  refine (C2.out _ HB1.out).mono ?_
  rintro e w2 ⟨rfl, ⟨r2, hr2, hb2⟩, hg2⟩
  have HB2 := Lib.hid hb2
  have HA2 := Lib.hid (HA1.out.grown hg2 (fun e => H3.out (by injection e)))
  have HG2 := Lib.hid hg2
  have HR2 := Lib.hid hr2
  clear hb2 hg2 hr2
  go_wp2
  go_ret2
  exact ⟨rfl, ⟨_, HR1.out, HA2.out⟩, ⟨_, HR2.out, HB2.out⟩, _, HG1.out, HG2.out⟩

end Go.Proofs.YtbkpgfccghombaaDoor

/-! The sequences of ranges of bytes: SequenceFromEncodedRange: its row lies in a block of its own. Conditions: as stated. -/
namespace Go.Proofs.YtbkpgfccghombaaDoor
open Go.ChangeShapes Go.WideShapes Go.ChangeAt Go.RowKit
set_option linter.unusedVariables false

def prv (p : Int × Int) : List Value := [.int .u8 p.1, .int .u8 p.2]
def prvs (ps : List (Int × Int)) : List Value := ps.flatMap prv
theorem prv_len (p : Int × Int) : (prv p).length = 2 := rfl
theorem prvs_len (ps : List (Int × Int)) : (prvs ps).length = ps.length * 2 := flat_len prv 2 prv_len ps

/-- byte j of a slice, as the walk spells its address -/
theorem byte_at {w : World} {B : Nat} {ad : Addr} {zs : List Int} (h : Sl w B (some ad) (zs.map (.int .u8))) (j : Nat) (hj : j < zs.length) : w.cell? ⟨ad.block, ad.off + j, none⟩ = some (.int .u8 (zs.getD j 0)) := by
  obtain ⟨_, h1, hc⟩ := h.ints j hj
  injection h1 with h1
  subst h1
  have := cell_off (i := 0) (j := j) (by rw [Nat.zero_add]; exact hc)
  simpa [Addr.add] using this
theorem byte_0 {w : World} {B : Nat} {ad : Addr} {zs : List Int} (h : Sl w B (some ad) (zs.map (.int .u8))) (hj : 0 < zs.length) : w.cell? ad = some (.int .u8 (zs.getD 0 0)) := by
  obtain ⟨_, h1, hc⟩ := h.ints 0 hj
  injection h1 with h1
  subst h1
  simpa [Addr.add] using hc
theorem some_of {w : World} {B : Nat} {a : Option Addr} {zs : List Int} (h : Sl w B a (zs.map (.int .u8))) (hj : 0 < zs.length) : ∃ ad, a = some ad := by
  obtain ⟨ad, h1, _⟩ := h.ints 0 hj
  exact ⟨ad, h1⟩

/-- a sequence has been made -/
def Made (w : World) (n : Nat) (ps : List (Int × Int)) (e : Ending) (w' : World) : Prop :=
  ∃ c, e = .returned (.tuple #[.slice (some ⟨w.heap.size, 0, none⟩) n c, .nilIface]) ∧ Blk w' w.heap.size 192 (prvs ps) ∧ Below w.heap.size w w'

set_option maxRecDepth 100000 in
set_option maxHeartbeats 1600000 in
theorem sfer_2 (a b : Option Addr) (c d : Nat) (x0 x1 y0 y1 : Int) (B : Nat) (w : World) (hx : Sl w B a ([x0, x1].map (.int .u8))) (hy : Sl w B b ([y0, y1].map (.int .u8))) :
    Calls Tryd.prog 92 #[.slice a 2 c, .slice b 2 d] w (Made w 2 [(x0, y0), (x1, y1)]) := by
  obtain ⟨ad, rfl⟩ := some_of hx (by simp)
  obtain ⟨bd, rfl⟩ := some_of hy (by simp)
  have a0 := byte_0 hx (by simp)
  have a1 := byte_at hx 1 (by simp)
  have b0 := byte_0 hy (by simp)
  have b1 := byte_at hy 1 (by simp)
  simp only [List.getD_cons_zero, List.getD_cons_succ] at a0 a1 b0 b1
  clear hx hy
  go_enter Tryd.func92, Tryd.ntmps92
  go_wp2
  refine wp_region_still_tail 14 (by kernel_rfl) (by kernel_rfl) ?_
  simp only [List.take_succ_cons, List.take_zero, List.drop_succ_cons, List.drop_zero]
  change wpStill _ _ (World.drew _) _ _ _
  repeat still_step
  refine wpStill_nil ?_
  change wpList _ _ _ _ _ (World.drew _)
  go_wp2
  go_ret2
  refine ⟨2, rfl, ?_, (Below.refl _ w).drew.alloc (Nat.le_refl _) _⟩
  exact Blk.new w 192 [.int .u8 x0, .int .u8 y0, .int .u8 x1, .int .u8 y1]

set_option maxRecDepth 100000 in
set_option maxHeartbeats 1600000 in
theorem sfer_3 (a b : Option Addr) (c d : Nat) (x0 x1 x2 y0 y1 y2 : Int) (B : Nat) (w : World) (hx : Sl w B a ([x0, x1, x2].map (.int .u8))) (hy : Sl w B b ([y0, y1, y2].map (.int .u8))) :
    Calls Tryd.prog 92 #[.slice a 3 c, .slice b 3 d] w (Made w 3 [(x0, y0), (x1, y1), (x2, y2)]) := by
  obtain ⟨ad, rfl⟩ := some_of hx (by simp)
  obtain ⟨bd, rfl⟩ := some_of hy (by simp)
  have a0 := byte_0 hx (by simp)
  have a1 := byte_at hx 1 (by simp)
  have a2 := byte_at hx 2 (by simp)
  have b0 := byte_0 hy (by simp)
  have b1 := byte_at hy 1 (by simp)
  have b2 := byte_at hy 2 (by simp)
  simp only [List.getD_cons_zero, List.getD_cons_succ] at a0 a1 a2 b0 b1 b2
  clear hx hy
  go_enter Tryd.func92, Tryd.ntmps92
  go_wp2
  refine wp_region_still_tail 21 (by kernel_rfl) (by kernel_rfl) ?_
  simp only [List.take_succ_cons, List.take_zero, List.drop_succ_cons, List.drop_zero]
  change wpStill _ _ (World.drew _) _ _ _
  repeat still_step
  refine wpStill_nil ?_
  change wpList _ _ _ _ _ (World.drew _)
  go_wp2
  go_ret2
  refine ⟨3, rfl, ?_, (Below.refl _ w).drew.alloc (Nat.le_refl _) _⟩
  exact Blk.new w 192 [.int .u8 x0, .int .u8 y0, .int .u8 x1, .int .u8 y1, .int .u8 x2, .int .u8 y2]

set_option maxRecDepth 100000 in
set_option maxHeartbeats 1600000 in
theorem sfer_4 (a b : Option Addr) (c d : Nat) (x0 x1 x2 x3 y0 y1 y2 y3 : Int) (B : Nat) (w : World) (hx : Sl w B a ([x0, x1, x2, x3].map (.int .u8))) (hy : Sl w B b ([y0, y1, y2, y3].map (.int .u8))) :
    Calls Tryd.prog 92 #[.slice a 4 c, .slice b 4 d] w (Made w 4 [(x0, y0), (x1, y1), (x2, y2), (x3, y3)]) := by
  obtain ⟨ad, rfl⟩ := some_of hx (by simp)
  obtain ⟨bd, rfl⟩ := some_of hy (by simp)
  have a0 := byte_0 hx (by simp)
  have a1 := byte_at hx 1 (by simp)
  have a2 := byte_at hx 2 (by simp)
  have a3 := byte_at hx 3 (by simp)
  have b0 := byte_0 hy (by simp)
  have b1 := byte_at hy 1 (by simp)
  have b2 := byte_at hy 2 (by simp)
  have b3 := byte_at hy 3 (by simp)
  simp only [List.getD_cons_zero, List.getD_cons_succ] at a0 a1 a2 a3 b0 b1 b2 b3
  clear hx hy
  go_enter Tryd.func92, Tryd.ntmps92
  go_wp2
  refine wp_region_still_tail 28 (by kernel_rfl) (by kernel_rfl) ?_
  simp only [List.take_succ_cons, List.take_zero, List.drop_succ_cons, List.drop_zero]
  change wpStill _ _ (World.drew _) _ _ _
  repeat still_step
  refine wpStill_nil ?_
  change wpList _ _ _ _ _ (World.drew _)
  go_wp2
  go_ret2
  refine ⟨4, rfl, ?_, (Below.refl _ w).drew.alloc (Nat.le_refl _) _⟩
  exact Blk.new w 192 [.int .u8 x0, .int .u8 y0, .int .u8 x1, .int .u8 y1, .int .u8 x2, .int .u8 y2, .int .u8 x3, .int .u8 y3]

theorem sfer_eq (a b : Option Addr) (xs ys : List Int) (c d : Nat) (B : Nat) (w : World) (hl : xs.length = ys.length) (h2 : 2 ≤ xs.length) (h4 : xs.length ≤ 4) (hx : Sl w B a (xs.map (.int .u8))) (hy : Sl w B b (ys.map (.int .u8))) :
    Calls Tryd.prog 92 #[.slice a xs.length c, .slice b ys.length d] w (Made w (xs.zip ys).length (xs.zip ys)) := by
  match xs, ys, hl, h2, h4 with
  | [x0, x1], [y0, y1], _, _, _ => exact sfer_2 a b c d x0 x1 y0 y1 B w hx hy
  | [x0, x1, x2], [y0, y1, y2], _, _, _ => exact sfer_3 a b c d x0 x1 x2 y0 y1 y2 B w hx hy
  | [x0, x1, x2, x3], [y0, y1, y2, y3], _, _, _ => exact sfer_4 a b c d x0 x1 x2 x3 y0 y1 y2 y3 B w hx hy

end Go.Proofs.YtbkpgfccghombaaDoor
