/-
  Ground lemmas for every law of this seat: the frame of a law's row (the law returns true and what was there before is untouched), small lemmas on worlds and integers. Conditions: none.
-/
import Derived.Test.YtjonmfaeonldcaaDoorRows
import Derived.WalkKit
import Derived.ProofKit
import Derived.OpenShut
import Derived.Deep.QuietTactic
import Derived.BigQuiet
import Derived.SizedLaws
import Derived.JoinedCond
import Derived.Deep.CondSized
import Derived.Below
import Derived.WalkSpells
import Derived.Deep.Draws
import Derived.Lib.Hide
import Derived.StillTailTactics
import Derived.OwnWalk
import Derived.Laws.IdiomCopy
import Derived.Deep.Slices
import Derived.Deep.Fields
import Derived.Lib.SmallJoins
import Derived.Deep.AppendLies
import Derived.Maps.AppendAt
import Derived.Deep.RegionHeld3
import Derived.Outline
namespace Go.Proofs.YtjonmfaeonldcaaDoor
open Go.ChangeShapes Go.WideShapes Go.ChangeAt Go.RowKit

theorem own : ownKnob Tryd.prog.godebug = none := by kernel_rfl
theorem laidOut : laidOutB Tryd.prog = true := by kernel_rfl

section
variable {H : Type} {enc : TypeId × Value → H} {P : Program}

/-- all arguments read as they did, where below the old heap nothing has turned -/
theorem trodAll_below (hl : laidOutB P = true) {W W' : World} (hb : Below W.heap.size W W') {sp : Nat → Bool} :
    ∀ (ts : List TypeId) (vs : List Value) (ds : List (DataW H)) (ps : List MemPlace), ts.all (fun t => P.readableRec t && decide (t < P.types.size)) = true →
      (∀ p ∈ ps, p.block < W.heap.size ∧ sp p.block = true) →
      DataW.TrodAll enc P W 0 (fun _ => true) true ts vs ds ps → DataW.TrodAll enc P W' 0 sp true ts vs ds ps
  | [], [], [], _, _, _, h => h
  | t :: ts, v :: vs, d :: ds, ps, ht, hp, h => by
    obtain ⟨p, q, h1, h2, rfl⟩ := h
    simp only [List.all_cons, Bool.and_eq_true, decide_eq_true_eq] at ht
    exact ⟨p, q, WideElems.Trod_stays hl ht.1.1 ht.1.2 h1 (fun x hx => hb.same (hp x (by simp [hx])).1) (fun x hx => (hp x (by simp [hx])).2),
      trodAll_below hl hb ts vs ds q ht.2 (fun x hx => hp x (by simp [hx])) h2, rfl⟩
  | [], _ :: _, _, _, _, _, h => h.elim
  | [], [], _ :: _, _, _, _, h => h.elim
  | _ :: _, [], _, _, _, _, h => h.elim
  | _ :: _, _ :: _, [], _, _, _, h => h.elim

theorem trodAll_length {W : World} {base : Nat} {sp : Nat → Bool} {hd : Bool} :
    ∀ (ts : List TypeId) (vs : List Value) (ds : List (DataW H)) (ps : List MemPlace), DataW.TrodAll enc P W base sp hd ts vs ds ps → vs.length = ts.length ∧ ds.length = ts.length
  | [], [], [], _, _ => ⟨rfl, rfl⟩
  | _ :: ts, _ :: vs, _ :: ds, _, h => by
    obtain ⟨_, q, _, h2, _⟩ := h
    have := trodAll_length ts vs ds q h2
    simp only [List.length_cons]
    omega
  | [], _ :: _, _, _, h => h.elim
  | [], [], _ :: _, _, h => h.elim
  | _ :: _, [], _, _, h => h.elim
  | _ :: _, _ :: _, [], _, h => h.elim

/-- the row's post of a law: true, and nothing old has turned -/
theorem law_post {f : Func} {s : ChangeSpec} {apart fresh handsOn again : Bool} {W W' : World} {args : Array Value} {ds gs : List (DataW H)} {before : List MemPlace} {tb : TypeId}
    (hl : laidOutB P = true) (hvars : s.vars = []) (hres : f.resultTypes = #[tb]) (htb : P.underlying tb = some .bool)
    (hpar : f.params.toList.all (fun t => P.readableRec t && decide (t < P.types.size)) = true)
    (hspec : s.fn H ds = { results := [.lit (.bool true)], args := ds })
    (hW : DataW.Whole enc P f.params.toList s.vars apart W args.toList ds gs before) (hb : Below W.heap.size W W') :
    s.post enc P f apart fresh handsOn again W args (.bool true) W' := by
  have hlt : ∀ p ∈ before, p.block < W.heap.size := fun p hp => hW.lt p hp
  obtain ⟨p, q, hA, hV, hpq, hz, hn⟩ := id hW
  have hVn : DataW.TrodVars enc P W (fun _ => true) [] gs q := hvars ▸ hV
  obtain ⟨rfl, rfl⟩ := trodVars_none hVn
  simp only [List.append_nil] at hpq
  subst hpq
  have hargs : ∀ sp : Nat → Bool, (∀ x ∈ before, sp x.block = true) → DataW.TrodAll enc P W' 0 sp true f.params.toList args.toList (s.fn H (ds ++ [])).args before := fun sp hsp => by
    rw [List.append_nil, hspec]
    exact trodAll_below hl hb _ _ _ _ hpar (fun x hx => ⟨hlt x hx, hsp x hx⟩) hA
  have hresl : ((Value.bool true).resultList f.resultTypes.size) = [.bool true] := by rw [hres]; rfl
  have hrest : f.resultTypes.toList = [tb] := by rw [hres]
  have hres' : ∀ (b : Nat) (sp : Nat → Bool) (hd : Bool), DataW.TrodAll enc P W' b sp hd f.resultTypes.toList ((Value.bool true).resultList f.resultTypes.size) (s.fn H (ds ++ [])).results [] := fun b sp hd => by
    rw [List.append_nil, hspec, hresl, hrest]
    exact trodAll_cons_mk (shut_bool htb _) trodAll_mk0
  have hvars' : ∀ (W : World) (sp : Nat → Bool), DataW.TrodVars enc P W sp s.vars (s.fn H (ds ++ [])).vars [] := fun W sp => by
    rw [List.append_nil, hspec, hvars]
    rfl
  have hold : ∀ x ∈ before, (fun b => decide (b < W.heap.size)) x.block = true := fun x hx => by simpa using hlt x hx
  refine ⟨ds, [], before, [], before, [], hW, hres' _ _ _, hargs _ hold, hvars' _ _, World.keptBut_mono (fun x hx => ⟨hx, .inr (.inl hx)⟩) (hb.frame (· ∈ before)), fun _ => ?_⟩
  refine ⟨?_, _, _, ([] ++ before) ++ [], ⟨[] ++ before, [], trodAll_append (hargs _ (fun _ _ => rfl)) (hres' _ _ _), hvars' _ _, rfl, ?_, ?_⟩, ?_⟩
  · intro j t r hj hr
    rw [hresl] at hr
    rw [hres] at hj
    rcases j with _ | j
    · simp at hj hr
      subst hj hr
      exact okWide_bool_mk htb _
    · simp at hj
  · intro b off hp
    have hin : MemPlace.cell b off ∈ before := by simpa using hp
    rw [hb.frozen (hlt _ hin)]
    exact hz b off hin
  · intro ha
    have := hn ha
    simpa using this
  · intro x hx _
    simpa using hx

/-- A LAW'S STEP, whatever its parameters: what is left is the witness and the walk. -/
theorem law_lift {C : Checked} {os : Os} {F : FuncId} {fn : Func} {s : ChangeSpec} {apart fresh handsOn again : Bool} {tb : TypeId}
    (hown : ownKnob C.prog.godebug = none) (started : os.Started) (noInit : C.prog.inits.idxOf? F = none) (hfn : C.prog.funcs[F]? = some fn)
    (hl : laidOutB C.prog = true) (hvars : s.vars = []) (hres : fn.resultTypes = #[tb]) (htb : C.prog.underlying tb = some .bool)
    (hpar : fn.params.toList.all (fun t => C.prog.readableRec t && decide (t < C.prog.types.size)) = true)
    (hspec : ∀ ds : List (DataW H), ds.length = fn.params.toList.length → s.fn H ds = { results := [.lit (.bool true)], args := ds })
    (witness : ∃ (w : World) (tape : Tape) (i : Input), w.os = os ∧ (w.forCall tape i).Shaped C.prog ∧ i.vars = [] ∧ Input.okWide C.prog (w.forCall tape i) .any w.heap.size F i ∧
      s.pre6 enc C.prog fn [] apart (w.forCall tape i).memory i.args ∧ ({} : Assume).holds C.prog (lone (Frame.enter C.prog F i.args .normal) [] (w.forCall tape i)))
    (contract : ∀ (W : World) (base : Nat) (args : Array Value) (ds : List (DataW H)) (p : List MemPlace),
      (∀ (j : Nat) t v, fn.params[j]? = some t → args[j]? = some v → Value.okWide C.prog W .any base t v) →
      DataW.TrodAll enc C.prog W 0 (fun _ => true) true fn.params.toList args.toList ds p → (∀ x ∈ p, x.block < W.heap.size) →
      (DataW.weightsEach C.prog fn.params.toList ds).all (· ≤ reachBytes) = true →
      Calls C.prog F args W fun e W' => e = .returned (.bool true) ∧ Below W.heap.size W W') :
    ReturnsInHanded {} C os F .any (s.pre6 enc C.prog fn [] apart) (s.post enc C.prog fn apart fresh handsOn again) := by
  refine returnsInHanded_of_change_sized hown started noInit hfn witness ?_
  intro W base args ds gs before hval hW _ hsz _
  have hlt : ∀ p ∈ before, p.block < W.heap.size := fun p hp => hW.lt p hp
  obtain ⟨p, q, hA, hV, hpq, hz, hn⟩ := id hW
  have hVn : DataW.TrodVars enc C.prog W (fun _ => true) [] gs q := hvars ▸ hV
  obtain ⟨hg, hq⟩ := trodVars_none hVn
  subst hg hq
  simp only [List.append_nil] at hpq
  subst hpq
  have hvt : s.plain.varTypes C.prog = [] := by
    have : s.plain.vars = [] := hvars
    simp [DataSpec.varTypes, this]
  rw [hvt] at hsz
  simp only [List.append_nil] at hsz
  refine (contract W base args ds before hval hA hlt hsz).mono fun e W' ⟨he, hb⟩ => ?_
  exact ⟨_, he, law_post hl hvars hres htb hpar (hspec ds (trodAll_length _ _ _ _ hA).2) hW hb⟩
end

/-! ### slices that are read -/

/-- the slice that begins at a holds the cells xs, below block B -/
def Sl (w : World) (B : Nat) (a : Option Addr) (xs : List Value) : Prop := ∀ j v, xs[j]? = some v → ∃ ad, a = some ad ∧ ad.block < B ∧ w.cell? (ad.add j) = some v

theorem Sl.nil {w : World} {B : Nat} {a : Option Addr} : Sl w B a [] := fun j v h => by simp at h

theorem Sl.of_len0 {w : World} {B : Nat} {a : Option Addr} {xs : List Value} (h : xs.length = 0) : Sl w B a xs := by
  obtain rfl : xs = [] := List.eq_nil_of_length_eq_zero h
  exact Sl.nil

theorem block_add (a : Addr) (n : Nat) : (a.add n).block = a.block := by unfold Addr.add; split <;> rfl

theorem Sl.keep {w w' : World} {B : Nat} {a : Option Addr} {xs : List Value} (h : Sl w B a xs) (hk : ∀ p : Addr, p.block < B → w'.cell? p = w.cell? p) : Sl w' B a xs :=
  fun j v hv => by
    obtain ⟨ad, e, hb, hc⟩ := h j v hv
    exact ⟨ad, e, hb, (hk _ (by rw [block_add]; exact hb)).trans hc⟩

theorem Sl.below {w w' : World} {B : Nat} {a : Option Addr} {xs : List Value} (h : Sl w B a xs) (hb : Below B w w') : Sl w' B a xs := h.keep fun _ hp => hb.cell hp

theorem Sl.more {w : World} {B B' : Nat} {a : Option Addr} {xs : List Value} (h : Sl w B a xs) (hb : B ≤ B') : Sl w B' a xs :=
  fun j v hv => by
    obtain ⟨ad, e, hb', hc⟩ := h j v hv
    exact ⟨ad, e, by omega, hc⟩

theorem Sl.drewN {w : World} {B : Nat} {a : Option Addr} {xs : List Value} (h : Sl w B a xs) (n : Nat) : Sl (w.drewN n) B a xs := h

theorem Sl.ints {w : World} {B : Nat} {a : Option Addr} {k : IntKind} {zs : List Int} (h : Sl w B a (zs.map (.int k))) (j : Nat) (hj : j < zs.length) :
    ∃ ad, a = some ad ∧ w.cell? (ad.add j) = some (.int k (zs.getD j 0)) := by
  obtain ⟨ad, e, _, hc⟩ := h j (.int k (zs.getD j 0)) (by simp [List.getElem?_map, List.getElem?_eq_getElem hj])
  exact ⟨ad, e, hc⟩

/-- a cell behind an element's first one, as the walk spells it -/
theorem cell_off {w : World} {ad : Addr} {i j : Nat} {v : Value} (h : w.cell? (ad.add (i + j)) = some v) : w.cell? ⟨(ad.add i).block, (ad.add i).off + j, none⟩ = some v := by
  have e : (⟨(ad.add i).block, (ad.add i).off + j, none⟩ : Addr) = { ad.add (i + j) with spot := none } := by
    unfold Addr.add
    by_cases hi : i = 0 <;> by_cases hj : j = 0 <;> simp [hi, hj, Nat.add_assoc]
  rw [e]
  unfold World.cell? at h ⊢
  simp only at h ⊢
  cases hsp : (ad.add (i + j)).spot with
  | none => simpa [hsp] using h
  | some q =>
    simp only [hsp] at h
    split at h <;> simp at h

/-- cell j of element i, where each element takes k cells -/
theorem flat_get {α : Type} (f : α → List Value) (k : Nat) (hk : ∀ x, (f x).length = k) : ∀ (l : List α) (i j : Nat), j < k → (l.flatMap f)[i * k + j]? = (l[i]?).bind fun x => (f x)[j]?
  | [], i, j, _ => by simp
  | x :: l, 0, j, hj => by
    simp only [List.flatMap_cons, Nat.zero_mul, Nat.zero_add]
    rw [List.getElem?_append_left (by rw [hk]; exact hj)]
    rfl
  | x :: l, i + 1, j, hj => by
    simp only [List.flatMap_cons]
    rw [List.getElem?_append_right (by rw [hk, Nat.succ_mul]; omega), hk, show (i + 1) * k + j - k = i * k + j by rw [Nat.succ_mul]; omega, flat_get f k hk l i j hj]
    rfl

theorem flat_len {α : Type} (f : α → List Value) (k : Nat) (hk : ∀ x, (f x).length = k) : ∀ (l : List α), (l.flatMap f).length = l.length * k
  | [] => by simp
  | x :: l => by
    simp only [List.flatMap_cons, List.length_append, hk, flat_len f k hk l, List.length_cons, Nat.succ_mul]
    omega

/-- cell j of element i of a slice whose elements take k cells -/
theorem Sl.elem {α : Type} {w : World} {B : Nat} {a : Option Addr} {f : α → List Value} {k : Nat} (hk : ∀ x, (f x).length = k) {l : List α} (h : Sl w B a (l.flatMap f)) (i j : Nat) (hj : j < k) (hi : i < l.length) (v : Value)
    (hv : (f l[i])[j]? = some v) : ∃ ad, a = some ad ∧ ad.block < B ∧ w.cell? (ad.add (i * k + j)) = some v :=
  h (i * k + j) v (by rw [flat_get f k hk l i j hj, List.getElem?_eq_getElem hi]; exact hv)

section
variable {H : Type} {enc : TypeId × Value → H} {P : Program} {w : World}

/-- an argument that is a slice of integers -/
theorem open_ints_arg {t e : TypeId} {k : IntKind} {base b0 B : Nat} {v : Value} {d : DataW H} {ps : List MemPlace} (ht : P.underlying t = some (.slice e)) (he : P.underlying e = some (.int k)) (hc : P.cellsOf e = 1)
    (hval : Value.okWide P w .any b0 t v) (hd : DataW.Trod enc P w base (fun _ => true) true t v d ps) (hlt : ∀ x ∈ ps, x.block < B) :
    ∃ (a : Option Addr) (c : Nat) (zs : List Int), v = .slice a zs.length c ∧ zs.length ≤ c ∧ c ≤ maxLen ∧ (∀ z ∈ zs, (Lit.int k z).wf = true) ∧ Sl w B a (zs.map (.int k)) ∧
      (d = .nil ∨ ∃ sp, d = .slice (lits k zs) sp) := by
  obtain ⟨a0, len, cap, rfl⟩ := okWide_slice ht hval
  obtain ⟨fuel, hf⟩ := hd
  rcases open_ints ht he hc hf with ⟨hcs, hx⟩ | ⟨a, len', cap', zs, hcs, _, hl, hm, hz, hx, hcell, hwz⟩
  · simp [Value.cells] at hcs
    obtain ⟨rfl, rfl, rfl⟩ := hcs
    simp only [Prod.mk.injEq] at hx
    exact ⟨none, 0, [], rfl, Nat.le_refl _, by simp [maxLen], by simp, Sl.nil, .inl hx.1⟩
  · simp [Value.cells] at hcs
    obtain ⟨rfl, rfl, rfl⟩ := hcs
    simp only [if_true] at hz
    simp only [Prod.mk.injEq] at hx
    have hlen : (zs.take len).length = len := by rw [List.length_take]; omega
    refine ⟨some a, cap, zs.take len, by rw [hlen], by omega, hm, fun z hz' => hwz z (List.mem_of_mem_take hz'), fun j u hu => ⟨a, rfl, ?_, ?_⟩, .inr ⟨_, hx.1⟩⟩
    · have hj : j < (zs.take len).length := by
        have := (List.getElem?_eq_some_iff.1 hu).1
        simpa using this
      have hin : MemPlace.cell (a.add 0).block (a.add 0).off ∈ ps := by
        rw [hx.2]
        simp only [MemPlace.row, List.mem_map, List.mem_range]
        exact ⟨0, by omega, by simp [Addr.add]⟩
      have := hlt _ hin
      simpa [MemPlace.block, block_add] using this
    · have hj : j < (zs.take len).length := by
        have := (List.getElem?_eq_some_iff.1 hu).1
        simpa using this
      rw [hcell j (by omega)]
      rw [List.getElem?_map, List.getElem?_eq_getElem hj] at hu
      simp only [Option.map_some, Option.some.injEq] at hu
      rw [← hu]
      simp [List.getD_eq_getElem?_getD, List.getElem?_eq_getElem (show j < zs.length by omega)]
end

/-! ### a block that is known whole -/

/-- block g is just the cells l of element type t, none frozen -/
def Blk (w : World) (g : Nat) (t : TypeId) (l : List Value) : Prop := w.heap[g]? = some (.cells l.toArray t (0, 0))

section
variable {w w' : World} {g : Nat} {t : TypeId} {l : List Value}
theorem Blk.lt (h : Blk w g t l) : g < w.heap.size := by
  rcases Nat.lt_or_ge g w.heap.size with hlt | hge
  · exact hlt
  · unfold Blk at h; rw [Array.getElem?_eq_none hge] at h; cases h
theorem Blk.cell (h : Blk w g t l) (i : Nat) : w.cell? ⟨g, i, none⟩ = l[i]? := by
  rw [cell_of_row w g i l.toArray t (0, 0) h]
  simp
theorem Blk.frozen (h : Blk w g t l) (i : Nat) : w.frozen? ⟨g, i, none⟩ = false := by
  unfold Blk at h
  simp [World.frozen?, h]
theorem Blk.new (w : World) (t : TypeId) (l : List Value) : Blk (w.alloc (.cells l.toArray t)) w.heap.size t l := heap_alloc_new w _
theorem Blk.drew (h : Blk w g t l) : Blk w.drew g t l := h
theorem Blk.drewN (h : Blk w g t l) (n : Nat) : Blk (w.drewN n) g t l := h
theorem Blk.alloc (h : Blk w g t l) (o : Obj) : Blk (w.alloc o) g t l := (Below.heap_alloc w o g h.lt).trans h
theorem Blk.set_ (h : Blk w g t l) (i : Nat) (u : Value) : Blk (w.setCell ⟨g, i, none⟩ u) g t (l.set i u) := by
  unfold Blk at h ⊢
  simp [World.setCell, Array.getElem?_modify, h]
theorem Blk.far (h : Blk w g t l) {p : Addr} (hp : g ≠ p.block) (u : Value) : Blk (w.setCell p u) g t l := (Below.heap_setCell w p u g hp).trans h
theorem Blk.below {B : Nat} (h : Blk w g t l) (hb : Below B w w') (hg : g < B) : Blk w' g t l := (hb.block g hg).trans h
theorem Blk.grown {row : Option Nat} (h : Blk w g t l) (hb : w.grownBy w' row) (hg : some g ≠ row) : Blk w' g t l := (hb.block g h.lt hg).trans h
theorem Blk.ne_ {g' : Nat} {t' : TypeId} {l' : List Value} (h : Blk w g t l) (h' : Blk w g' t' l') (hne : t ≠ t') : g ≠ g' := by
  rintro rfl
  unfold Blk at h h'
  rw [h] at h'
  injection h' with h'
  injection h' with _ ht
  exact hne ht
/-- a run of cells in its midst, stored anew -/
theorem Blk.setCells {pre old post vs : List Value} (h : Blk w g t (pre ++ old ++ post)) (hl : old.length = vs.length) : Blk (w.setCells g pre.length vs) g t (pre ++ vs ++ post) := by
  induction vs generalizing w pre old with
  | nil =>
    obtain rfl : old = [] := List.eq_nil_of_length_eq_zero hl
    exact h
  | cons v vs ih =>
    match old, hl with
    | x :: old, hl =>
      have h1 := h.set_ pre.length v
      have e : (pre ++ x :: old ++ post).set pre.length v = (pre ++ [v]) ++ old ++ post := by simp
      rw [e] at h1
      have h2 := ih h1 (by simpa using hl)
      simp only [World.setCells]
      have e2 : (pre ++ [v]).length = pre.length + 1 := by simp
      rw [e2] at h2
      simpa using h2
/-- a slice over the block's beginning -/
theorem Blk.sl {B : Nat} (h : Blk w g t l) (hB : g < B) : Sl w B (some ⟨g, 0, none⟩) l := fun j v hv => ⟨_, rfl, hB, by
  have e : ((⟨g, 0, none⟩ : Addr).add j) = ⟨g, j, none⟩ := by
    unfold Addr.add
    by_cases h0 : j = 0 <;> simp [h0]
  rw [e, h.cell j]
  exact hv⟩
end

theorem choose_list {α : Type} {p : Nat → α → Prop} : ∀ (n : Nat), (∀ i, i < n → ∃ x, p i x) → ∃ l : List α, l.length = n ∧ ∀ i x, l[i]? = some x → p i x
  | 0, _ => ⟨[], rfl, fun i x h => by simp at h⟩
  | n + 1, h => by
    obtain ⟨l, hl, hp⟩ := choose_list n (fun i hi => h i (by omega))
    obtain ⟨x, hx⟩ := h n (by omega)
    refine ⟨l ++ [x], by simp [hl], fun i y hy => ?_⟩
    rcases Nat.lt_or_ge i l.length with hi | hi
    · rw [List.getElem?_append_left hi] at hy
      exact hp i y hy
    · rw [List.getElem?_append_right hi] at hy
      have h0 : i - l.length = 0 := by
        rcases Nat.eq_zero_or_pos (i - l.length) with h0 | h0
        · exact h0
        · have := (List.getElem?_eq_some_iff.1 hy).1
          simp at this
          omega
      rw [h0] at hy
      simp at hy
      subst hy
      have : i = n := by omega
      subst this
      exact hx

/-- an argument that is a slice whose elements take k cells each -/
theorem open_slice_arg {H : Type} {enc : TypeId × Value → H} {P : Program} {w : World} {α : Type} (f : α → List Value) (k : Nat) (good : α → Prop) (hk : ∀ x, (f x).length = k) (hk0 : 0 < k)
    {t e : TypeId} {base b0 B : Nat} {v : Value} {d : DataW H} {ps : List MemPlace} (ht : P.underlying t = some (.slice e)) (hc : P.cellsOf e = k)
    (hread : ∀ fuel cs y, cs.length = k → DataW.trod enc P w base (fun _ => true) true fuel e cs = some y → ∃ x, cs = f x ∧ good x)
    (hval : Value.okWide P w .any b0 t v) (hd : DataW.Trod enc P w base (fun _ => true) true t v d ps) (hlt : ∀ x ∈ ps, x.block < B) :
    ∃ (a : Option Addr) (c : Nat) (l : List α), v = .slice a l.length c ∧ l.length ≤ c ∧ c ≤ maxLen ∧ (∀ x ∈ l, good x) ∧ Sl w B a (l.flatMap f) := by
  obtain ⟨a0, len, cap, rfl⟩ := okWide_slice ht hval
  obtain ⟨fuel, hf⟩ := hd
  rcases Deep.open_slice ht hf with ⟨hcs, hx⟩ | ⟨a, len', cap', m, n, D, Pl, hcs, _, hl, hm, hmm, hx, hi⟩
  · simp [Value.cells] at hcs
    obtain ⟨rfl, rfl, rfl⟩ := hcs
    exact ⟨none, 0, [], rfl, Nat.le_refl _, by simp [maxLen], by simp, Sl.nil⟩
  · simp [Value.cells] at hcs
    obtain ⟨rfl, rfl, rfl⟩ := hcs
    simp only [if_true] at hmm
    subst hmm
    simp only [Prod.mk.injEq] at hx
    rw [hc] at hx hi
    obtain ⟨l, hll, hlp⟩ := choose_list (p := fun i x => good x ∧ w.cells? base (a.add (i * k)) k = some (f x)) len (fun i hi' => by
      obtain ⟨cs', hcs', htr⟩ := hi i (by omega)
      obtain ⟨_, hcl, _⟩ := World.cells?_some hcs'
      obtain ⟨x, rfl, hg⟩ := hread _ _ _ hcl htr
      exact ⟨x, hg, hcs'⟩)
    refine ⟨some a, m, l, by rw [hll], by omega, hm, fun x hx' => ?_, fun j u hu => ⟨a, rfl, ?_, ?_⟩⟩
    · obtain ⟨i, hi', rfl⟩ := List.getElem_of_mem hx'
      exact (hlp i _ (List.getElem?_eq_getElem hi')).1
    · have hj : j < (l.flatMap f).length := (List.getElem?_eq_some_iff.1 hu).1
      rw [flat_len f k hk, hll] at hj
      have hpos : 0 < m * k := by
        have h1 : 0 < len * k := by omega
        exact Nat.lt_of_lt_of_le h1 (Nat.mul_le_mul_right k hl)
      have hin : MemPlace.cell a.block (a.off + 0) ∈ ps := by
        rw [hx.2]
        refine List.mem_append_left _ ?_
        simp only [MemPlace.row, List.mem_map, List.mem_range]
        exact ⟨0, hpos, rfl⟩
      have := hlt _ hin
      simpa [MemPlace.block] using this
    · have hj : j < (l.flatMap f).length := (List.getElem?_eq_some_iff.1 hu).1
      rw [flat_len f k hk, hll] at hj
      have hdm : j / k * k + j % k = j := Nat.div_add_mod' j k
      have hq : j / k < len := (Nat.div_lt_iff_lt_mul hk0).2 hj
      have hr : j % k < k := Nat.mod_lt _ hk0
      rw [← hdm, flat_get f k hk l _ _ hr, List.getElem?_eq_getElem (by omega)] at hu
      have h2 := (hlp (j / k) _ (List.getElem?_eq_getElem (by omega))).2
      obtain ⟨_, _, h3⟩ := World.cells?_some h2
      have h4 := h3 (j % k) hr
      rw [Deep.add_add, hdm] at h4
      rw [h4]
      exact hu

/-- append of one element that has just been laid in a block of its own -/
theorem append1 {P : Program} {ops : Array Oper} {rest : List Oper} {o : Oper} {a : Act} {Q : Exit → Act → World → Prop} (W : World) (cs : Array Value) (hgd : o.guard = none) (s x : Operand) (t : TypeId)
    (ho : o.op = .call { callee := .builtin .append, args := #[s, x], argTypes := #[t, t] })
    (base : Nat) (e : TypeId) (i : TypeInfo) (z : Value) (size bytes : Nat) (ht : P.underlying t = some (.slice e)) (hi : P.info? e = some i) (hz : i.zero = some z)
    (hsize : i.size = size) (hby : i.bytes = bytes) (hzs : z.cells.size = size) (hsz : 0 < size) (hcs : cs.size = size)
    (v : Value) (n : Nat) (xs : List Value) (hs : a.eval s = v) (hown : W.ownsRow base e size v n xs)
    (N : Nat) (hN : W.heap.size = N) (hx : a.eval x = .slice (some ⟨N, 0, none⟩) 1 1) (h1 : ∀ u ∈ cs.toList, u.oneCell' = true)
    (h63 : n + 1 ≤ maxLen) (hbytes : (n + 1) * bytes ≤ 140737488355328) (hbase : base ≤ W.heap.size)
    (h : ∀ v' w', w'.ownsRow base e size v' (n + 1) (xs ++ cs.toList) → W.grownBy w' v.ownBlock → v' ≠ .slice none 0 0 → wpList P ops Q rest (a.put o.dst v') w') : wpList P ops Q (o :: rest) a (W.alloc (.cells cs e)) := by
  subst hN
  have hb : (W.alloc (.cells cs e)).heap[W.heap.size]? = some (.cells cs e (0, 0)) := heap_alloc_new W _
  refine wpList_append_own (W.alloc (.cells cs e)) hgd s x t ho base e i z size bytes ht hi hz hsize hby hzs hsz v n xs hs (hown.alloc _) ⟨W.heap.size, 0, none⟩ 1 1 cs.toList hx (by simpa using hcs) ?_ h1 h63 hbytes (by simp; omega) ?_
  · intro j u hu
    have hj : ((⟨W.heap.size, 0, none⟩ : Addr).add j) = ⟨W.heap.size, j, none⟩ := by
      unfold Addr.add
      by_cases h0 : j = 0 <;> simp [h0]
    rw [hj, cell_of_row _ _ j cs e (0, 0) hb, ← Array.getElem?_toList]
    exact hu
  · intro v' w' hown' hg hne
    refine h v' w' hown' ⟨hg.os, hg.tape, hg.output, Nat.le_trans (by simp) hg.size, fun k hk hne' => ?_⟩ (fun e => ?_)
    · exact (hg.block k (by simp; omega) hne').trans (Below.heap_alloc W _ k hk)
    · have := (hne.1 e).2
      omega

theorem sl_of_own {w : World} {base : Nat} {e : TypeId} {size n : Nat} {a : Option Addr} {cap : Nat} {xs : List Value} (h : w.ownsRow base e size (.slice a n cap) n xs) : Sl w w.heap.size a xs := by
  intro j u hu
  have hj : j < xs.length := (List.getElem?_eq_some_iff.1 hu).1
  have hn : 0 < n := by
    rcases Nat.eq_zero_or_pos n with h0 | h0
    · subst h0
      have := h.1
      omega
    · exact h0
  obtain ⟨g, cap', hv, _, hlt⟩ := World.ownsRow.form h hn
  have hA : a = some ⟨g, 0, none⟩ := by injection hv
  subst hA
  exact ⟨_, rfl, hlt, World.ownsRow.cells (g := g) h rfl j u hu⟩

/-- the value of an owned row is a slice of that length -/
theorem own_value {w : World} {base : Nat} {e : TypeId} {size n : Nat} {v : Value} {xs : List Value} (h : w.ownsRow base e size v n xs) : ∃ a cap, v = .slice a n cap := by
  rcases h.2 with ⟨rfl, rfl⟩ | ⟨g, cap, cur, rfl, _⟩
  · exact ⟨_, _, rfl⟩
  · exact ⟨_, _, rfl⟩

theorem own_block_ge {w : World} {base : Nat} {e : TypeId} {size n : Nat} {v : Value} {xs : List Value} (h : w.ownsRow base e size v n xs) : ∀ k, v.ownBlock = some k → base ≤ k := by
  intro k hk
  rcases h.2 with ⟨rfl, rfl⟩ | ⟨g, cap, cur, rfl, hg, _⟩
  · simp [Value.ownBlock] at hk
  · simp [Value.ownBlock] at hk
    omega

theorem only_set {a w : World} {g : Nat} (h : a.grownBy w (some g)) (i : Nat) (u : Value) : a.grownBy (w.setCell ⟨g, i, none⟩ u) (some g) :=
  ⟨h.os, h.tape, h.output, by simpa [World.setCell] using h.size, fun k hk hne => (Below.heap_setCell w ⟨g, i, none⟩ u k (by
    rintro rfl
    exact hne rfl)).trans (h.block k hk hne)⟩
theorem only_drew {a w : World} {row : Option Nat} (h : a.grownBy w row) : a.grownBy w.drew row := ⟨h.os, h.tape, h.output, h.size, h.block⟩
theorem only_drewN {a w : World} {row : Option Nat} (h : a.grownBy w row) (n : Nat) : a.grownBy (w.drewN n) row := ⟨h.os, h.tape, h.output, h.size, h.block⟩
theorem only_alloc {a w : World} {row : Option Nat} (h : a.grownBy w row) (o : Obj) : a.grownBy (w.alloc o) row :=
  ⟨h.os, h.tape, h.output, Nat.le_trans h.size (by simp), fun i hi hne => (Below.heap_alloc w o i (Nat.lt_of_lt_of_le hi h.size)).trans (h.block i hi hne)⟩

/-- the byte slice v holds the bytes l in w -/
def BytesV (w : World) (v : Value) (l : List Int) : Prop := ∃ a c, v = .slice a l.length c ∧ Sl w w.heap.size a (l.map (.int .u8))
theorem BytesV.below {w w' : World} {v : Value} {l : List Int} (h : BytesV w v l) (hb : Below w.heap.size w w') : BytesV w' v l := by
  obtain ⟨a, c, hv, hs⟩ := h
  exact ⟨a, c, hv, (hs.below hb).more hb.size⟩

/-- draws, many at once -/
theorem below_drewN {B : Nat} {a w : World} (h : Below B a w) (n : Nat) : Below B a (w.drewN n) := ⟨h.os, h.tape, h.output, h.size, h.block⟩

/-- the integers' bounds -/
theorem bd_u8 {x : Int} (h : (Lit.int .u8 x).wf = true) : 0 ≤ x ∧ x ≤ 255 := by simpa [Lit.wf, IntKind.min, IntKind.max, IntKind.signed, IntKind.bits] using h
theorem bd_u32 {x : Int} (h : (Lit.int .u32 x).wf = true) : 0 ≤ x ∧ x ≤ 4294967295 := by simpa [Lit.wf, IntKind.min, IntKind.max, IntKind.signed, IntKind.bits] using h
theorem bd_u64 {x : Int} (h : (Lit.int .u64 x).wf = true) : 0 ≤ x ∧ x ≤ 18446744073709551615 := by simpa [Lit.wf, IntKind.min, IntKind.max, IntKind.signed, IntKind.bits] using h
theorem bd_i32 {x : Int} (h : (Lit.int .i32 x).wf = true) : -2147483648 ≤ x ∧ x ≤ 2147483647 := by simpa [Lit.wf, IntKind.min, IntKind.max, IntKind.signed, IntKind.bits] using h
theorem bd_i64 {x : Int} (h : (Lit.int .i64 x).wf = true) : -9223372036854775808 ≤ x ∧ x ≤ 9223372036854775807 := by simpa [Lit.wf, IntKind.min, IntKind.max, IntKind.signed, IntKind.bits] using h

end Go.Proofs.YtjonmfaeonldcaaDoor
