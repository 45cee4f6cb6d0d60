/-
  Ground lemmas for every law of this seat: the frame of a law's row (the law returns true and what was there before is untouched), small lemmas on worlds and integers. Conditions: none.
-/
import Derived.Test.YtpmkkajbmdoflaaRows
import Derived.WalkKit
import Derived.ProofKit
import Derived.OpenShut
import Derived.Deep.QuietTactic
import Derived.BigQuiet
import Derived.SizedLaws
import Derived.JoinedCond
import Derived.Deep.CondSized
import Derived.Below
import Derived.WalkSpells
import Derived.Deep.Draws
import Derived.Lib.Hide
import Derived.Outline
namespace Go.Proofs.Ytpmkkajbmdoflaa
open Go.ChangeShapes Go.WideShapes Go.ChangeAt Go.RowKit

theorem own : ownKnob Try.prog.godebug = none := by kernel_rfl
theorem laidOut : laidOutB Try.prog = true := by kernel_rfl

section
variable {H : Type} {enc : TypeId × Value → H} {P : Program}

/-- all arguments read as they did, where below the old heap nothing has turned -/
theorem trodAll_below (hl : laidOutB P = true) {W W' : World} (hb : Below W.heap.size W W') {sp : Nat → Bool} :
    ∀ (ts : List TypeId) (vs : List Value) (ds : List (DataW H)) (ps : List MemPlace), ts.all (fun t => P.readableRec t && decide (t < P.types.size)) = true →
      (∀ p ∈ ps, p.block < W.heap.size ∧ sp p.block = true) →
      DataW.TrodAll enc P W 0 (fun _ => true) true ts vs ds ps → DataW.TrodAll enc P W' 0 sp true ts vs ds ps
  | [], [], [], _, _, _, h => h
  | t :: ts, v :: vs, d :: ds, ps, ht, hp, h => by
    obtain ⟨p, q, h1, h2, rfl⟩ := h
    simp only [List.all_cons, Bool.and_eq_true, decide_eq_true_eq] at ht
    exact ⟨p, q, WideElems.Trod_stays hl ht.1.1 ht.1.2 h1 (fun x hx => hb.same (hp x (by simp [hx])).1) (fun x hx => (hp x (by simp [hx])).2),
      trodAll_below hl hb ts vs ds q ht.2 (fun x hx => hp x (by simp [hx])) h2, rfl⟩
  | [], _ :: _, _, _, _, _, h => h.elim
  | [], [], _ :: _, _, _, _, h => h.elim
  | _ :: _, [], _, _, _, _, h => h.elim
  | _ :: _, _ :: _, [], _, _, _, h => h.elim

theorem trodAll_length {W : World} {base : Nat} {sp : Nat → Bool} {hd : Bool} :
    ∀ (ts : List TypeId) (vs : List Value) (ds : List (DataW H)) (ps : List MemPlace), DataW.TrodAll enc P W base sp hd ts vs ds ps → vs.length = ts.length ∧ ds.length = ts.length
  | [], [], [], _, _ => ⟨rfl, rfl⟩
  | _ :: ts, _ :: vs, _ :: ds, _, h => by
    obtain ⟨_, q, _, h2, _⟩ := h
    have := trodAll_length ts vs ds q h2
    simp only [List.length_cons]
    omega
  | [], _ :: _, _, _, h => h.elim
  | [], [], _ :: _, _, h => h.elim
  | _ :: _, [], _, _, h => h.elim
  | _ :: _, _ :: _, [], _, h => h.elim

/-- the row's post of a law: true, and nothing old has turned -/
theorem law_post {f : Func} {s : ChangeSpec} {apart fresh handsOn again : Bool} {W W' : World} {args : Array Value} {ds gs : List (DataW H)} {before : List MemPlace} {tb : TypeId}
    (hl : laidOutB P = true) (hvars : s.vars = []) (hres : f.resultTypes = #[tb]) (htb : P.underlying tb = some .bool)
    (hpar : f.params.toList.all (fun t => P.readableRec t && decide (t < P.types.size)) = true)
    (hspec : s.fn H ds = { results := [.lit (.bool true)], args := ds })
    (hW : DataW.Whole enc P f.params.toList s.vars apart W args.toList ds gs before) (hb : Below W.heap.size W W') :
    s.post enc P f apart fresh handsOn again W args (.bool true) W' := by
  have hlt : ∀ p ∈ before, p.block < W.heap.size := fun p hp => hW.lt p hp
  obtain ⟨p, q, hA, hV, hpq, hz, hn⟩ := id hW
  have hVn : DataW.TrodVars enc P W (fun _ => true) [] gs q := hvars ▸ hV
  obtain ⟨rfl, rfl⟩ := trodVars_none hVn
  simp only [List.append_nil] at hpq
  subst hpq
  have hargs : ∀ sp : Nat → Bool, (∀ x ∈ before, sp x.block = true) → DataW.TrodAll enc P W' 0 sp true f.params.toList args.toList (s.fn H (ds ++ [])).args before := fun sp hsp => by
    rw [List.append_nil, hspec]
    exact trodAll_below hl hb _ _ _ _ hpar (fun x hx => ⟨hlt x hx, hsp x hx⟩) hA
  have hresl : ((Value.bool true).resultList f.resultTypes.size) = [.bool true] := by rw [hres]; rfl
  have hrest : f.resultTypes.toList = [tb] := by rw [hres]
  have hres' : ∀ (b : Nat) (sp : Nat → Bool) (hd : Bool), DataW.TrodAll enc P W' b sp hd f.resultTypes.toList ((Value.bool true).resultList f.resultTypes.size) (s.fn H (ds ++ [])).results [] := fun b sp hd => by
    rw [List.append_nil, hspec, hresl, hrest]
    exact trodAll_cons_mk (shut_bool htb _) trodAll_mk0
  have hvars' : ∀ (W : World) (sp : Nat → Bool), DataW.TrodVars enc P W sp s.vars (s.fn H (ds ++ [])).vars [] := fun W sp => by
    rw [List.append_nil, hspec, hvars]
    rfl
  have hold : ∀ x ∈ before, (fun b => decide (b < W.heap.size)) x.block = true := fun x hx => by simpa using hlt x hx
  refine ⟨ds, [], before, [], before, [], hW, hres' _ _ _, hargs _ hold, hvars' _ _, World.keptBut_mono (fun x hx => ⟨hx, .inr (.inl hx)⟩) (hb.frame (· ∈ before)), fun _ => ?_⟩
  refine ⟨?_, _, _, ([] ++ before) ++ [], ⟨[] ++ before, [], trodAll_append (hargs _ (fun _ _ => rfl)) (hres' _ _ _), hvars' _ _, rfl, ?_, ?_⟩, ?_⟩
  · intro j t r hj hr
    rw [hresl] at hr
    rw [hres] at hj
    rcases j with _ | j
    · simp at hj hr
      subst hj hr
      exact okWide_bool_mk htb _
    · simp at hj
  · intro b off hp
    have hin : MemPlace.cell b off ∈ before := by simpa using hp
    rw [hb.frozen (hlt _ hin)]
    exact hz b off hin
  · intro ha
    have := hn ha
    simpa using this
  · intro x hx _
    simpa using hx

/-- A LAW'S STEP, whatever its parameters: what is left is the witness and the walk. -/
theorem law_lift {C : Checked} {os : Os} {F : FuncId} {fn : Func} {s : ChangeSpec} {apart fresh handsOn again : Bool} {tb : TypeId}
    (hown : ownKnob C.prog.godebug = none) (started : os.Started) (noInit : C.prog.inits.idxOf? F = none) (hfn : C.prog.funcs[F]? = some fn)
    (hl : laidOutB C.prog = true) (hvars : s.vars = []) (hres : fn.resultTypes = #[tb]) (htb : C.prog.underlying tb = some .bool)
    (hpar : fn.params.toList.all (fun t => C.prog.readableRec t && decide (t < C.prog.types.size)) = true)
    (hspec : ∀ ds : List (DataW H), ds.length = fn.params.toList.length → s.fn H ds = { results := [.lit (.bool true)], args := ds })
    (witness : ∃ (w : World) (tape : Tape) (i : Input), w.os = os ∧ (w.forCall tape i).Shaped C.prog ∧ i.vars = [] ∧ Input.okWide C.prog (w.forCall tape i) .any w.heap.size F i ∧
      s.pre6 enc C.prog fn [] apart (w.forCall tape i).memory i.args ∧ ({} : Assume).holds C.prog (lone (Frame.enter C.prog F i.args .normal) [] (w.forCall tape i)))
    (contract : ∀ (W : World) (base : Nat) (args : Array Value) (ds : List (DataW H)) (p : List MemPlace),
      (∀ (j : Nat) t v, fn.params[j]? = some t → args[j]? = some v → Value.okWide C.prog W .any base t v) →
      DataW.TrodAll enc C.prog W 0 (fun _ => true) true fn.params.toList args.toList ds p → (∀ x ∈ p, x.block < W.heap.size) →
      (DataW.weightsEach C.prog fn.params.toList ds).all (· ≤ reachBytes) = true →
      Calls C.prog F args W fun e W' => e = .returned (.bool true) ∧ Below W.heap.size W W') :
    ReturnsInHanded {} C os F .any (s.pre6 enc C.prog fn [] apart) (s.post enc C.prog fn apart fresh handsOn again) := by
  refine returnsInHanded_of_change_sized hown started noInit hfn witness ?_
  intro W base args ds gs before hval hW _ hsz _
  have hlt : ∀ p ∈ before, p.block < W.heap.size := fun p hp => hW.lt p hp
  obtain ⟨p, q, hA, hV, hpq, hz, hn⟩ := id hW
  have hVn : DataW.TrodVars enc C.prog W (fun _ => true) [] gs q := hvars ▸ hV
  obtain ⟨hg, hq⟩ := trodVars_none hVn
  subst hg hq
  simp only [List.append_nil] at hpq
  subst hpq
  have hvt : s.plain.varTypes C.prog = [] := by
    have : s.plain.vars = [] := hvars
    simp [DataSpec.varTypes, this]
  rw [hvt] at hsz
  simp only [List.append_nil] at hsz
  refine (contract W base args ds before hval hA hlt hsz).mono fun e W' ⟨he, hb⟩ => ?_
  exact ⟨_, he, law_post hl hvars hres htb hpar (hspec ds (trodAll_length _ _ _ _ hA).2) hW hb⟩
end

/-! ### slices that are read -/

/-- the slice that begins at a holds the cells xs, below block B -/
def Sl (w : World) (B : Nat) (a : Option Addr) (xs : List Value) : Prop := ∀ j v, xs[j]? = some v → ∃ ad, a = some ad ∧ ad.block < B ∧ w.cell? (ad.add j) = some v

theorem Sl.nil {w : World} {B : Nat} {a : Option Addr} : Sl w B a [] := fun j v h => by simp at h

theorem Sl.of_len0 {w : World} {B : Nat} {a : Option Addr} {xs : List Value} (h : xs.length = 0) : Sl w B a xs := by
  obtain rfl : xs = [] := List.eq_nil_of_length_eq_zero h
  exact Sl.nil

theorem block_add (a : Addr) (n : Nat) : (a.add n).block = a.block := by unfold Addr.add; split <;> rfl

theorem Sl.keep {w w' : World} {B : Nat} {a : Option Addr} {xs : List Value} (h : Sl w B a xs) (hk : ∀ p : Addr, p.block < B → w'.cell? p = w.cell? p) : Sl w' B a xs :=
  fun j v hv => by
    obtain ⟨ad, e, hb, hc⟩ := h j v hv
    exact ⟨ad, e, hb, (hk _ (by rw [block_add]; exact hb)).trans hc⟩

theorem Sl.below {w w' : World} {B : Nat} {a : Option Addr} {xs : List Value} (h : Sl w B a xs) (hb : Below B w w') : Sl w' B a xs := h.keep fun _ hp => hb.cell hp

theorem Sl.more {w : World} {B B' : Nat} {a : Option Addr} {xs : List Value} (h : Sl w B a xs) (hb : B ≤ B') : Sl w B' a xs :=
  fun j v hv => by
    obtain ⟨ad, e, hb', hc⟩ := h j v hv
    exact ⟨ad, e, by omega, hc⟩

theorem Sl.drewN {w : World} {B : Nat} {a : Option Addr} {xs : List Value} (h : Sl w B a xs) (n : Nat) : Sl (w.drewN n) B a xs := h

theorem Sl.ints {w : World} {B : Nat} {a : Option Addr} {k : IntKind} {zs : List Int} (h : Sl w B a (zs.map (.int k))) (j : Nat) (hj : j < zs.length) :
    ∃ ad, a = some ad ∧ w.cell? (ad.add j) = some (.int k (zs.getD j 0)) := by
  obtain ⟨ad, e, _, hc⟩ := h j (.int k (zs.getD j 0)) (by simp [List.getElem?_map, List.getElem?_eq_getElem hj])
  exact ⟨ad, e, hc⟩

section
variable {H : Type} {enc : TypeId × Value → H} {P : Program} {w : World}

/-- an argument that is a slice of integers -/
theorem open_ints_arg {t e : TypeId} {k : IntKind} {base b0 B : Nat} {v : Value} {d : DataW H} {ps : List MemPlace} (ht : P.underlying t = some (.slice e)) (he : P.underlying e = some (.int k)) (hc : P.cellsOf e = 1)
    (hval : Value.okWide P w .any b0 t v) (hd : DataW.Trod enc P w base (fun _ => true) true t v d ps) (hlt : ∀ x ∈ ps, x.block < B) :
    ∃ (a : Option Addr) (c : Nat) (zs : List Int), v = .slice a zs.length c ∧ zs.length ≤ c ∧ c ≤ maxLen ∧ (∀ z ∈ zs, (Lit.int k z).wf = true) ∧ Sl w B a (zs.map (.int k)) ∧
      (d = .nil ∨ ∃ sp, d = .slice (lits k zs) sp) := by
  obtain ⟨a0, len, cap, rfl⟩ := okWide_slice ht hval
  obtain ⟨fuel, hf⟩ := hd
  rcases open_ints ht he hc hf with ⟨hcs, hx⟩ | ⟨a, len', cap', zs, hcs, _, hl, hm, hz, hx, hcell, hwz⟩
  · simp [Value.cells] at hcs
    obtain ⟨rfl, rfl, rfl⟩ := hcs
    simp only [Prod.mk.injEq] at hx
    exact ⟨none, 0, [], rfl, Nat.le_refl _, by simp [maxLen], by simp, Sl.nil, .inl hx.1⟩
  · simp [Value.cells] at hcs
    obtain ⟨rfl, rfl, rfl⟩ := hcs
    simp only [if_true] at hz
    simp only [Prod.mk.injEq] at hx
    have hlen : (zs.take len).length = len := by rw [List.length_take]; omega
    refine ⟨some a, cap, zs.take len, by rw [hlen], by omega, hm, fun z hz' => hwz z (List.mem_of_mem_take hz'), fun j u hu => ⟨a, rfl, ?_, ?_⟩, .inr ⟨_, hx.1⟩⟩
    · have hj : j < (zs.take len).length := by
        have := (List.getElem?_eq_some_iff.1 hu).1
        simpa using this
      have hin : MemPlace.cell (a.add 0).block (a.add 0).off ∈ ps := by
        rw [hx.2]
        simp only [MemPlace.row, List.mem_map, List.mem_range]
        exact ⟨0, by omega, by simp [Addr.add]⟩
      have := hlt _ hin
      simpa [MemPlace.block, block_add] using this
    · have hj : j < (zs.take len).length := by
        have := (List.getElem?_eq_some_iff.1 hu).1
        simpa using this
      rw [hcell j (by omega)]
      rw [List.getElem?_map, List.getElem?_eq_getElem hj] at hu
      simp only [Option.map_some, Option.some.injEq] at hu
      rw [← hu]
      simp [List.getD_eq_getElem?_getD, List.getElem?_eq_getElem (show j < zs.length by omega)]
end

/-- draws, many at once -/
theorem below_drewN {B : Nat} {a w : World} (h : Below B a w) (n : Nat) : Below B a (w.drewN n) := ⟨h.os, h.tape, h.output, h.size, h.block⟩

/-- the integers' bounds -/
theorem bd_u8 {x : Int} (h : (Lit.int .u8 x).wf = true) : 0 ≤ x ∧ x ≤ 255 := by simpa [Lit.wf, IntKind.min, IntKind.max, IntKind.signed, IntKind.bits] using h
theorem bd_u32 {x : Int} (h : (Lit.int .u32 x).wf = true) : 0 ≤ x ∧ x ≤ 4294967295 := by simpa [Lit.wf, IntKind.min, IntKind.max, IntKind.signed, IntKind.bits] using h
theorem bd_u64 {x : Int} (h : (Lit.int .u64 x).wf = true) : 0 ≤ x ∧ x ≤ 18446744073709551615 := by simpa [Lit.wf, IntKind.min, IntKind.max, IntKind.signed, IntKind.bits] using h
theorem bd_i32 {x : Int} (h : (Lit.int .i32 x).wf = true) : -2147483648 ≤ x ∧ x ≤ 2147483647 := by simpa [Lit.wf, IntKind.min, IntKind.max, IntKind.signed, IntKind.bits] using h
theorem bd_i64 {x : Int} (h : (Lit.int .i64 x).wf = true) : -9223372036854775808 ≤ x ∧ x ≤ 9223372036854775807 := by simpa [Lit.wf, IntKind.min, IntKind.max, IntKind.signed, IntKind.bits] using h

end Go.Proofs.Ytpmkkajbmdoflaa
