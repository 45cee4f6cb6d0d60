/-
  The frame of a law whose row lists package variables, and what a listed slice of integers gives. Conditions: none.
-/
import Derived.Test.YtjonmfaeonldcaaDoorBase
import Derived.Deep.DeepHandedRow
import Derived.Deep.DeepWitnessRowRef
import Derived.LaidLaws
namespace Go.Proofs.YtjonmfaeonldcaaDoor
open Go.ChangeShapes Go.WideShapes Go.ChangeAt Go.RowKit
set_option linter.unusedVariables false

section
variable {H : Type} {enc : TypeId × Value → H} {P : Program}

/-- A LAW'S STEP where its row lists variables. -/
theorem law_lift_row {C : Checked} {os : Os} {F : FuncId} {fn : Func} {s : ChangeSpec} {G : Stop.Interp} {apart fresh handsOn again : Bool} {tb : TypeId} {laid : List (String × DataW Unit)}
    (hown : ownKnob C.prog.godebug = none) (started : os.Started) (noInit : C.prog.inits.idxOf? F = none) (hfn : C.prog.funcs[F]? = some fn)
    (hl : laidOutB C.prog = true) (hvars : s.vars = []) (hres : fn.resultTypes = #[tb]) (htb : C.prog.underlying tb = some .bool)
    (hpar : fn.params.toList.all (fun t => C.prog.readableRec t && decide (t < C.prog.types.size)) = true)
    (hspec : ∀ ds : List (DataW H), ds.length = fn.params.toList.length → s.fn H ds = { results := [.lit (.bool true)], args := ds })
    (witness : ∃ (w : World) (tape : Tape) (i : Input), w.os = os ∧ (w.forCall tape i).Shaped C.prog ∧ i.vars = [] ∧ Input.okWide C.prog (w.forCall tape i) .any w.heap.size F i ∧
      (OpenSpec.ofChange s).preRow enc C.prog fn [] apart laid (w.forCall tape i).memory i.args ∧ ({} : Assume).holds C.prog (lone (Frame.enter C.prog F i.args .normal) [] (w.forCall tape i)))
    (contract : ∀ (W : World) (base : Nat) (args : Array Value) (ds : List (DataW H)) (p : List MemPlace),
      (∀ (j : Nat) t v, fn.params[j]? = some t → args[j]? = some v → Value.okWide C.prog W .any base t v) →
      DataW.TrodAll enc C.prog W 0 (fun _ => true) true fn.params.toList args.toList ds p → (∀ x ∈ p, x.block < W.heap.size) →
      (DataW.weightsEach C.prog fn.params.toList ds).all (· ≤ reachBytes) = true → laidMetH C.prog laid W →
      Calls C.prog F args W fun e W' => e = .returned (.bool true) ∧ Below W.heap.size W W') :
    ReturnsInHanded {} C os F .any ((OpenSpec.ofChange s).preRow enc C.prog fn [] apart laid) (((OpenSpec.ofChange s).at G).post enc C.prog fn apart fresh handsOn again) := by
  refine returnsInHanded_of_row hown started noInit hfn witness ?_
  intro W base args ds gs before hval hW _ _ hsz hL _ _
  have hlt : ∀ p ∈ before, p.block < W.heap.size := fun p hp => hW.lt p hp
  obtain ⟨p, q, hA, hV, hpq, hz, hn⟩ := id hW
  have hVn : DataW.TrodVars enc C.prog W (fun _ => true) [] gs q := hvars ▸ hV
  obtain ⟨hg, hq⟩ := trodVars_none hVn
  subst hg hq
  simp only [List.append_nil] at hpq
  subst hpq
  have hvt : (OpenSpec.ofChange s).bare.plain.varTypes C.prog = [] := by
    have : (OpenSpec.ofChange s).bare.plain.vars = [] := hvars
    simp [DataSpec.varTypes, this]
  rw [hvt] at hsz
  simp only [List.append_nil] at hsz
  refine (contract W base args ds before hval hA hlt hsz hL).mono fun e W' ⟨he, hb⟩ => ?_
  exact ⟨_, he, law_post hl hvars hres htb hpar (hspec ds (trodAll_length _ _ _ _ hA).2) hW hb⟩

theorem lits_inj {k : IntKind} : ∀ {xs ys : List Int}, lits (H := Unit) k xs = lits k ys → xs = ys
  | [], [], _ => rfl
  | [], _ :: _, h => by simp [lits] at h
  | _ :: _, [], h => by simp [lits] at h
  | x :: xs, y :: ys, h => by
    simp only [lits, List.map_cons, List.cons.injEq, DataW.lit.injEq, Lit.int.injEq, true_and] at h
    rw [h.1, lits_inj (k := k) h.2]

/-- a listed variable that is a slice of integers: its cell and its numbers; then the rest of the list -/
theorem laid_slice {W : World} {name : String} {k : IntKind} {zs : List Int} {rest : List (String × DataW Unit)} {ps : List MemPlace} {g : Nat} {t e : TypeId}
    (hg : P.globalNamed name = some g) (hty : (P.globals[g]?).map (·.type) = some t) (ht : P.underlying t = some (.slice e)) (he : P.underlying e = some (.int k)) (hce : P.cellsOf e = 1)
    (h : DataW.LaidVars P W ((name, .slice (lits k zs) []) :: rest) ps) :
    (∃ a c, W.cell? ⟨g, 0, none⟩ = some (.slice a zs.length c) ∧ Sl W W.heap.size a (zs.map (.int k)) ∧ zs.length ≤ c) ∧ ∃ q, DataW.LaidVars P W rest q := by
  obtain ⟨g', t', cs, fuel, p, q, hg', ht', hvar, hd, hr, _⟩ := h
  obtain rfl := Option.some.inj (hg.symm.trans hg')
  obtain rfl := Option.some.inj (hty.symm.trans ht')
  refine ⟨?_, q, hr⟩
  rcases open_ints ht he hce hd with ⟨_, hx⟩ | ⟨a, len, cap, zs', hcs, _, hl, hm, hz, hx, hcell, hwz⟩
  · simp at hx
  · simp only [Prod.mk.injEq, DataW.slice.injEq] at hx
    obtain ⟨⟨h1, h2⟩, _⟩ := hx
    have e1 := lits_inj h1
    have hlen : zs.length = len := by
      have := congrArg List.length e1
      simp only [if_true] at hz
      rw [List.length_take] at this
      omega
    have hv := World.var?_cell hg hvar 0
    have hcs0 : cs[0]? = some (.slice (some a) len cap) := by
      rw [← Array.getElem?_toList, hcs]
      rfl
    rw [hcs0] at hv
    refine ⟨some a, cap, by rw [hlen]; exact hv, fun j u hu => ⟨a, rfl, ?_, ?_⟩, by omega⟩
    · have hj : j < zs.length := by simpa using (List.getElem?_eq_some_iff.1 hu).1
      have := World.block_lt_of_cell? W _ (hcell 0 (by simp only [if_true] at hz; omega))
      simpa [block_add] using this
    · have hj : j < zs.length := by simpa using (List.getElem?_eq_some_iff.1 hu).1
      rw [hcell j (by simp only [if_true] at hz; omega)]
      rw [List.getElem?_map] at hu
      rw [e1] at hu
      rw [List.getElem?_take, if_pos (by omega)] at hu
      rw [← hu]
      simp only [if_true] at hz
      rw [List.getElem?_eq_getElem (by omega)]
      simp [List.getD_eq_getElem?_getD, List.getElem?_eq_getElem (show j < zs'.length by omega)]
end

end Go.Proofs.YtjonmfaeonldcaaDoor
