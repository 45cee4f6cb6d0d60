/-
  Parts of the proof in one text: Laid, Err. Conditions: as each states.
-/
import Derived.Test.YtbkpgfccghombaaDoorM00
import Derived.Test.YtbkpgfccghombaaDoorM10
import Derived.Test.YtbkpgfccghombaaDoorRows
import Derived.Deep.DeepHandedRow
import Derived.Deep.DeepWitnessRowRef
import Derived.LaidLaws
/-! The frame of a law whose row lists package variables, and what a listed slice of integers gives. Conditions: none. -/
namespace Go.Proofs.YtbkpgfccghombaaDoor
open Go.ChangeShapes Go.WideShapes Go.ChangeAt Go.RowKit
set_option linter.unusedVariables false

section
variable {H : Type} {enc : TypeId × Value → H} {P : Program}

/-- A LAW'S STEP where its row lists variables. -/
theorem law_lift_row {C : Checked} {os : Os} {F : FuncId} {fn : Func} {s : ChangeSpec} {G : Stop.Interp} {apart fresh handsOn again : Bool} {tb : TypeId} {laid : List (String × DataW Unit)}
    (hown : ownKnob C.prog.godebug = none) (started : os.Started) (noInit : C.prog.inits.idxOf? F = none) (hfn : C.prog.funcs[F]? = some fn)
    (hl : laidOutB C.prog = true) (hvars : s.vars = []) (hres : fn.resultTypes = #[tb]) (htb : C.prog.underlying tb = some .bool)
    (hpar : fn.params.toList.all (fun t => C.prog.readableRec t && decide (t < C.prog.types.size)) = true)
    (hspec : ∀ ds : List (DataW H), ds.length = fn.params.toList.length → s.fn H ds = { results := [.lit (.bool true)], args := ds })
    (witness : ∃ (w : World) (tape : Tape) (i : Input), w.os = os ∧ (w.forCall tape i).Shaped C.prog ∧ i.vars = [] ∧ Input.okWide C.prog (w.forCall tape i) .any w.heap.size F i ∧
      (OpenSpec.ofChange s).preRow enc C.prog fn [] apart laid (w.forCall tape i).memory i.args ∧ ({} : Assume).holds C.prog (lone (Frame.enter C.prog F i.args .normal) [] (w.forCall tape i)))
    (contract : ∀ (W : World) (base : Nat) (args : Array Value) (ds : List (DataW H)) (p : List MemPlace),
      (∀ (j : Nat) t v, fn.params[j]? = some t → args[j]? = some v → Value.okWide C.prog W .any base t v) →
      DataW.TrodAll enc C.prog W 0 (fun _ => true) true fn.params.toList args.toList ds p → (∀ x ∈ p, x.block < W.heap.size) →
      (DataW.weightsEach C.prog fn.params.toList ds).all (· ≤ reachBytes) = true → laidMetH C.prog laid W →
      Calls C.prog F args W fun e W' => e = .returned (.bool true) ∧ Below W.heap.size W W') :
    ReturnsInHanded {} C os F .any ((OpenSpec.ofChange s).preRow enc C.prog fn [] apart laid) (((OpenSpec.ofChange s).at G).post enc C.prog fn apart fresh handsOn again) := by
  refine returnsInHanded_of_row hown started noInit hfn witness ?_
  intro W base args ds gs before hval hW _ _ hsz hL _ _
  have hlt : ∀ p ∈ before, p.block < W.heap.size := fun p hp => hW.lt p hp
  obtain ⟨p, q, hA, hV, hpq, hz, hn⟩ := id hW
  have hVn : DataW.TrodVars enc C.prog W (fun _ => true) [] gs q := hvars ▸ hV
  obtain ⟨hg, hq⟩ := trodVars_none hVn
  subst hg hq
  simp only [List.append_nil] at hpq
  subst hpq
  have hvt : (OpenSpec.ofChange s).bare.plain.varTypes C.prog = [] := by
    have : (OpenSpec.ofChange s).bare.plain.vars = [] := hvars
    simp [DataSpec.varTypes, this]
  rw [hvt] at hsz
  simp only [List.append_nil] at hsz
  refine (contract W base args ds before hval hA hlt hsz hL).mono fun e W' ⟨he, hb⟩ => ?_
  exact ⟨_, he, law_post hl hvars hres htb hpar (hspec ds (trodAll_length _ _ _ _ hA).2) hW hb⟩

theorem lits_inj {k : IntKind} : ∀ {xs ys : List Int}, lits (H := Unit) k xs = lits k ys → xs = ys
  | [], [], _ => rfl
  | [], _ :: _, h => by simp [lits] at h
  | _ :: _, [], h => by simp [lits] at h
  | x :: xs, y :: ys, h => by
    simp only [lits, List.map_cons, List.cons.injEq, DataW.lit.injEq, Lit.int.injEq, true_and] at h
    rw [h.1, lits_inj (k := k) h.2]

/-- a listed variable that is a slice of integers: its cell and its numbers; then the rest of the list -/
theorem laid_slice {W : World} {name : String} {k : IntKind} {zs : List Int} {rest : List (String × DataW Unit)} {ps : List MemPlace} {g : Nat} {t e : TypeId}
    (hg : P.globalNamed name = some g) (hty : (P.globals[g]?).map (·.type) = some t) (ht : P.underlying t = some (.slice e)) (he : P.underlying e = some (.int k)) (hce : P.cellsOf e = 1)
    (h : DataW.LaidVars P W ((name, .slice (lits k zs) []) :: rest) ps) :
    (∃ a c, W.cell? ⟨g, 0, none⟩ = some (.slice a zs.length c) ∧ Sl W W.heap.size a (zs.map (.int k)) ∧ zs.length ≤ c) ∧ ∃ q, DataW.LaidVars P W rest q := by
  obtain ⟨g', t', cs, fuel, p, q, hg', ht', hvar, hd, hr, _⟩ := h
  obtain rfl := Option.some.inj (hg.symm.trans hg')
  obtain rfl := Option.some.inj (hty.symm.trans ht')
  refine ⟨?_, q, hr⟩
  rcases open_ints ht he hce hd with ⟨_, hx⟩ | ⟨a, len, cap, zs', hcs, _, hl, hm, hz, hx, hcell, hwz⟩
  · simp at hx
  · simp only [Prod.mk.injEq, DataW.slice.injEq] at hx
    obtain ⟨⟨h1, h2⟩, _⟩ := hx
    have e1 := lits_inj h1
    have hlen : zs.length = len := by
      have := congrArg List.length e1
      simp only [if_true] at hz
      rw [List.length_take] at this
      omega
    have hv := World.var?_cell hg hvar 0
    have hcs0 : cs[0]? = some (.slice (some a) len cap) := by
      rw [← Array.getElem?_toList, hcs]
      rfl
    rw [hcs0] at hv
    refine ⟨some a, cap, by rw [hlen]; exact hv, fun j u hu => ⟨a, rfl, ?_, ?_⟩, by omega⟩
    · have hj : j < zs.length := by simpa using (List.getElem?_eq_some_iff.1 hu).1
      have := World.block_lt_of_cell? W _ (hcell 0 (by simp only [if_true] at hz; omega))
      simpa [block_add] using this
    · have hj : j < zs.length := by simpa using (List.getElem?_eq_some_iff.1 hu).1
      rw [hcell j (by simp only [if_true] at hz; omega)]
      rw [List.getElem?_map] at hu
      rw [e1] at hu
      rw [List.getElem?_take, if_pos (by omega)] at hu
      rw [← hu]
      simp only [if_true] at hz
      rw [List.getElem?_eq_getElem (by omega)]
      simp [List.getD_eq_getElem?_getD, List.getElem?_eq_getElem (show j < zs'.length by omega)]
end

end Go.Proofs.YtbkpgfccghombaaDoor

/-! What the listed variables give: the package's errors, the ranges that stand for none. Conditions: as stated. -/
namespace Go.Proofs.YtbkpgfccghombaaDoor.rx
open Go.ChangeShapes Go.WideShapes Go.ChangeAt Go.RowKit
set_option linter.unusedVariables false

theorem star_err : "*" ++ "errors.errorString" = "*errors.errorString" := by decide
set_option maxRecDepth 1000000 in
theorem row_err (u : TypeId) (h : Tryd.prog.typeName? 3 u = some "*errors.errorString") : u = 208 :=
  typeName_ptr_named (nm := "errors.errorString") (by rw [star_err]; kernel_rfl) (by kernel_rfl) (by decide) u (by rw [star_err]; exact h)
/-- the listed variables, from some on -/
structure LV (W : World) (l : List (String × DataW Unit)) (ps : List MemPlace) : Prop where
  lv : DataW.LaidVars Tryd.prog W l ps
  nd : ps.Nodup
  rows : ∀ b off, MemPlace.cell b off ∈ ps → (∃ c t, W.heap[b]? = some (.cells c t (0, 0))) ∧ ∀ u v, W.cell? ⟨b, off, none⟩ = some (.iface u v) → Value.okWide Tryd.prog W .any 0 u v
section
variable {W : World} {n : String} {d : DataW Unit} {rest : List (String × DataW Unit)} {ps : List MemPlace}
theorem LV.skip (h : LV W ((n, d) :: rest) ps) : ∃ q, LV W rest q ∧ ∀ x ∈ q, x ∈ ps := by
  obtain ⟨g, t, cs, f, p, q, hg, ht, hv, hd, hr, e⟩ := h.lv
  have hs : ∀ x ∈ q, x ∈ ps := fun x hx => by rw [e]; simp [hx]
  exact ⟨q, ⟨hr, by have := h.nd; rw [e] at this; exact (List.nodup_append.1 this).2.1, fun b off hb => h.rows b off (hs _ hb)⟩, hs⟩
set_option maxRecDepth 1000000 in
theorem LV.err {g : Nat} {bs : List UInt8} (hg : Tryd.prog.globalNamed n = some g) (hty : (Tryd.prog.globals[g]?).map (·.type) = some 61) (h : LV W ((n, .iface "*errors.errorString" (.ptr (.agg [.lit (.string bs)]))) :: rest) ps) :
    ∃ a q, ErrAt W g a ∧ LV W rest q ∧ (∀ x ∈ q, x ∈ ps) ∧ MemPlace.cell a.block a.off ∈ ps ∧ MemPlace.cell a.block a.off ∉ q := by
  obtain ⟨g', t, cs, f, p, q, hg', ht, hv, hd, hr, e⟩ := h.lv
  obtain rfl := Option.some.inj (hg.symm.trans hg')
  obtain rfl := Option.some.inj (hty.symm.trans ht)
  have hs : ∀ x ∈ q, x ∈ ps := fun x hx => by rw [e]; simp [hx]
  have hnd := h.nd
  rw [e] at hnd
  have hdis := (List.nodup_append.1 hnd).2.2
  obtain ⟨l⟩ := cs
  have ok : ∀ u v, l = [.iface u v] → Value.okWide Tryd.prog W .any 0 u v := fun u v e' => by
    subst e'
    exact (h.rows g 0 (by rw [e]; simp [MemPlace.row])).2 u v (by simpa using World.var?_cell hg hv 0)
  obtain ⟨a, s, rfl, hc, hs', hz, rfl⟩ := errorString_of_trod Tryd.underlying61 row_err Tryd.underlying208 Tryd.underlying210 rfl rfl Tryd.underlying9 (by kernel_rfl) (by kernel_rfl) hd ok
  have ha : MemPlace.cell a.block a.off ∈ ps := by rw [e]; simp [MemPlace.row]
  obtain ⟨c, t, hb⟩ := (h.rows a.block a.off ha).1
  refine ⟨a, q, ⟨by simpa using World.var?_cell hg hv 0, c, t, hb⟩, ⟨hr, (List.nodup_append.1 hnd).2.1, fun b off hb => h.rows b off (hs _ hb)⟩, hs, ha, fun hq => ?_⟩
  exact hdis (MemPlace.cell a.block a.off) (by simp [MemPlace.row]) (MemPlace.cell a.block a.off) hq rfl
theorem LV.pair {g : Nat} {k : IntKind} {x y : Int} {t : TypeId} {f0 f1 : Field} (hg : Tryd.prog.globalNamed n = some g) (hty : (Tryd.prog.globals[g]?).map (·.type) = some t) (ht : Tryd.prog.underlying t = some (.struct #[f0, f1]))
    (h0 : Tryd.prog.underlying f0.type = some (.int k)) (h1 : Tryd.prog.underlying f1.type = some (.int k)) (o0 : f0.offset = 0) (o1 : f1.offset = 1) (k0 : Tryd.prog.cellsOf f0.type = 1) (k1 : Tryd.prog.cellsOf f1.type = 1) (hC : Tryd.prog.cellsOf t = 2)
    (h : LV W ((n, .agg [.lit (.int k x), .lit (.int k y)]) :: rest) ps) :
    (W.cell? ⟨g, 0, none⟩ = some (.int k x) ∧ W.cell? ⟨g, 1, none⟩ = some (.int k y)) ∧ ∃ q, LV W rest q ∧ ∀ x ∈ q, x ∈ ps := by
  refine ⟨?_, h.skip⟩
  obtain ⟨g', t', cs, fuel, p, q, hg', ht', hvar, hd, hr, _⟩ := h.lv
  obtain rfl := Option.some.inj (hg.symm.trans hg')
  obtain rfl := Option.some.inj (hty.symm.trans ht')
  obtain ⟨y0, y1, n, hx, hl, r0, r1⟩ := trod_struct2 ht hd
  obtain ⟨n0, e0, rfl, _⟩ := DataW.trod_int h0 r0
  obtain ⟨n1, e1, rfl, _⟩ := DataW.trod_int h1 r1
  simp only [Prod.mk.injEq, DataW.agg.injEq, List.cons.injEq, DataW.lit.injEq, Lit.int.injEq, true_and, and_true] at hx
  obtain ⟨⟨rfl, rfl⟩, _⟩ := hx
  rw [o0, k0] at e0
  rw [o1, k1] at e1
  rw [hC] at hl
  have hv0 := World.var?_cell hg hvar 0
  have hv1 := World.var?_cell hg hvar 1
  rw [← Array.getElem?_toList] at hv0 hv1
  match hcl : cs.toList, hl with
  | [c0, c1], _ =>
    rw [hcl] at e0 e1 hv0 hv1
    simp at e0 e1 hv0 hv1
    subst e0 e1
    exact ⟨hv0, hv1⟩
end
theorem ne_of_places {a b : Addr} {q : List MemPlace} (h : MemPlace.cell a.block a.off ∉ q) (h2 : MemPlace.cell b.block b.off ∈ q) : b ≠ a := fun e => h (e ▸ h2)
/-- all that the listed variables give -/
structure LaidAll (W : World) (a0 a1 a2 a3 a4 : Addr) : Prop where
  nils : Nils W
  errs : Errs W a0 a1 a2 a3
  g4 : ErrAt W 4 a4
  n0 : a4 ≠ a0
  n1 : a4 ≠ a1
  n2 : a4 ≠ a2
  n3 : a4 ≠ a3
set_option maxRecDepth 1000000 in
theorem laid_all {W : World} (h : laidMetH Tryd.prog Rows.fnCompileRow.laid W) : ∃ a0 a1 a2 a3 a4, LaidAll W a0 a1 a2 a3 a4 := by
  obtain ⟨ps, h1, h2, h3⟩ := (show laidMet Tryd.prog Rows.fnCompileRow.laid W from h)
  obtain ⟨⟨r0, r1⟩, q1, L1, s1⟩ := LV.pair (g := 9) (by kernel_rfl) (by kernel_rfl) Tryd.underlying192 Tryd.underlying5 Tryd.underlying5 rfl rfl (by kernel_rfl) (by kernel_rfl) (by kernel_rfl) (show LV W (("pub-traverser/pub/vellum/utf8.nilRange", .agg [.lit (.int .u8 255), .lit (.int .u8 0)]) :: Rows.fnCompileRow.laid.tail) ps from ⟨h1, h2, h3⟩)
  obtain ⟨⟨t0, t1⟩, q2, L2, s2⟩ := LV.pair (g := 8) (by kernel_rfl) (by kernel_rfl) Tryd.underlying184 Tryd.underlying21 Tryd.underlying21 rfl rfl (by kernel_rfl) (by kernel_rfl) (by kernel_rfl) (show LV W (("pub-traverser/pub/vellum/utf8.nilScalarRange", .agg [.lit (.int .i32 65535), .lit (.int .i32 0)]) :: Rows.fnCompileRow.laid.tail.tail) q1 from L1)
  obtain ⟨q3, L3, s3⟩ := LV.skip (show LV W (("unicode.asciiFold", Rows.laid_unicode_asciiFold) :: Rows.fnCompileRow.laid.tail.tail.tail) q2 from L2)
  obtain ⟨q4, L4, s4⟩ := LV.skip (show LV W (("unicode.caseOrbit", Rows.laid_unicode_caseOrbit) :: Rows.fnCompileRow.laid.tail.tail.tail.tail) q3 from L3)
  obtain ⟨a4, q5, e4, L5, s5, m4, n4⟩ := LV.err (g := 4) (by kernel_rfl) (by kernel_rfl) (show LV W (("pub-traverser/pub/vellum/regexp.ErrTooManyStates", .iface "*errors.errorString" (.ptr (.agg [.lit (.string _)]))) :: Rows.fnCompileRow.laid.tail.tail.tail.tail.tail) q4 from L4)
  obtain ⟨a1, q6, e1, L6, s6, m1, n1⟩ := LV.err (g := 1) (by kernel_rfl) (by kernel_rfl) (show LV W (("pub-traverser/pub/vellum/regexp.ErrNoEmpty", .iface "*errors.errorString" (.ptr (.agg [.lit (.string _)]))) :: Rows.fnCompileRow.laid.tail.tail.tail.tail.tail.tail) q5 from L5)
  obtain ⟨a2, q7, e2, L7, s7, m2, n2⟩ := LV.err (g := 2) (by kernel_rfl) (by kernel_rfl) (show LV W (("pub-traverser/pub/vellum/regexp.ErrNoWordBoundary", .iface "*errors.errorString" (.ptr (.agg [.lit (.string _)]))) :: Rows.fnCompileRow.laid.tail.tail.tail.tail.tail.tail.tail) q6 from L6)
  obtain ⟨a0, q8, e0, L8, s8, m0, n0⟩ := LV.err (g := 0) (by kernel_rfl) (by kernel_rfl) (show LV W (("pub-traverser/pub/vellum/regexp.ErrNoLazy", .iface "*errors.errorString" (.ptr (.agg [.lit (.string _)]))) :: Rows.fnCompileRow.laid.tail.tail.tail.tail.tail.tail.tail.tail) q7 from L7)
  obtain ⟨a3, q9, e3, L9, s9, m3, n3⟩ := LV.err (g := 3) (by kernel_rfl) (by kernel_rfl) (show LV W (("pub-traverser/pub/vellum/regexp.ErrCompiledTooBig", .iface "*errors.errorString" (.ptr (.agg [.lit (.string _)]))) :: Rows.fnCompileRow.laid.tail.tail.tail.tail.tail.tail.tail.tail.tail) q8 from L8)
  have NW : Nils W := ⟨t0, t1, r0, r1⟩
  exact ⟨a0, a1, a2, a3, a4, NW, ⟨e0, e1, e2, e3, ne_of_places n0 m3, ne_of_places n1 (s7 _ (s8 _ m3)), ne_of_places n2 (s8 _ m3), NW.lt⟩, e4,
    (ne_of_places n4 (s6 _ (s7 _ m0))).symm, (ne_of_places n4 m1).symm, (ne_of_places n4 (s6 _ m2)).symm, (ne_of_places n4 (s6 _ (s7 _ (s8 _ m3)))).symm⟩
end Go.Proofs.YtbkpgfccghombaaDoor.rx
