/-
  Parts of the proof in one text: Wb, Wc, Wd, We. Conditions: as each states.
-/
import Derived.Test.YtbkpgfccghombaaDoorM08
import Derived.Test.YtbkpgfccghombaaDoorM04
import Derived.Test.YtbkpgfccghombaaDoorM00
import Derived.Test.YtbkpgfccghombaaDoorM01
import Derived.Deep.DeepCutAuto
import Derived.Laws.IdiomStrings
/-! The law's letters, pairs. Conditions: as stated. -/
namespace Go.Proofs.YtbkpgfccghombaaDoor.rx
open Go.ChangeShapes Go.WideShapes Go.ChangeAt Go.RowKit
set_option linter.unusedVariables false

theorem few_cell (w : World) (t : TypeId) (k : Nat) (v : Int) (h : fewL[k]? = some v) : (w.alloc (.cells #[.int .i32 97, .int .i32 98, .int .i32 99, .int .i32 100, .int .i32 10, .int .i32 233, .int .i32 2047, .int .i32 2048, .int .i32 65535, .int .i32 65536, .int .i32 1114111, .int .i32 55295] t)).cell? ⟨w.heap.size, k, none⟩ = some (.int .i32 v) := by
  have hb := (Blk.new w t (fewL.map (.int .i32))).cell k
  rw [List.getElem?_map, h] at hb
  exact hb
set_option maxRecDepth 100000 in
theorem letter_any (x : Int) (w : World) (h0 : -2147483648 ≤ x) (h1 : x ≤ 2147483647) : Calls Tryd.prog 29 #[.int .i32 x] w fun e w' => e = .returned (.int .i32 (ltr x)) ∧ Below w.heap.size w w' := by
  have CV := Lib.hid (fun W => valid_any x W)
  by_cases h5 : (32 ≤ x ∧ x < 127) ∨ (127 < x ∧ isL x = true)
  · have e : ltr x = x := if_pos h5
    rw [e]; clear e
    rcases h5 with ⟨h2, h3⟩ | ⟨h2, h3⟩
    · go_enter Tryd.func29, Tryd.ntmps29
      go_wp2
      go_ret
      exact ⟨rfl, (Below.refl _ _).alloc (Nat.le_refl _) _⟩
    · have h4 : 32 ≤ x := by omega
      have h6 : ¬ x < 127 := by omega
      rw [h3] at CV
      go_enter Tryd.func29, Tryd.ntmps29
      go_wp2_with (go_at_call 39; refine (CV.out _).mono ?_; rintro e w1 ⟨rfl, rfl⟩)
      go_ret
      exact ⟨rfl, (Below.refl _ _).alloc (Nat.le_refl _) _⟩
  · obtain ⟨v, hv, hv2, -⟩ := ltr_few x
    have e : ltr x = v := by unfold ltr; rw [if_neg h5, hv2]
    rw [e]; clear e hv2
    have e1 : IntKind.u32.wrap x = x % 4294967296 := IntKind.wrap_u32 x
    have y0 : 0 ≤ x % 4294967296 := Int.emod_nonneg _ (by omega)
    have k0 : 0 ≤ x % 4294967296 % 12 := Int.emod_nonneg _ (by omega)
    have k1 : x % 4294967296 % 12 < 12 := Int.emod_lt_of_pos _ (by omega)
    have e2 : (x % 4294967296).tmod 12 = x % 4294967296 % 12 := Int.tmod_eq_emod_of_nonneg y0
    generalize x % 4294967296 = y at *
    generalize y % 12 = k at *
    obtain ⟨k, rfl⟩ : ∃ n : Nat, k = n := ⟨k.toNat, by omega⟩
    rw [Int.toNat_natCast] at hv
    have e3 : IntKind.u32.wrap (k : Int) = k := by rw [IntKind.wrap_u32]; omega
    have e4 : IntKind.i64.wrap (k : Int) = k := by rw [IntKind.wrap_i64]; omega
    have e5 : wrap64 (k : Int) = k := by unfold wrap64; omega
    have hc := few_cell w 92 k v hv
    clear hv k0 y0
    by_cases h2 : 32 ≤ x
    · have h3 : ¬ x < 127 := by omega
      by_cases h4 : 127 < x
      · have h6 : isL x = false := by cases hL : isL x with | true => exact absurd (.inr ⟨h4, hL⟩) h5 | false => rfl
        rw [h6] at CV
        clear h5
        go_enter Tryd.func29, Tryd.ntmps29
        go_wp2_with (go_at_call 39; refine (CV.out _).mono ?_; rintro e w1 ⟨rfl, rfl⟩)
        go_ret
        exact ⟨rfl, (Below.refl _ _).alloc (Nat.le_refl _) _⟩
      · clear h5
        go_enter Tryd.func29, Tryd.ntmps29
        go_wp2
        go_ret
        exact ⟨rfl, (Below.refl _ _).alloc (Nat.le_refl _) _⟩
    · have h4 : ¬ 127 < x := by omega
      clear h5
      go_enter Tryd.func29, Tryd.ntmps29
      go_wp2
      go_ret
      exact ⟨rfl, (Below.refl _ _).alloc (Nat.le_refl _) _⟩
end Go.Proofs.YtbkpgfccghombaaDoor.rx

/-! The law's pairs of runes. Conditions: as stated. -/
namespace Go.Proofs.YtbkpgfccghombaaDoor.rx
open Go.ChangeShapes Go.WideShapes Go.ChangeAt Go.RowKit
set_option linter.unusedVariables false

/-- append of k elements that have just been laid in a block of their own -/
theorem appendN_at {P : Program} {ops : Array Oper} {rest : List Oper} {o : Oper} {a : Act} {Q : Exit → Act → World → Prop} (W : World) (cs : Array Value) (hgd : o.guard = none) (s x : Operand) (t : TypeId)
    (ho : o.op = .call { callee := .builtin .append, args := #[s, x], argTypes := #[t, t] })
    (base : Nat) (e : TypeId) (i : TypeInfo) (z : Value) (size bytes : Nat) (ht : P.underlying t = some (.slice e)) (hi : P.info? e = some i) (hz : i.zero = some z)
    (hsize : i.size = size) (hby : i.bytes = bytes) (hzs : z.cells.size = size) (hsz : 0 < size) (m : Nat) (hcs : cs.size = m * size)
    (v : Value) (n : Nat) (xs : List Value) (hs : a.eval s = v) (hown : W.ownsRow base e size v n xs)
    (N : Nat) (hN : W.heap.size = N) (hx : a.eval x = .slice (some ⟨N, 0, none⟩) m m) (h1 : ∀ u ∈ cs.toList, u.oneCell' = true)
    (h63 : n + m ≤ maxLen) (hbytes : (n + m) * bytes ≤ 140737488355328) (hbase : base ≤ W.heap.size)
    (h : ∀ v' w', w'.ownsRow base e size v' (n + m) (xs ++ cs.toList) → W.grownBy w' v.ownBlock → (∀ k, v'.ownBlock = some k → v.ownBlock = some k ∨ W.heap.size ≤ k) → wpList P ops Q rest (a.put o.dst v') w') : wpList P ops Q (o :: rest) a (W.alloc (.cells cs e)) := by
  subst hN
  have hb : (W.alloc (.cells cs e)).heap[W.heap.size]? = some (.cells cs e (0, 0)) := heap_alloc_new W _
  refine wpList_append_own_at (W.alloc (.cells cs e)) hgd s x t ho base e i z size bytes ht hi hz hsize hby hzs hsz v n xs hs (hown.alloc _) ⟨W.heap.size, 0, none⟩ m m cs.toList hx (by simpa using hcs) ?_ h1 h63 hbytes (by simp; omega) ?_
  · intro j u hu
    have hj : ((⟨W.heap.size, 0, none⟩ : Addr).add j) = ⟨W.heap.size, j, none⟩ := by
      unfold Addr.add
      by_cases h0 : j = 0 <;> simp [h0]
    rw [hj, cell_of_row _ _ j cs e (0, 0) hb, ← Array.getElem?_toList]
    exact hu
  · intro v' w' hown' hg hne hat
    refine h v' w' hown' ⟨hg.os, hg.tape, hg.output, Nat.le_trans (by simp) hg.size, fun k hk hne' => ?_⟩ (fun k hk => ?_)
    · exact (hg.block k (by simp; omega) hne').trans (Below.heap_alloc W _ k hk)
    · rcases hat with hat | hat
      · exact Or.inl (hat ▸ hk)
      · rw [hk] at hat
        injection hat with hat
        exact Or.inr (by rw [hat]; simp)

/-- one more pair -/
def prS (out : List Int) (p : Int × Int) : List Int :=
  let a := min (ltr p.1) (ltr p.2)
  let b := max (ltr p.1) (ltr p.2)
  if out ≠ [] ∧ a ≤ out.getLastD 0 + 1 then out else out ++ [a, b]
def prF (ps : List (Int × Int)) : List Int := ps.foldl prS []
theorem prF_snoc (ps : List (Int × Int)) (p : Int × Int) : prF (ps ++ [p]) = prS (prF ps) p := by simp [prF]
/-- rising pairs -/
def Prs (l : List Int) : List Int := if prF ((pairs l).take 4) = [] then [97, 99] else prF ((pairs l).take 4)
theorem prS_len (out : List Int) (p : Int × Int) : (prS out p).length ≤ out.length + 2 ∧ out.length ≤ (prS out p).length := by
  unfold prS
  simp only
  split
  · omega
  · simp
theorem prF_len : ∀ (ps : List (Int × Int)), (prF ps).length ≤ 2 * ps.length := by
  have : ∀ (ps : List (Int × Int)) (out : List Int), (ps.foldl prS out).length ≤ out.length + 2 * ps.length := by
    intro ps
    induction ps with
    | nil => simp
    | cons p r ih =>
      intro out
      have h1 := ih (prS out p)
      have h2 := (prS_len out p).1
      simp only [List.foldl_cons, List.length_cons]
      omega
  intro ps
  have := this ps []
  simpa [prF] using this
theorem pairs_snoc : ∀ (n : Nat) (l : List Int) (a b : Int), l.length = 2 * n → pairs (l ++ [a, b]) = pairs l ++ [(a, b)]
  | 0, l, a, b, h => by
    have : l = [] := List.length_eq_zero_iff.1 (by omega)
    subst this
    rfl
  | n + 1, x :: y :: r, a, b, h => by
    have := pairs_snoc n r a b (by simp at h; omega)
    simp only [List.cons_append, pairs, this]
  | n + 1, [], _, _, h => by simp at h
  | n + 1, [_], _, _, h => by simp at h; omega
/-- what the pairs are -/
def okSome (l : List Int) : Prop := l.length = 2 * (pairs l).length ∧ ∀ p ∈ pairs l, p.1 ≤ p.2 ∧ p.2 ≤ 1114111 ∧ isL p.1 = true
theorem prS_ok {out : List Int} (h : okSome out) (p : Int × Int) : okSome (prS out p) := by
  unfold prS
  simp only
  split
  · exact h
  · have e := pairs_snoc _ out (min (ltr p.1) (ltr p.2)) (max (ltr p.1) (ltr p.2)) h.1
    unfold okSome
    rw [e]
    refine ⟨by simp; have := h.1; omega, fun q hq => ?_⟩
    rcases List.mem_append.1 hq with hq | hq
    · exact h.2 q hq
    · simp at hq
      subst hq
      have l1 := ltr_ok p.1
      have l2 := ltr_ok p.2
      have d1 := of_decide_eq_true l1
      have d2 := of_decide_eq_true l2
      refine ⟨by simp only; omega, by simp only; omega, ?_⟩
      simp only
      rcases Int.le_total (ltr p.1) (ltr p.2) with h | h
      · rw [Int.min_eq_left h]; exact l1
      · rw [Int.min_eq_right h]; exact l2
theorem prF_ok (ps : List (Int × Int)) : okSome (prF ps) := by
  have : ∀ (ps : List (Int × Int)) (out : List Int), okSome out → okSome (ps.foldl prS out) := by
    intro ps
    induction ps with
    | nil => exact fun _ h => h
    | cons p r ih => exact fun out h => ih _ (prS_ok h p)
  exact this ps [] ⟨rfl, by simp [pairs]⟩
theorem Prs_ok (l : List Int) : okPairs (Prs l) ∧ (Prs l).length ≤ 8 := by
  unfold Prs
  split
  · exact ⟨⟨by decide, by decide, by decide⟩, by decide⟩
  · rename_i h
    have h1 := prF_ok ((pairs l).take 4)
    have h2 := prF_len ((pairs l).take 4)
    refine ⟨⟨fun e => ?_, h1⟩, ?_⟩
    · have := h1.1
      rw [e] at this
      exact h (List.length_eq_zero_iff.1 (by simpa using this))
    · have : ((pairs l).take 4).length ≤ 4 := by simp; omega
      omega

theorem prF_bd (ps : List (Int × Int)) : ∀ v ∈ prF ps, 0 ≤ v ∧ v ≤ 1114111 := by
  have : ∀ (ps : List (Int × Int)) (out : List Int), (∀ v ∈ out, 0 ≤ v ∧ v ≤ 1114111) → ∀ v ∈ ps.foldl prS out, 0 ≤ v ∧ v ≤ 1114111 := by
    intro ps
    induction ps with
    | nil => exact fun _ h => h
    | cons p r ih =>
      intro out h
      refine ih _ fun v hv => ?_
      unfold prS at hv
      simp only at hv
      have d1 := of_decide_eq_true (ltr_ok p.1)
      have d2 := of_decide_eq_true (ltr_ok p.2)
      split at hv
      · exact h v hv
      · rcases List.mem_append.1 hv with hv | hv
        · exact h v hv
        · simp at hv
          omega
  exact this ps [] (by simp)
theorem slo_of_own {w : World} {base : Nat} {e : TypeId} {size n : Nat} {a : Option Addr} {cap : Nat} {xs : List Value} (h : w.ownsRow base e size (.slice a n cap) n xs) : SlO w (fun k => k < base) a xs := fun j v hv => by
  obtain ⟨ad, h1, h2, h3⟩ := sl_of_own h j v hv
  subst h1
  exact ⟨ad, rfl, h2, fun e => by have := own_block_ge h ad.block rfl; omega, h3⟩
theorem infoR : (Tryd.prog.info? 21).map (fun i => (i.zero, i.size, i.bytes)) = some (some (.int .i32 0), 1, 4) := by kernel_rfl
set_option maxRecDepth 100000 in
set_option maxHeartbeats 1600000 in
theorem prs_any (a : Option Addr) (c : Nat) (l : List Int) (w : World) (hs : Sl w w.heap.size a (l.map (.int .i32))) (hn : l.length ≤ 9223372036854775807) (hb : ∀ x ∈ l, -2147483648 ≤ x ∧ x ≤ 2147483647) :
    Calls Tryd.prog 20 #[.slice a l.length c] w fun e w' => ∃ a' c', e = .returned (.slice (some a') (Prs l).length c') ∧ SlO w' (fun k => k < w.heap.size) (some a') ((Prs l).map (.int .i32)) ∧ Below w.heap.size w w' := by
  obtain ⟨i0, hi0, hz0, hz1, hz2⟩ := info_parts infoR
  have HS := Lib.hid hs
  have HB := Lib.hid hb
  clear hs hb
  go_enter Tryd.func20, Tryd.ntmps20
  go_wp2_with fail
  go_loopw [3, 4, 5, 6] (fun v3 v4 _ _ wr => ∃ (m q n : Nat) (a3 : Option Addr) (c3 : Nat), q ≤ 8 ∧ v4 = .int .i64 (q : Int) ∧ v3 = .slice a3 n c3 ∧ n ≤ 8 ∧ Hid (q = 2 * m ∧ q ≤ l.length + 1 ∧ (prF ((pairs l).take m)).length = n ∧ wr.ownsRow w.heap.size 21 1 v3 n ((prF ((pairs l).take m)).map (.int .i32)) ∧ Below w.heap.size w wr)) (fun _ v4 _ _ _ => 9 - (intOf v4).toNat)
  case atStart => exact ⟨0, 0, 0, none, 0, by omega, rfl, rfl, by omega, Lib.hid ⟨rfl, by omega, rfl, World.ownsRow_nil _ _ _ _, Below.refl _ _⟩⟩
  case round =>
    obtain ⟨m, q, n, a3, c3, hm, rfl, rfl, hnm, H1⟩ := hrel
    by_cases hlt : q + 1 < l.length
    · have hlt1 : q < l.length := by omega
      have hlt2 : (q : Int) + 1 < (l.length : Int) := by omega
      have hlt3 : (0 : Int) ≤ (q : Int) + 1 := by omega
      have hwq : IntKind.i64.wrap ((q : Int) + 1) = (q : Int) + 1 := by rw [IntKind.wrap_i64]; omega
      by_cases h4 : q < 8
      · have HS1 := HS.out.below H1.out.2.2.2.2
        obtain ⟨ad, rfl, hbl, hc⟩ := rune_at HS1 q hlt1
        obtain ⟨ad2, had, hb2, hc2⟩ := rune_at HS1 (q + 1) hlt
        injection had with had
        subst had
        have hc2 := cell_next hc2
        have hbl' : ad.block < wr.heap.size := Nat.lt_of_lt_of_le hbl H1.out.2.2.2.2.size
        have B1 := HB.out l[q] (List.getElem_mem _)
        have B2 := HB.out l[q + 1] (List.getElem_mem _)
        have HT := Lib.hid (show (pairs l).take (m + 1) = (pairs l).take m ++ [(l[q], l[q + 1])] from by
          have e := H1.out.1
          subst e
          have := pairs_at l m hlt
          rw [List.take_add_one, this]
          rfl)
        generalize l[q] = x at *
        generalize l[q + 1] = y at *
        have CX := Lib.hid (fun W => letter_any x W B1.1 B1.2)
        have CY := Lib.hid (fun W => letter_any y W B2.1 B2.2)
        clear B1 B2 HS1 hb2
        go_upto_region 5 with fail
        go_cut [5, 6] (fun s5 s6 wx => s5 = .int .i32 (ltr x) ∧ s6 = .int .i32 (ltr y) ∧ Hid (Below wr.heap.size wr wx))
        case first =>
          refine wp_region_ks (fun W => W.cell? (ad.add q) = some (.int .i32 x) ∧ W.cell? ⟨ad.block, ad.off + (q + 1), none⟩ = some (.int .i32 y)) [] (by kernel_rfl) ?_
          simp only [List.size_toArray, List.length_cons, List.length_nil, Nat.reduceAdd]
          refine ks_pure (i := 0) (oi := ?oi0) (v := ?v0) ?hi0 (by kernel_rfl) (by kernel_rfl) (by kernel_rfl) ?hQ0 ?hy0 ?rest0
          case hi0 =>
            simp only [List.getElem?_toArray, List.getElem?_cons_zero]
            rfl
          case hQ0 => exact fun _ _ _ h => h
          case hy0 =>
            refine yields_if (by rfl) (fun W hW => ?_)
            try dsimp only at hW
            go_simp
            first | done | with_reducible rfl
          simp only [Act.put, List.setIfInBounds_toArray, List.set_cons_zero, List.set_cons_succ]
          refine ks_pure (i := 1) (oi := ?oi1) (v := ?v1) ?hi1 (by kernel_rfl) (by kernel_rfl) (by kernel_rfl) ?hQ1 ?hy1 ?rest1
          case hi1 =>
            simp only [List.getElem?_toArray, List.getElem?_cons_succ, List.getElem?_cons_zero]
            rfl
          case hQ1 => exact fun _ _ _ h => h
          case hy1 =>
            refine yields_if (by rfl) (fun W hW => ?_)
            try dsimp only at hW
            go_simp
            first | done | with_reducible rfl
          simp only [Act.put, List.setIfInBounds_toArray, List.set_cons_zero, List.set_cons_succ]
          refine ks_pure (i := 2) (oi := ?oi2) (v := ?v2) ?hi2 (by kernel_rfl) (by kernel_rfl) (by kernel_rfl) ?hQ2 ?hy2 ?rest2
          case hi2 =>
            simp only [List.getElem?_toArray, List.getElem?_cons_succ, List.getElem?_cons_zero]
            rfl
          case hQ2 => exact fun _ _ _ h => h
          case hy2 =>
            refine yields_if (by rfl) (fun W hW => ?_)
            try dsimp only at hW
            go_simp
            first | done | with_reducible rfl
          simp only [Act.put, List.setIfInBounds_toArray, List.set_cons_zero, List.set_cons_succ]
          refine ks_take (i := 3) (oi := ?oi3) (v := ?v3) ?hi3 (by kernel_rfl) (by kernel_rfl) (by kernel_rfl) (by kernel_rfl) ?hQ3 ?hS3 ?hy3 ?rest3
          case hi3 =>
            simp only [List.getElem?_toArray, List.getElem?_cons_succ, List.getElem?_cons_zero]
            rfl
          case hQ3 => exact fun _ _ _ h => h
          case hS3 => exact ⟨hc, hc2⟩
          case hy3 =>
            refine yields_if (by rfl) (fun W hW => ?_)
            obtain ⟨hW1, hW2⟩ := hW
            go_simp
            first | done | with_reducible rfl
          simp only [Act.put, List.setIfInBounds_toArray, List.set_cons_zero, List.set_cons_succ]
          refine ks_pure (i := 5) (oi := ?oi5) (v := ?v5) ?hi5 (by kernel_rfl) (by kernel_rfl) (by kernel_rfl) ?hQ5 ?hy5 ?rest5
          case hi5 =>
            simp only [List.getElem?_toArray, List.getElem?_cons_succ, List.getElem?_cons_zero]
            rfl
          case hQ5 => exact fun _ _ _ h => h
          case hy5 =>
            refine yields_if (by rfl) (fun W hW => ?_)
            try dsimp only at hW
            go_simp
            first | done | with_reducible rfl
          simp only [Act.put, List.setIfInBounds_toArray, List.set_cons_zero, List.set_cons_succ]
          refine ks_pure (i := 6) (oi := ?oi6) (v := ?v6) ?hi6 (by kernel_rfl) (by kernel_rfl) (by kernel_rfl) ?hQ6 ?hy6 ?rest6
          case hi6 =>
            simp only [List.getElem?_toArray, List.getElem?_cons_succ, List.getElem?_cons_zero]
            rfl
          case hQ6 => exact fun _ _ _ h => h
          case hy6 =>
            refine yields_if (by rfl) (fun W hW => ?_)
            try dsimp only at hW
            go_simp
            first | done | with_reducible rfl
          simp only [Act.put, List.setIfInBounds_toArray, List.set_cons_zero, List.set_cons_succ]
          refine ks_pure (i := 7) (oi := ?oi7) (v := ?v7) ?hi7 (by kernel_rfl) (by kernel_rfl) (by kernel_rfl) ?hQ7 ?hy7 ?rest7
          case hi7 =>
            simp only [List.getElem?_toArray, List.getElem?_cons_succ, List.getElem?_cons_zero]
            rfl
          case hQ7 => exact fun _ _ _ h => h
          case hy7 =>
            refine yields_if (by rfl) (fun W hW => ?_)
            try dsimp only at hW
            go_simp
            first | done | with_reducible rfl
          simp only [Act.put, List.setIfInBounds_toArray, List.set_cons_zero, List.set_cons_succ]
          refine ks_pure (i := 8) (oi := ?oi8) (v := ?v8) ?hi8 (by kernel_rfl) (by kernel_rfl) (by kernel_rfl) ?hQ8 ?hy8 ?rest8
          case hi8 =>
            simp only [List.getElem?_toArray, List.getElem?_cons_succ, List.getElem?_cons_zero]
            rfl
          case hQ8 => exact fun _ _ _ h => h
          case hy8 =>
            refine yields_if (by rfl) (fun W hW => ?_)
            try dsimp only at hW
            go_simp
            first | done | with_reducible rfl
          simp only [Act.put, List.setIfInBounds_toArray, List.set_cons_zero, List.set_cons_succ]
          refine ks_take (i := 9) (oi := ?oi9) (v := ?v9) ?hi9 (by kernel_rfl) (by kernel_rfl) (by kernel_rfl) (by kernel_rfl) ?hQ9 ?hS9 ?hy9 ?rest9
          case hi9 =>
            simp only [List.getElem?_toArray, List.getElem?_cons_succ, List.getElem?_cons_zero]
            rfl
          case hQ9 => exact fun _ _ _ h => h
          case hS9 => exact ⟨hc, hc2⟩
          case hy9 =>
            refine yields_if (by rfl) (fun W hW => ?_)
            obtain ⟨hW1, hW2⟩ := hW
            go_simp
            first | done | with_reducible rfl
          simp only [Act.put, List.setIfInBounds_toArray, List.set_cons_zero, List.set_cons_succ]
          refine ks_one (i := 4) (o := ?o4) ?ho4 (by kernel_rfl) (fun K9 hK => ?_)
          case ho4 =>
            simp only [List.getElem?_toArray, List.getElem?_cons_succ, List.getElem?_cons_zero]
            rfl
          go_simp
          refine (CX.out _).mono ?_
          rintro e w5 ⟨rfl, h5⟩
          refine hK _ _ (fun _ hS => ⟨((h5.cell (p := ad.add q) (by rw [block_add]; exact hbl')).trans hS.1), ((h5.cell (p := ⟨ad.block, ad.off + (q + 1), none⟩) hbl').trans hS.2)⟩) ?_
          clear hK K9
          try simp only [Act.put, List.setIfInBounds_toArray, List.set_cons_zero, List.set_cons_succ]
          refine ks_one (i := 10) (o := ?o10p) ?ho10p (by kernel_rfl) (fun K9 hK => ?_)
          case ho10p =>
            simp only [List.getElem?_toArray, List.getElem?_cons_succ, List.getElem?_cons_zero]
            rfl
          go_simp
          refine (CY.out _).mono ?_
          rintro e w6 ⟨rfl, h6⟩
          refine hK _ _ (fun _ hS => ⟨((h6.cell (p := ad.add q) (by rw [block_add]; exact Nat.lt_of_lt_of_le hbl' h5.size)).trans hS.1), ((h6.cell (p := ⟨ad.block, ad.off + (q + 1), none⟩) (Nat.lt_of_lt_of_le hbl' h5.size)).trans hS.2)⟩) ?_
          clear hK K9
          try simp only [Act.put, List.setIfInBounds_toArray, List.set_cons_zero, List.set_cons_succ]
          refine ks_pure (i := 11) (oi := ?oi11p) (v := ?v11p) ?hi11p (by kernel_rfl) (by kernel_rfl) (by kernel_rfl) ?hQ11p ?hy11p ?rest11p
          case hi11p =>
            simp only [List.getElem?_toArray, List.getElem?_cons_succ, List.getElem?_cons_zero]
            rfl
          case hQ11p => exact fun _ _ _ h => h
          case hy11p =>
            refine yields_if (by rfl) (fun W hW => ?_)
            try dsimp only at hW
            go_simp
            first | done | with_reducible rfl
          simp only [Act.put, List.setIfInBounds_toArray, List.set_cons_zero, List.set_cons_succ]
          refine ks_pure (i := 12) (oi := ?oi12p) (v := ?v12p) ?hi12p (by kernel_rfl) (by kernel_rfl) (by kernel_rfl) ?hQ12p ?hy12p ?rest12p
          case hi12p =>
            simp only [List.getElem?_toArray, List.getElem?_cons_succ, List.getElem?_cons_zero]
            rfl
          case hQ12p => exact fun _ _ _ h => h
          case hy12p =>
            refine yields_if (by rfl) (fun W hW => ?_)
            try dsimp only at hW
            go_simp
            first | done | with_reducible rfl
          simp only [Act.put, List.setIfInBounds_toArray, List.set_cons_zero, List.set_cons_succ]
          refine ks_done (by kernel_rfl) ?_ _
          simp only [Exit.then]
          rename_i hK1
          refine hK1 _ _ ?_
          clear hK1
          go_meet
          case rel => exact ⟨rfl, rfl, Lib.hid ((below_drewN (Below.refl _ _) 1).trans (h5.trans (h6.mono h5.size)))⟩
        case rest =>
          obtain ⟨rfl, rfl, HBx⟩ := hcut
          have LX := of_decide_eq_true (ltr_ok x)
          have LY := of_decide_eq_true (ltr_ok y)
          have HBW := Lib.hid (H1.out.2.2.2.2.trans (HBx.out.mono H1.out.2.2.2.2.size))
          have OWN := Lib.hid (own_below H1.out.2.2.2.1 HBx.out)
          have HST := Lib.hid (show prF ((pairs l).take (m + 1)) = if prF ((pairs l).take m) ≠ [] ∧ min (ltr x) (ltr y) ≤ (prF ((pairs l).take m)).getLastD 0 + 1 then prF ((pairs l).take m) else prF ((pairs l).take m) ++ [min (ltr x) (ltr y), max (ltr x) (ltr y)] from by rw [HT.out, prF_snoc]; rfl)
          have HBD := Lib.hid (prF_bd ((pairs l).take m))
          have HLN := Lib.hid (prF_len ((pairs l).take (m + 1)))
          have HNL := Lib.hid H1.out.2.2.1
          have HQ := Lib.hid H1.out.1
          have HQ2 := Lib.hid H1.out.2.1
          generalize prF ((pairs l).take m) = out at *
          generalize ltr x = X at *
          generalize ltr y = Y at *
          clear hc hc2 CX CY HT
          obtain ⟨A, hA⟩ : ∃ A, A = min X Y := ⟨_, rfl⟩
          obtain ⟨Z, hZ⟩ : ∃ Z, Z = max X Y := ⟨_, rfl⟩
          rw [← hA, ← hZ] at HST
          have HA := Lib.hid hA
          have HZ := Lib.hid hZ
          clear hA hZ
          go_upto_if 31 with fail
          go_cut [5, 6] (fun s5 s6 wx => s5 = .int .i32 A ∧ s6 = .int .i32 Z ∧ Hid (Below wr.heap.size wr wx))
          case first =>
            by_cases hyx : Y < X
            · obtain rfl : A = Y := by have := HA.out; omega
              obtain rfl : Z = X := by have := HZ.out; omega
              go_wp2
              go_meet
              case rel => exact ⟨rfl, rfl, HBx⟩
            · obtain rfl : A = X := by have := HA.out; omega
              obtain rfl : Z = Y := by have := HZ.out; omega
              go_wp2
              go_meet
              case rel => exact ⟨rfl, rfl, HBx⟩
          case rest =>
            obtain ⟨rfl, rfl, HBy⟩ := hcut
            clear HBx HBW OWN
            have hAZ : 0 ≤ A ∧ A ≤ 1114111 := by have := HA.out; omega
            have hw2 : IntKind.i64.wrap ((q : Int) + 2) = (q : Int) + 2 := by rw [IntKind.wrap_i64]; omega
            have HBW := Lib.hid (H1.out.2.2.2.2.trans (HBy.out.mono H1.out.2.2.2.2.size))
            have OWN := Lib.hid (own_below H1.out.2.2.2.1 HBy.out)
            by_cases hn0 : n = 0
            · subst hn0
              have HS2 := Lib.hid (show prF ((pairs l).take (m + 1)) = out ++ [A, Z] from by rw [HST.out, if_neg (fun h => h.1 (List.length_eq_zero_iff.1 HNL.out))])
              go_upto_region 4 with (first | (at_builtin; refine appendN_at wc #[.int .i32 A, .int .i32 Z] rfl (.tmp 48) (.tmp 51) 22 rfl w.heap.size 21 i0 _ 1 4 Tryd.underlying22 hi0 hz0 hz1 hz2 rfl (by omega) 2 rfl (.slice a3 0 c3) 0 (out.map (.int .i32)) rfl OWN.out wc.heap.size rfl rfl (by simp [Value.oneCell']) (by unfold maxLen; omega) (by omega) HBW.out.size ?_; intro v7 w7 ho7 hg7 hat7; obtain ⟨a7, c7, rfl⟩ := own_value ho7; have OWN7 := Lib.hid ho7; have HB7 := Lib.hid (HBW.out.grown hg7 HBW.out.size (own_block_ge OWN.out)); clear ho7 hg7 hat7 OWN) | fail)
              go_wp2
              go_roundw
              case rel => exact ⟨m + 1, q + 2, 0 + 2, a7, c7, by have := HQ.out; omega, by go_num, rfl, by have h1 := HLN.out; rw [HS2.out] at h1; have h2 := HNL.out; have h3 := HQ.out; simp at h1; omega, Lib.hid ⟨by have := HQ.out; omega, by omega, by rw [HS2.out, List.length_append, HNL.out]; rfl, by rw [HS2.out]; simpa using OWN7.out, HB7.out⟩⟩
              case measure => simp [intOf]; omega
            · obtain ⟨n', rfl⟩ : ∃ k, n = k + 1 := ⟨n - 1, by omega⟩
              have hz : n' < out.length := by have := HNL.out; omega
              obtain ⟨ad3, rfl, -, hc3⟩ := sl_of_own OWN.out n' (.int .i32 out[n']) (by rw [List.getElem?_map, List.getElem?_eq_getElem hz]; rfl)
              have hzb := HBD.out out[n'] (List.getElem_mem hz)
              have HGL := Lib.hid (show out.getLastD 0 = out[n'] from by
                rw [List.getLastD_eq_getLast?, List.getLast?_eq_getElem?]
                have : out.length - 1 = n' := by have := HNL.out; omega
                rw [this, List.getElem?_eq_getElem hz]
                rfl)
              generalize out[n'] = z at *
              have hwz : IntKind.i32.wrap (z + 1) = z + 1 := by rw [IntKind.wrap_i32]; omega
              have hwn : IntKind.i64.wrap (((n' + 1 : Nat) : Int) - 1) = (n' : Int) := by rw [IntKind.wrap_i64]; omega
              have hwm : wrap64 (((n' + 1 : Nat) : Int) - 1) = (n' : Int) := by unfold wrap64; omega
              clear hz
              by_cases hAz : A ≤ z + 1
              · have HS2 := Lib.hid (show prF ((pairs l).take (m + 1)) = out from by rw [HST.out, if_pos ⟨fun e => by have := HNL.out; rw [e] at this; simp at this, by rw [HGL.out]; exact hAz⟩])
                go_wp2
                go_roundw
                case rel => exact ⟨m + 1, q + 2, n' + 1, _, c3, by have := HQ.out; omega, by go_num, rfl, hnm, Lib.hid ⟨by have := HQ.out; omega, by omega, by rw [HS2.out]; exact HNL.out, by rw [HS2.out]; exact OWN.out, HBW.out⟩⟩
                case measure => simp [intOf]; omega
              · have HS2 := Lib.hid (show prF ((pairs l).take (m + 1)) = out ++ [A, Z] from by rw [HST.out, if_neg (fun h => hAz (by rw [← HGL.out]; exact h.2))])
                go_upto_region 4 with (first | (at_builtin; refine appendN_at wc #[.int .i32 A, .int .i32 Z] rfl (.tmp 48) (.tmp 51) 22 rfl w.heap.size 21 i0 _ 1 4 Tryd.underlying22 hi0 hz0 hz1 hz2 rfl (by omega) 2 rfl (.slice (some ad3) (n' + 1) c3) (n' + 1) (out.map (.int .i32)) rfl OWN.out wc.heap.size rfl rfl (by simp [Value.oneCell']) (by unfold maxLen; omega) (by omega) HBW.out.size ?_; intro v7 w7 ho7 hg7 hat7; obtain ⟨a7, c7, rfl⟩ := own_value ho7; have OWN7 := Lib.hid ho7; have HB7 := Lib.hid (HBW.out.grown hg7 HBW.out.size (own_block_ge OWN.out)); clear ho7 hg7 hat7 OWN) | fail)
                go_wp2
                go_roundw
                case rel => exact ⟨m + 1, q + 2, n' + 1 + 2, a7, c7, by have := HQ.out; omega, by go_num, rfl, by have h1 := HLN.out; rw [HS2.out] at h1; have h2 := HNL.out; have h3 := HQ.out; simp at h1; omega, Lib.hid ⟨by have := HQ.out; omega, by omega, by rw [HS2.out, List.length_append, HNL.out]; rfl, by rw [HS2.out]; simpa using OWN7.out, HB7.out⟩⟩
                case measure => simp [intOf]; omega
      · have h42 : ¬ ((q : Int) < 8) := by omega
        have HP := Lib.hid (show prF ((pairs l).take 4) = prF ((pairs l).take m) from by
          have h1 := H1.out.1
          have : m = 4 := by omega
          rw [this])
        by_cases hn0 : n = 0
        · subst hn0
          have HS2 := Lib.hid (show Prs l = [97, 99] from by unfold Prs; rw [HP.out, if_pos (List.length_eq_zero_iff.1 H1.out.2.2.1)])
          go_wp2
          go_ret
          rw [HS2.out]
          refine ⟨⟨_, 0, none⟩, ⟨2, rfl⟩, ?_, ?_⟩
          · exact SlO.of_blk (Blk.new _ _ [Value.int .i32 97, .int .i32 99]) (by have := H1.out.2.2.2.2.size; omega)
          · exact H1.out.2.2.2.2.trans (((Below.refl _ _).alloc (Nat.le_refl _) _).mono H1.out.2.2.2.2.size)
        · have HS2 := Lib.hid (show Prs l = prF ((pairs l).take m) from by unfold Prs; rw [HP.out, if_neg (fun e => hn0 (by have := H1.out.2.2.1; rw [e] at this; simpa using this.symm))])
          have hpos : ¬ ((n : Int) = 0) := by omega
          obtain ⟨ad3, rfl⟩ : ∃ ad, a3 = some ad := by
            obtain ⟨x, hx⟩ : ∃ x, ((prF ((pairs l).take m)).map (Value.int .i32))[0]? = some x := ⟨_, List.getElem?_eq_getElem (by rw [List.length_map, H1.out.2.2.1]; omega)⟩
            obtain ⟨ad, h, -⟩ := sl_of_own H1.out.2.2.2.1 0 x hx
            exact ⟨ad, h⟩
          go_wp2
          go_ret
          rw [HS2.out]
          exact ⟨ad3, ⟨c3, by rw [H1.out.2.2.1]; rfl⟩, slo_of_own H1.out.2.2.2.1, H1.out.2.2.2.2⟩
    · have hlt2 : ¬ ((q : Int) + 1 < (l.length : Int)) := by omega
      have HP := Lib.hid (show prF ((pairs l).take 4) = prF ((pairs l).take m) from by
        have h1 := H1.out.1
        have h2 : (pairs l).take m = pairs l := List.take_of_length_le (by rw [pairs_len]; omega)
        have h3 : (pairs l).take 4 = pairs l := List.take_of_length_le (by rw [pairs_len]; omega)
        rw [h2, h3])
      by_cases hn0 : n = 0
      · subst hn0
        have HS2 := Lib.hid (show Prs l = [97, 99] from by unfold Prs; rw [HP.out, if_pos (List.length_eq_zero_iff.1 H1.out.2.2.1)])
        go_wp2
        go_ret
        rw [HS2.out]
        refine ⟨⟨_, 0, none⟩, ⟨2, rfl⟩, ?_, ?_⟩
        · exact SlO.of_blk (Blk.new _ _ [Value.int .i32 97, .int .i32 99]) (by have := H1.out.2.2.2.2.size; omega)
        · exact H1.out.2.2.2.2.trans (((Below.refl _ _).alloc (Nat.le_refl _) _).mono H1.out.2.2.2.2.size)
      · have HS2 := Lib.hid (show Prs l = prF ((pairs l).take m) from by unfold Prs; rw [HP.out, if_neg (fun e => hn0 (by have := H1.out.2.2.1; rw [e] at this; simpa using this.symm))])
        have hpos : ¬ ((n : Int) = 0) := by omega
        obtain ⟨ad3, rfl⟩ : ∃ ad, a3 = some ad := by
          obtain ⟨x, hx⟩ : ∃ x, ((prF ((pairs l).take m)).map (Value.int .i32))[0]? = some x := ⟨_, List.getElem?_eq_getElem (by rw [List.length_map, H1.out.2.2.1]; omega)⟩
          obtain ⟨ad, h, -⟩ := sl_of_own H1.out.2.2.2.1 0 x hx
          exact ⟨ad, h⟩
        go_wp2
        go_ret
        rw [HS2.out]
        exact ⟨ad3, ⟨c3, by rw [H1.out.2.2.1]; rfl⟩, slo_of_own H1.out.2.2.2.1, H1.out.2.2.2.2⟩
end Go.Proofs.YtbkpgfccghombaaDoor.rx

/-! The law's bytes of a rune, as a string. Conditions: as stated. -/
namespace Go.Proofs.YtbkpgfccghombaaDoor.rx
open Go.ChangeShapes Go.WideShapes Go.ChangeAt Go.RowKit
set_option linter.unusedVariables false

/-- a string of bytes -/
def stB (l : List Int) : ByteArray := ⟨(l.map fun x => UInt8.ofNat x.toNat).toArray⟩
def okB (l : List Int) : Prop := ∀ x ∈ l, 0 ≤ x ∧ x ≤ 255
theorem stB_size (l : List Int) : (stB l).size = l.length := by simp [stB, ByteArray.size]
theorem u8_back {x : Int} (h0 : 0 ≤ x) (h : x ≤ 255) : ((UInt8.ofNat x.toNat).toNat : Int) = x := by
  have : (UInt8.ofNat x.toNat).toNat = x.toNat := by
    rw [UInt8.toNat_ofNat']
    exact Nat.mod_eq_of_lt (by omega)
  rw [this]
  omega
theorem conv_new (w : World) (l : List Int) (h : okB l) (hl : l ≠ []) : (convert 79 9 (.slice (some ⟨w.heap.size, 0, none⟩) l.length l.length)).run Tryd.prog (w.alloc (.cells (l.map (.int .u8)).toArray 5)) = .ok (.string (stB l)) (w.alloc (.cells (l.map (.int .u8)).toArray 5)) := by
  have hb := Blk.new w 5 (l.map (.int .u8))
  have := run_convert_bytes_back (P := Tryd.prog) (w.alloc (.cells (l.map (.int .u8)).toArray 5)) 79 9 5 ⟨w.heap.size, 0, none⟩ l.length (l.map fun x => UInt8.ofNat x.toNat) Tryd.underlying79 Tryd.underlying5 Tryd.underlying9 (fun j hj => by
    have hj' : j < l.length := by simpa using hj
    have e : ((⟨w.heap.size, 0, none⟩ : Addr).add j) = ⟨w.heap.size, j, none⟩ := by
      unfold Addr.add
      by_cases h0 : j = 0 <;> simp [h0]
    rw [e, hb.cell j, List.getElem?_map, List.getElem?_eq_getElem hj']
    have := h l[j] (List.getElem_mem hj')
    simp only [List.getElem_map, Option.map_some]
    rw [u8_back this.1 this.2])
  simpa [stB] using this

set_option maxRecDepth 100000 in
set_option maxHeartbeats 1600000 in
theorem encd_any (r : Int) (w : World) (hr : isL r = true) : Calls Tryd.prog 21 #[.int .i32 r] w fun e w' => e = .returned (.string (stB (ub r))) ∧ Below w.heap.size w w' := by
  have CV := Lib.hid (fun W => valid_any r W)
  rw [hr] at CV
  obtain ⟨h0, h1, h2⟩ := of_decide_eq_true hr
  have hub := ub_bd r h0 h1
  clear hr h2
  by_cases h3 : r ≤ 127
  · have hlt : r < 128 := by omega
    have HE := Lib.hid (show ub r = [r] by unfold ub; rw [if_pos h3])
    have w1 : IntKind.u8.wrap r = r := by rw [IntKind.wrap_u8']; omega
    have cv := conv_new w [r] (by rw [← HE.out]; exact hub) (by simp)
    simp only [List.map_cons, List.map_nil, List.length_cons, List.length_nil, Nat.zero_add] at cv
    clear hub
    go_enter Tryd.func21, Tryd.ntmps21
    go_wp2_with (go_at_call 39; refine (CV.out _).mono ?_; rintro e w1 ⟨rfl, rfl⟩)
    go_ret
    rw [HE.out]
    exact ⟨rfl, (Below.refl _ _).alloc (Nat.le_refl _) _⟩
  · by_cases h4 : r ≤ 2047
    · have HE := Lib.hid (show ub r = [192 + r / 64, 128 + r % 64] by unfold ub; rw [if_neg (by omega), if_pos h4])
      have hge : ¬ r < 128 := by omega
      have hlt : r < 2048 := by omega
      have w1 : IntKind.u8.wrap (r / 64) = r / 64 := by rw [IntKind.wrap_u8']; omega
      have w2 : IntKind.u8.wrap (r % 64) = r % 64 := by rw [IntKind.wrap_u8']; omega
      have o1 := or_192 (r / 64) (by omega) (by omega)
      have o2 := or_128 (r % 64) (by omega) (by omega)
      have a1 := i32_lo6 r h0 h1
      have cv := conv_new w [192 + r / 64, 128 + r % 64] (by rw [← HE.out]; exact hub) (by simp)
      simp only [List.map_cons, List.map_nil, List.length_cons, List.length_nil, Nat.zero_add, Nat.reduceAdd] at cv
      clear hub
      go_enter Tryd.func21, Tryd.ntmps21
      go_wp2_with (go_at_call 39; refine (CV.out _).mono ?_; rintro e w1 ⟨rfl, rfl⟩)
      go_ret
      rw [HE.out]
      exact ⟨rfl, (Below.refl _ _).alloc (Nat.le_refl _) _⟩
    · by_cases h5 : r ≤ 65535
      · have HE := Lib.hid (show ub r = [224 + r / 4096, 128 + r / 64 % 64, 128 + r % 64] by unfold ub; rw [if_neg (by omega), if_neg (by omega), if_pos h5])
        have hge : ¬ r < 128 := by omega
        have hge2 : ¬ r < 2048 := by omega
        have hlt : r < 65536 := by omega
        have w1 : IntKind.u8.wrap (r / 4096) = r / 4096 := by rw [IntKind.wrap_u8']; omega
        have w2 : IntKind.u8.wrap (r / 64 % 64) = r / 64 % 64 := by rw [IntKind.wrap_u8']; omega
        have w3 : IntKind.u8.wrap (r % 64) = r % 64 := by rw [IntKind.wrap_u8']; omega
        have o1 := or_224 (r / 4096) (by omega) (by omega)
        have o2 := or_128 (r / 64 % 64) (by omega) (by omega)
        have o3 := or_128 (r % 64) (by omega) (by omega)
        have a1 := i32_lo6 r h0 h1
        have a2 := i32_lo6 (r / 64) (by omega) (by omega)
        have cv := conv_new w [224 + r / 4096, 128 + r / 64 % 64, 128 + r % 64] (by rw [← HE.out]; exact hub) (by simp)
        simp only [List.map_cons, List.map_nil, List.length_cons, List.length_nil, Nat.zero_add, Nat.reduceAdd] at cv
        clear hub
        go_enter Tryd.func21, Tryd.ntmps21
        go_wp2_with (go_at_call 39; refine (CV.out _).mono ?_; rintro e w1 ⟨rfl, rfl⟩)
        go_ret
        rw [HE.out]
        exact ⟨rfl, (Below.refl _ _).alloc (Nat.le_refl _) _⟩
      · have HE := Lib.hid (show ub r = [240 + r / 262144, 128 + r / 4096 % 64, 128 + r / 64 % 64, 128 + r % 64] by unfold ub; rw [if_neg (by omega), if_neg (by omega), if_neg h5])
        have hge : ¬ r < 128 := by omega
        have hge2 : ¬ r < 2048 := by omega
        have hge3 : ¬ r < 65536 := by omega
        have w1 : IntKind.u8.wrap (r / 262144) = r / 262144 := by rw [IntKind.wrap_u8']; omega
        have w4 : IntKind.u8.wrap (r / 4096 % 64) = r / 4096 % 64 := by rw [IntKind.wrap_u8']; omega
        have w2 : IntKind.u8.wrap (r / 64 % 64) = r / 64 % 64 := by rw [IntKind.wrap_u8']; omega
        have w3 : IntKind.u8.wrap (r % 64) = r % 64 := by rw [IntKind.wrap_u8']; omega
        have o1 := or_240 (r / 262144) (by omega) (by omega)
        have o4 := or_128 (r / 4096 % 64) (by omega) (by omega)
        have o2 := or_128 (r / 64 % 64) (by omega) (by omega)
        have o3 := or_128 (r % 64) (by omega) (by omega)
        have a1 := i32_lo6 r h0 h1
        have a2 := i32_lo6 (r / 64) (by omega) (by omega)
        have a3 := i32_lo6 (r / 4096) (by omega) (by omega)
        have cv := conv_new w [240 + r / 262144, 128 + r / 4096 % 64, 128 + r / 64 % 64, 128 + r % 64] (by rw [← HE.out]; exact hub) (by simp)
        simp only [List.map_cons, List.map_nil, List.length_cons, List.length_nil, Nat.zero_add, Nat.reduceAdd] at cv
        clear hub
        go_enter Tryd.func21, Tryd.ntmps21
        go_wp2_with (go_at_call 39; refine (CV.out _).mono ?_; rintro e w1 ⟨rfl, rfl⟩)
        go_ret
        rw [HE.out]
        exact ⟨rfl, (Below.refl _ _).alloc (Nat.le_refl _) _⟩
end Go.Proofs.YtbkpgfccghombaaDoor.rx

/-! Expressions as values in memory; the runes of a node. Conditions: as stated. -/
namespace Go.Proofs.YtbkpgfccghombaaDoor.rx
open Go.ChangeShapes Go.WideShapes Go.ChangeAt Go.RowKit
set_option linter.unusedVariables false

theorem below_two (w : World) (o o2 : Obj) : Below w.heap.size w ((w.alloc o).alloc o2) := ((Below.refl _ _).alloc (Nat.le_refl _) _).alloc (by simp) _

theorem new_sl (w : World) (t : TypeId) (l : List Value) : Sl (w.alloc (.cells l.toArray t)) (w.alloc (.cells l.toArray t)).heap.size (some ⟨w.heap.size, 0, none⟩) l := (Blk.new w t l).sl (by simp)
theorem new_sl2 (w : World) (o : Obj) (t : TypeId) (l : List Value) : Sl ((w.alloc o).alloc (.cells l.toArray t)) ((w.alloc o).alloc (.cells l.toArray t)).heap.size (some ⟨w.heap.size + 1, 0, none⟩) l := by
  have h := new_sl (w.alloc o) t l
  rw [show (w.alloc o).heap.size = w.heap.size + 1 by simp] at h
  exact h
/-- the seven cells of a node -/
def rxc (op mn mx : Int) (ra : Option Addr) (rn rc : Nat) (sa : Option Addr) (sn sc : Nat) : List Value := [.int .i64 op, .slice ra rn rc, .int .i64 mn, .int .i64 mx, .bool false, .bool false, .slice sa sn sc]
/-- an expression of at most d levels in memory below block B -/
def RgC (w : World) (B : Nat) : Nat → Rx → List Value → Prop
  | 0, _, _ => False
  | d + 1, .nd op rs mn mx subs, cs => ∃ ra rc sa sc, ∃ ls : List (List Value), cs = rxc op mn mx ra rs.length rc sa subs.length sc ∧ Sl w B ra (rs.map (.int .i32)) ∧ ls.length = subs.length ∧ (∀ x ∈ ls, x.length = 7) ∧ Sl w B sa (ls.flatMap id) ∧ ∀ x ∈ subs.zip ls, RgC w B d x.1 x.2
theorem RgC.keep {w w' : World} {B B' : Nat} (hb : ∀ p : Addr, p.block < B → w'.cell? p = w.cell? p) (hB : B ≤ B') : ∀ (d : Nat) (r : Rx) (cs : List Value), RgC w B d r cs → RgC w' B' d r cs
  | 0, _, _, h => h
  | d + 1, .nd op rs mn mx subs, cs, h => by
    obtain ⟨ra, rc, sa, sc, ls, h1, h2, h3, h4, h5, h6⟩ := h
    exact ⟨ra, rc, sa, sc, ls, h1, (h2.keep hb).more hB, h3, h4, (h5.keep hb).more hB, fun x hx => RgC.keep hb hB d x.1 x.2 (h6 x hx)⟩
theorem RgC.below {w w' : World} {B : Nat} {d : Nat} {r : Rx} {cs : List Value} (h : RgC w B d r cs) (hb : Below B w w') : RgC w' B d r cs := RgC.keep (fun p hp => hb.cell hp) (Nat.le_refl _) d r cs h
theorem RgC.more {w : World} {B B' : Nat} {d : Nat} {r : Rx} {cs : List Value} (h : RgC w B d r cs) (hB : B ≤ B') : RgC w B' d r cs := RgC.keep (fun _ _ => rfl) hB d r cs h
theorem RgC.len {w : World} {B : Nat} {d : Nat} {r : Rx} {cs : List Value} (h : RgC w B d r cs) : cs.length = 7 := by
  match d, r, h with
  | d + 1, .nd op rs mn mx subs, h =>
    obtain ⟨ra, rc, sa, sc, ls, rfl, -⟩ := h
    rfl
/-- part i of a node -/
theorem sub_cells {w : World} {B d : Nat} {subs : List Rx} {ls : List (List Value)} {sa : Option Addr} (h3 : ls.length = subs.length) (h4 : ∀ x ∈ ls, x.length = 7) (h5 : Sl w B sa (ls.flatMap id)) (h6 : ∀ x ∈ subs.zip ls, RgC w B d x.1 x.2) (i : Nat) (hi : i < subs.length) :
    ∃ ad cs, sa = some ad ∧ ad.block < B ∧ RgC w B d subs[i] cs ∧ ∀ j v, cs[j]? = some v → w.cell? (ad.add (i * 7 + j)) = some v := by
  have hil : i < ls.length := by omega
  have hz : (subs[i], ls[i]) ∈ subs.zip ls := by
    have : (subs.zip ls)[i]'(by simp; omega) = (subs[i], ls[i]) := by simp
    rw [← this]
    exact List.getElem_mem _
  have hR := h6 _ hz
  have h7 : ls[i].length = 7 := h4 _ (List.getElem_mem hil)
  have hat : ∀ j v, ls[i][j]? = some v → (ls.flatMap id)[i * 7 + j]? = some v := by
    intro j v hj
    have hj7 : j < 7 := by have := (List.getElem?_eq_some_iff.1 hj).1; omega
    have : ∀ (l : List (List Value)) (i : Nat) (h : i < l.length), (∀ x ∈ l, x.length = 7) → (l.flatMap id)[i * 7 + j]? = l[i][j]? := by
      intro l
      induction l with
      | nil => intro i h; simp at h
      | cons x r ih =>
        intro i h hx
        have hx7 : x.length = 7 := hx x (by simp)
        cases i with
        | zero =>
          simp only [List.flatMap_cons, id, Nat.zero_mul, Nat.zero_add, List.getElem_cons_zero]
          rw [List.getElem?_append_left (by omega)]
        | succ i =>
          simp only [List.flatMap_cons, id, List.getElem_cons_succ]
          rw [List.getElem?_append_right (by omega), hx7, show (i + 1) * 7 + j - 7 = i * 7 + j by omega]
          exact ih i (by simpa using h) (fun y hy => hx y (by simp [hy]))
    rw [this ls i hil h4]
    exact hj
  obtain ⟨ad, h, hb, -⟩ := h5 (i * 7 + 0) (ls[i][0]'(by omega)) (hat 0 _ (List.getElem?_eq_getElem (by omega)))
  refine ⟨ad, ls[i], h, hb, hR, fun j v hj => ?_⟩
  obtain ⟨ad2, h', -, hc⟩ := h5 (i * 7 + j) v (hat j v hj)
  rw [h] at h'
  injection h' with h'
  subst h'
  exact hc

set_option maxRecDepth 100000 in
theorem rngs_any (op mn mx : Int) (ra : Option Addr) (rs : List Int) (rc : Nat) (sa : Option Addr) (sn sc : Nat) (w : World) (o : Nat) (ho : op = o) (h56 : o = 5 ∨ o = 6 → rs = []) (hs : Sl w w.heap.size ra (rs.map (.int .i32))) :
    Calls Tryd.prog 44 #[.agg (rxc op mn mx ra rs.length rc sa sn sc).toArray] w fun e w' => ∃ a c, e = .returned (.slice a (rngs o rs).length c) ∧ Sl w' w'.heap.size a ((rngs o rs).map (.int .i32)) ∧ Below w.heap.size w w' := by
  have HS := Lib.hid hs
  unfold rxc
  clear hs
  by_cases h6 : o = 6
  · have HE := Lib.hid (show rngs o rs = [0, 1114111] by unfold rngs; rw [if_pos h6])
    obtain rfl : op = 6 := by omega
    clear ho h6 h56
    go_enter Tryd.func44, Tryd.ntmps44
    go_wp2
    go_ret
    rw [HE.out]
    exact ⟨_, _, rfl, new_sl2 _ _ _ [Value.int .i32 0, .int .i32 1114111], below_two _ _ _⟩
  · by_cases h5 : o = 5
    · have HE := Lib.hid (show rngs o rs = [0, 9, 11, 1114111] by unfold rngs; rw [if_neg h6, if_pos h5])
      obtain rfl : op = 5 := by omega
      clear ho h6 h56 h5
      go_enter Tryd.func44, Tryd.ntmps44
      go_wp2
      go_ret
      rw [HE.out]
      exact ⟨_, _, rfl, new_sl2 _ _ _ [Value.int .i32 0, .int .i32 9, .int .i32 11, .int .i32 1114111], below_two _ _ _⟩
    · have HE := Lib.hid (show rngs o rs = rs by unfold rngs; rw [if_neg h6, if_neg h5])
      have g6 : (op == 6) = false := by rw [beq_eq_false_iff_ne]; omega
      have g5 : (op == 5) = false := by rw [beq_eq_false_iff_ne]; omega
      clear ho h6 h56 h5
      go_enter Tryd.func44, Tryd.ntmps44
      go_wp2
      go_ret
      rw [HE.out]
      exact ⟨_, _, rfl, (HS.out.below ((Below.refl _ _).alloc (Nat.le_refl _) _)).more (by simp), (Below.refl _ _).alloc (Nat.le_refl _) _⟩

/-- a bound on the number of ranges of bytes -/
theorem sum_le {α : Type} (g : α → Nat) (M : Nat) : ∀ (l : List α), (∀ s ∈ l, g s ≤ M) → (l.map g).sum ≤ l.length * M
  | [], _ => by simp
  | s :: r, h => by
    have h1 := h s (by simp)
    have h2 := sum_le g M r (fun t ht => h t (by simp [ht]))
    simp only [List.map_cons, List.sum_cons, List.length_cons]
    rw [Nat.succ_mul]
    omega
theorem plcR_le (ps : List (Int × Int)) : plcR ps ≤ ps.length * 31 := by
  unfold plcR
  exact sum_le _ 31 ps (fun p _ => by split <;> omega)
theorem plc_le : ∀ (d : Nat) (r : Rx), wf 3 d r → plc d r ≤ 124 * 6 ^ d
  | 0, _, h => h.elim
  | d + 1, .nd op rs mn mx subs, h => by
    have hp : 1 ≤ 6 ^ d := Nat.pow_pos (by omega)
    have e : 124 * 6 ^ (d + 1) = 6 * (124 * 6 ^ d) := by rw [Nat.pow_succ]; omega
    rw [e]
    rcases h with ⟨rfl, rfl, rfl⟩ | ⟨rfl, rfl, h1, h2, h3⟩ | ⟨h1, rfl⟩ | ⟨h1, rfl, h2, h3, h4⟩ | ⟨h1, rfl, h2, s, rfl, h3⟩
    · simp [plc]
    · have := lit_le rs
      have e1 : plc (d + 1) (.nd 3 rs mn mx []) = (rs.flatMap ub).length := by simp [plc]
      rw [e1]
      omega
    · have e1 : plc (d + 1) (.nd op rs mn mx []) = plcR (pairs (rngs op rs)) := by rcases h1 with ⟨rfl, -⟩ | ⟨rfl | rfl, -⟩ <;> simp [plc]
      have := plcR_le (pairs (rngs op rs))
      have h5 : (pairs (rngs op rs)).length ≤ 4 := by
        rw [pairs_len]
        rcases h1 with ⟨rfl, h1, -⟩ | ⟨rfl | rfl, rfl⟩
        · simp [rngs]; omega
        · simp [rngs]
        · simp [rngs]
      rw [e1]
      omega
    · have e1 : plc (d + 1) (.nd op [] mn mx subs) = (subs.map (plc d)).sum := by rcases h1 with rfl | rfl <;> simp [plc]
      have h5 := sum_le (plc d) (124 * 6 ^ d) subs (fun s hs => plc_le d s (h4 s hs))
      have h6 := mul_le3 (x := 124 * 6 ^ d) h3
      rw [e1]
      omega
    · have ih := plc_le d s h3
      rcases h1 with rfl | rfl | rfl | rfl | rfl
      · have e1 : plc (d + 1) (.nd 13 [] mn mx [s]) = plc d s := by simp [plc]
        omega
      · have e1 : plc (d + 1) (.nd 14 [] mn mx [s]) = plc d s := by simp [plc]
        omega
      · have e1 : plc (d + 1) (.nd 15 [] mn mx [s]) = plc d s * 2 := by simp [plc]
        omega
      · have e1 : plc (d + 1) (.nd 16 [] mn mx [s]) = plc d s := by simp [plc]
        omega
      · have e1 : plc (d + 1) (.nd 17 [] mn mx [s]) = plc d s * (max mn mx + 1).toNat := by simp [plc]
        obtain ⟨g1, g2, g3⟩ := h2 rfl
        have h7 : plc d s * (max mn mx + 1).toNat ≤ plc d s * 6 := Nat.mul_le_mul_left _ (by omega)
        omega
end Go.Proofs.YtbkpgfccghombaaDoor.rx
