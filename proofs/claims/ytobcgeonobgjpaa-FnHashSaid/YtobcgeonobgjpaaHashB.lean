/-
  FnHash: the row of a state in a registry: rising arcs, the same states. Conditions: none.
-/
import Derived.Test.YtobcgeonobgjpaaHashA
namespace Go.Proofs.Ytobcgeonobgjpaa.fnHash
open Go.ChangeShapes Go.WideShapes Go.ChangeAt Go.RowKit
set_option linter.unusedVariables false

def RisTo (l : List Arc) (n : Nat) : Prop := ∀ i, i < n → ∀ h : i + 1 < l.length, l[i].1 < l[i + 1].1
open Classical in
noncomputable def ris (l : List Arc) : Bool := decide (RisTo l l.length)
open Classical in
theorem ris_no (l : List Arc) (n : Nat) (h : n + 1 < l.length) (hx : l[n + 1].1 ≤ l[n].1) : ris l = false :=
  decide_eq_false (fun e => by have := e n (by omega) h; omega)
open Classical in
theorem ris_yes (l : List Arc) (n : Nat) (h : RisTo l n) (hn : l.length ≤ n + 1) : ris l = true :=
  decide_eq_true (fun i hi h' => h i (by omega) h')
theorem ris_more (l : List Arc) (n : Nat) (h : n + 1 < l.length) (hr : RisTo l n) (hx : l[n].1 < l[n + 1].1) : RisTo l (n + 1) := fun i hi h' => by
  rcases Nat.lt_or_ge i n with h1 | h1
  · exact hr i h1 h'
  · obtain rfl : i = n := by omega
    exact hx

set_option maxHeartbeats 400000 in
theorem rising_any (f : Bool) (o : Int) (a : Option Addr) (c : Nat) (l : List Arc) (w : World) (hs : Sl w w.heap.size a (l.flatMap ac)) (hl : l.length ≤ 2147483647) (hg : ∀ x ∈ l, goodArc x) :
    Calls Try.prog 7 #[.agg #[.bool f, .int .u64 o, .slice a l.length c]] w fun e w' => e = .returned (.bool (ris l)) ∧ Below w.heap.size w w' := by
  have HS := Lib.hid hs
  have HG := Lib.hid hg
  clear hs hg
  go_enter Try.func7, Try.ntmps7
  go_wp2
  go_loopw [3] (fun k wr => ∃ n : Nat, (n + 1 ≤ l.length ∨ n = 0) ∧ k = .int .i64 ((n : Int) + 1) ∧ Hid (RisTo l n) ∧ wr.cell? ⟨w.heap.size, 2, none⟩ = some (.slice a l.length c) ∧ Below w.heap.size w wr) (fun k _ => l.length - (intOf k).toNat)
  case atStart => exact ⟨0, by omega, rfl, Lib.hid (fun i h => absurd h (by omega)), (Blk.new w 25 [_, _, _]).cell 2, (Below.refl _ _).alloc (Nat.le_refl _) _⟩
  case round =>
    obtain ⟨n, hnn, rfl, hrt, hcl, hbw⟩ := hrel
    have HBW := Lib.hid hbw
    by_cases hlt : n + 1 < l.length
    · obtain ⟨ad, rfl, hb, hc0, _, _⟩ := three_at ac_len (HS.out.below hbw) n (by omega) _ _ _ rfl
      obtain ⟨ad', e, hb', hd0, _, _⟩ := three_at ac_len (HS.out.below hbw) (n + 1) hlt _ _ _ rfl
      obtain rfl : ad = ad' := by injection e
      have g0 := (HG.out _ (List.getElem_mem (show n < l.length by omega))).1
      have g1 := (HG.out _ (List.getElem_mem hlt)).1
      have N1 := Lib.hid (ris_no l n hlt)
      have N2 := Lib.hid (ris_more l n hlt hrt.out)
      generalize l[n].1 = x at *
      generalize l[n + 1].1 = y at *
      clear hbw
      have ew : IntKind.i64.wrap ((n : Int) + 1 - 1) = n := by rw [IntKind.wrap_i64]; omega
      have et : ((n : Int) + 1).toNat = n + 1 := by omega
      have en : (n : Int).toNat = n := by omega
      by_cases hxy : y ≤ x
      · have hd : decide (y ≤ x) = true := decide_eq_true hxy
        go_wp2
        go_quiet (fail)
        go_wp2
        go_returns
        exact ⟨congrArg (fun b => Ending.returned (Value.bool b)) (N1.out hxy).symm, below_drewN HBW.out _⟩
      · have hd : decide (y ≤ x) = false := decide_eq_false hxy
        go_wp2
        go_quiet (fail)
        go_wp2
        go_roundw
        case rel => exact ⟨n + 1, by omega, by go_num, Lib.hid (N2.out (by omega)), hcl, below_drewN HBW.out _⟩
        case measure => simp [intOf]; omega
    · clear hbw
      go_wp2
      go_returns
      exact ⟨congrArg (fun b => Ending.returned (Value.bool b)) (ris_yes l n hrt.out (by omega)).symm, HBW.out⟩

theorem beq_dec (x y : Int) : (x == y) = decide (x = y) := by
  by_cases h : x = y <;> simp [h]
theorem bne_t {x y : Int} (h : x ≠ y) : (x != y) = true := by rw [bne_iff_ne]; exact h
theorem bne_f {x y : Int} (h : x = y) : (x != y) = false := by subst h; simp

theorem drop_ne (l m : List Arc) (n : Nat) (h : n < l.length) (h' : n < m.length) (hne : l[n] ≠ m[n]) : decide (l.drop n = m.drop n) = false := by
  rw [List.drop_eq_getElem_cons h, List.drop_eq_getElem_cons h']
  exact decide_eq_false (fun e => hne (by injection e))
theorem drop_eq (l m : List Arc) (n : Nat) (h : n < l.length) (h' : n < m.length) (he : l[n] = m[n]) : decide (l.drop n = m.drop n) = decide (l.drop (n + 1) = m.drop (n + 1)) := by
  rw [List.drop_eq_getElem_cons h, List.drop_eq_getElem_cons h', he]
  by_cases e : l.drop (n + 1) = m.drop (n + 1)
  · rw [e]; simp
  · rw [decide_eq_false e, decide_eq_false (fun e' => e (by injection e'))]
def sameS (f f2 : Bool) (o o2 : Int) (l m : List Arc) : Bool := decide (f = f2 ∧ o = o2 ∧ l = m)
theorem sameS_no {f f2 : Bool} {o o2 : Int} {l m : List Arc} (h : ¬ (f = f2 ∧ o = o2 ∧ l.length = m.length)) : sameS f f2 o o2 l m = false :=
  decide_eq_false (fun e => h ⟨e.1, e.2.1, by rw [e.2.2]⟩)

set_option maxHeartbeats 800000 in
theorem same_any (f f2 : Bool) (o o2 : Int) (a b : Option Addr) (c d : Nat) (l m : List Arc) (w : World) (hs : Sl w w.heap.size a (l.flatMap ac)) (hm : Sl w w.heap.size b (m.flatMap ac)) (hl : l.length ≤ 2147483647) (hl2 : m.length ≤ 2147483647) :
    Calls Try.prog 9 #[.agg #[.bool f, .int .u64 o, .slice a l.length c], .agg #[.bool f2, .int .u64 o2, .slice b m.length d]] w fun e w' => e = .returned (.bool (sameS f f2 o o2 l m)) ∧ Below w.heap.size w w' := by
  by_cases h : f = f2 ∧ o = o2 ∧ l.length = m.length
  · obtain ⟨rfl, rfl, h⟩ := h
    have HE := Lib.hid (show sameS f f o o l m = decide (l.drop 0 = m.drop 0) by simp [sameS])
    have HL := Lib.hid h
    have HS := Lib.hid hs
    have HM := Lib.hid hm
    rw [← h]
    rw [← h] at hl2
    have hoo : (o != o) = false := bne_f rfl
    clear hs hm h
    go_enter Try.func9, Try.ntmps9
    go_wp2
    go_loopw [5] (fun k wr => ∃ n : Nat, n ≤ l.length ∧ k = .int .i64 n ∧ wr.cell? ⟨w.heap.size, 2, none⟩ = some (.slice a l.length c) ∧ wr.cell? ⟨w.heap.size + 1, 2, none⟩ = some (.slice b l.length d) ∧ Hid (sameS f f o o l m = decide (l.drop n = m.drop n)) ∧ Below w.heap.size w wr) (fun k _ => l.length - (intOf k).toNat)
    case atStart => exact ⟨0, by omega, rfl, ((Blk.new w 25 [_, _, _]).alloc _).cell 2, (blk_new_at _ 25 [_, _, _] _ (by simp)).cell 2, HE, ((Below.refl _ _).alloc (Nat.le_refl _) _).alloc (by simp) _⟩
    case round =>
      obtain ⟨n, hnn, rfl, hcl, hcm, hee, hbw⟩ := hrel
      have HBW := Lib.hid hbw
      by_cases hlt : n < l.length
      · have hlt2 : n < m.length := by have := HL.out; omega
        obtain ⟨ad, rfl, hb, hc0, hc1, hc2⟩ := three_at ac_len (HS.out.below hbw) n hlt _ _ _ rfl
        obtain ⟨bd, rfl, hb', hd0, hd1, hd2⟩ := three_at ac_len (HM.out.below hbw) n hlt2 _ _ _ rfl
        have N1 := Lib.hid (drop_ne l m n hlt hlt2)
        have N2 := Lib.hid (drop_eq l m n hlt hlt2)
        clear hbw
        generalize l[n] = x at *
        generalize m[n] = y at *
        obtain ⟨x0, x1, x2⟩ := x
        obtain ⟨y0, y1, y2⟩ := y
        simp only at hc0 hc1 hc2 hd0 hd1 hd2
        by_cases e0 : x0 = y0
        · by_cases e1 : x1 = y1
          · by_cases e2 : x2 = y2
            · subst e0 e1 e2
              have q0 : (x0 != x0) = false := bne_f rfl
              have q1 : (x1 != x1) = false := bne_f rfl
              have q2 : (x2 != x2) = false := bne_f rfl
              go_wp2
              go_quiet (fail)
              go_wp2
              go_roundw
              case rel => exact ⟨n + 1, by omega, by go_num, hcl, hcm, Lib.hid (by rw [hee.out, N2.out trivial]), below_drewN HBW.out _⟩
              case measure => simp [intOf]; omega
            · subst e0 e1
              have q0 : (x0 != x0) = false := bne_f rfl
              have q1 : (x1 != x1) = false := bne_f rfl
              have q2 : (x2 != y2) = true := bne_t e2
              go_wp2
              go_quiet (fail)
              go_wp2
              go_returns
              exact ⟨congrArg (fun b => Ending.returned (Value.bool b)) (by rw [hee.out, N1.out (fun e => e2 (by injection e with _ e; injection e))]), below_drewN HBW.out _⟩
          · subst e0
            have q0 : (x0 != x0) = false := bne_f rfl
            have q1 : (x1 != y1) = true := bne_t e1
            go_wp2
            go_quiet (fail)
            go_wp2
            go_returns
            exact ⟨congrArg (fun b => Ending.returned (Value.bool b)) (by rw [hee.out, N1.out (fun e => e1 (by injection e with _ e; injection e))]), below_drewN HBW.out _⟩
        · have q0 : (x0 != y0) = true := bne_t e0
          go_wp2
          go_quiet (fail)
          go_wp2
          go_returns
          exact ⟨congrArg (fun b => Ending.returned (Value.bool b)) (by rw [hee.out, N1.out (fun e => e0 (by injection e))]), below_drewN HBW.out _⟩
      · obtain rfl : n = l.length := by omega
        clear hbw
        go_wp2
        go_returns
        exact ⟨congrArg (fun b => Ending.returned (Value.bool b)) (by rw [hee.out, List.drop_length, HL.out, List.drop_length]; simp), HBW.out⟩
  · rw [sameS_no h]
    by_cases hf : f = f2
    · by_cases ho : o = o2
      · have hn : ¬ l.length = m.length := fun e => h ⟨hf, ho, e⟩
        subst hf ho
        have hoo : (o != o) = false := bne_f rfl
        have hll : ((l.length : Int) != (m.length : Int)) = true := bne_t (by omega)
        clear h hn hs hm
        go_enter Try.func9, Try.ntmps9
        go_wp2
        go_returns
        exact ⟨rfl, ((Below.refl _ _).alloc (Nat.le_refl _) _).alloc (by simp) _⟩
      · subst hf
        have hoo : (o != o2) = true := bne_t ho
        clear h ho hs hm
        go_enter Try.func9, Try.ntmps9
        go_wp2
        go_returns
        exact ⟨rfl, ((Below.refl _ _).alloc (Nat.le_refl _) _).alloc (by simp) _⟩
    · clear h hs hm
      cases f <;> cases f2
      · exact absurd rfl hf
      · clear hf
        go_enter Try.func9, Try.ntmps9
        go_wp2
        go_returns
        exact ⟨rfl, ((Below.refl _ _).alloc (Nat.le_refl _) _).alloc (by simp) _⟩
      · clear hf
        go_enter Try.func9, Try.ntmps9
        go_wp2
        go_returns
        exact ⟨rfl, ((Below.refl _ _).alloc (Nat.le_refl _) _).alloc (by simp) _⟩
      · exact absurd rfl hf

end Go.Proofs.Ytobcgeonobgjpaa.fnHash
