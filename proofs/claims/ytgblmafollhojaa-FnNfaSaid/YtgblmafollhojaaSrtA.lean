/-
  Sorting through an interface value, whatever the list is kept in: what is asked of its methods; insertionSort, reverseRange. Conditions: as stated.
-/
import Derived.Test.YtgblmafollhojaaBase
import Derived.Shelf.Abstract
import Derived.Maps.Range
import Derived.Handy
import Derived.Sort.LotA
import Derived.Sort.LotB
import Derived.Sort.LotC
import Derived.Sort.LotD3
namespace Go.Proofs.Ytgblmafollhojaa
open Go.ChangeShapes Go.WideShapes Go.ChangeAt Go.RowKit
open Go.Sort (swp insInner insOuter insertionSort reverseLoop reverseRange)
set_option linter.unusedVariables false

/-- an interface value with three methods, and what holds the list: S W d: in W the list is d; it lies in block blk -/
structure Itf (α : Type) [Inhabited α] where
  T : TypeId
  rv : Value
  gn : Nat
  gl : Nat
  gs : Nat
  lt : α → α → Bool
  blk : Nat
  N : Nat
  S : World → Array α → Prop

/-- what is asked of them -/
structure Itf.Ok {α : Type} [Inhabited α] (I : Itf α) : Prop where
  mN : ∀ w, Sem.run Try.prog (method 229 I.T I.rv "Len") w = .ok (I.gn, I.rv) w
  mL : ∀ w, Sem.run Try.prog (method 229 I.T I.rv "Less") w = .ok (I.gl, I.rv) w
  mS : ∀ w, Sem.run Try.prog (method 229 I.T I.rv "Swap") w = .ok (I.gs, I.rv) w
  eN : ∀ args w, (callFunc I.gn args).run Try.prog w = .ok (.enter I.gn args) w
  eL : ∀ args w, (callFunc I.gl args).run Try.prog w = .ok (.enter I.gl args) w
  eS : ∀ args w, (callFunc I.gs args).run Try.prog w = .ok (.enter I.gs args) w
  loc : ∀ {W W' : World} {d : Array α}, I.S W d → W'.heap[I.blk]? = W.heap[I.blk]? → I.S W' d
  inb : ∀ {W : World} {d : Array α}, I.S W d → I.blk < W.heap.size
  siz : ∀ {W : World} {d : Array α}, I.S W d → d.size = I.N
  big : I.N < 4611686018427387904
  len : ∀ {W : World} {d : Array α}, I.S W d → Calls Try.prog I.gn #[I.rv] W fun e w' => e = .returned (.int .i64 I.N) ∧ Below W.heap.size W w'
  less : ∀ {W : World} {d : Array α}, I.S W d → ∀ i j : Nat, i < I.N → j < I.N → Calls Try.prog I.gl #[I.rv, .int .i64 i, .int .i64 j] W fun e w' => e = .returned (.bool (I.lt d[i]! d[j]!)) ∧ Below W.heap.size W w'
  swap : ∀ {W : World} {d : Array α}, I.S W d → ∀ i j : Nat, i < I.N → j < I.N → Calls Try.prog I.gs #[I.rv, .int .i64 i, .int .i64 j] W fun e w' => e = .returned (.tuple #[]) ∧ I.S w' (swp d i j) ∧ W.grownBy w' (some I.blk)

/-- from W on: the list is d, and nothing else that was there has turned -/
structure Hs {α : Type} [Inhabited α] (I : Itf α) (W : World) (d : Array α) (w' : World) : Prop where
  s : I.S w' d
  g : W.grownBy w' (some I.blk)

section
variable {α : Type} [Inhabited α] {I : Itf α} {W w w' : World} {d d' : Array α}
theorem Hs.refl (h : I.S W d) : Hs I W d W := ⟨h, World.grownBy.refl W _⟩
theorem Hs.below (O : I.Ok) (h : Hs I W d w) (hb : Below w.heap.size w w') : Hs I W d w' :=
  ⟨O.loc h.s (hb.block _ (O.inb h.s)), h.g.trans ⟨hb.os, hb.tape, hb.output, hb.size, fun k hk _ => hb.block k hk⟩⟩
theorem Hs.step (h : Hs I W d w) (hs : I.S w' d') (hg : w.grownBy w' (some I.blk)) : Hs I W d' w' := ⟨hs, h.g.trans hg⟩
theorem Hs.on (h : Hs I W d w) (h' : Hs I w d' w') : Hs I W d' w' := ⟨h'.s, h.g.trans h'.g⟩
theorem Hs.less (O : I.Ok) (h : Hs I W d w) (i j : Nat) (hi : i < I.N) (hj : j < I.N) : Calls Try.prog I.gl #[I.rv, .int .i64 i, .int .i64 j] w fun e w' => e = .returned (.bool (I.lt d[i]! d[j]!)) ∧ Hs I W d w' :=
  (O.less h.s i j hi hj).mono fun _ _ ⟨he, hb⟩ => ⟨he, h.below O hb⟩
theorem Hs.swap (O : I.Ok) (h : Hs I W d w) (i j : Nat) (hi : i < I.N) (hj : j < I.N) : Calls Try.prog I.gs #[I.rv, .int .i64 i, .int .i64 j] w fun e w' => e = .returned (.tuple #[]) ∧ Hs I W (swp d i j) w' :=
  (O.swap h.s i j hi hj).mono fun _ _ ⟨he, hs, hg⟩ => ⟨he, h.step hs hg⟩
end

theorem Hs.lessI {α : Type} [Inhabited α] {I : Itf α} {W w : World} {d : Array α} (O : I.Ok) (h : Hs I W d w) (x y : Int) (i j : Nat) (hx : x = i) (hy : y = j) (hi : i < I.N) (hj : j < I.N) :
    Calls Try.prog I.gl #[I.rv, .int .i64 x, .int .i64 y] w fun e w' => e = .returned (.bool (I.lt d[i]! d[j]!)) ∧ Hs I W d w' := by
  subst hx hy
  exact h.less O i j hi hj
theorem Hs.swapI {α : Type} [Inhabited α] {I : Itf α} {W w : World} {d : Array α} (O : I.Ok) (h : Hs I W d w) (x y : Int) (i j : Nat) (hx : x = i) (hy : y = j) (hi : i < I.N) (hj : j < I.N) :
    Calls Try.prog I.gs #[I.rv, .int .i64 x, .int .i64 y] w fun e w' => e = .returned (.tuple #[]) ∧ Hs I W (swp d i j) w' := by
  subst hx hy
  exact h.swap O i j hi hj

theorem insInner_go {α : Type} [Inhabited α] (lt : α → α → Bool) (a j : Nat) (d : Array α) (h : a < j) (hl : lt d[j]! d[j - 1]! = true) : insInner lt a j d = insInner lt a (j - 1) (swp d j (j - 1)) := by
  obtain ⟨k, rfl⟩ : ∃ k, j = k + 1 := ⟨j - 1, by omega⟩
  simp only [Nat.add_sub_cancel] at hl ⊢
  rw [insInner, if_pos (by rw [hl, Bool.and_true]; simpa using h)]
theorem insInner_stop {α : Type} [Inhabited α] (lt : α → α → Bool) (a j : Nat) (d : Array α) (h : j ≤ a ∨ lt d[j]! d[j - 1]! = false) : insInner lt a j d = d := by
  cases j with
  | zero => rfl
  | succ k =>
    rw [insInner, if_neg]
    simp only [Nat.add_sub_cancel] at h
    rcases h with h | h
    · simp; omega
    · simp [h]
theorem insOuter_go {α : Type} [Inhabited α] (lt : α → α → Bool) (a b i : Nat) (d : Array α) (h : i < b) : insOuter lt a b i d = insOuter lt a b (i + 1) (insInner lt a i d) := by
  conv => lhs; rw [insOuter]
  rw [if_pos h]
theorem insOuter_stop {α : Type} [Inhabited α] (lt : α → α → Bool) (a b i : Nat) (d : Array α) (h : ¬ i < b) : insOuter lt a b i d = d := by rw [insOuter, if_neg h]

set_option maxRecDepth 100000 in
set_option maxHeartbeats 1000000 in
theorem ins_any {α : Type} [Inhabited α] {I : Itf α} (O : I.Ok) (W : World) (d : Array α) (a b : Nat) (h : I.S W d) (hab : a ≤ b) (hb : b ≤ I.N) :
    Calls Try.prog 53 #[.iface I.T I.rv, .int .i64 a, .int .i64 b] W fun e w' => e = .returned (.tuple #[]) ∧ Hs I W (insertionSort I.lt d a b) w' := by
  have mL := O.mL
  have mS := O.mS
  have eL := O.eL
  have eS := O.eS
  have big := O.big
  have HH := Lib.hid (Hs.refl h)
  have HO := Lib.hid O
  clear h O
  go_enter Try.func53, Try.ntmps53
  go_wp2
  go_loopw [6] (fun vi wr => ∃ (i : Nat) (dk : Array α), vi = .int .i64 i ∧ a < i ∧ i ≤ b + 1 ∧ Hid (insOuter I.lt a b i dk = insertionSort I.lt d a b) ∧ Hid (Hs I W dk wr)) (fun vi _ => b + 1 - (intOf vi).toNat)
  case atStart => exact ⟨a + 1, d, by go_num, by omega, by omega, Lib.hid rfl, HH⟩
  case round =>
    obtain ⟨i, dk, rfl, hai, hib, HE, HK⟩ := hrel
    by_cases hlt : i < b
    · go_wp2
      go_loopw [7] (fun vj wr2 => ∃ (j : Nat) (dj : Array α), vj = .int .i64 j ∧ a ≤ j ∧ j ≤ i ∧ Hid (insInner I.lt a j dj = insInner I.lt a i dk) ∧ Hid (Hs I W dj wr2)) (fun vj _ => (intOf vj).toNat)
      case atStart => exact ⟨i, dk, rfl, by omega, Nat.le_refl _, Lib.hid rfl, HK⟩
      case round =>
        obtain ⟨j, dj, rfl, haj, hji, HI, HJ⟩ := hrel
        by_cases hja : a < j
        · have hl := HJ.out.less HO.out j (j - 1) (by omega) (by omega)
          rw [show (((j - 1 : Nat) : Int)) = (j : Int) - 1 by omega] at hl
          cases hlv : I.lt dj[j]! dj[j - 1]! with
          | true =>
            rw [hlv] at hl
            have HLV := Lib.hid hlv
            have HL := Lib.hid hl
            clear hlv hl
            go_wp2_with fail
            refine HL.out.mono ?_
            rintro e w1 ⟨rfl, hs1⟩
            have hw := hs1.swap HO.out j (j - 1) (by omega) (by omega)
            rw [show (((j - 1 : Nat) : Int)) = (j : Int) - 1 by omega] at hw
            have HW := Lib.hid hw
            clear hs1 hw HL
            go_wp2_with fail
            refine HW.out.mono ?_
            rintro e w2 ⟨rfl, hs2⟩
            have H2 := Lib.hid hs2
            clear hs2 HW
            go_wp2
            go_roundw
            case rel => exact ⟨j - 1, swp dj j (j - 1), by go_num, by omega, by omega, Lib.hid (by rw [← HI.out, insInner_go I.lt a j dj hja HLV.out]), H2⟩
            case measure => simp [intOf]; omega
          | false =>
            rw [hlv] at hl
            have HLV := Lib.hid hlv
            have HL := Lib.hid hl
            clear hlv hl
            go_wp2_with fail
            refine HL.out.mono ?_
            rintro e w1 ⟨rfl, hs1⟩
            have H1 := Lib.hid hs1
            clear hs1 HL
            go_wp2
            go_roundw
            case rel => exact ⟨i + 1, dj, by go_num, by omega, by omega, Lib.hid (by rw [← HE.out, insOuter_go I.lt a b i dk hlt, ← HI.out, insInner_stop I.lt a j dj (.inr HLV.out)]), H1⟩
            case measure => simp [intOf]; omega
        · go_wp2
          go_roundw
          case rel => exact ⟨i + 1, dj, by go_num, by omega, by omega, Lib.hid (by rw [← HE.out, insOuter_go I.lt a b i dk hlt, ← HI.out, insInner_stop I.lt a j dj (.inl (by omega))]), HJ⟩
          case measure => simp [intOf]; omega
    · go_wp2
      go_returns
      exact ⟨rfl, by rw [← HE.out, insOuter_stop I.lt a b i dk hlt]; exact HK.out⟩

theorem revLoop_go {α : Type} [Inhabited α] (i j : Nat) (d : Array α) (h : i < j) : reverseLoop i j d = reverseLoop (i + 1) (j - 1) (swp d i j) := by
  conv => lhs; rw [reverseLoop]
  rw [if_pos h]
theorem revLoop_stop {α : Type} [Inhabited α] (i j : Nat) (d : Array α) (h : ¬ i < j) : reverseLoop i j d = d := by rw [reverseLoop, if_neg h]

set_option maxRecDepth 100000 in
set_option maxHeartbeats 400000 in
theorem rev_any {α : Type} [Inhabited α] {I : Itf α} (O : I.Ok) (W : World) (d : Array α) (a b : Nat) (h : I.S W d) (hab : a < b) (hb : b ≤ I.N) :
    Calls Try.prog 57 #[.iface I.T I.rv, .int .i64 a, .int .i64 b] W fun e w' => e = .returned (.tuple #[]) ∧ Hs I W (reverseRange d a b) w' := by
  have mS := O.mS
  have eS := O.eS
  have big := O.big
  have HH := Lib.hid (Hs.refl h)
  have HO := Lib.hid O
  clear h O
  go_enter Try.func57, Try.ntmps57
  go_wp2
  go_loopw [6, 7] (fun vi vj wr => ∃ (i j : Nat) (dk : Array α), vi = .int .i64 i ∧ vj = .int .i64 j ∧ a ≤ i ∧ i ≤ b ∧ j < b ∧ Hid (reverseLoop i j dk = reverseRange d a b) ∧ Hid (Hs I W dk wr)) (fun vi _ _ => b - (intOf vi).toNat)
  case atStart => exact ⟨a, b - 1, d, rfl, by go_num, by omega, by omega, by omega, Lib.hid rfl, HH⟩
  case round =>
    obtain ⟨i, j, dk, rfl, rfl, hai, hib, hjb, HE, HK⟩ := hrel
    by_cases hlt : i < j
    · have HW := Lib.hid (HK.out.swap HO.out i j (by omega) (by omega))
      go_wp2_with fail
      refine HW.out.mono ?_
      rintro e w2 ⟨rfl, hs2⟩
      have H2 := Lib.hid hs2
      clear hs2 HW
      go_wp2
      go_roundw
      case rel => exact ⟨i + 1, j - 1, swp dk i j, by go_num, by go_num, by omega, by omega, by omega, Lib.hid (by rw [← HE.out, revLoop_go i j dk hlt]), H2⟩
      case measure => simp [intOf]; omega
    · go_wp2
      go_returns
      exact ⟨rfl, by rw [← HE.out, revLoop_stop i j dk hlt]; exact HK.out⟩

end Go.Proofs.Ytgblmafollhojaa
