/-
  Parts of the proof in one text: Ca, Cb, Cc, Cd. Conditions: as each states.
-/
import Derived.Test.YtbkpgfccghombaaDoorN01
import Derived.Test.YtbkpgfccghombaaDoorM08
import Derived.Test.YtbkpgfccghombaaDoorS01
import Derived.Test.YtbkpgfccghombaaDoorM09
/-! A class of few pairs: the states of its automaton are as few as its instructions. Plain. Conditions: none. -/
namespace Go.Proofs.YtbkpgfccghombaaDoor.rx
set_option linter.unusedVariables false

/-! few pieces -/
section
variable {a z m : Int}
theorem cut_one (h0 : 0 ≤ a) (h : a ≤ z) (hs : ¬ (a < 57344 ∧ 55295 < z)) (hc : cutAt a z = some m) : (pieces a z).length = (pieces a m).length + (pieces (m + 1) z).length := by
  rw [pieces_cut h0 h hs hc, List.length_append]
/-- no cut between widths -/
structure Wid (a z : Int) : Prop where
  h0 : 0 ≤ a
  h : a ≤ z
  hs : ¬ (a < 57344 ∧ 55295 < z)
  c1 : ¬ (a ≤ 127 ∧ 127 < z)
  c2 : ¬ (a ≤ 2047 ∧ 2047 < z)
  c3 : ¬ (a ≤ 65535 ∧ 65535 < z)
theorem Wid.low (H : Wid a z) (h1 : a ≤ m) (h2 : m ≤ z) : Wid a m := ⟨H.h0, h1, by have := H.hs; omega, by have := H.c1; omega, by have := H.c2; omega, by have := H.c3; omega⟩
theorem Wid.high (H : Wid a z) (h1 : a ≤ m + 1) (h2 : m < z) : Wid (m + 1) z := ⟨by have := H.h0; omega, by omega, by have := H.hs; omega, by have := H.c1; omega, by have := H.c2; omega, by have := H.c3; omega⟩
theorem Wid.cut (H : Wid a z) : cutAt a z = if z ≤ 127 then none
  else if a / 64 ≠ z / 64 ∧ a % 64 ≠ 0 then some (a / 64 * 64 + 63) else if a / 64 ≠ z / 64 ∧ z % 64 ≠ 63 then some (z / 64 * 64 - 1)
  else if a / 4096 ≠ z / 4096 ∧ a % 4096 ≠ 0 then some (a / 4096 * 4096 + 4095) else if a / 4096 ≠ z / 4096 ∧ z % 4096 ≠ 4095 then some (z / 4096 * 4096 - 1)
  else if a / 262144 ≠ z / 262144 ∧ a % 262144 ≠ 0 then some (a / 262144 * 262144 + 262143) else if a / 262144 ≠ z / 262144 ∧ z % 262144 ≠ 262143 then some (z / 262144 * 262144 - 1)
  else none := by
  unfold cutAt
  rw [if_neg H.c1, if_neg H.c2, if_neg H.c3]
theorem pl_ascii (H : Wid a z) (hz : z ≤ 127) : (pieces a z).length ≤ 1 := by
  rw [pieces_one H.h0 H.h H.hs (by rw [H.cut, if_pos hz])]
  simp
theorem pl6 (H : Wid a z) (c1 : ¬ (a / 64 ≠ z / 64 ∧ a % 64 ≠ 0)) (c2 : ¬ (a / 64 ≠ z / 64 ∧ z % 64 ≠ 63)) (c3 : ¬ (a / 4096 ≠ z / 4096 ∧ a % 4096 ≠ 0)) (c4 : ¬ (a / 4096 ≠ z / 4096 ∧ z % 4096 ≠ 4095)) (c5 : ¬ (a / 262144 ≠ z / 262144 ∧ a % 262144 ≠ 0)) (c6 : ¬ (a / 262144 ≠ z / 262144 ∧ z % 262144 ≠ 262143)) : (pieces a z).length ≤ 1 := by
  by_cases hz : z ≤ 127
  · exact pl_ascii H hz
  rw [pieces_one H.h0 H.h H.hs (by rw [H.cut, if_neg hz, if_neg c1, if_neg c2, if_neg c3, if_neg c4, if_neg c5, if_neg c6])]
  simp
theorem pl5 (H : Wid a z) (c1 : ¬ (a / 64 ≠ z / 64 ∧ a % 64 ≠ 0)) (c2 : ¬ (a / 64 ≠ z / 64 ∧ z % 64 ≠ 63)) (c3 : ¬ (a / 4096 ≠ z / 4096 ∧ a % 4096 ≠ 0)) (c4 : ¬ (a / 4096 ≠ z / 4096 ∧ z % 4096 ≠ 4095)) (c5 : ¬ (a / 262144 ≠ z / 262144 ∧ a % 262144 ≠ 0)) : (pieces a z).length ≤ 2 := by
  by_cases hz : z ≤ 127
  · exact Nat.le_succ_of_le (pl_ascii H hz)
  by_cases c6 : a / 262144 ≠ z / 262144 ∧ z % 262144 ≠ 262143
  · have hc : cutAt a z = some (z / 262144 * 262144 - 1) := by rw [H.cut, if_neg hz, if_neg c1, if_neg c2, if_neg c3, if_neg c4, if_neg c5, if_pos c6]
    have h := H.h
    have h0 := H.h0
    rw [cut_one H.h0 H.h H.hs hc]
    have k1 := pl6 (H.low (m := z / 262144 * 262144 - 1) (by omega) (by omega)) (by omega) (by omega) (by omega) (by omega) (by omega) (by omega)
    have k2 := pl6 (H.high (m := z / 262144 * 262144 - 1) (by omega) (by omega)) (by omega) (by omega) (by omega) (by omega) (by omega) (by omega)
    omega
  · exact Nat.le_succ_of_le (pl6 H c1 c2 c3 c4 c5 c6)
theorem pl4 (H : Wid a z) (c1 : ¬ (a / 64 ≠ z / 64 ∧ a % 64 ≠ 0)) (c2 : ¬ (a / 64 ≠ z / 64 ∧ z % 64 ≠ 63)) (c3 : ¬ (a / 4096 ≠ z / 4096 ∧ a % 4096 ≠ 0)) (c4 : ¬ (a / 4096 ≠ z / 4096 ∧ z % 4096 ≠ 4095)) : (pieces a z).length ≤ 3 := by
  by_cases hz : z ≤ 127
  · have := pl_ascii H hz; omega
  by_cases c5 : a / 262144 ≠ z / 262144 ∧ a % 262144 ≠ 0
  · have hc : cutAt a z = some (a / 262144 * 262144 + 262143) := by rw [H.cut, if_neg hz, if_neg c1, if_neg c2, if_neg c3, if_neg c4, if_pos c5]
    have h := H.h
    have h0 := H.h0
    rw [cut_one H.h0 H.h H.hs hc]
    have k1 := pl6 (H.low (m := a / 262144 * 262144 + 262143) (by omega) (by omega)) (by omega) (by omega) (by omega) (by omega) (by omega) (by omega)
    have k2 := pl5 (H.high (m := a / 262144 * 262144 + 262143) (by omega) (by omega)) (by omega) (by omega) (by omega) (by omega) (by omega)
    omega
  · have := pl5 H c1 c2 c3 c4 c5; omega
theorem pl3 (H : Wid a z) (c1 : ¬ (a / 64 ≠ z / 64 ∧ a % 64 ≠ 0)) (c2 : ¬ (a / 64 ≠ z / 64 ∧ z % 64 ≠ 63)) (c3 : ¬ (a / 4096 ≠ z / 4096 ∧ a % 4096 ≠ 0)) : (pieces a z).length ≤ 4 := by
  by_cases hz : z ≤ 127
  · have := pl_ascii H hz; omega
  by_cases c4 : a / 4096 ≠ z / 4096 ∧ z % 4096 ≠ 4095
  · have hc : cutAt a z = some (z / 4096 * 4096 - 1) := by rw [H.cut, if_neg hz, if_neg c1, if_neg c2, if_neg c3, if_pos c4]
    have h := H.h
    have h0 := H.h0
    rw [cut_one H.h0 H.h H.hs hc]
    have k1 := pl4 (H.low (m := z / 4096 * 4096 - 1) (by omega) (by omega)) (by omega) (by omega) (by omega) (by omega)
    have k2 := pl6 (H.high (m := z / 4096 * 4096 - 1) (by omega) (by omega)) (by omega) (by omega) (by omega) (by omega) (by omega) (by omega)
    omega
  · have := pl4 H c1 c2 c3 c4; omega
theorem pl2 (H : Wid a z) (c1 : ¬ (a / 64 ≠ z / 64 ∧ a % 64 ≠ 0)) (c2 : ¬ (a / 64 ≠ z / 64 ∧ z % 64 ≠ 63)) : (pieces a z).length ≤ 5 := by
  by_cases hz : z ≤ 127
  · have := pl_ascii H hz; omega
  by_cases c3 : a / 4096 ≠ z / 4096 ∧ a % 4096 ≠ 0
  · have hc : cutAt a z = some (a / 4096 * 4096 + 4095) := by rw [H.cut, if_neg hz, if_neg c1, if_neg c2, if_pos c3]
    have h := H.h
    have h0 := H.h0
    rw [cut_one H.h0 H.h H.hs hc]
    have k1 := pl6 (H.low (m := a / 4096 * 4096 + 4095) (by omega) (by omega)) (by omega) (by omega) (by omega) (by omega) (by omega) (by omega)
    have k2 := pl3 (H.high (m := a / 4096 * 4096 + 4095) (by omega) (by omega)) (by omega) (by omega) (by omega)
    omega
  · have := pl3 H c1 c2 c3; omega
theorem pl1 (H : Wid a z) (c1 : ¬ (a / 64 ≠ z / 64 ∧ a % 64 ≠ 0)) : (pieces a z).length ≤ 6 := by
  by_cases hz : z ≤ 127
  · have := pl_ascii H hz; omega
  by_cases c2 : a / 64 ≠ z / 64 ∧ z % 64 ≠ 63
  · have hc : cutAt a z = some (z / 64 * 64 - 1) := by rw [H.cut, if_neg hz, if_neg c1, if_pos c2]
    have h := H.h
    have h0 := H.h0
    rw [cut_one H.h0 H.h H.hs hc]
    have k1 := pl2 (H.low (m := z / 64 * 64 - 1) (by omega) (by omega)) (by omega) (by omega)
    have k2 := pl6 (H.high (m := z / 64 * 64 - 1) (by omega) (by omega)) (by omega) (by omega) (by omega) (by omega) (by omega) (by omega)
    omega
  · have := pl2 H c1 c2; omega
theorem pl0 (H : Wid a z) : (pieces a z).length ≤ 7 := by
  by_cases hz : z ≤ 127
  · have := pl_ascii H hz; omega
  by_cases c1 : a / 64 ≠ z / 64 ∧ a % 64 ≠ 0
  · have hc : cutAt a z = some (a / 64 * 64 + 63) := by rw [H.cut, if_neg hz, if_pos c1]
    have h := H.h
    have h0 := H.h0
    rw [cut_one H.h0 H.h H.hs hc]
    have k1 := pl6 (H.low (m := a / 64 * 64 + 63) (by omega) (by omega)) (by omega) (by omega) (by omega) (by omega) (by omega) (by omega)
    have k2 := pl1 (H.high (m := a / 64 * 64 + 63) (by omega) (by omega)) (by omega)
    omega
  · have := pl1 H c1; omega
theorem ple (h : a ≤ z → (pieces a z).length ≤ 7) (n : Nat) (hn : 7 ≤ n) : (pieces a z).length ≤ n := by
  by_cases c : a ≤ z
  · have := h c; omega
  · rw [pieces_nil (by omega)]; simp
theorem pw3 (h0 : 0 ≤ a) (h : a ≤ z) (hs : ¬ (a < 57344 ∧ 55295 < z)) (c1 : ¬ (a ≤ 127 ∧ 127 < z)) (c2 : ¬ (a ≤ 2047 ∧ 2047 < z)) : (pieces a z).length ≤ 14 := by
  by_cases c3 : a ≤ 65535 ∧ 65535 < z
  · have hc : cutAt a z = some 65535 := by unfold cutAt; rw [if_neg c1, if_neg c2, if_pos c3]
    rw [cut_one h0 h hs hc]
    have k1 := pl0 (a := a) (z := 65535) ⟨h0, by omega, by omega, by omega, by omega, by omega⟩
    have k2 := pl0 (a := 65535 + 1) (z := z) ⟨by omega, by omega, by omega, by omega, by omega, by omega⟩
    omega
  · have := pl0 (a := a) (z := z) ⟨h0, h, hs, c1, c2, c3⟩; omega
theorem pw2 (h0 : 0 ≤ a) (h : a ≤ z) (hs : ¬ (a < 57344 ∧ 55295 < z)) (c1 : ¬ (a ≤ 127 ∧ 127 < z)) : (pieces a z).length ≤ 21 := by
  by_cases c2 : a ≤ 2047 ∧ 2047 < z
  · have hc : cutAt a z = some 2047 := by unfold cutAt; rw [if_neg c1, if_pos c2]
    rw [cut_one h0 h hs hc]
    have k1 := pl0 (a := a) (z := 2047) ⟨h0, by omega, by omega, by omega, by omega, by omega⟩
    have k2 := pw3 (a := 2047 + 1) (z := z) (by omega) (by omega) (by omega) (by omega) (by omega)
    omega
  · have := pw3 h0 h hs c1 c2; omega
theorem pw1 (h0 : 0 ≤ a) (h : a ≤ z) (hs : ¬ (a < 57344 ∧ 55295 < z)) : (pieces a z).length ≤ 28 := by
  by_cases c1 : a ≤ 127 ∧ 127 < z
  · have hc : cutAt a z = some 127 := by unfold cutAt; rw [if_pos c1]
    rw [cut_one h0 h hs hc]
    have k1 := pl0 (a := a) (z := 127) ⟨h0, by omega, by omega, by omega, by omega, by omega⟩
    have k2 := pw2 (a := 127 + 1) (z := z) (by omega) (by omega) (by omega) (by omega)
    omega
  · have := pw2 h0 h hs c1; omega
theorem pieces_few : (pieces a z).length ≤ 56 := by
  by_cases h0 : z < a ∨ a < 0
  · rw [pieces_nil h0]; simp
  by_cases hs : a < 57344 ∧ 55295 < z
  · rw [pieces_split (by omega) (by omega) hs, List.length_append]
    have k1 : (pieces a 55295).length ≤ 28 := by
      by_cases c : a ≤ 55295
      · exact pw1 (by omega) c (by omega)
      · rw [pieces_nil (by omega)]; simp
    have k2 : (pieces 57344 z).length ≤ 28 := by
      by_cases c : 57344 ≤ z
      · exact pw1 (by omega) c (by omega)
      · rw [pieces_nil (by omega)]; simp
    omega
  · have := pw1 (by omega) (by omega) hs; omega
end
theorem cls_few (l : List Int) (h : l.length ≤ 8) (b : Nat) : (clsC b (pairs l)).length ≤ 1400 := by
  have h1 := altC_le (f := rangeC) (x := 336) 0 (pairs l) b (fun q _ b => by
    have h2 := altC_le (f := pieceC) (x := 4) 0 (pieces q.1 q.2) b (fun q _ b => by simp only [pieceC, List.length_map]; exact sq_le q)
    have h3 := pieces_few (a := q.1) (z := q.2)
    unfold rangeC
    rw [altE_len]
    omega)
  have h4 : ∀ l : List Int, 2 * (pairs l).length ≤ l.length := by
    intro l
    induction l using pairs.induct with
    | case1 a b r ih => simp only [pairs, List.length_cons]; omega
    | case2 l _ => unfold pairs; split <;> simp_all
  have h5 := h4 l
  have h6 : (pairs l).length * (336 + 2) ≤ 4 * (336 + 2) := Nat.mul_le_mul_right _ (by omega)
  unfold clsC
  rw [altE_len]
  omega

/-! two pieces that are apart: what they have in common is one text -/
/-- ranges cover bytes, as far as these go -/
def cvP : List (Int × Int) → List Int → Prop
  | _, [] => True
  | [], _ :: _ => False
  | p :: l, x :: u => (p.1 ≤ x ∧ x ≤ p.2) ∧ cvP l u
theorem cvP_of : ∀ (l : List (Int × Int)) (u : List Int), covB l u = true → cvP l u ∧ u.length = l.length
  | [], [], _ => ⟨trivial, rfl⟩
  | p :: l, x :: u, h => by
    simp only [covB, Bool.and_eq_true, decide_eq_true_eq] at h
    have := cvP_of l u h.2
    exact ⟨⟨h.1, this.1⟩, by simp [this.2]⟩
  | [], _ :: _, h => by simp [covB] at h
  | _ :: _, [], h => by simp [covB] at h
structure AptB (s t : List (Int × Int)) (u : List Int) : Prop where
  l1 : u.length < s.length
  l2 : u.length < t.length
  o1 : ∀ v, cvP s v → v.length = u.length → v = u
  o2 : ∀ v, cvP t v → v.length = u.length → v = u
theorem lv1 {a z c d X : Int} (h1 : whole 64 a z) (h2 : whole 64 c d) (haz : a ≤ z) (hzc : z < c) (hcd : c ≤ d) (x1 : a / 64 ≤ X) (x2 : X ≤ z / 64) (x3 : c / 64 ≤ X) (x4 : X ≤ d / 64) : a / 64 = X ∧ z / 64 = X ∧ c / 64 = X ∧ d / 64 = X := by
  unfold whole at h1 h2
  omega
theorem lv2 {a z c d X : Int} (h1 : whole 4096 a z) (h2 : whole 4096 c d) (haz : a ≤ z) (hzc : z < c) (hcd : c ≤ d) (x1 : a / 4096 ≤ X) (x2 : X ≤ z / 4096) (x3 : c / 4096 ≤ X) (x4 : X ≤ d / 4096) : a / 4096 = X ∧ z / 4096 = X ∧ c / 4096 = X ∧ d / 4096 = X := by
  unfold whole at h1 h2
  omega
theorem lv3 {a z c d X : Int} (h1 : whole 262144 a z) (h2 : whole 262144 c d) (haz : a ≤ z) (hzc : z < c) (hcd : c ≤ d) (x1 : a / 262144 ≤ X) (x2 : X ≤ z / 262144) (x3 : c / 262144 ≤ X) (x4 : X ≤ d / 262144) : a / 262144 = X ∧ z / 262144 = X ∧ c / 262144 = X ∧ d / 262144 = X := by
  unfold whole at h1 h2
  omega
theorem sq1 {a z : Int} (h : z ≤ 127) : sq (a, z) = [(a, z)] := by unfold sq; rw [if_pos h]
theorem sq2 {a z : Int} (h : a ≤ z) (h1 : ¬ a ≤ 127) (h2 : z ≤ 2047) : sq (a, z) = [(192 + a / 64, 192 + z / 64), (128 + a % 64, 128 + z % 64)] := by
  unfold sq
  rw [if_neg (by simp only; omega)]
  simp only
  rw [ub2 a h1 (by omega), ub2 z (by omega) h2]
  rfl
theorem sq3 {a z : Int} (h : a ≤ z) (h1 : ¬ a ≤ 2047) (h2 : z ≤ 65535) : sq (a, z) = [(224 + a / 4096, 224 + z / 4096), (128 + a / 64 % 64, 128 + z / 64 % 64), (128 + a % 64, 128 + z % 64)] := by
  unfold sq
  rw [if_neg (by simp only; omega)]
  simp only
  rw [ub3 a h1 (by omega), ub3 z (by omega) h2]
  rfl
theorem sq4 {a z : Int} (h : a ≤ z) (h1 : ¬ a ≤ 65535) : sq (a, z) = [(240 + a / 262144, 240 + z / 262144), (128 + a / 4096 % 64, 128 + z / 4096 % 64), (128 + a / 64 % 64, 128 + z / 64 % 64), (128 + a % 64, 128 + z % 64)] := by
  unfold sq
  rw [if_neg (by simp only; omega)]
  simp only
  rw [ub4 a h1, ub4 z (by omega)]
  rfl
theorem one_v {v : List Int} {x : Int} (h : v.length = [x].length) (k : ∀ x', v = [x'] → x' = x) : v = [x] := by
  match v, h, k with
  | [x'], _, k => rw [k x' rfl]
theorem two_v {v : List Int} {x y : Int} (h : v.length = [x, y].length) (k : ∀ x' y', v = [x', y'] → x' = x ∧ y' = y) : v = [x, y] := by
  match v, h, k with
  | [x', y'], _, k => rw [(k x' y' rfl).1, (k x' y' rfl).2]
theorem three_v {v : List Int} {x y t : Int} (h : v.length = [x, y, t].length) (k : ∀ x' y' t', v = [x', y', t'] → x' = x ∧ y' = y ∧ t' = t) : v = [x, y, t] := by
  match v, h, k with
  | [x', y', t'], _, k => rw [(k x' y' t' rfl).1, (k x' y' t' rfl).2.1, (k x' y' t' rfl).2.2]
section
variable {a z c d : Int}
theorem apt2 (haz : a ≤ z) (hzc : z < c) (hcd : c ≤ d) (ha : ¬ a ≤ 127) (hd : d ≤ 2047) (w1 : whole 64 a z) (w2 : whole 64 c d) : ∀ u : List Int, u ≠ [] → cvP (sq (a, z)) u → cvP (sq (c, d)) u → AptB (sq (a, z)) (sq (c, d)) u := by
  rw [sq2 haz ha (by omega), sq2 hcd (by omega) hd]
  intro u hu h1 h2
  match u, hu, h1, h2 with
  | [], hu, _, _ => exact absurd rfl hu
  | [x], _, h1, h2 =>
    simp only [cvP] at h1 h2
    have e := lv1 (X := x - 192) w1 w2 haz hzc hcd (by omega) (by omega) (by omega) (by omega)
    refine ⟨by simp, by simp, fun v hv hl => one_v hl ?_, fun v hv hl => one_v hl ?_⟩
    all_goals
      rintro x' rfl
      simp only [cvP] at hv
      omega
  | [x, y], _, h1, h2 =>
    simp only [cvP] at h1 h2
    have e := lv1 (X := x - 192) w1 w2 haz hzc hcd (by omega) (by omega) (by omega) (by omega)
    omega
  | _ :: _ :: _ :: _, _, h1, _ => simp [cvP] at h1
theorem bk1 {k A Z x x' : Int} (e : A = x - k) (f : Z = x - k) (h : k + A ≤ x' ∧ x' ≤ k + Z) : x' = x := by omega
theorem bk2 {m a z x y y' X : Int} (hm : m = 64 ∨ m = 4096) (e1 : a / m / 64 = x) (f1 : z / m / 64 = x) (e2 : a / m = X) (f2 : z / m = X) (hX : X = x * 64 + (y - 128)) (h : 128 + a / m % 64 ≤ y' ∧ y' ≤ 128 + z / m % 64) : y' = y := by
  rw [e2] at e1 h
  rw [f2] at h
  omega
theorem qlo {A x y : Int} (e : A / 64 = x) (h : 128 + A % 64 ≤ y) : A ≤ x * 64 + (y - 128) := by omega
theorem qhi {A x y : Int} (e : A / 64 = x) (h : y ≤ 128 + A % 64) : x * 64 + (y - 128) ≤ A := by omega
theorem qno {z c x s : Int} (e : z / 64 = x) (f : c / 64 = x) (h : s ≤ 128 + z % 64) (g : 128 + c % 64 ≤ s) (hlt : z < c) : False := by omega
theorem dd2 (a : Int) : a / 64 / 64 = a / 4096 := by omega
theorem dd3 (a : Int) : a / 4096 / 64 = a / 262144 := by omega
theorem slo {k A x : Int} (h : k + A ≤ x) : A ≤ x - k := by omega
theorem shi {k A x : Int} (h : x ≤ k + A) : x - k ≤ A := by omega
theorem apt3 (haz : a ≤ z) (hzc : z < c) (hcd : c ≤ d) (ha : ¬ a ≤ 2047) (hd : d ≤ 65535) (w1 : whole 64 a z) (w2 : whole 64 c d) (w3 : whole 4096 a z) (w4 : whole 4096 c d) : ∀ u : List Int, u ≠ [] → cvP (sq (a, z)) u → cvP (sq (c, d)) u → AptB (sq (a, z)) (sq (c, d)) u := by
  rw [sq3 haz ha (by omega), sq3 hcd (by omega) hd]
  have L1 : ∀ x, (224 + a / 4096 ≤ x ∧ x ≤ 224 + z / 4096) → (224 + c / 4096 ≤ x ∧ x ≤ 224 + d / 4096) → a / 4096 = x - 224 ∧ z / 4096 = x - 224 ∧ c / 4096 = x - 224 ∧ d / 4096 = x - 224 := fun x h g => lv2 w3 w4 haz hzc hcd (slo h.1) (shi h.2) (slo g.1) (shi g.2)
  have L2 : ∀ X y, a / 4096 = X → z / 4096 = X → c / 4096 = X → d / 4096 = X → (128 + a / 64 % 64 ≤ y ∧ y ≤ 128 + z / 64 % 64) → (128 + c / 64 % 64 ≤ y ∧ y ≤ 128 + d / 64 % 64) → a / 64 = X * 64 + (y - 128) ∧ z / 64 = X * 64 + (y - 128) ∧ c / 64 = X * 64 + (y - 128) ∧ d / 64 = X * 64 + (y - 128) :=
    fun X y e1 e2 e3 e4 h g => lv1 w1 w2 haz hzc hcd (qlo ((dd2 a).trans e1) h.1) (qhi ((dd2 z).trans e2) h.2) (qlo ((dd2 c).trans e3) g.1) (qhi ((dd2 d).trans e4) g.2)
  intro u hu h1 h2
  match u, hu, h1, h2 with
  | [], hu, _, _ => exact absurd rfl hu
  | [x], _, h1, h2 =>
    simp only [cvP, and_true] at h1 h2
    obtain ⟨e1, e2, e3, e4⟩ := L1 x h1 h2
    refine ⟨by simp, by simp, fun v hv hl => one_v hl ?_, fun v hv hl => one_v hl ?_⟩
    · rintro x' rfl
      simp only [cvP, and_true] at hv
      exact bk1 e1 e2 hv
    · rintro x' rfl
      simp only [cvP, and_true] at hv
      exact bk1 e3 e4 hv
  | [x, y], _, h1, h2 =>
    simp only [cvP, and_true] at h1 h2
    obtain ⟨e1, e2, e3, e4⟩ := L1 x h1.1 h2.1
    obtain ⟨g1, g2, g3, g4⟩ := L2 _ y e1 e2 e3 e4 h1.2 h2.2
    refine ⟨by simp, by simp, fun v hv hl => two_v hl ?_, fun v hv hl => two_v hl ?_⟩
    · rintro x' y' rfl
      simp only [cvP, and_true] at hv
      exact ⟨bk1 e1 e2 hv.1, bk2 (.inl rfl) ((dd2 a).trans e1) ((dd2 z).trans e2) g1 g2 rfl hv.2⟩
    · rintro x' y' rfl
      simp only [cvP, and_true] at hv
      exact ⟨bk1 e3 e4 hv.1, bk2 (.inl rfl) ((dd2 c).trans e3) ((dd2 d).trans e4) g3 g4 rfl hv.2⟩
  | [x, y, t], _, h1, h2 =>
    simp only [cvP, and_true] at h1 h2
    obtain ⟨e1, e2, e3, e4⟩ := L1 x h1.1 h2.1
    obtain ⟨g1, g2, g3, g4⟩ := L2 _ y e1 e2 e3 e4 h1.2.1 h2.2.1
    exact (qno g2 g3 h1.2.2.2 h2.2.2.1 hzc).elim
  | _ :: _ :: _ :: _ :: _, _, h1, _ => simp [cvP] at h1
theorem apt4 (haz : a ≤ z) (hzc : z < c) (hcd : c ≤ d) (ha : ¬ a ≤ 65535) (w1 : whole 64 a z) (w2 : whole 64 c d) (w3 : whole 4096 a z) (w4 : whole 4096 c d) (w5 : whole 262144 a z) (w6 : whole 262144 c d) : ∀ u : List Int, u ≠ [] → cvP (sq (a, z)) u → cvP (sq (c, d)) u → AptB (sq (a, z)) (sq (c, d)) u := by
  rw [sq4 haz ha, sq4 hcd (by omega)]
  have L1 : ∀ x, (240 + a / 262144 ≤ x ∧ x ≤ 240 + z / 262144) → (240 + c / 262144 ≤ x ∧ x ≤ 240 + d / 262144) → a / 262144 = x - 240 ∧ z / 262144 = x - 240 ∧ c / 262144 = x - 240 ∧ d / 262144 = x - 240 := fun x h g => lv3 w5 w6 haz hzc hcd (slo h.1) (shi h.2) (slo g.1) (shi g.2)
  have L2 : ∀ X y, a / 262144 = X → z / 262144 = X → c / 262144 = X → d / 262144 = X → (128 + a / 4096 % 64 ≤ y ∧ y ≤ 128 + z / 4096 % 64) → (128 + c / 4096 % 64 ≤ y ∧ y ≤ 128 + d / 4096 % 64) → a / 4096 = X * 64 + (y - 128) ∧ z / 4096 = X * 64 + (y - 128) ∧ c / 4096 = X * 64 + (y - 128) ∧ d / 4096 = X * 64 + (y - 128) :=
    fun X y e1 e2 e3 e4 h g => lv2 w3 w4 haz hzc hcd (qlo ((dd3 a).trans e1) h.1) (qhi ((dd3 z).trans e2) h.2) (qlo ((dd3 c).trans e3) g.1) (qhi ((dd3 d).trans e4) g.2)
  have L3 : ∀ X y, a / 4096 = X → z / 4096 = X → c / 4096 = X → d / 4096 = X → (128 + a / 64 % 64 ≤ y ∧ y ≤ 128 + z / 64 % 64) → (128 + c / 64 % 64 ≤ y ∧ y ≤ 128 + d / 64 % 64) → a / 64 = X * 64 + (y - 128) ∧ z / 64 = X * 64 + (y - 128) ∧ c / 64 = X * 64 + (y - 128) ∧ d / 64 = X * 64 + (y - 128) :=
    fun X y e1 e2 e3 e4 h g => lv1 w1 w2 haz hzc hcd (qlo ((dd2 a).trans e1) h.1) (qhi ((dd2 z).trans e2) h.2) (qlo ((dd2 c).trans e3) g.1) (qhi ((dd2 d).trans e4) g.2)
  intro u hu h1 h2
  match u, hu, h1, h2 with
  | [], hu, _, _ => exact absurd rfl hu
  | [x], _, h1, h2 =>
    simp only [cvP, and_true] at h1 h2
    obtain ⟨e1, e2, e3, e4⟩ := L1 x h1 h2
    refine ⟨by simp, by simp, fun v hv hl => one_v hl ?_, fun v hv hl => one_v hl ?_⟩
    · rintro x' rfl
      simp only [cvP, and_true] at hv
      exact bk1 e1 e2 hv
    · rintro x' rfl
      simp only [cvP, and_true] at hv
      exact bk1 e3 e4 hv
  | [x, y], _, h1, h2 =>
    simp only [cvP, and_true] at h1 h2
    obtain ⟨e1, e2, e3, e4⟩ := L1 x h1.1 h2.1
    obtain ⟨g1, g2, g3, g4⟩ := L2 _ y e1 e2 e3 e4 h1.2 h2.2
    refine ⟨by simp, by simp, fun v hv hl => two_v hl ?_, fun v hv hl => two_v hl ?_⟩
    · rintro x' y' rfl
      simp only [cvP, and_true] at hv
      exact ⟨bk1 e1 e2 hv.1, bk2 (.inr rfl) ((dd3 a).trans e1) ((dd3 z).trans e2) g1 g2 rfl hv.2⟩
    · rintro x' y' rfl
      simp only [cvP, and_true] at hv
      exact ⟨bk1 e3 e4 hv.1, bk2 (.inr rfl) ((dd3 c).trans e3) ((dd3 d).trans e4) g3 g4 rfl hv.2⟩
  | [x, y, t], _, h1, h2 =>
    simp only [cvP, and_true] at h1 h2
    obtain ⟨e1, e2, e3, e4⟩ := L1 x h1.1 h2.1
    obtain ⟨g1, g2, g3, g4⟩ := L2 _ y e1 e2 e3 e4 h1.2.1 h2.2.1
    obtain ⟨k1, k2, k3, k4⟩ := L3 _ t g1 g2 g3 g4 h1.2.2 h2.2.2
    refine ⟨by simp, by simp, fun v hv hl => three_v hl ?_, fun v hv hl => three_v hl ?_⟩
    · rintro x' y' t' rfl
      simp only [cvP, and_true] at hv
      exact ⟨bk1 e1 e2 hv.1, bk2 (.inr rfl) ((dd3 a).trans e1) ((dd3 z).trans e2) g1 g2 rfl hv.2.1, bk2 (.inl rfl) ((dd2 a).trans g1) ((dd2 z).trans g2) k1 k2 rfl hv.2.2⟩
    · rintro x' y' t' rfl
      simp only [cvP, and_true] at hv
      exact ⟨bk1 e3 e4 hv.1, bk2 (.inr rfl) ((dd3 c).trans e3) ((dd3 d).trans e4) g3 g4 rfl hv.2.1, bk2 (.inl rfl) ((dd2 c).trans g3) ((dd2 d).trans g4) k3 k4 rfl hv.2.2⟩
  | [x, y, t, s], _, h1, h2 =>
    simp only [cvP, and_true] at h1 h2
    obtain ⟨e1, e2, e3, e4⟩ := L1 x h1.1 h2.1
    obtain ⟨g1, g2, g3, g4⟩ := L2 _ y e1 e2 e3 e4 h1.2.1 h2.2.1
    obtain ⟨k1, k2, k3, k4⟩ := L3 _ t g1 g2 g3 g4 h1.2.2.1 h2.2.2.1
    exact (qno k2 k3 h1.2.2.2.2 h2.2.2.2.1 hzc).elim
  | _ :: _ :: _ :: _ :: _ :: _, _, h1, _ => simp [cvP] at h1
/-- what two pieces that are apart have in common -/
theorem pc_apart {p q : Int × Int} (hp : Pc p) (hq : Pc q) (hpq : p.2 < q.1) (hz : q.2 ≤ 1114111) (u : List Int) (hu : u ≠ []) (h1 : cvP (sq p) u) (h2 : cvP (sq q) u) : AptB (sq p) (sq q) u := by
  obtain ⟨a, z⟩ := p
  obtain ⟨c, d⟩ := q
  obtain ⟨a0, al, asx, ⟨a1, a2, a3, a4, a5, a6⟩⟩ := hp
  obtain ⟨c0, cl, csx, ⟨c1, c2, c3, c4, c5, c6⟩⟩ := hq
  simp only at *
  have first : ∀ {s t : List (Int × Int)} {p q : Int × Int}, cvP (p :: s) u → cvP (q :: t) u → p.2 < q.1 → AptB (sq (a, z)) (sq (c, d)) u := by
    intro s t p q g1 g2 g3
    match u, hu, g1, g2 with
    | [], hu, _, _ => exact absurd rfl hu
    | x :: _, _, g1, g2 => simp only [cvP] at g1 g2; omega
  by_cases k1 : z ≤ 127
  · rw [sq1 k1] at h1
    by_cases k2 : d ≤ 127
    · rw [sq1 k2] at h2
      exact first h1 h2 hpq
    by_cases k3 : d ≤ 2047
    · rw [sq2 cl (by omega) k3] at h2
      exact first h1 h2 (by simp only; omega)
    by_cases k4 : d ≤ 65535
    · rw [sq3 cl (by omega) k4] at h2
      exact first h1 h2 (by simp only; omega)
    · rw [sq4 cl (by omega)] at h2
      exact first h1 h2 (by simp only; omega)
  by_cases k2 : z ≤ 2047
  · by_cases k3 : d ≤ 2047
    · exact apt2 al hpq cl (by omega) k3 (a4 k1) (c4 (by omega)) u hu h1 h2
    rw [sq2 al (by omega) k2] at h1
    by_cases k4 : d ≤ 65535
    · rw [sq3 cl (by omega) k4] at h2
      exact first h1 h2 (by simp only; omega)
    · rw [sq4 cl (by omega)] at h2
      exact first h1 h2 (by simp only; omega)
  by_cases k3 : z ≤ 65535
  · by_cases k4 : d ≤ 65535
    · exact apt3 al hpq cl (by omega) k4 (a4 k1) (c4 (by omega)) (a5 k1) (c5 (by omega)) u hu h1 h2
    rw [sq3 al (by omega) k3] at h1
    rw [sq4 cl (by omega)] at h2
    exact first h1 h2 (by simp only; omega)
  · exact apt4 al hpq cl (by omega) (a4 k1) (c4 (by omega)) (a5 k1) (c5 (by omega)) (a6 k1) (c6 (by omega)) u hu h1 h2
end
end Go.Proofs.YtbkpgfccghombaaDoor.rx

/-! Where the pieces of a class lie among its instructions; two texts that lead to one place lead to the same state. Plain. Conditions: none. -/
namespace Go.Proofs.YtbkpgfccghombaaDoor.rx
set_option linter.unusedVariables false

/-- what is gone on to comes behind -/
structure Fwd (b : Nat) (c : List Ins) : Prop where
  j : ∀ i t, c[i]? = some (.jp t) → b + i < t
  s : ∀ i x y, c[i]? = some (.sp x y) → b + i < x ∧ b + i < y
theorem fwd_app {b : Nat} {c d : List Ins} (h : Fwd b c) (h2 : Fwd (b + c.length) d) : Fwd b (c ++ d) := by
  refine ⟨fun i t e => ?_, fun i x y e => ?_⟩
  · by_cases hi : i < c.length
    · rw [List.getElem?_append_left hi] at e
      exact h.j i t e
    · rw [List.getElem?_append_right (by omega)] at e
      have := h2.j _ t e
      omega
  · by_cases hi : i < c.length
    · rw [List.getElem?_append_left hi] at e
      exact h.s i x y e
    · rw [List.getElem?_append_right (by omega)] at e
      have := h2.s _ x y e
      omega
theorem fwd_nil (b : Nat) : Fwd b [] := ⟨fun i t e => by simp at e, fun i x y e => by simp at e⟩
theorem fwd_cons {b : Nat} {x : Ins} {d : List Ins} (h1 : ∀ t, x = .jp t → b < t) (h2 : ∀ y z, x = .sp y z → b < y ∧ b < z) (h : Fwd (b + 1) d) : Fwd b (x :: d) := by
  refine ⟨fun i t e => ?_, fun i y z e => ?_⟩
  · match i, e with
    | 0, e => simp at e; exact h1 t e
    | i + 1, e => have := h.j i t (by simpa using e); omega
  · match i, e with
    | 0, e => simp at e; exact h2 y z e
    | i + 1, e => have := h.s i y z (by simpa using e); omega
theorem fwd_rg : ∀ (l : List (Int × Int)) (b : Nat), Fwd b (l.map fun x => Ins.rg x.1 x.2)
  | [], b => fwd_nil b
  | x :: l, b => fwd_cons (fun t e => by cases e) (fun y z e => by cases e) (fwd_rg l (b + 1))
section
variable {α : Type} {f : Nat → α → List Ins}
theorem fwd_alt (e : Nat) : ∀ (l : List α) (b : Nat), (∀ s ∈ l, ∀ b, Fwd b (f b s)) → b + (altC f e b l).length ≤ e → Fwd b (altC f e b l)
  | [], b, _, _ => fwd_nil b
  | [s], b, h, _ => h s (by simp) b
  | s :: t :: r, b, h, he => by
    simp only [altC, List.length_cons, List.length_append] at he
    refine fwd_cons (fun t e => by cases e) (fun y z e => by cases e; omega) (fwd_app (h s (by simp) _) (fwd_cons (fun t e2 => ?_) (fun y z e => by cases e) ?_))
    · cases e2
      omega
    · have e1 : b + 1 + (f (b + 1) s).length + 1 = b + 2 + (f (b + 1) s).length := by omega
      rw [e1]
      exact fwd_alt e (t :: r) _ (fun t ht => h t (by simp at ht; simp; exact .inr ht)) (by omega)
end
theorem goes_up {P : List Ins} (hF : Fwd 0 P) {n p q : Nat} {u : List Int} (h : Goes P n p u q) : p ≤ q := by
  induction h with
  | here p => exact Nat.le_refl _
  | jp e _ ih => have := hF.j _ _ e; omega
  | spa e _ ih => have := hF.s _ _ _ e; omega
  | spb e _ ih => have := hF.s _ _ _ e; omega
  | rg _ _ _ _ ih => omega

abbrev Plcs := List (Nat × (Int × Int))
/-- who is at a range within is in a piece -/
def Insd (P : List Ins) (b e : Nat) (L : Plcs) : Prop := ∀ n u k lo hi, Goes P n b u k → k < e → P[k]? = some (.rg lo hi) → ∃ x ∈ L, k = x.1 + u.length ∧ u.length < (sq x.2).length ∧ cvP (sq x.2) u
section
variable {P : List Ins}
theorem in_seq (hF : Fwd 0 P) : ∀ (l : List (Int × Int)) (b : Nat), Plc P b (l.map fun x => .rg x.1 x.2) → ∀ n u k, Goes P n b u k → k < b + l.length → k = b + u.length ∧ cvP l u
  | [], b, _, n, u, k, hg, hk => by have := goes_up hF hg; simp at hk; omega
  | p :: l, b, hp, n, u, k, hg, hk => by
    have h0 : P[b]? = some (.rg p.1 p.2) := hp.head
    cases hg with
    | here => exact ⟨by simp, trivial⟩
    | jp e => rw [h0] at e; cases e
    | spa e => rw [h0] at e; cases e
    | spb e => rw [h0] at e; cases e
    | @rg n _ q lo hi x u e h1 h2 hg =>
      rw [h0] at e
      cases e
      have := in_seq hF l (b + 1) (hp.tail rfl) n u k hg (by simp at hk; omega)
      exact ⟨by simp; omega, ⟨h1, h2⟩, this.2⟩
theorem in_piece (hF : Fwd 0 P) (p : Int × Int) (b : Nat) (hp : Plc P b (pieceC b p)) : Insd P b (b + (pieceC b p).length) [(b, p)] := by
  intro n u k lo hi hg hk _
  have hl : (pieceC b p).length = (sq p).length := by simp [pieceC]
  rw [hl] at hk
  obtain ⟨h1, h2⟩ := in_seq hF (sq p) b hp n u k hg hk
  have h3 : u.length < (sq p).length := by omega
  exact ⟨(b, p), by simp, h1, h3, h2⟩
end
section
variable {α : Type} (g : Nat → α → Plcs) (f : Nat → α → List Ins)
/-- where they lie -/
def als : Nat → List α → Plcs
  | _, [] => []
  | b, [s] => g b s
  | b, s :: r => g (b + 1) s ++ als (b + 2 + (f (b + 1) s).length) r
end
section
variable {α : Type} {g : Nat → α → Plcs} {f : Nat → α → List Ins} {P : List Ins}
theorem in_alt (hF : Fwd 0 P) (X : α → Lg) (e : Nat) : ∀ (l : List α) (b : Nat), (∀ s ∈ l, ∀ b, Plc P b (f b s) → Insd P b (b + (f b s).length) (g b s)) → (∀ s ∈ l, ∀ b, Plc P b (f b s) → Frag P b (b + (f b s).length) (X s)) →
    b + (altC f e b l).length ≤ e → Plc P b (altC f e b l) → Insd P b (b + (altC f e b l).length) (als g f b l)
  | [], b, _, _, _, _ => fun n u k lo hi hg hk _ => by have := goes_up hF hg; simp [altC] at hk; omega
  | [s], b, h, _, _, hp => h s (by simp) b hp
  | s :: t :: r, b, h, hfr, he, hp => by
    simp only [altC, List.length_cons, List.length_append] at he hp ⊢
    have h0 := hp.head
    have hp1 := hp.tail rfl
    have h1 := h s (by simp) (b + 1) hp1.fst
    have f1 := hfr s (by simp) (b + 1) hp1.fst
    have hp2 := hp1.snd (b' := b + 1 + (f (b + 1) s).length) rfl
    have h2 := hp2.head
    have hp3 := hp2.tail (b' := b + 2 + (f (b + 1) s).length) (by omega)
    have ih := in_alt hF X e (t :: r) (b + 2 + (f (b + 1) s).length) (fun t ht => h t (by simp at ht; simp; exact .inr ht)) (fun t ht => hfr t (by simp at ht; simp; exact .inr ht)) (by omega) hp3
    intro n u k lo hi hg hk hr
    cases hg with
    | here => rw [h0] at hr; cases hr
    | jp e => rw [h0] at e; cases e
    | rg e => rw [h0] at e; cases e
    | @spa n _ a c q u e hg =>
      rw [h0] at e
      cases e
      have hup := goes_up hF hg
      by_cases hm : k < b + 1 + (f (b + 1) s).length
      · obtain ⟨x, hx, h3⟩ := h1 n u k lo hi hg hm hr
        exact ⟨x, by simp [als, hx], h3⟩
      · obtain ⟨u1, u2, n', rfl, -, -, hg2⟩ := f1.snd n u k hg (.inr (by omega))
        cases hg2 with
        | here => rw [h2] at hr; cases hr
        | spa e => rw [h2] at e; cases e
        | spb e => rw [h2] at e; cases e
        | rg e => rw [h2] at e; cases e
        | jp e hg3 =>
          rw [h2] at e
          cases e
          have := goes_up hF hg3
          omega
    | @spb n _ a c q u e hg =>
      rw [h0] at e
      cases e
      obtain ⟨x, hx, h3⟩ := ih n u k lo hi hg (by omega) hr
      exact ⟨x, by simp [als, hx], h3⟩
/-- they lie one behind the other -/
structure Lies (b e : Nat) (L : Plcs) : Prop where
  lo : ∀ x ∈ L, b ≤ x.1
  hi : ∀ x ∈ L, x.1 + (sq x.2).length ≤ e
  pw : L.Pairwise fun x y => x.1 + (sq x.2).length ≤ y.1
theorem lies_app {b e b' e' : Nat} {L M : Plcs} (h : Lies b e L) (h2 : Lies b' e' M) (he : e ≤ b') (hb : b ≤ b') (he' : e ≤ e') : Lies b e' (L ++ M) := by
  refine ⟨fun x hx => ?_, fun x hx => ?_, List.pairwise_append.2 ⟨h.pw, h2.pw, fun x hx y hy => ?_⟩⟩
  · rcases List.mem_append.1 hx with hx | hx
    · exact h.lo x hx
    · have := h2.lo x hx; omega
  · rcases List.mem_append.1 hx with hx | hx
    · have := h.hi x hx; omega
    · exact h2.hi x hx
  · have := h.hi x hx
    have := h2.lo y hy
    omega
theorem lies_alt (e : Nat) : ∀ (l : List α) (b : Nat), (∀ s ∈ l, ∀ b, Lies b (b + (f b s).length) (g b s)) → Lies b (b + (altC f e b l).length) (als g f b l)
  | [], b, _ => ⟨fun x hx => by simp [als] at hx, fun x hx => by simp [als] at hx, List.Pairwise.nil⟩
  | [s], b, h => h s (by simp) b
  | s :: t :: r, b, h => by
    have h1 := h s (by simp) (b + 1)
    have ih := lies_alt e (t :: r) (b + 2 + (f (b + 1) s).length) (fun t ht => h t (by simp at ht; simp; exact .inr ht))
    simp only [altC, List.length_cons, List.length_append]
    have := lies_app (b := b + 1) h1 ih (by omega) (by omega) (by omega)
    exact ⟨fun x hx => by have := this.lo x hx; omega, fun x hx => by have := this.hi x hx; omega, this.pw⟩
theorem als_map (G : α → List (Int × Int)) : ∀ (l : List α) (b : Nat), (∀ s ∈ l, ∀ b, (g b s).map (·.2) = G s) → (als g f b l).map (·.2) = l.flatMap G
  | [], b, _ => rfl
  | [s], b, h => by simpa [als] using h s (by simp) b
  | s :: t :: r, b, h => by
    have ih := als_map G (t :: r) (b + 2 + (f (b + 1) s).length) (fun t ht => h t (by simp at ht; simp; exact .inr ht))
    simp only [als, List.map_append, List.flatMap_cons] at ih ⊢
    rw [ih, h s (by simp)]
end
/-! a class -/
def inn (b : Nat) (q : Int × Int) : Plcs := als (fun b p => [(b, p)]) pieceC b (pieces q.1 q.2)
def outr (b : Nat) (ps : List (Int × Int)) : Plcs := als inn rangeC b ps
theorem inn_lies (b : Nat) (q : Int × Int) : Lies b (b + (rangeC b q).length) (inn b q) := by
  have hl := altE_len pieceC b (pieces q.1 q.2)
  unfold rangeC inn
  rw [hl]
  exact lies_alt 0 _ b (fun s hs b => ⟨by simp, by simp [pieceC], by simp⟩)
theorem outr_lies (b : Nat) (ps : List (Int × Int)) : Lies b (b + (clsC b ps).length) (outr b ps) := by
  have hl := altE_len rangeC b ps
  unfold clsC outr
  rw [hl]
  exact lies_alt 0 _ b (fun s hs b => inn_lies b s)
theorem inn_map (b : Nat) (q : Int × Int) : (inn b q).map (·.2) = pieces q.1 q.2 := by
  unfold inn
  rw [als_map (fun p => [p]) _ _ (fun s _ b => rfl)]
  simp
theorem outr_map (b : Nat) (ps : List (Int × Int)) : (outr b ps).map (·.2) = ps.flatMap fun q => pieces q.1 q.2 := by
  unfold outr
  exact als_map (fun q : Int × Int => pieces q.1 q.2) _ _ (fun s _ b => inn_map b s)
theorem fwd_range (b : Nat) (q : Int × Int) : Fwd b (rangeC b q) :=
  fwd_alt _ _ b (fun s _ b => fwd_rg _ b) (by rw [altC_len _ _ 0]; exact Nat.le_refl _)
theorem fwd_cls (b : Nat) (ps : List (Int × Int)) : Fwd b (clsC b ps) :=
  fwd_alt _ _ b (fun s _ b => fwd_range b s) (by rw [altC_len _ _ 0]; exact Nat.le_refl _)
section
variable {P : List Ins}
theorem in_range (hF : Fwd 0 P) (q : Int × Int) (h : q.1 ≤ q.2 ∧ q.2 ≤ 1114111 ∧ isL q.1 = true) (b : Nat) (hp : Plc P b (rangeC b q)) : Insd P b (b + (rangeC b q).length) (inn b q) := by
  have hin := pieces_in q.1 q.2
  exact in_alt hF (fun q => InR q.1 q.2) _ (pieces q.1 q.2) b (fun s _ b hb => in_piece hF s b hb) (fun s hs b hb => frag_piece s (hin s hs).2.2 (by have := (hin s hs).2.1; omega) b hb) (by rw [altC_len _ _ 0]; exact Nat.le_refl _) hp
theorem in_cls (hF : Fwd 0 P) (ps : List (Int × Int)) (h : ∀ q ∈ ps, q.1 ≤ q.2 ∧ q.2 ≤ 1114111 ∧ isL q.1 = true) (b : Nat) (hp : Plc P b (clsC b ps)) : Insd P b (b + (clsC b ps).length) (outr b ps) :=
  in_alt hF (fun q => InR q.1 q.2) _ ps b (fun s hs b hb => in_range hF s (h s hs) b hb) (fun s hs b hb => frag_range s (h s hs) b hb) (by rw [altC_len _ _ 0]; exact Nat.le_refl _) hp
end
/-! two texts that lead to one place -/
theorem pw_cases {α : Type} {R : α → α → Prop} : ∀ {l : List α}, l.Pairwise R → ∀ {x y : α}, x ∈ l → y ∈ l → x = y ∨ R x y ∨ R y x
  | [], _, _, _, hx, _ => by simp at hx
  | a :: l, h, x, y, hx, hy => by
    rw [List.pairwise_cons] at h
    rcases List.mem_cons.1 hx with e1 | hx1
    · rcases List.mem_cons.1 hy with e2 | hy1
      · exact .inl (e1.trans e2.symm)
      · exact .inr (.inl (e1 ▸ h.1 y hy1))
    · rcases List.mem_cons.1 hy with e2 | hy1
      · exact .inr (.inr (e2 ▸ h.1 x hx1))
      · exact pw_cases h.2 hx1 hy1
theorem single {k : Nat} : ∀ {l : List Nat}, l.Nodup → k ∈ l → (∀ j ∈ l, j = k) → l = [k]
  | [], _, h, _ => by simp at h
  | [a], _, _, h => by rw [h a (by simp)]
  | a :: c :: l, hn, _, h => by
    have h1 := h a (by simp)
    have h2 := h c (by simp)
    rw [List.nodup_cons] at hn
    exact absurd (by rw [h1, h2]; simp) hn.1
theorem sq_len1 (p : Int × Int) (h : Pc p) : 1 ≤ (sq p).length := by
  unfold sq
  split
  · simp
  · rw [List.length_zip]
    have := (ub_len p.1).1
    have := (ub_len p.2).1
    omega
structure ClsP (P : List Ins) (L : Plcs) (E : Nat) : Prop where
  snd : Snd P
  pos : 0 < P.length
  ins : ∀ u k, Road P 0 u k → rmB P[k]? = true → (k = E ∧ ∃ x ∈ L, cvP (sq x.2) u ∧ u.length = (sq x.2).length) ∨ ∃ x ∈ L, k = x.1 + u.length ∧ u.length < (sq x.2).length ∧ cvP (sq x.2) u
  lies : Lies 0 E L
  pw : L.Pairwise fun x y => x.2.2 < y.2.1
  pc : ∀ x ∈ L, Pc x.2 ∧ x.2.2 ≤ 1114111
section
variable {P : List Ins} {L : Plcs} {E : Nat}
theorem ClsP.apart (H : ClsP P L E) {x y : Nat × (Int × Int)} (hx : x ∈ L) (hy : y ∈ L) (hne : x ≠ y) (u : List Int) (hu : u ≠ []) (h1 : cvP (sq x.2) u) (h2 : cvP (sq y.2) u) : AptB (sq x.2) (sq y.2) u := by
  rcases pw_cases H.pw hx hy with h | h | h
  · exact absurd h hne
  · exact pc_apart (H.pc x hx).1 (H.pc y hy).1 h (H.pc y hy).2 u hu h1 h2
  · have := pc_apart (H.pc y hy).1 (H.pc x hx).1 h (H.pc x hx).2 u hu h2 h1
    exact ⟨this.l2, this.l1, this.o2, this.o1⟩
theorem ClsP.at (H : ClsP P L E) {u : List Int} {k : Nat} (h : k ∈ pth P u) : (k = E ∧ ∃ x ∈ L, cvP (sq x.2) u ∧ u.length = (sq x.2).length) ∨ ∃ x ∈ L, k = x.1 + u.length ∧ u.length < (sq x.2).length ∧ cvP (sq x.2) u := by
  have := ((pth_mem H.snd H.pos u).2 k).1 h
  exact H.ins u k this.1 this.2
theorem ClsP.end_alone (H : ClsP P L E) {u : List Int} (h : E ∈ pth P u) : pth P u = [E] := by
  have hp := pth_mem H.snd H.pos u
  refine single hp.1.nd h fun j hj => ?_
  rcases H.at h with ⟨-, x, hx, hc, hl⟩ | ⟨x, hx, he, hl, -⟩
  · rcases H.at hj with ⟨rfl, -⟩ | ⟨y, hy, hj1, hj2, hj3⟩
    · rfl
    · have hne : x ≠ y := fun e => by subst e; omega
      by_cases hu : u = []
      · subst hu
        have := sq_len1 x.2 (H.pc x hx).1
        simp at hl
        omega
      · have := (H.apart hx hy hne u hu hc hj3).l1
        omega
  · have := H.lies.hi x hx
    omega
theorem ClsP.alone (H : ClsP P L E) {u v : List Int} {x : Nat × (Int × Int)} (hx : x ∈ L) (hl : v.length = u.length) (hne : u ≠ v) (h1 : cvP (sq x.2) u) (h2 : cvP (sq x.2) v) (hlt : u.length < (sq x.2).length) (h : x.1 + u.length ∈ pth P u) : pth P u = [x.1 + u.length] := by
  have hp := pth_mem H.snd H.pos u
  have hu : u ≠ [] := fun e => by
    subst e
    simp at hl
    exact hne hl.symm
  refine single hp.1.nd h fun j hj => ?_
  rcases H.at hj with ⟨rfl, y, hy, hc, hl2⟩ | ⟨y, hy, hj1, hj2, hj3⟩
  · have hxy : x ≠ y := fun e => by subst e; omega
    exact absurd ((H.apart hx hy hxy u hu h1 hc).o1 v h2 hl).symm hne
  · by_cases hxy : x = y
    · subst hxy
      exact hj1
    · exact absurd ((H.apart hx hy hxy u hu h1 hj3).o1 v h2 hl).symm hne
theorem ClsP.same (H : ClsP P L E) {u v : List Int} {k : Nat} (h1 : k ∈ pth P u) (h2 : k ∈ pth P v) : pth P u = pth P v := by
  by_cases hk : k = E
  · subst hk
    rw [H.end_alone h1, H.end_alone h2]
  · rcases H.at h1 with ⟨e, -⟩ | ⟨x, hx, a1, a2, a3⟩
    · exact absurd e hk
    rcases H.at h2 with ⟨e, -⟩ | ⟨y, hy, b1, b2, b3⟩
    · exact absurd e hk
    have hxy : x = y := by
      rcases pw_cases H.lies.pw hx hy with h | h | h
      · exact h
      · omega
      · omega
    subst hxy
    have hl : v.length = u.length := by omega
    by_cases hne : u = v
    · rw [hne]
    · have e1 := H.alone hx hl hne a3 b3 a2 (a1 ▸ h1)
      have e2 := H.alone hx hl.symm (Ne.symm hne) b3 a3 b2 (b1 ▸ h2)
      rw [e1, e2, hl]
end
/-- states that are told by one of their places: no more than there are places -/
theorem few_told {P : List Ins} (hS : Snd P) (hP : 0 < P.length) (h : ∀ u v k, k ∈ pth P u → k ∈ pth P v → pth P u = pth P v) (hl : P.length ≤ 9000) : ¬ Many P := by
  rintro ⟨l, h1, h2, h3⟩
  have key : ∀ x ∈ l, ∀ y ∈ l, (match x with | [] => 0 | k :: _ => k + 1) = (match y with | [] => 0 | k :: _ => k + 1) → x = y := by
    intro x hx y hy e
    rcases h3 x hx with rfl | ⟨u, -, hu⟩
    · cases y with
      | nil => rfl
      | cons k y => simp at e
    · rcases h3 y hy with rfl | ⟨v, -, hv⟩
      · cases x with
        | nil => rfl
        | cons k x => simp at e
      · cases x with
        | nil =>
          cases y with
          | nil => rfl
          | cons k y => simp at e
        | cons k x =>
          cases y with
          | nil => simp at e
          | cons j y =>
            simp at e
            subst e
            rw [hu, hv]
            exact h u v k (by rw [← hu]; simp) (by rw [← hv]; simp)
  have hn : (l.map fun x => match x with | [] => 0 | k :: _ => k + 1).Nodup := by
    unfold List.Nodup
    rw [List.pairwise_map]
    exact List.Pairwise.imp_of_mem (fun ha hb hne e => hne (key _ ha _ hb e)) h1
  have := nodup_below (P.length + 1) _ hn (fun i hi => by
    obtain ⟨x, hx, rfl⟩ := List.mem_map.1 hi
    rcases h3 x hx with rfl | ⟨u, -, rfl⟩
    · simp
    · have hp := (pth_mem hS hP u).1.lt
      match hq : pth P u with
      | [] => simp
      | k :: r =>
        simp only
        have := hp k (by rw [hq]; simp)
        omega)
  rw [List.length_map] at this
  omega
end Go.Proofs.YtbkpgfccghombaaDoor.rx

/-! A class: its automaton is not refused, and matches just the bytes of its runes. Plain. Conditions: as stated. -/
namespace Go.Proofs.YtbkpgfccghombaaDoor.rx
set_option linter.unusedVariables false

section
variable {P : List Ins}
theorem cls_told (l : List Int) (h : okPairs l) (hpw : (pairs l).Pairwise fun p q => p.2 < q.1) (hs : Snd (clsC 0 (pairs l) ++ [.mt])) : ClsP (clsC 0 (pairs l) ++ [.mt]) (outr 0 (pairs l)) (clsC 0 (pairs l)).length := by
  have hplc : Plc (clsC 0 (pairs l) ++ [Ins.mt]) 0 (clsC 0 (pairs l)) := fun i hi => by rw [Nat.zero_add, List.getElem?_append_left hi]
  have hF : Fwd 0 (clsC 0 (pairs l) ++ [Ins.mt]) := fwd_app (fwd_cls 0 _) (fwd_cons (fun t e => by cases e) (fun y z e => by cases e) (fwd_nil _))
  have F := (frag_cls l h 0 hplc).1
  rw [Nat.zero_add] at F
  have hE : (clsC 0 (pairs l) ++ [Ins.mt])[(clsC 0 (pairs l)).length]? = some .mt := by simp
  have hmem : ∀ q ∈ pairs l, ∀ p ∈ pieces q.1 q.2, ∃ x ∈ outr 0 (pairs l), x.2 = p := fun q hq p hp => by
    have : p ∈ (outr 0 (pairs l)).map (·.2) := by
      rw [outr_map]
      exact List.mem_flatMap.2 ⟨q, hq, hp⟩
    obtain ⟨x, hx, hxp⟩ := List.mem_map.1 this
    exact ⟨x, hx, hxp⟩
  have hback : ∀ x ∈ outr 0 (pairs l), ∃ q ∈ pairs l, x.2 ∈ pieces q.1 q.2 := fun x hx => by
    have : x.2 ∈ (outr 0 (pairs l)).map (·.2) := List.mem_map.2 ⟨x, hx, rfl⟩
    rw [outr_map] at this
    exact List.mem_flatMap.1 this
  refine ⟨hs, by simp, fun u k hr hm => ?_, ?_, ?_, fun x hx => ?_⟩
  · have hlt : k < (clsC 0 (pairs l)).length + 1 := by
      have hn : (clsC 0 (pairs l) ++ [Ins.mt])[k]? ≠ none := fun e => by rw [e] at hm; cases hm
      by_cases hc : k < (clsC 0 (pairs l)).length + 1
      · exact hc
      · exact absurd (List.getElem?_eq_none (by simp; omega)) hn
    by_cases hk : k = (clsC 0 (pairs l)).length
    · refine .inl ⟨hk, ?_⟩
      subst hk
      obtain ⟨q, hq, r, h1, h2, h3, h4⟩ := (frag_match F hE u).1 hr
      obtain ⟨p, hp, h5⟩ := pieces_all q.1 q.2 r h1 h2 h3 (of_decide_eq_true (h.2.2 q hq).2.2).1
      obtain ⟨x, hx, rfl⟩ := hmem q hq p hp
      have hin := pieces_in q.1 q.2 x.2 hp
      have hc := (sq_cov x.2 hin.2.2 (by have := (h.2.2 q hq).2.1; have := hin.2.1; omega) u).2 ⟨r, h1, h5.1, h5.2, h4⟩
      exact ⟨x, hx, cvP_of _ u hc⟩
    · rcases (rmB_iff _).1 hm with hm | ⟨lo, hi, hm⟩
      · exact absurd hm (F.nmt k (Nat.zero_le _) (by omega))
      · obtain ⟨n, hg⟩ := hr
        obtain ⟨x, hx, h1⟩ := in_cls hF (pairs l) h.2.2 0 hplc n u k lo hi hg (by omega) hm
        exact .inr ⟨x, hx, h1⟩
  · have := outr_lies 0 (pairs l)
    rw [Nat.zero_add] at this
    exact this
  · have hp : ((outr 0 (pairs l)).map (·.2)).Pairwise fun p q => p.2 < q.1 := by
      rw [outr_map, List.pairwise_flatMap]
      refine ⟨fun q _ => pieces_rise q.1 q.2, hpw.imp fun {p q} hlt x hx y hy => ?_⟩
      have h1 := pieces_in p.1 p.2 x hx
      have h2 := pieces_in q.1 q.2 y hy
      omega
    rw [List.pairwise_map] at hp
    exact hp
  · obtain ⟨q, hq, hp⟩ := hback x hx
    have := pieces_in q.1 q.2 x.2 hp
    have h1 := (h.2.2 q hq).2.1
    exact ⟨this.2.2, by omega⟩
end
/-- a class -/
structure IsCls (op : Nat) (rs : List Int) : Prop where
  c : op = 4 ∧ rs.length ≤ 8 ∧ okPairs rs ∨ (op = 5 ∨ op = 6) ∧ rs = []
  pw : (pairs (rngs op rs)).Pairwise fun p q => p.2 < q.1
section
variable {op : Nat} {rs : List Int}
theorem IsCls.wf (h : IsCls op rs) (mn mx : Int) : wf 3 1 (.nd op rs mn mx []) := .inr (.inr (.inl ⟨h.c, rfl⟩))
theorem IsCls.o456 (h : IsCls op rs) : op = 4 ∨ op = 5 ∨ op = 6 := by rcases h.c with ⟨h, -⟩ | ⟨h, -⟩ <;> omega
theorem IsCls.ok (h : IsCls op rs) : okPairs (rngs op rs) := rngs_ok (by rcases h.c with ⟨h1, -, h2⟩ | ⟨h1, -⟩; exact .inl ⟨h1, h2⟩; exact .inr h1)
theorem IsCls.len (h : IsCls op rs) : (rngs op rs).length ≤ 8 := by
  rcases h.c with ⟨rfl, h, -⟩ | ⟨rfl | rfl, rfl⟩
  · exact h
  · decide
  · decide
theorem cls_prg (h : IsCls op rs) (mn mx : Int) : prg 1 (.nd op rs mn mx []) = clsC 0 (pairs (rngs op rs)) ++ [.mt] := by
  have hop := h.o456
  unfold prg
  simp only [comp]
  rw [if_neg (by omega), if_neg (by omega), if_pos hop]
theorem cls_lang (h : IsCls op rs) (mn mx : Int) : lang 1 (.nd op rs mn mx []) = clsL (pairs (rngs op rs)) := by
  have hop := h.o456
  simp only [lang]
  rw [if_neg (by omega), if_neg (by omega), if_pos hop]
/-- a class is not refused -/
theorem cls_fine (h : IsCls op rs) (mn mx : Int) : Fine 1 (.nd op rs mn mx []) := by
  have hop := h.o456
  refine ⟨?_, ?_⟩
  · unfold fits
    rw [if_pos (by omega)]
    trivial
  · have hs := prg_snd (h.wf mn mx)
    rw [cls_prg h] at hs ⊢
    have H := cls_told (rngs op rs) h.ok h.pw hs
    refine few_told hs H.pos (fun u v k h1 h2 => H.same h1 h2) ?_
    have := cls_few (rngs op rs) h.len 0
    rw [List.length_append]
    simp
    omega
/-- it matches just the runes of its pairs -/
theorem cls_mat (h : IsCls op rs) (mn mx : Int) (c : Int) (hc : isL c = true) : mtQ (prg 1 (.nd op rs mn mx [])) (ub c) = true ↔ ∃ p ∈ pairs (rngs op rs), p.1 ≤ c ∧ c ≤ p.2 := by
  rw [mtQ_iff (h.wf mn mx), cls_lang h]
  have h0 := (of_decide_eq_true hc).1
  constructor
  · rintro ⟨p, hp, r, h1, h2, h3, h4⟩
    obtain rfl := ub_inj c r h0 (of_decide_eq_true h1).1 h4
    exact ⟨p, hp, h2, h3⟩
  · rintro ⟨p, hp, h1, h2⟩
    exact ⟨p, hp, c, hc, h1, h2, rfl⟩
end
/-! the law's three classes -/
theorem isCls_any : IsCls 6 [] := ⟨.inr ⟨.inr rfl, rfl⟩, by decide⟩
theorem isCls_line : IsCls 5 [] := ⟨.inr ⟨.inl rfl, rfl⟩, by decide⟩
/-- pairs that rise -/
structure Rise (out : List Int) : Prop where
  ok : okSome out
  pw : (pairs out).Pairwise fun p q => p.2 < q.1
  last : ∀ p ∈ pairs out, p.2 ≤ out.getLastD 0
theorem rise_nil : Rise [] := ⟨⟨rfl, by simp [pairs]⟩, by simp [pairs], by simp [pairs]⟩
theorem prS_rise {out : List Int} (h : Rise out) (p : Int × Int) : Rise (prS out p) := by
  have hk := prS_ok h.ok p
  unfold prS at hk ⊢
  simp only at hk ⊢
  split
  · exact h
  · rename_i hc
    rw [if_neg hc] at hk
    have e := pairs_snoc _ out (min (ltr p.1) (ltr p.2)) (max (ltr p.1) (ltr p.2)) h.ok.1
    have hlast : ∀ q ∈ pairs out, q.2 < min (ltr p.1) (ltr p.2) := fun q hq => by
      have h1 := h.last q hq
      by_cases hn : out = []
      · subst hn
        simp [pairs] at hq
      · have : ¬ min (ltr p.1) (ltr p.2) ≤ out.getLastD 0 + 1 := fun e => hc ⟨hn, e⟩
        omega
    refine ⟨hk, ?_, fun q hq => ?_⟩
    · rw [e, List.pairwise_append]
      refine ⟨h.pw, by simp, fun q hq x hx => ?_⟩
      simp at hx
      subst hx
      exact hlast q hq
    · rw [e] at hq
      have e2 : (out ++ [min (ltr p.1) (ltr p.2), max (ltr p.1) (ltr p.2)]).getLastD 0 = max (ltr p.1) (ltr p.2) := by
        rw [show out ++ [min (ltr p.1) (ltr p.2), max (ltr p.1) (ltr p.2)] = (out ++ [min (ltr p.1) (ltr p.2)]) ++ [max (ltr p.1) (ltr p.2)] by simp]
        simp
      rw [e2]
      rcases List.mem_append.1 hq with hq | hq
      · have := hlast q hq
        omega
      · simp at hq
        subst hq
        simp
theorem Prs_cls (l : List Int) : IsCls 4 (Prs l) := by
  obtain ⟨h1, h2⟩ := Prs_ok l
  refine ⟨.inl ⟨rfl, h2, h1⟩, ?_⟩
  show (pairs (Prs l)).Pairwise _
  have h3 : ∀ (ps : List (Int × Int)) (out : List Int), Rise out → Rise (ps.foldl prS out) := by
    intro ps
    induction ps with
    | nil => exact fun _ h => h
    | cons p r ih => exact fun out h => ih _ (prS_rise h p)
  unfold Prs
  split
  · decide
  · exact (h3 _ [] rise_nil).pw
end Go.Proofs.YtbkpgfccghombaaDoor.rx

/-! FnRegexClass: the law's walk. Conditions: the listed variables. -/
namespace Go.Proofs.YtbkpgfccghombaaDoor.rx
open Go.ChangeShapes Go.WideShapes Go.ChangeAt Go.RowKit
set_option linter.unusedVariables false
set_option linter.unusedSimpArgs false

/-- whether a rune is in pairs -/
def inB (ps : List (Int × Int)) (r : Int) : Bool := ps.any fun p => decide (p.1 ≤ r ∧ r ≤ p.2)
theorem inB_take (l : List Int) (r : Int) (m : Nat) (h : 2 * m + 1 < l.length) : inB ((pairs l).take (m + 1)) r = (inB ((pairs l).take m) r || decide (l[2 * m] ≤ r ∧ r ≤ l[2 * m + 1])) := by
  rw [List.take_add_one, pairs_at l m h]
  simp [inB]
theorem ub_okB (r : Int) (hr : isL r = true) : okB (ub r) := ub_bd r (of_decide_eq_true hr).1 (of_decide_eq_true hr).2.1
/-- what is told of a class -/
theorem word_cls {m : Nat} (hm : m ≤ 1000) {a0 a1 a2 a3 a4 : Addr} {op : Nat} {rs : List Int} (h : IsCls op rs) {o : Int} {n : Nat} (ho : o = op) (hn : n = rs.length) (b : Bool) (r : Int) (hr : isL r = true) (hb : inB (pairs (rngs op rs)) r = b) (ra : Option Addr) (rc : Nat) (w : World) (hs : Sl w w.heap.size ra (rs.map (.int .i32))) (hA : LaidAll w a0 a1 a2 a3 a4) :
    Calls Tryd.prog 22 #[.agg #[.int .i64 o, .slice ra n rc, .int .i64 0, .int .i64 0, .bool false, .bool false, .slice none 0 0], .string (stB (ub r))] w fun e w' => e = .returned (.tuple #[.bool b, .bool true]) ∧ Below w.heap.size w w' := by
  subst ho hn
  have hR : RgC w w.heap.size 1 (.nd op rs 0 0 []) [.int .i64 op, .slice ra rs.length rc, .int .i64 0, .int .i64 0, .bool false, .bool false, .slice none 0 0] :=
    ⟨ra, rc, none, 0, [], rfl, hs, rfl, by simp, Sl.nil, by simp⟩
  have hl : (comp 1 0 (.nd op rs 0 0 [])).length ≤ 900000000000 := by
    have hop := h.o456
    simp only [comp]
    rw [if_neg (by omega), if_neg (by omega), if_pos hop]
    exact Nat.le_trans (cls_few _ h.len 0) (by omega)
  have hul := (ub_len r).2
  have hz := stB_size (ub r)
  refine (word_any hm (.nd op rs 0 0 []) _ (stB (ub r)) (by omega) w hR (h.wf 0 0) hl hA).mono ?_
  rintro e w' ⟨h1, ⟨-, rfl⟩ | ⟨hf, -⟩⟩
  · rw [byL_stB _ (ub_okB r hr)]
    refine ⟨?_, h1⟩
    have e : mtQ (prg 1 (.nd op rs 0 0 [])) (ub r) = b := by
      rw [← hb, Bool.eq_iff_iff, cls_mat h 0 0 r hr]
      simp [inB]
    rw [e]
  · exact absurd (cls_fine h 0 0) hf
set_option maxRecDepth 100000 in
theorem encd_bad (r : Int) (w : World) (hr : isL r = false) : Calls Tryd.prog 21 #[.int .i32 r] w fun e w' => e = .returned (.string ⟨#[]⟩) ∧ w = w' := by
  have CV := Lib.hid (fun W => valid_any r W)
  rw [hr] at CV
  clear hr
  go_enter Tryd.func21, Tryd.ntmps21
  go_wp2_with (go_at_call 39; refine (CV.out _).mono ?_; rintro e w1 ⟨rfl, rfl⟩)
  go_ret
  exact ⟨rfl, rfl⟩
theorem line_in (r : Int) (h0 : 0 ≤ r) (h1 : r ≤ 1114111) : inB (pairs (rngs 5 [])) r = !decide (r = 10) := by
  show inB [(0, 9), (11, 1114111)] r = _
  rw [Bool.eq_iff_iff]
  simp [inB]
  omega
theorem any_in (r : Int) (h0 : 0 ≤ r) (h1 : r ≤ 1114111) : inB (pairs (rngs 6 [])) r = true := by
  show inB [(0, 1114111)] r = _
  simp [inB]
  omega
set_option maxRecDepth 100000 in
set_option maxHeartbeats 1600000 in
theorem class_walk (a : Option Addr) (c : Nat) (l : List Int) (r : Int) (W : World) {a0 a1 a2 a3 a4 : Addr} (hs : Sl W W.heap.size a (l.map (.int .i32))) (hn : l.length ≤ 9223372036854775807) (hb : ∀ x ∈ l, -2147483648 ≤ x ∧ x ≤ 2147483647) (hA : LaidAll W a0 a1 a2 a3 a4) :
    Calls Tryd.prog 5 #[.slice a l.length c, .int .i32 r] W fun e w' => e = .returned (.bool true) ∧ Below W.heap.size W w' := by
  by_cases k1 : (2147483647 : Int) < (l.length : Int)
  · go_enter Tryd.func5, Tryd.ntmps5
    go_wp2_with fail
    go_ret
    exact ⟨rfl, Below.refl _ _⟩
  by_cases k2 : (65536 : Int) < (l.length : Int)
  · go_enter Tryd.func5, Tryd.ntmps5
    go_wp2_with fail
    go_ret
    exact ⟨rfl, Below.refl _ _⟩
  have CP := Lib.hid (prs_any a c l W hs hn hb)
  have HA := Lib.hid hA
  clear hs hb hA
  by_cases hr : isL r = false
  · have CE := Lib.hid (fun w => encd_bad r w hr)
    clear hr
    go_enter Tryd.func5, Tryd.ntmps5
    go_wp2_with (first | (go_at_call 20; refine CP.out.mono ?_; rintro e w2 ⟨a2, c2, rfl, h2, h3⟩; have HB2 := Lib.hid h3; clear h2 h3 CP) | (go_at_call 21; refine (CE.out _).mono ?_; rintro e w3 ⟨rfl, rfl⟩) | fail)
    go_ret
    exact ⟨rfl, HB2.out⟩
  have hr : isL r = true := by simpa using hr
  have CE := Lib.hid (fun w => encd_any r w hr)
  obtain ⟨r0, r1, -⟩ := of_decide_eq_true hr
  obtain ⟨hcl⟩ : Nonempty (Hid (IsCls 4 (Prs l))) := ⟨Lib.hid (Prs_cls l)⟩
  have HLEN := Lib.hid (Prs_ok l).1.2.1
  have hlen8 := (Prs_ok l).2
  have HU := Lib.hid (ub_len r)
  have hz := stB_size (ub r)
  have hne : (stB (ub r)).toList.isEmpty = false := by
    rw [ByteArray.toList_eq]
    cases hl : (stB (ub r)).data.toList with
    | nil =>
      have h3 : (stB (ub r)).size = 0 := by rw [← ByteArray.size_data, ← Array.length_toList, hl]; rfl
      have h4 := HU.out.1
      omega
    | cons _ _ => rfl
  have HR := Lib.hid hr
  have CW1 := Lib.hid (fun (b : Bool) (hb : inB (pairs (Prs l)) r = b) (ra : Option Addr) (rc : Nat) (w : World) (hs : Sl w w.heap.size ra ((Prs l).map (.int .i32))) (hA : LaidAll w a0 a1 a2 a3 a4) => word_cls (m := 3) (by omega) (o := 4) (n := (Prs l).length) hcl.out rfl rfl b r hr hb ra rc w hs hA)
  have CW2 := Lib.hid (fun (w : World) (hA : LaidAll w a0 a1 a2 a3 a4) => word_cls (m := 3) (by omega) (o := 6) (n := 0) isCls_any rfl rfl true r hr (any_in r r0 r1) none 0 w Sl.nil hA)
  have CW3 := Lib.hid (fun (w : World) (hA : LaidAll w a0 a1 a2 a3 a4) => word_cls (m := 3) (by omega) (o := 5) (n := 0) isCls_line rfl rfl (!decide (r = 10)) r hr (line_in r r0 r1) none 0 w Sl.nil hA)
  generalize hPrs : Prs l = p at *
  generalize stB (ub r) = u at *
  clear hPrs hr hz
  go_enter Tryd.func5, Tryd.ntmps5
  go_wp2_with (first | (go_at_call 20; refine CP.out.mono ?_; rintro e w2 ⟨a2, c2, rfl, h2, h3⟩; have HB2 := Lib.hid h3; have HS2 := Lib.hid h2.toSl; clear h2 h3 CP) | (go_at_call 21; refine (CE.out _).mono ?_; rintro e w3 ⟨rfl, h3⟩; have HB3 := Lib.hid (HB2.out.trans (h3.mono HB2.out.size)); have HS3 := Lib.hid ((HS2.out.below h3).more h3.size); clear h3 CE HS2 HB2) | fail)
  go_loopw [7, 8] (fun v7 v8 wr => ∃ (m q : Nat) (b : Bool), v8 = .int .i64 (q : Int) ∧ v7 = .bool b ∧ q ≤ p.length ∧ Hid (q = 2 * m ∧ b = inB ((pairs p).take m) r ∧ Below W.heap.size W wr ∧ Sl wr wr.heap.size (some a2) (p.map (.int .i32)))) (fun _ v8 _ => 10 - (intOf v8).toNat)
  case atStart => exact ⟨0, 0, false, rfl, rfl, by omega, Lib.hid ⟨rfl, rfl, HB3.out, HS3.out⟩⟩
  case round =>
    obtain ⟨m, q, b, rfl, rfl, hq, H1⟩ := hrel
    by_cases hlt : q + 1 < p.length
    · have hlt1 : q < p.length := by omega
      obtain ⟨ad, had, -, hc⟩ := rune_at H1.out.2.2.2 q hlt1
      injection had with had
      subst had
      obtain ⟨ad2, had, -, hc2⟩ := rune_at H1.out.2.2.2 (q + 1) hlt
      injection had with had
      subst had
      have hc2 := cell_next hc2
      have HT := Lib.hid (show inB ((pairs p).take (m + 1)) r = (b || decide (p[q] ≤ r ∧ r ≤ p[q + 1])) from by
        have e := H1.out.1
        subst e
        rw [inB_take p r m hlt, ← H1.out.2.1])
      generalize p[q] = x at *
      generalize p[q + 1] = y at *
      have hlt2 : (q : Int) + 1 < (p.length : Int) := by omega
      have hlt3 : (0 : Int) ≤ (q : Int) + 1 := by omega
      clear hne
      rcases b with _ | _
      · by_cases hx : x ≤ r
        · by_cases hy : r ≤ y
          · go_wp2
            go_roundw
            case rel => exact ⟨m + 1, q + 2, true, by go_num, rfl, by omega, Lib.hid ⟨by have := H1.out.1; omega, by rw [HT.out]; simp [hx, hy], H1.out.2.2.1, H1.out.2.2.2⟩⟩
            case measure => simp [intOf]; omega
          · go_wp2
            go_roundw
            case rel => exact ⟨m + 1, q + 2, false, by go_num, rfl, by omega, Lib.hid ⟨by have := H1.out.1; omega, by rw [HT.out]; simp [hx, hy], H1.out.2.2.1, H1.out.2.2.2⟩⟩
            case measure => simp [intOf]; omega
        · go_wp2
          go_roundw
          case rel => exact ⟨m + 1, q + 2, false, by go_num, rfl, by omega, Lib.hid ⟨by have := H1.out.1; omega, by rw [HT.out]; simp [hx], H1.out.2.2.1, H1.out.2.2.2⟩⟩
          case measure => simp [intOf]; omega
      · go_wp2
        go_roundw
        case rel => exact ⟨m + 1, q + 2, true, by go_num, rfl, by omega, Lib.hid ⟨by have := H1.out.1; omega, by rw [HT.out]; simp [], H1.out.2.2.1, H1.out.2.2.2⟩⟩
        case measure => simp [intOf]; omega
    · obtain rfl : q = p.length := by have := H1.out.1; have := HLEN.out; omega
      have HI := Lib.hid (show inB (pairs p) r = b from by
        have h1 := H1.out.2.1
        have h2 := H1.out.1
        have h3 := HLEN.out
        rw [List.take_of_length_le (by omega)] at h1
        exact h1.symm)
      have HB4 := Lib.hid H1.out.2.2.1
      have HS4 := Lib.hid H1.out.2.2.2
      have C1 := Lib.hid (CW1.out b HI.out (some a2) c2 wr HS4.out (HA.out.below HB4.out))
      clear H1 HI CW1 hlt
      have hr10 : r = 10 ∨ r ≠ 10 := by omega
      rcases hr10 with rfl | h10
      · simp only [decide_true, Bool.not_true] at CW3
        go_wp2_with (first | (go_at_call 22; refine C1.out.mono ?_; rintro e w5 ⟨rfl, h5⟩; have HB5 := Lib.hid (HB4.out.trans (h5.mono HB4.out.size)); have C2 := Lib.hid (CW2.out w5 (HA.out.below HB5.out)); clear C1 h5) | (go_at_call 22; refine C2.out.mono ?_; rintro e w6 ⟨rfl, h6⟩; have HB6 := Lib.hid (HB5.out.trans (h6.mono HB5.out.size)); have C3 := Lib.hid (CW3.out w6 (HA.out.below HB6.out)); clear C2 h6) | (go_at_call 22; refine C3.out.mono ?_; rintro e w7 ⟨rfl, h7⟩; have HB7 := Lib.hid (HB6.out.trans (h7.mono HB6.out.size)); clear C3 h7) | fail)
        go_ret
        exact ⟨rfl, HB7.out⟩
      · have hd10 : decide (r = 10) = false := decide_eq_false h10
        have hb10 : (r == 10) = false := beq_eq_false_iff_ne.2 h10
        have hn10 : (r != 10) = true := by simpa using h10
        simp only [hd10, Bool.not_false] at CW3
        go_wp2_with (first | (go_at_call 22; refine C1.out.mono ?_; rintro e w5 ⟨rfl, h5⟩; have HB5 := Lib.hid (HB4.out.trans (h5.mono HB4.out.size)); have C2 := Lib.hid (CW2.out w5 (HA.out.below HB5.out)); clear C1 h5) | (go_at_call 22; refine C2.out.mono ?_; rintro e w6 ⟨rfl, h6⟩; have HB6 := Lib.hid (HB5.out.trans (h6.mono HB5.out.size)); have C3 := Lib.hid (CW3.out w6 (HA.out.below HB6.out)); clear C2 h6) | (go_at_call 22; refine C3.out.mono ?_; rintro e w7 ⟨rfl, h7⟩; have HB7 := Lib.hid (HB6.out.trans (h7.mono HB6.out.size)); clear C3 h7) | fail)
        go_ret
        exact ⟨rfl, HB7.out⟩
end Go.Proofs.YtbkpgfccghombaaDoor.rx
