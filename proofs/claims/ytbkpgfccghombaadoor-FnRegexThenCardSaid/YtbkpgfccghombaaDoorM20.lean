/-
  Parts of the proof in one text: Ins, Va, Wp, Vb, Ru, Rv. Conditions: as each states.
-/
import Derived.Test.YtbkpgfccghombaaDoorM04
import Derived.Test.YtbkpgfccghombaaDoorM16
import Derived.Test.YtbkpgfccghombaaDoorM10
import Derived.Test.YtbkpgfccghombaaDoorM08
import Derived.Test.YtbkpgfccghombaaDoorM09
import Derived.Deep.LoopGhost
import Derived.Deep.DeepCutAuto
import Derived.BigQuiet
/-! A program's instructions in memory. Conditions: none. -/
namespace Go.Proofs.YtbkpgfccghombaaDoor.rx
open Go.ChangeShapes Go.WideShapes Go.ChangeAt Go.RowKit
set_option linter.unusedVariables false
set_option linter.unusedSimpArgs false

/-- numbers -/
def natsU (l : List Nat) : List Value := l.map fun (k : Nat) => Value.int .u64 k
theorem natsU_at (l : List Nat) (k : Nat) (h : k < l.length) : (natsU l)[k]? = some (.int .u64 l[k]) := by simp [natsU, List.getElem?_eq_getElem h]
theorem flat6 : ∀ (P : List Ins) (i j : Nat) (hi : i < P.length), j < 6 → (P.flatMap insC)[i * 6 + j]? = (insC P[i])[j]?
  | x :: P, 0, j, _, hj => by
    rw [List.flatMap_cons, Nat.zero_mul, Nat.zero_add, List.getElem?_append_left (by rw [insC_len]; exact hj)]
    rfl
  | x :: P, i + 1, j, hi, hj => by
    rw [List.flatMap_cons, show (i + 1) * 6 + j = 6 + (i * 6 + j) by omega, List.getElem?_append_right (by rw [insC_len]; omega), insC_len, Nat.add_sub_cancel_left, flat6 P i j (by simpa using hi) hj]
    rfl
def iop : Ins → Int | .mt => 0 | .jp _ => 1 | .sp _ _ => 2 | .rg _ _ => 3
def ito : Ins → Int | .jp t => t | _ => 0
def ia : Ins → Int | .sp a _ => a | _ => 0
def ib : Ins → Int | .sp _ b => b | _ => 0
def ilo : Ins → Int | .rg l _ => l | _ => 0
def ihi : Ins → Int | .rg _ h => h | _ => 0
theorem insC_is (x : Ins) : insC x = [.int .i64 (iop x), .int .u64 (ito x), .int .u64 (ia x), .int .u64 (ib x), .int .u8 (ilo x), .int .u8 (ihi x)] := by cases x <;> rfl
theorem off_add (ad : Addr) (n k : Nat) : (ad.add (n + (k + 1))) = ⟨(ad.add n).block, (ad.add n).off + (k + 1), none⟩ := by
  unfold Addr.add
  by_cases h : n = 0
  · subst h
    simp
  · simp [h]
    omega
/-- an instruction, its cells in whatever world comes later -/
theorem ins_atW {w : World} {B : Nat} {a : Option Addr} {P : List Ins} (h : Sl w B a (P.flatMap insC)) (i : Nat) (hi : i < P.length) :
    ∃ ad, a = some ad ∧ ∀ W, Below B w W → W.cell? (ad.add (i * 6)) = some (.int .i64 (iop P[i])) ∧ W.cell? ⟨(ad.add (i * 6)).block, (ad.add (i * 6)).off + 1, none⟩ = some (.int .u64 (ito P[i])) ∧ W.cell? ⟨(ad.add (i * 6)).block, (ad.add (i * 6)).off + 2, none⟩ = some (.int .u64 (ia P[i])) ∧ W.cell? ⟨(ad.add (i * 6)).block, (ad.add (i * 6)).off + 3, none⟩ = some (.int .u64 (ib P[i])) ∧ W.cell? ⟨(ad.add (i * 6)).block, (ad.add (i * 6)).off + 4, none⟩ = some (.int .u8 (ilo P[i])) ∧ W.cell? ⟨(ad.add (i * 6)).block, (ad.add (i * 6)).off + 5, none⟩ = some (.int .u8 (ihi P[i])) := by
  have hj : ∀ j (v : Value), j < 6 → (insC P[i])[j]? = some v → ∃ ad, a = some ad ∧ ad.block < B ∧ w.cell? (ad.add (i * 6 + j)) = some v := fun j v hj hv => h (i * 6 + j) v (by rw [flat6 P i j hi hj]; exact hv)
  rw [insC_is] at hj
  obtain ⟨ad, rfl, hb, h0⟩ := hj 0 _ (by omega) rfl
  have hk : ∀ k v, (∃ ad', some ad = some ad' ∧ ad'.block < B ∧ w.cell? (ad'.add (i * 6 + (k + 1))) = some v) → ∀ W, Below B w W → W.cell? ⟨(ad.add (i * 6)).block, (ad.add (i * 6)).off + (k + 1), none⟩ = some v := by
    rintro k v ⟨ad', e, hb', h1⟩ W hW
    injection e with e
    subst e
    rw [off_add] at h1
    exact (hW.cell (p := ⟨(ad.add (i * 6)).block, _, none⟩) (by show (ad.add (i * 6)).block < B; have : (ad.add (i * 6)).block = ad.block := by { unfold Addr.add; by_cases h : i * 6 = 0 <;> simp [h] }; rw [this]; exact hb)).trans h1
  refine ⟨ad, rfl, fun W hW => ⟨(hW.cell (by have : (ad.add (i * 6)).block = ad.block := by { unfold Addr.add; by_cases h : i * 6 = 0 <;> simp [h] }; rw [this]; exact hb)).trans h0, hk 0 _ (hj 1 _ (by omega) rfl) W hW, hk 1 _ (hj 2 _ (by omega) rfl) W hW, hk 2 _ (hj 3 _ (by omega) rfl) W hW, hk 3 _ (hj 4 _ (by omega) rfl) W hW, hk 4 _ (hj 5 _ (by omega) rfl) W hW⟩⟩
end Go.Proofs.YtbkpgfccghombaaDoor.rx

/-! A program's instructions in memory; all that they go on to is there. Conditions: as stated. -/
namespace Go.Proofs.YtbkpgfccghombaaDoor.rx
open Go.ChangeShapes Go.WideShapes Go.ChangeAt Go.RowKit
set_option linter.unusedVariables false
set_option linter.unusedSimpArgs false

set_option maxRecDepth 100000 in
set_option maxHeartbeats 1600000 in
theorem sound_any (P : List Ins) (a : Option Addr) (c : Nat) (w : World) (hP : Sl w w.heap.size a (P.flatMap insC)) (hS : Snd P) (h0 : 0 < P.length) (hl : P.length ≤ 1000000000000) :
    Calls Tryd.prog 15 #[.slice a P.length c] w fun e w' => e = .returned (.bool true) ∧ w = w' := by
  have HP := Lib.hid hP
  have HS := Lib.hid hS
  clear hP hS
  go_enter Tryd.func15, Tryd.ntmps15
  go_wp2_with fail
  go_loopw [3] (fun v3 wr => ∃ i : Nat, i ≤ P.length ∧ v3 = .int .i64 i ∧ w = wr) (fun v3 _ => P.length - (intOf v3).toNat)
  case atStart => exact ⟨0, by omega, rfl, rfl⟩
  case round =>
    obtain ⟨i, hi, rfl, rfl⟩ := hrel
    by_cases hlt : i < P.length
    · obtain ⟨ad, rfl, hc⟩ := ins_atW HP.out i hlt
      obtain ⟨e0, e1, e2, e3, e4, e5⟩ := hc w (Below.refl _ _)
      clear hc
      have HSi := Lib.hid (HS.out i hlt)
      rw [List.getElem?_eq_getElem hlt] at HSi
      generalize P[i] = x at *
      cases x with
      | mt =>
        simp only [iop] at e0
        go_wp2
        go_roundw
        case rel => exact ⟨i + 1, by omega, by go_num, by first | rfl | trivial⟩
        case measure => simp [intOf]; omega
      | jp k =>
        simp only [iop, ito] at e0 e1
        have hk : ¬ ((P.length : Int) ≤ (k : Int)) := by
          have := HSi.out.1 k (by simp [tos])
          omega
        go_wp2
        go_roundw
        case rel => exact ⟨i + 1, by omega, by go_num, by first | rfl | trivial⟩
        case measure => simp [intOf]; omega
      | sp k m =>
        simp only [iop, ia, ib] at e0 e2 e3
        have hk : ¬ ((P.length : Int) ≤ (k : Int)) := by
          have := HSi.out.1 k (by simp [tos])
          omega
        have hm : ¬ ((P.length : Int) ≤ (m : Int)) := by
          have := HSi.out.1 m (by simp [tos])
          omega
        go_wp2
        go_roundw
        case rel => exact ⟨i + 1, by omega, by go_num, by first | rfl | trivial⟩
        case measure => simp [intOf]; omega
      | rg lo hi2 =>
        simp only [iop] at e0
        have hk : ¬ ((P.length : Int) ≤ (i : Int) + 1) := by
          have := HSi.out.2 lo hi2 rfl
          omega
        go_wp2
        go_roundw
        case rel => exact ⟨i + 1, by omega, by go_num, by first | rfl | trivial⟩
        case measure => simp [intOf]; omega
    · obtain rfl : i = P.length := by omega
      have h1 : (0 : Int) < (P.length : Int) := by omega
      go_wp2
      go_ret
      exact ⟨rfl, rfl⟩
end Go.Proofs.YtbkpgfccghombaaDoor.rx

/-! Sets of places in memory: one or another one. Conditions: as stated. -/
namespace Go.Proofs.YtbkpgfccghombaaDoor.rx
open Go.ChangeShapes Go.WideShapes Go.ChangeAt Go.RowKit
set_option linter.unusedVariables false

theorem infoO : (Tryd.prog.info? 4).map (fun i => (i.zero, i.size, i.bytes)) = some (some (.bool false), 1, 1) := by kernel_rfl
/-- a row of the call's own as a block -/
theorem own_blk {w : World} {base : Nat} {e : TypeId} {n : Nat} {v : Value} {xs : List Value} (h : w.ownsRow base e 1 v n xs) (hn : 0 < n) : ∃ g cap rest, v = .slice (some ⟨g, 0, none⟩) n cap ∧ base ≤ g ∧ Blk w g e (xs ++ rest) := by
  rcases h.2 with ⟨-, h0⟩ | ⟨g, cap, cur, rfl, hb, hg, -, -, -, ht⟩
  · omega
  · refine ⟨g, cap, cur.toList.drop (n * 1), rfl, hb, ?_⟩
    rw [← ht, List.take_append_drop]
    show w.heap[g]? = _
    simpa using hg
/-- a set of places, in a block that is new -/
def BS (w : World) (B : Nat) (v : Value) (l : List Bool) : Prop := ∃ g c rest, v = .slice (some ⟨g, 0, none⟩) l.length c ∧ B ≤ g ∧ Blk w g 4 (l.map .bool ++ rest)
theorem BS.sl {w : World} {B : Nat} {v : Value} {l : List Bool} (h : BS w B v l) : ∃ a c, v = .slice (some a) l.length c ∧ Sl w w.heap.size (some a) (l.map .bool) := by
  obtain ⟨g, c, rest, rfl, -, hb⟩ := h
  refine ⟨_, c, rfl, fun j u hu => ⟨_, rfl, hb.lt, ?_⟩⟩
  have := hb.cell j
  rw [List.getElem?_append_left (by have := (List.getElem?_eq_some_iff.1 hu).1; simpa using this), hu] at this
  have e : ((⟨g, 0, none⟩ : Addr).add j) = ⟨g, j, none⟩ := by
    unfold Addr.add
    by_cases h0 : j = 0 <;> simp [h0]
  rw [e]
  exact this
theorem BS.go {w w' : World} {B : Nat} {v : Value} {l : List Bool} (h : BS w B v l) (hb : Below w.heap.size w w') : BS w' B v l := by
  obtain ⟨g, c, rest, h1, h2, h3⟩ := h
  exact ⟨g, c, rest, h1, h2, h3.below hb h3.lt⟩
theorem BS.more {w : World} {B B' : Nat} {v : Value} {l : List Bool} (h : BS w B v l) (hb : B' ≤ B) : BS w B' v l := by
  obtain ⟨g, c, rest, h1, h2, h3⟩ := h
  exact ⟨g, c, rest, h1, Nat.le_trans hb h2, h3⟩
theorem BS.of_own {w : World} {B : Nat} {v : Value} {l : List Bool} (h : w.ownsRow B 4 1 v l.length (l.map .bool)) (hn : 0 < l.length) : BS w B v l := by
  obtain ⟨g, cap, rest, h1, h2, h3⟩ := own_blk h hn
  exact ⟨g, cap, rest, h1, h2, h3⟩
theorem orS_take {a b : List Bool} (h : a.length = b.length) (i : Nat) (hi : i < a.length) : (orS (a.take i) (b.take i) ++ a.drop i).set i (a[i] || b[i]'(by omega)) = orS (a.take (i + 1)) (b.take (i + 1)) ++ a.drop (i + 1) := by
  have hl : (orS (a.take i) (b.take i)).length = i := by simp [orS]; omega
  rw [List.set_append_right _ _ (by omega), hl, Nat.sub_self]
  rw [List.take_succ_eq_append_getElem hi, List.take_succ_eq_append_getElem (show i < b.length by omega)]
  have e : orS (a.take i ++ [a[i]]) (b.take i ++ [b[i]'(by omega)]) = orS (a.take i) (b.take i) ++ [a[i] || b[i]'(by omega)] := by
    unfold orS
    rw [List.zipWith_append (by simp; omega)]
    rfl
  rw [e, show a.drop i = a[i] :: a.drop (i + 1) from List.drop_eq_getElem_cons hi, List.set_cons_zero]
  simp
theorem orS_nil (a b : List Bool) (h : a.length = b.length) : orS (a.take 0) (b.take 0) ++ a.drop 0 = a := by simp [orS]
theorem or_at {a b : List Bool} (h : a.length = b.length) (i : Nat) (hi : i < a.length) : (orS (a.take i) (b.take i) ++ a.drop i)[i]? = some a[i] := by
  have hl : (orS (a.take i) (b.take i)).length = i := by simp [orS]; omega
  rw [List.getElem?_append_right (by omega), hl, Nat.sub_self, List.drop_eq_getElem_cons hi]
  rfl
set_option maxRecDepth 100000 in
set_option maxHeartbeats 1600000 in
theorem either_any (aa ab : Option Addr) (ca cb : Nat) (a b : List Bool) (w : World) (ha : Sl w w.heap.size aa (a.map .bool)) (hb : Sl w w.heap.size ab (b.map .bool)) (hab : a.length = b.length) (hn : 0 < a.length) (hn2 : a.length ≤ 1000000) :
    Calls Tryd.prog 49 #[.slice aa a.length ca, .slice ab b.length cb] w fun e w' => ∃ v, e = .returned v ∧ BS w' w.heap.size v (orS a b) ∧ Below w.heap.size w w' := by
  obtain ⟨i0, hi0, hz0, hz1, hz2⟩ := info_parts infoO
  have HA := Lib.hid ha
  have HB := Lib.hid hb
  have HAB := Lib.hid hab
  have OWN0 := Lib.hid (show (w.alloc (.cells #[] 4)).ownsRow w.heap.size 4 1 (.slice (some ⟨w.heap.size, 0, none⟩) 0 0) 0 [] from World.ownsRow_lit w #[] 0 (Nat.le_refl _) (by simp [maxLen]) rfl)
  have HA1 := Lib.hid (show Sl (w.alloc (.cells #[] 4)) w.heap.size aa (a.map .bool) from ha.below ((Below.refl _ _).alloc (Nat.le_refl _) _))
  have hbl : b.length ≤ 1000000 := by omega
  clear ha hb hab
  go_enter Tryd.func49, Tryd.ntmps49
  go_wp2_with (first | (at_builtin; refine list_spread rfl (.tmp 7) (.tmp 8) 35 rfl w.heap.size w.heap.size 4 i0 _ 1 1 Tryd.underlying35 hi0 hz0 hz1 hz2 rfl (by omega) (.slice (some ⟨w.heap.size, 0, none⟩) 0 0) 0 [] rfl OWN0.out aa a.length ca (a.map .bool) rfl (by simp) HA1.out (fun u hu => by obtain ⟨x, -, rfl⟩ := List.mem_map.1 hu; rfl) (by unfold maxLen; omega) (by omega) (by simp) ?_; intro v1 w1 ho1 hg1 hat1; simp only [Nat.zero_add, List.nil_append] at ho1; obtain ⟨g, cp, rest, rfl, hge, hbk⟩ := own_blk ho1 hn; have HBK := Lib.hid hbk; have HG1 := Lib.hid (show Below w.heap.size w w1 from ((Below.refl _ _).alloc (Nat.le_refl _) _).trans (grown_below hg1 (fun k hk => by simp [Value.ownBlock] at hk; omega) (by simp))); clear ho1 hg1 hat1 hbk) | fail)
  go_loopw [6] (fun v6 wr => ∃ i : Nat, i ≤ b.length ∧ v6 = .int .i64 i ∧ Hid (Blk wr g 4 ((orS (a.take i) (b.take i) ++ a.drop i).map .bool ++ rest) ∧ Below w.heap.size w wr)) (fun v6 _ => b.length - (intOf v6).toNat)
  case atStart => exact ⟨0, by omega, rfl, Lib.hid ⟨by rw [orS_nil a b HAB.out]; exact HBK.out, HG1.out⟩⟩
  case round =>
    obtain ⟨i, hi, rfl, H1⟩ := hrel
    by_cases hlt : i < b.length
    · have hla : i < a.length := by have := HAB.out; omega
      obtain ⟨ad, rfl, -, hc⟩ := bool_at (HB.out.below H1.out.2) i hlt
      have h1 := H1.out.1.cell i
      rw [List.getElem?_append_left (by simp [orS]; omega), List.getElem?_map, or_at HAB.out i hla] at h1
      have f1 := H1.out.1.frozen i
      have HT := Lib.hid (orS_take HAB.out i hla)
      have HST := Lib.hid (fun (u : Bool) (hu : u = (a[i] || b[i])) => show Blk (wr.setCell ⟨g, i, none⟩ (.bool u)) g 4 ((orS (a.take (i + 1)) (b.take (i + 1)) ++ a.drop (i + 1)).map .bool ++ rest) ∧ Below w.heap.size w (wr.setCell ⟨g, i, none⟩ (.bool u)) from ⟨by
        subst hu
        have h2 := H1.out.1.set_ i (.bool (a[i] || b[i]))
        rw [List.set_append_left _ _ (by simp [orS]; omega), ← List.map_set, HT.out] at h2
        exact h2, H1.out.2.setCell (p := ⟨g, i, none⟩) hge _⟩)
      have hlg : (i : Int) < (a.length : Int) := by omega
      generalize a[i] = x at *
      generalize b[i] = y at *
      simp only [Option.map_some] at h1
      cases x with
      | true =>
        have HS := Lib.hid (HST.out true rfl)
        go_wp2
        go_roundw
        case rel => exact ⟨i + 1, by omega, by go_num, HS⟩
        case measure => simp [intOf]; omega
      | false =>
        have HS := Lib.hid (HST.out y (by simp))
        go_wp2
        go_roundw
        case rel => exact ⟨i + 1, by omega, by go_num, HS⟩
        case measure => simp [intOf]; omega
    · obtain rfl : i = b.length := by omega
      have HF := Lib.hid (show BS wr w.heap.size (.slice (some ⟨g, 0, none⟩) a.length cp) (orS a b) from ⟨g, cp, rest, by rw [orS_len HAB.out], hge, by
        have h2 := H1.out.1
        rw [← HAB.out, List.take_length, HAB.out, List.take_length, ← HAB.out, List.drop_length, List.append_nil] at h2
        exact h2⟩)
      go_wp2
      go_ret
      exact ⟨_, rfl, HF.out, H1.out.2⟩
end Go.Proofs.YtbkpgfccghombaaDoor.rx

/-! The instructions that are reached without a byte. Conditions: as stated. -/
namespace Go.Proofs.YtbkpgfccghombaaDoor.rx
open Go.ChangeShapes Go.WideShapes Go.ChangeAt Go.RowKit
set_option linter.unusedVariables false
set_option linter.unusedSimpArgs false

section
variable {P : List Ins}
/-- what marking does -/
structure Mks (P : List Ins) (f o : List Bool) (b : Bool) (ts : List Nat) (r : List Bool × Bool) : Prop where
  btw : Btw P f r.1
  all : ∀ k ∈ ts, r.1[k]? = some true
  sub : ∀ j : Nat, o[j]? = some true → r.1[j]? = some true
  no : r.2 = false → b = false ∧ r.1 = o
  le : outs r.1 ≤ outs o
  yes : r.2 = true → b = true ∨ outs r.1 < outs o
theorem mark_one {f o : List Bool} {b : Bool} {i k : Nat} (h : Btw P f o) (hS : Snd P) (hi : i < P.length) (hg : o[i]? = some true) (hk : k ∈ tos P[i]?) : Mks P f o b [k] (mark (o, b) k) := by
  have hb := h.mark (a := b) hS hi hg hk
  have hl : k < o.length := by rw [h.len]; exact (hS i hi).1 k hk
  unfold mark at hb ⊢
  by_cases hm : o[k]? = some true
  · simp only [hm, if_true] at hb ⊢
    exact ⟨h, fun j hj => by simp at hj; subst hj; exact hm, fun j hj => hj, fun e => ⟨e, rfl⟩, Nat.le_refl _, fun e => .inl e⟩
  · simp only [hm, if_false] at hb ⊢
    have := outs_set hl hm
    exact ⟨hb, fun j hj => by simp at hj; subst hj; exact (set_at hl).2 (.inl rfl), fun j hj => (set_at hl).2 (.inr hj), fun e => by simp at e, by show outs (o.set k true) ≤ _; omega, fun _ => .inr (by show outs (o.set k true) < _; omega)⟩
theorem mark_all {f : List Bool} {i : Nat} (hS : Snd P) (hi : i < P.length) : ∀ (ts : List Nat) (o : List Bool) (b : Bool), Btw P f o → o[i]? = some true → (∀ k ∈ ts, k ∈ tos P[i]?) → Mks P f o b ts (ts.foldl mark (o, b))
  | [], o, b, h, hg, _ => ⟨h, fun k hk => by simp at hk, fun j hj => hj, fun e => ⟨e, rfl⟩, Nat.le_refl _, fun e => .inl e⟩
  | k :: ts, o, b, h, hg, ht => by
    have M := mark_one (b := b) h hS hi hg (ht k (by simp))
    have N : Mks P f (mark (o, b) k).1 (mark (o, b) k).2 ts (ts.foldl mark (mark (o, b) k)) := mark_all hS hi ts (mark (o, b) k).1 (mark (o, b) k).2 M.btw (M.sub i hg) (fun j hj => ht j (by simp [hj]))
    rw [List.foldl_cons]
    refine ⟨N.btw, fun j hj => ?_, fun j hj => N.sub j (M.sub j hj), fun e => ?_, Nat.le_trans N.le M.le, fun e => ?_⟩
    · rcases List.mem_cons.1 hj with rfl | hj
      · exact N.sub j (M.all j (by simp))
      · exact N.all j hj
    · obtain ⟨e1, e2⟩ := N.no e
      obtain ⟨e3, e4⟩ := M.no e1
      exact ⟨e3, e2.trans e4⟩
    · have := M.le
      rcases N.yes e with e1 | e1
      · rcases M.yes e1 with e2 | e2
        · exact .inl e2
        · exact .inr (Nat.lt_of_le_of_lt N.le e2)
      · exact .inr (by omega)
/-- a round through the instructions -/
structure Rnds (P : List Ins) (f o : List Bool) (i : Nat) (b : Bool) (o2 : List Bool) : Prop where
  btw : Btw P f o2
  no : b = false → o2 = o ∧ ∀ j, j < i → o[j]? = some true → ∀ k ∈ tos P[j]?, o[k]? = some true
  yes : b = true → outs o2 < outs o
theorem Rnds.skip {f o o2 : List Bool} {i : Nat} {b : Bool} (h : Rnds P f o i b o2) (hn : o2[i]? = some false) : Rnds P f o (i + 1) b o2 :=
  ⟨h.btw, fun e => ⟨(h.no e).1, fun j hj hg => by
    obtain ⟨e1, e2⟩ := h.no e
    by_cases hji : j = i
    · subst hji
      rw [← e1, hn] at hg
      simp at hg
    · exact e2 j (by omega) hg⟩, h.yes⟩
theorem Rnds.next {f o o2 : List Bool} {i : Nat} {b : Bool} {r : List Bool × Bool} (h : Rnds P f o i b o2) (M : Mks P f o2 b (tos P[i]?) r) : Rnds P f o (i + 1) r.2 r.1 :=
  ⟨M.btw, fun e => by
    obtain ⟨e1, e2⟩ := M.no e
    obtain ⟨e3, e4⟩ := h.no e1
    refine ⟨e2.trans e3, fun j hj hg => ?_⟩
    by_cases hji : j = i
    · subst hji
      intro k hk
      have := M.all k hk
      rwa [e2, e3] at this
    · exact e4 j (by omega) hg, fun e => by
    have := M.le
    rcases M.yes e with e1 | e1
    · have := h.yes e1; omega
    · cases hb : b with
      | true => have := h.yes hb; omega
      | false => rw [(h.no hb).1] at e1; exact e1⟩
theorem tos_le (x : Option Ins) : (tos x).length ≤ 2 := by
  unfold tos
  split <;> simp
end
/-- where an instruction goes on to, in two steps -/
def tos1 : Ins → List Nat | .jp t => [t] | _ => []
theorem slo_new1 {w : World} {O : Nat → Prop} (t : TypeId) (l : List Value) (hO : ¬ O w.heap.size) : SlO (w.alloc (.cells l.toArray t)) O (some ⟨w.heap.size, 0, none⟩) l := SlO.of_blk (Blk.new w t l) hO
set_option maxRecDepth 100000 in
set_option maxHeartbeats 3200000 in
theorem reached_any (P : List Ins) (a : Option Addr) (c : Nat) (f : List Bool) (af : Option Addr) (cf : Nat) (w : World) (hP : Sl w w.heap.size a (P.flatMap insC)) (hS : Snd P) (hf : Sl w w.heap.size af (f.map .bool)) (hl : f.length = P.length) (h0 : 0 < P.length) (hn : P.length ≤ 1000000000000) :
    Calls Tryd.prog 35 #[.slice a P.length c, .slice af f.length cf] w fun e w' => ∃ v, e = .returned v ∧ BS w' w.heap.size v (plS P (Clo P f)) ∧ Below w.heap.size w w' := by
  obtain ⟨i0, hi0, hz0, hz1, hz2⟩ := info_parts infoO
  have HP := Lib.hid hP
  have HS := Lib.hid hS
  have HL := Lib.hid hl
  have hn0 : 0 < f.length := by omega
  have OWN0 := Lib.hid (show (w.alloc (.cells #[] 4)).ownsRow w.heap.size 4 1 (.slice (some ⟨w.heap.size, 0, none⟩) 0 0) 0 [] from World.ownsRow_lit w #[] 0 (Nat.le_refl _) (by simp [maxLen]) rfl)
  have HA1 := Lib.hid (show Sl (w.alloc (.cells #[] 4)) w.heap.size af (f.map .bool) from hf.below ((Below.refl _ _).alloc (Nat.le_refl _) _))
  have hfl : f.length ≤ 1000000000000 := by omega
  clear hP hS hf hl
  go_enter Tryd.func35, Tryd.ntmps35
  go_upto_region 2 with (first | (at_builtin; refine list_spread rfl (.tmp 10) (.tmp 11) 35 rfl w.heap.size w.heap.size 4 i0 _ 1 1 Tryd.underlying35 hi0 hz0 hz1 hz2 rfl (by omega) (.slice (some ⟨w.heap.size, 0, none⟩) 0 0) 0 [] rfl OWN0.out af f.length cf (f.map .bool) rfl (by simp) HA1.out (fun u hu => by obtain ⟨x, -, rfl⟩ := List.mem_map.1 hu; rfl) (by unfold maxLen; omega) (by omega) (by simp) ?_; intro v1 w1 ho1 hg1 hat1; simp only [Nat.zero_add, List.nil_append] at ho1; obtain ⟨g, cp, rest, rfl, hge, hbk⟩ := own_blk ho1 hn0; have HBK := Lib.hid hbk; have HG1 := Lib.hid (show Below w.heap.size w w1 from ((Below.refl _ _).alloc (Nat.le_refl _) _).trans (grown_below hg1 (fun k hk => by simp [Value.ownBlock] at hk; omega) (by simp))); clear ho1 hg1 hat1 hbk) | fail)
  go_wp2_with fail
  go_loopg [6, 7, 8, 9] (2 * outs f + 1) (fun gm v6 v7 v8 v9 wr => ∃ (b : Bool) (o : List Bool), v6 = .bool b ∧ 2 * outs o + b.toNat ≤ gm ∧ Hid (Btw P f o ∧ (b = false → ∀ i, i < P.length → o[i]? = some true → ∀ k ∈ tos P[i]?, o[k]? = some true) ∧ Blk wr g 4 (o.map .bool ++ rest) ∧ Below w.heap.size w wr))
  case atStart => exact ⟨true, f, rfl, by simp, Lib.hid ⟨⟨HL.out, fun k h => h, fun k h => ⟨k, h, .here k⟩⟩, fun h => by simp at h, HBK.out, HG1.out⟩⟩
  case round =>
    obtain ⟨b, o, rfl, hgm, H1⟩ := hrel
    cases b with
    | false =>
      have HF := Lib.hid (show BS wr w.heap.size (.slice (some ⟨g, 0, none⟩) f.length cp) (plS P (Clo P f)) from ⟨g, cp, rest, by rw [plS_len, HL.out], hge, by
        rw [← plS_clo H1.out.1 (H1.out.2.1 rfl)]
        exact H1.out.2.2.1⟩)
      go_wp2
      go_ret
      exact ⟨_, rfl, HF.out, H1.out.2.2.2⟩
    | true =>
      go_upto_region 5 with fail
      go_wp2_with fail
      go_loopw [6, 7, 8, 9] (fun v6 v7 v8 v9 wx => ∃ (b2 : Bool) (i : Nat) (o2 : List Bool), v6 = .bool b2 ∧ v7 = .int .i64 i ∧ i ≤ P.length ∧ Hid (Rnds P f o i b2 o2 ∧ Blk wx g 4 (o2.map .bool ++ rest) ∧ Below w.heap.size w wx)) (fun _ v7 _ _ _ => P.length - (intOf v7).toNat)
      case atStart => exact ⟨false, 0, o, rfl, rfl, by omega, Lib.hid ⟨⟨H1.out.1, fun _ => ⟨rfl, fun j hj => by omega⟩, fun h => by simp at h⟩, H1.out.2.2⟩⟩
      case round =>
        rename_i wr0
        obtain ⟨b2, i, o2, rfl, rfl, hi, H2⟩ := hrel
        by_cases hlt : i < P.length
        · have hlo : i < o2.length := by rw [H2.out.1.btw.len]; exact hlt
          have c1 := H2.out.2.1.cell i
          rw [List.getElem?_append_left (by simpa using hlo), List.getElem?_map, List.getElem?_eq_getElem hlo, Option.map_some] at c1
          have hif : (i : Int) < (f.length : Int) := by have := HL.out; omega
          cases hoi : o2[i] with
          | false =>
            rw [hoi] at c1
            have HN := Lib.hid (H2.out.1.skip (by rw [List.getElem?_eq_getElem hlo, hoi]))
            clear hoi
            go_wp2
            go_roundw
            case rel => exact ⟨b2, i + 1, o2, rfl, by go_num, by omega, Lib.hid ⟨HN.out, H2.out.2⟩⟩
            case measure => simp [intOf]; omega
          | true =>
            rw [hoi] at c1
            have HOI := Lib.hid (show o2[i]? = some true by rw [List.getElem?_eq_getElem hlo, hoi])
            clear hoi
            obtain ⟨ad, rfl, hc⟩ := ins_atW HP.out i hlt
            have HC := Lib.hid hc
            have HX := Lib.hid (show P[i]? = some P[i] from List.getElem?_eq_getElem hlt)
            have HGL := Lib.hid H2.out.2.1.lt
            clear hc
            generalize P[i] = x at *
            go_upto_region 10 with fail
            refine name_world ?_
            intro w8 hw8
            have HB8 := Lib.hid (show Below wr.heap.size wr w8 from by rw [hw8]; exact (Below.refl _ _).alloc (Nat.le_refl _) _)
            clear hw8 c1
            have HW8 := Lib.hid (H2.out.2.2.trans (HB8.out.mono H2.out.2.2.size))
            obtain ⟨e0, e1, e2, e3, -, -⟩ := HC.out w8 HW8.out
            obtain ⟨b1, hb1⟩ : ∃ b1, (iop x == 1) = b1 := ⟨_, rfl⟩
            go_upto_if 31 with fail
            go_cut [8] (fun v8 wx => ∃ a8 c8, v8 = .slice a8 (tos1 x).length c8 ∧ Hid (SlO wx (fun k => k = g) a8 (natsU (tos1 x)) ∧ Below w8.heap.size w8 wx))
            case first =>
              cases x with
              | jp t =>
                simp only [iop, ito] at e0 e1 hb1
                obtain rfl : b1 = true := hb1.symm
                go_wp2
                go_meet
                have := HGL.out
                have := HB8.out.size
                exact ⟨_, _, rfl, Lib.hid ⟨slo_new1 _ [Value.int .u64 t] (by omega), (Below.refl _ _).alloc (Nat.le_refl _) _⟩⟩
              | mt => obtain rfl : b1 = false := hb1.symm; go_wp2; go_meet; exact ⟨_, _, rfl, Lib.hid ⟨fun j v h => by simp [tos1, natsU] at h, Below.refl _ _⟩⟩
              | sp s t => obtain rfl : b1 = false := hb1.symm; go_wp2; go_meet; exact ⟨_, _, rfl, Lib.hid ⟨fun j v h => by simp [tos1, natsU] at h, Below.refl _ _⟩⟩
              | rg lo hi2 => obtain rfl : b1 = false := hb1.symm; go_wp2; go_meet; exact ⟨_, _, rfl, Lib.hid ⟨fun j v h => by simp [tos1, natsU] at h, Below.refl _ _⟩⟩
            case rest =>
            obtain ⟨a8, c8, rfl, H8⟩ := hcut
            rename World => w9
            clear e0 e1 e2 e3 hb1
            have HW9 := Lib.hid (HW8.out.trans (H8.out.2.mono HW8.out.size))
            obtain ⟨e0, e1, e2, e3, -, -⟩ := HC.out w9 HW9.out
            obtain ⟨b1, hb1⟩ : ∃ b1, (iop x == 2) = b1 := ⟨_, rfl⟩
            go_upto_if 43 with fail
            go_cut [8] (fun v8 wx => ∃ a9 c9, v8 = .slice a9 (tos (some x)).length c9 ∧ Hid (SlO wx (fun k => k = g) a9 (natsU (tos (some x))) ∧ Below w9.heap.size w9 wx))
            case first =>
              cases x with
              | jp t => obtain rfl : b1 = false := hb1.symm; go_wp2; go_meet; exact ⟨_, _, rfl, Lib.hid ⟨H8.out.1, Below.refl _ _⟩⟩
              | mt => obtain rfl : b1 = false := hb1.symm; go_wp2; go_meet; exact ⟨_, _, rfl, Lib.hid ⟨H8.out.1, Below.refl _ _⟩⟩
              | rg lo hi2 => obtain rfl : b1 = false := hb1.symm; go_wp2; go_meet; exact ⟨_, _, rfl, Lib.hid ⟨H8.out.1, Below.refl _ _⟩⟩
              | sp s t =>
                simp only [ia, ib] at e2 e3
                obtain rfl : b1 = true := hb1.symm
                have := HGL.out
                have := HB8.out.size
                have := H8.out.2.size
                have SN := Lib.hid (slo_new1 (w := w9) (O := fun k => k = g) 33 [Value.int .u64 s, Value.int .u64 t] (by omega))
                go_wp2
                go_region
                all_goals
                  go_wp2
                  go_meet
                  exact ⟨_, _, rfl, Lib.hid ⟨SN.out, ((Below.refl _ _).alloc (Nat.le_refl _) _).drew⟩⟩
            case rest =>
            obtain ⟨a9, c9, rfl, H9⟩ := hcut
            rename World => wt
            clear e0 e1 e2 e3 hb1
            obtain ⟨ts, hts⟩ : ∃ ts, tos (some x) = ts := ⟨_, rfl⟩
            have HTS := Lib.hid hts
            have htl := tos_le (some x)
            rw [hts] at H9 htl ⊢
            have HBt := Lib.hid (show Blk wt g 4 (o2.map .bool ++ rest) from ((H2.out.2.1.below HB8.out HGL.out).below H8.out.2 (Nat.lt_of_lt_of_le HGL.out HB8.out.size)).below H9.out.2 (Nat.lt_of_lt_of_le HGL.out (Nat.le_trans HB8.out.size H8.out.2.size)))
            have HWt := Lib.hid (HW9.out.trans (H9.out.2.mono HW9.out.size))
            clear hts
            go_upto_region 15 with fail
            go_loopw [6, 9] (fun v6 v9 wz => ∃ (b3 : Bool) (k : Nat) (o3 : List Bool), v6 = .bool b3 ∧ v9 = .int .i64 k ∧ k ≤ ts.length ∧ Hid ((ts.take k).foldl mark (o2, b2) = (o3, b3) ∧ o3.length = P.length ∧ Blk wz g 4 (o3.map .bool ++ rest) ∧ Fr (fun k => k = g) wt wz)) (fun _ v9 _ => ts.length - (intOf v9).toNat)
            case atStart => exact ⟨b2, 0, o2, rfl, rfl, by omega, Lib.hid ⟨rfl, H2.out.1.btw.len, HBt.out, Fr.refl _ _⟩⟩
            case round =>
              obtain ⟨b3, k, o3, rfl, rfl, hk, H3⟩ := hrel
              by_cases hkl : k < ts.length
              · have hT := H9.out.1.go H3.out.2.2.2 (fun _ e => .inl e)
                obtain ⟨ad9, rfl, -, -, ct⟩ := hT k _ (natsU_at ts k hkl)
                have hq : ts[k] < P.length := (HS.out i hlt).1 _ (by rw [HX.out, HTS.out]; exact List.getElem_mem hkl)
                have hqo : ts[k] < o3.length := by rw [H3.out.2.1]; exact hq
                have c3 := H3.out.2.2.1.cell ts[k]
                rw [List.getElem?_append_left (by simpa using hqo), List.getElem?_map, List.getElem?_eq_getElem hqo, Option.map_some] at c3
                have f3 := H3.out.2.2.1.frozen ts[k]
                have HM := Lib.hid (show (ts.take (k + 1)).foldl mark (o2, b2) = mark (o3, b3) ts[k] by
                  rw [List.take_succ_eq_append_getElem hkl, List.foldl_append, H3.out.1]; rfl)
                have hqf : (ts[k] : Int) < (f.length : Int) := by have := HL.out; omega
                have HO3 := Lib.hid (show o3[ts[k]]? = some o3[ts[k]] from List.getElem?_eq_getElem hqo)
                have HST := Lib.hid (show Blk (wr.setCell ⟨g, ts[k], none⟩ (.bool true)) g 4 ((o3.set ts[k] true).map .bool ++ rest) from by
                  have h2 := H3.out.2.2.1.set_ ts[k] (.bool true)
                  rwa [List.set_append_left _ _ (by simpa using hqo), ← List.map_set] at h2)
                clear hT
                generalize o3[ts[k]] = y at *
                generalize ts[k] = q at *
                cases y with
                | true =>
                  have HM2 := Lib.hid (show mark (o3, b3) q = (o3, b3) by unfold mark; rw [if_pos HO3.out])
                  go_wp2
                  go_roundw
                  case rel => exact ⟨b3, k + 1, o3, rfl, by go_num, by omega, Lib.hid ⟨HM.out.trans HM2.out, H3.out.2⟩⟩
                  case measure => simp [intOf]; omega
                | false =>
                  have HM2 := Lib.hid (show mark (o3, b3) q = (o3.set q true, true) by unfold mark; rw [if_neg (by rw [HO3.out]; simp)])
                  go_wp2
                  go_roundw
                  case rel => exact ⟨true, k + 1, o3.set q true, rfl, by go_num, by omega, Lib.hid ⟨HM.out.trans HM2.out, by simp [H3.out.2.1], HST.out, H3.out.2.2.2.set _ _ rfl⟩⟩
                  case measure => simp [intOf]; omega
              · obtain rfl : k = ts.length := by omega
                have M := mark_all HS.out hlt ts o2 b2 H2.out.1.btw HOI.out (fun k hk => by rw [HX.out, HTS.out]; exact hk)
                rw [← List.take_length (l := ts), H3.out.1, List.take_length] at M
                have HNX := Lib.hid (H2.out.1.next (r := (o3, b3)) (by rw [HX.out, HTS.out]; exact M))
                have HBE := Lib.hid (HWt.out.trans (H3.out.2.2.2.below (B := w.heap.size) (fun k hk e => by omega) HWt.out.size))
                clear M
                go_wp2
                go_roundw
                case rel => exact ⟨b3, i + 1, o3, rfl, by go_num, by omega, Lib.hid ⟨HNX.out, H3.out.2.2.1, HBE.out⟩⟩
                case measure => simp [intOf]; omega
        · obtain rfl : i = P.length := by omega
          go_wp2
          go_roundg (2 * outs o2 + b2.toNat)
          case measure =>
            have e1 : Bool.toNat true = 1 := rfl
            have e0 : Bool.toNat false = 0 := rfl
            rw [e1] at hgm
            cases b2 with
            | true =>
              have := H2.out.1.yes rfl
              rw [e1]
              omega
            | false =>
              have := (H2.out.1.no rfl).1
              subst this
              rw [e0]
              omega
          case rel => exact ⟨b2, o2, rfl, Nat.le_refl _, Lib.hid ⟨H2.out.1.btw, fun e j hj hg => by
            obtain ⟨e1, e2⟩ := H2.out.1.no e
            subst e1
            exact e2 j hj hg, H2.out.2⟩⟩
end Go.Proofs.YtbkpgfccghombaaDoor.rx

/-! What begins with bytes: the least and the greatest rune. Plain. Conditions: none. -/
namespace Go.Proofs.YtbkpgfccghombaaDoor.rx
set_option linter.unusedVariables false
set_option linter.unusedSimpArgs false

/-- the bits of a first byte; the least rune of so many bytes -/
def fst7 (n : Int) (b : Int) : Int := if n = 1 then b % 128 else if n = 2 then b % 32 else if n = 3 then b % 16 else b % 8
def lst (n : Int) : Int := if n = 1 then 0 else if n = 2 then 128 else if n = 3 then 2048 else 65536
/-- the bits that are added by byte i: at least, at most -/
def bitL (s : List Int) (i : Nat) : Int := if i < s.length then s.getD i 0 % 64 else 0
def bitH (s : List Int) (i : Nat) : Int := if i < s.length then s.getD i 0 % 64 else 63
def lowV (s : List Int) (n : Int) : Nat → Int
  | 0 => fst7 n (s.getD 0 0)
  | i + 1 => lowV s n i * 64 + bitL s (i + 1)
def highV (s : List Int) (n : Int) : Nat → Int
  | 0 => fst7 n (s.getD 0 0)
  | i + 1 => highV s n i * 64 + bitH s (i + 1)
/-- all bytes behind the first one are right up to i -/
def contB (s : List Int) (n : Int) : Bool := decide (∀ i : Nat, i < s.length → 1 ≤ i → (i : Int) < n → 128 ≤ s.getD i 0 ∧ s.getD i 0 ≤ 191)
/-- the least and the greatest rune, whether there is one -/
def rnB (s : List Int) : Bool := decide (lng (s.getD 0 0) ≠ 0 ∧ (s.length : Int) ≤ lng (s.getD 0 0)) && contB s (lng (s.getD 0 0))
def rnL (s : List Int) : Int := max (lowV s (lng (s.getD 0 0)) ((lng (s.getD 0 0)).toNat - 1)) (lst (lng (s.getD 0 0)))
def rnH (s : List Int) : Int := min (highV s (lng (s.getD 0 0)) ((lng (s.getD 0 0)).toNat - 1)) 1114111
def rns (s : List Int) : Int × Int × Bool := if rnB s = true then (rnL s, rnH s, decide (rnL s ≤ rnH s)) else (0, 0, false)

theorem ub_lead (c : Int) (hc : isL c = true) : lng ((ub c).getD 0 0) = ((ub c).length : Nat) := by
  obtain ⟨h0, h1, h2⟩ := of_decide_eq_true hc
  unfold ub
  split
  · simp [lng]; omega
  · split
    · simp [lng]; omega
    · split
      · simp [lng]; omega
      · simp [lng]; omega
theorem lng_inv (b : Int) : (lng b = 0) ∨ (lng b = 1 ∧ b < 128) ∨ (lng b = 2 ∧ 194 ≤ b ∧ b < 224) ∨ (lng b = 3 ∧ 224 ≤ b ∧ b < 240) ∨ (lng b = 4 ∧ 240 ≤ b ∧ b < 245) := by
  unfold lng
  split
  · omega
  · split
    · omega
    · split
      · omega
      · split <;> omega
theorem rns_arith (s : List Int) (c : Int) : ((rns s).2.2 = true ∧ (rns s).1 ≤ c ∧ c ≤ (rns s).2.1) ↔ (rnB s = true ∧ rnL s ≤ c ∧ c ≤ rnH s) := by
  unfold rns
  by_cases h : rnB s = true
  · rw [if_pos h]
    simp only [decide_eq_true_eq, h, true_and]
    omega
  · rw [if_neg h]
    simp [h]
theorem rnB_iff (s : List Int) : rnB s = true ↔ (lng (s.getD 0 0) ≠ 0 ∧ (s.length : Int) ≤ lng (s.getD 0 0)) ∧ contB s (lng (s.getD 0 0)) = true := by
  unfold rnB
  rw [Bool.and_eq_true, decide_eq_true_eq]
theorem pre1 (c b0 : Int) : (∃ v, ub c = [b0] ++ v) ↔ (c ≤ 127 ∧ c = b0) ∨ (127 < c ∧ c ≤ 2047 ∧ 192 + c / 64 = b0) ∨ (2047 < c ∧ c ≤ 65535 ∧ 224 + c / 4096 = b0) ∨ (65535 < c ∧ 240 + c / 262144 = b0) := by
  unfold ub
  split
  · simp; omega
  · split
    · simp; omega
    · split
      · simp; omega
      · simp; omega
theorem lo11 (b0 : Int) : lowV [b0] 1 0 = b0 % 128 ∧ highV [b0] 1 0 = b0 % 128 := by
  constructor <;> simp [lowV, highV, bitL, bitH, fst7]
theorem co11 (b0 : Int) : contB [b0] 1 = true ↔ True := by
  unfold contB
  rw [decide_eq_true_eq]
  constructor
  · intro h
    trivial
  · intro h i h3 h1 h2
    simp at h3
    omega
theorem lo21 (b0 : Int) : lowV [b0] 2 1 = (b0 % 32) * 64 + 0 ∧ highV [b0] 2 1 = (b0 % 32) * 64 + 63 := by
  constructor <;> simp [lowV, highV, bitL, bitH, fst7]
theorem co21 (b0 : Int) : contB [b0] 2 = true ↔ True := by
  unfold contB
  rw [decide_eq_true_eq]
  constructor
  · intro h
    trivial
  · intro h i h3 h1 h2
    simp at h3
    omega
theorem lo31 (b0 : Int) : lowV [b0] 3 2 = ((b0 % 16) * 64 + 0) * 64 + 0 ∧ highV [b0] 3 2 = ((b0 % 16) * 64 + 63) * 64 + 63 := by
  constructor <;> simp [lowV, highV, bitL, bitH, fst7]
theorem co31 (b0 : Int) : contB [b0] 3 = true ↔ True := by
  unfold contB
  rw [decide_eq_true_eq]
  constructor
  · intro h
    trivial
  · intro h i h3 h1 h2
    simp at h3
    omega
theorem lo41 (b0 : Int) : lowV [b0] 4 3 = (((b0 % 8) * 64 + 0) * 64 + 0) * 64 + 0 ∧ highV [b0] 4 3 = (((b0 % 8) * 64 + 63) * 64 + 63) * 64 + 63 := by
  constructor <;> simp [lowV, highV, bitL, bitH, fst7]
theorem co41 (b0 : Int) : contB [b0] 4 = true ↔ True := by
  unfold contB
  rw [decide_eq_true_eq]
  constructor
  · intro h
    trivial
  · intro h i h3 h1 h2
    simp at h3
    omega
theorem pre2 (c b0 b1 : Int) : (∃ v, ub c = [b0, b1] ++ v) ↔ (127 < c ∧ c ≤ 2047 ∧ 192 + c / 64 = b0 ∧ 128 + c % 64 = b1) ∨ (2047 < c ∧ c ≤ 65535 ∧ 224 + c / 4096 = b0 ∧ 128 + c / 64 % 64 = b1) ∨ (65535 < c ∧ 240 + c / 262144 = b0 ∧ 128 + c / 4096 % 64 = b1) := by
  unfold ub
  split
  · simp; omega
  · split
    · simp; omega
    · split
      · simp; omega
      · simp; omega
theorem lo22 (b0 b1 : Int) : lowV [b0, b1] 2 1 = (b0 % 32) * 64 + b1 % 64 ∧ highV [b0, b1] 2 1 = (b0 % 32) * 64 + b1 % 64 := by
  constructor <;> simp [lowV, highV, bitL, bitH, fst7]
theorem co22 (b0 b1 : Int) : contB [b0, b1] 2 = true ↔ 128 ≤ b1 ∧ b1 ≤ 191 := by
  unfold contB
  rw [decide_eq_true_eq]
  constructor
  · intro h
    have h1 := h 1 (by simp) (by omega) (by omega)
    simp at h1
    omega
  · intro h i h3 h1 h2
    simp at h3
    have : i = 1 := by omega
    rcases this with rfl <;> simp <;> omega
theorem lo32 (b0 b1 : Int) : lowV [b0, b1] 3 2 = ((b0 % 16) * 64 + b1 % 64) * 64 + 0 ∧ highV [b0, b1] 3 2 = ((b0 % 16) * 64 + b1 % 64) * 64 + 63 := by
  constructor <;> simp [lowV, highV, bitL, bitH, fst7]
theorem co32 (b0 b1 : Int) : contB [b0, b1] 3 = true ↔ 128 ≤ b1 ∧ b1 ≤ 191 := by
  unfold contB
  rw [decide_eq_true_eq]
  constructor
  · intro h
    have h1 := h 1 (by simp) (by omega) (by omega)
    simp at h1
    omega
  · intro h i h3 h1 h2
    simp at h3
    have : i = 1 := by omega
    rcases this with rfl <;> simp <;> omega
theorem lo42 (b0 b1 : Int) : lowV [b0, b1] 4 3 = (((b0 % 8) * 64 + b1 % 64) * 64 + 0) * 64 + 0 ∧ highV [b0, b1] 4 3 = (((b0 % 8) * 64 + b1 % 64) * 64 + 63) * 64 + 63 := by
  constructor <;> simp [lowV, highV, bitL, bitH, fst7]
theorem co42 (b0 b1 : Int) : contB [b0, b1] 4 = true ↔ 128 ≤ b1 ∧ b1 ≤ 191 := by
  unfold contB
  rw [decide_eq_true_eq]
  constructor
  · intro h
    have h1 := h 1 (by simp) (by omega) (by omega)
    simp at h1
    omega
  · intro h i h3 h1 h2
    simp at h3
    have : i = 1 := by omega
    rcases this with rfl <;> simp <;> omega
theorem pre3 (c b0 b1 b2 : Int) : (∃ v, ub c = [b0, b1, b2] ++ v) ↔ (2047 < c ∧ c ≤ 65535 ∧ 224 + c / 4096 = b0 ∧ 128 + c / 64 % 64 = b1 ∧ 128 + c % 64 = b2) ∨ (65535 < c ∧ 240 + c / 262144 = b0 ∧ 128 + c / 4096 % 64 = b1 ∧ 128 + c / 64 % 64 = b2) := by
  unfold ub
  split
  · simp; omega
  · split
    · simp; omega
    · split
      · simp; omega
      · simp; omega
theorem lo33 (b0 b1 b2 : Int) : lowV [b0, b1, b2] 3 2 = ((b0 % 16) * 64 + b1 % 64) * 64 + b2 % 64 ∧ highV [b0, b1, b2] 3 2 = ((b0 % 16) * 64 + b1 % 64) * 64 + b2 % 64 := by
  constructor <;> simp [lowV, highV, bitL, bitH, fst7]
theorem co33 (b0 b1 b2 : Int) : contB [b0, b1, b2] 3 = true ↔ 128 ≤ b1 ∧ b1 ≤ 191 ∧ 128 ≤ b2 ∧ b2 ≤ 191 := by
  unfold contB
  rw [decide_eq_true_eq]
  constructor
  · intro h
    have h1 := h 1 (by simp) (by omega) (by omega)
    have h2 := h 2 (by simp) (by omega) (by omega)
    simp at h1 h2
    omega
  · intro h i h3 h1 h2
    simp at h3
    have : i = 1 ∨ i = 2 := by omega
    rcases this with rfl | rfl <;> simp <;> omega
theorem lo43 (b0 b1 b2 : Int) : lowV [b0, b1, b2] 4 3 = (((b0 % 8) * 64 + b1 % 64) * 64 + b2 % 64) * 64 + 0 ∧ highV [b0, b1, b2] 4 3 = (((b0 % 8) * 64 + b1 % 64) * 64 + b2 % 64) * 64 + 63 := by
  constructor <;> simp [lowV, highV, bitL, bitH, fst7]
theorem co43 (b0 b1 b2 : Int) : contB [b0, b1, b2] 4 = true ↔ 128 ≤ b1 ∧ b1 ≤ 191 ∧ 128 ≤ b2 ∧ b2 ≤ 191 := by
  unfold contB
  rw [decide_eq_true_eq]
  constructor
  · intro h
    have h1 := h 1 (by simp) (by omega) (by omega)
    have h2 := h 2 (by simp) (by omega) (by omega)
    simp at h1 h2
    omega
  · intro h i h3 h1 h2
    simp at h3
    have : i = 1 ∨ i = 2 := by omega
    rcases this with rfl | rfl <;> simp <;> omega
theorem pre4 (c b0 b1 b2 b3 : Int) : (∃ v, ub c = [b0, b1, b2, b3] ++ v) ↔ (65535 < c ∧ 240 + c / 262144 = b0 ∧ 128 + c / 4096 % 64 = b1 ∧ 128 + c / 64 % 64 = b2 ∧ 128 + c % 64 = b3) := by
  unfold ub
  split
  · simp; omega
  · split
    · simp; omega
    · split
      · simp; omega
      · simp; omega
theorem lo44 (b0 b1 b2 b3 : Int) : lowV [b0, b1, b2, b3] 4 3 = (((b0 % 8) * 64 + b1 % 64) * 64 + b2 % 64) * 64 + b3 % 64 ∧ highV [b0, b1, b2, b3] 4 3 = (((b0 % 8) * 64 + b1 % 64) * 64 + b2 % 64) * 64 + b3 % 64 := by
  constructor <;> simp [lowV, highV, bitL, bitH, fst7]
theorem co44 (b0 b1 b2 b3 : Int) : contB [b0, b1, b2, b3] 4 = true ↔ 128 ≤ b1 ∧ b1 ≤ 191 ∧ 128 ≤ b2 ∧ b2 ≤ 191 ∧ 128 ≤ b3 ∧ b3 ≤ 191 := by
  unfold contB
  rw [decide_eq_true_eq]
  constructor
  · intro h
    have h1 := h 1 (by simp) (by omega) (by omega)
    have h2 := h 2 (by simp) (by omega) (by omega)
    have h3 := h 3 (by simp) (by omega) (by omega)
    simp at h1 h2 h3
    omega
  · intro h i h3 h1 h2
    simp at h3
    have : i = 1 ∨ i = 2 ∨ i = 3 := by omega
    rcases this with rfl | rfl | rfl <;> simp <;> omega
set_option maxHeartbeats 6400000 in
/-- whose bytes begin with s -/
theorem rns_iff (s : List Int) (hs : s ≠ []) (hb : ∀ x ∈ s, 0 ≤ x ∧ x ≤ 255) (c : Int) (hc : isL c = true) : (∃ v, ub c = s ++ v) ↔ (rns s).2.2 = true ∧ (rns s).1 ≤ c ∧ c ≤ (rns s).2.1 := by
  obtain ⟨h0, h1, h2⟩ := of_decide_eq_true hc
  rw [rns_arith, rnB_iff]
  have hgen : (∃ v, ub c = s ++ v) → lng (s.getD 0 0) ≠ 0 ∧ (s.length : Int) ≤ lng (s.getD 0 0) := by
    rintro ⟨v, hv⟩
    have e := ub_lead c hc
    have hl := congrArg List.length hv
    rw [List.length_append] at hl
    have h3 := (ub_len c).1
    have e0 : (ub c).getD 0 0 = s.getD 0 0 := by
      rw [hv]
      match s, hs with
      | x :: r, _ => rfl
    rw [e0] at e
    rw [e]
    omega
  by_cases hg : lng (s.getD 0 0) ≠ 0 ∧ (s.length : Int) ≤ lng (s.getD 0 0)
  · simp only [hg, true_and, and_self, ne_eq, not_false_eq_true]
    unfold rnL rnH
    match s, hs, hb, hg with
    | [b0], _, hb, hg =>
      rw [pre1]
      have k0 := hb b0 (by simp)
      simp only [List.getD_cons_zero, List.length_cons, List.length_nil] at hg ⊢
      rcases lng_inv b0 with e | ⟨e, e1⟩ | ⟨e, e1⟩ | ⟨e, e1⟩ | ⟨e, e1⟩
      · omega
      · rw [e, show (1 : Int).toNat - 1 = 0 from rfl, (lo11 b0).1, (lo11 b0).2, co11]
        simp [lst]
        omega
      · rw [e, show (2 : Int).toNat - 1 = 1 from rfl, (lo21 b0).1, (lo21 b0).2, co21]
        simp [lst]
        omega
      · rw [e, show (3 : Int).toNat - 1 = 2 from rfl, (lo31 b0).1, (lo31 b0).2, co31]
        simp [lst]
        omega
      · rw [e, show (4 : Int).toNat - 1 = 3 from rfl, (lo41 b0).1, (lo41 b0).2, co41]
        simp [lst]
        omega
    | [b0, b1], _, hb, hg =>
      rw [pre2]
      have k0 := hb b0 (by simp)
      simp only [List.getD_cons_zero, List.length_cons, List.length_nil] at hg ⊢
      rcases lng_inv b0 with e | ⟨e, e1⟩ | ⟨e, e1⟩ | ⟨e, e1⟩ | ⟨e, e1⟩
      · omega
      · omega
      · rw [e, show (2 : Int).toNat - 1 = 1 from rfl, (lo22 b0 b1).1, (lo22 b0 b1).2, co22]
        simp [lst]
        omega
      · rw [e, show (3 : Int).toNat - 1 = 2 from rfl, (lo32 b0 b1).1, (lo32 b0 b1).2, co32]
        simp [lst]
        omega
      · rw [e, show (4 : Int).toNat - 1 = 3 from rfl, (lo42 b0 b1).1, (lo42 b0 b1).2, co42]
        simp [lst]
        omega
    | [b0, b1, b2], _, hb, hg =>
      rw [pre3]
      have k0 := hb b0 (by simp)
      simp only [List.getD_cons_zero, List.length_cons, List.length_nil] at hg ⊢
      rcases lng_inv b0 with e | ⟨e, e1⟩ | ⟨e, e1⟩ | ⟨e, e1⟩ | ⟨e, e1⟩
      · omega
      · omega
      · omega
      · rw [e, show (3 : Int).toNat - 1 = 2 from rfl, (lo33 b0 b1 b2).1, (lo33 b0 b1 b2).2, co33]
        simp [lst]
        omega
      · rw [e, show (4 : Int).toNat - 1 = 3 from rfl, (lo43 b0 b1 b2).1, (lo43 b0 b1 b2).2, co43]
        simp [lst]
        omega
    | [b0, b1, b2, b3], _, hb, hg =>
      rw [pre4]
      have k0 := hb b0 (by simp)
      simp only [List.getD_cons_zero, List.length_cons, List.length_nil] at hg ⊢
      rcases lng_inv b0 with e | ⟨e, e1⟩ | ⟨e, e1⟩ | ⟨e, e1⟩ | ⟨e, e1⟩
      · omega
      · omega
      · omega
      · omega
      · rw [e, show (4 : Int).toNat - 1 = 3 from rfl, (lo44 b0 b1 b2 b3).1, (lo44 b0 b1 b2 b3).2, co44]
        simp [lst]
        omega
    | b0 :: x1 :: x2 :: x3 :: x4 :: r, _, hb, hg =>
      exfalso
      have h4 := hg.2
      simp only [List.getD_cons_zero, List.length_cons] at h4
      rcases lng_inv b0 with e | ⟨e, e1⟩ | ⟨e, e1⟩ | ⟨e, e1⟩ | ⟨e, e1⟩ <;> omega
  · exact ⟨fun h => absurd (hgen h) hg, fun h => absurd h.1.1 hg⟩
end Go.Proofs.YtbkpgfccghombaaDoor.rx

/-! The law's runes out of bytes. Conditions: as stated. -/
namespace Go.Proofs.YtbkpgfccghombaaDoor.rx
open Go.ChangeShapes Go.WideShapes Go.ChangeAt Go.RowKit
set_option linter.unusedVariables false

/-- a string's bytes -/
def byL (t : ByteArray) : List Int := t.data.toList.map fun b => (b.toNat : Int)
theorem byL_len (t : ByteArray) : (byL t).length = t.size := by
  show (t.data.toList.map _).length = t.data.size
  rw [List.length_map, Array.length_toList]
theorem byL_at (t : ByteArray) (i : Nat) (h : i < t.size) : (byL t).getD i 0 = (t[i].toNat : Int) := by
  have h' : i < t.data.size := h
  unfold byL
  rw [List.getD_eq_getElem?_getD, List.getElem?_map, List.getElem?_eq_getElem (by simpa using h')]
  rfl
theorem byL_ok (t : ByteArray) : okB (byL t) := fun x hx => by
  obtain ⟨b, -, rfl⟩ := List.mem_map.1 hx
  have := b.toNat_lt
  omega
theorem byL_stB (l : List Int) (h : okB l) : byL (stB l) = l := by
  have e : l.map ((fun b : UInt8 => (b.toNat : Int)) ∘ fun x : Int => UInt8.ofNat x.toNat) = l.map id := List.map_congr_left (fun x hx => u8_back (h x hx).1 (h x hx).2)
  rw [List.map_id] at e
  show ((l.map fun x => UInt8.ofNat x.toNat).toArray.toList.map fun b : UInt8 => (b.toNat : Int)) = l
  rw [List.map_map]
  exact e

theorem lowV_bd (s : List Int) (n : Int) (hs : okB s) (h0 : 0 < s.length) : ∀ k, 0 ≤ lowV s n k ∧ lowV s n k < 128 * 64 ^ k ∧ 0 ≤ highV s n k ∧ highV s n k < 128 * 64 ^ k
  | 0 => by
    have : 0 ≤ s.getD 0 0 := by
      rw [List.getD_eq_getElem?_getD, List.getElem?_eq_getElem h0]
      exact (hs _ (List.getElem_mem h0)).1
    simp only [lowV, highV, fst7, Int.pow_zero]
    split
    · omega
    · split
      · omega
      · split <;> omega
  | k + 1 => by
    obtain ⟨h1, h2, h3, h4⟩ := lowV_bd s n hs h0 k
    have b1 : 0 ≤ bitL s (k + 1) ∧ bitL s (k + 1) ≤ 63 := by unfold bitL; split <;> omega
    have b2 : 0 ≤ bitH s (k + 1) ∧ bitH s (k + 1) ≤ 63 := by unfold bitH; split <;> omega
    have e : (128 : Int) * 64 ^ (k + 1) = (128 * 64 ^ k) * 64 := by rw [Int.pow_succ]; omega
    simp only [lowV, highV]
    rw [e]
    omega
theorem rns_bad {s : List Int} {n : Int} {i : Nat} (hn : lng (s.getD 0 0) = n) (h1 : 1 ≤ i) (h2 : (i : Int) < n) (h3 : i < s.length) (h4 : ¬ (128 ≤ s.getD i 0 ∧ s.getD i 0 ≤ 191)) : rns s = (0, 0, false) := by
  unfold rns
  rw [if_neg (fun h => by
    have h5 := ((rnB_iff s).1 h).2
    rw [hn] at h5
    unfold contB at h5
    exact h4 (of_decide_eq_true h5 i h3 h1 h2))]
theorem mk_cell (w : World) (o : Obj) (t : TypeId) (l : List Value) (k : Nat) (v : Value) (h : l[k]? = some v) : ((w.alloc o).alloc (.cells l.toArray t)).cell? ⟨w.heap.size + 1, k, none⟩ = some v := by
  have hb := (Blk.new (w.alloc o) t l).cell k
  rw [h, show (w.alloc o).heap.size = w.heap.size + 1 by simp] at hb
  exact hb
theorem or_low6 (x a : Int) (h0 : 0 ≤ x) (h1 : x < 33554432) (a0 : 0 ≤ a) (a1 : a ≤ 63) : bits .or .i32 (x * 64) a = x * 64 + a := by
  obtain ⟨n, rfl⟩ := Int.eq_ofNat_of_zero_le h0
  obtain ⟨m, rfl⟩ := Int.eq_ofNat_of_zero_le a0
  rw [show ((n : Int) * 64) = ((n * 64 : Nat) : Int) by omega]
  show IntKind.i32.wrap ((BitVec.ofInt 32 ((n * 64 : Nat) : Int) ||| BitVec.ofInt 32 (m : Int)).toNat : Int) = _
  rw [BitVec.toNat_or, ofInt_u32 (n * 64) (by omega), ofInt_u32 m (by omega), nat_join 6 (n * 64) m (by omega) (by omega)]
  rw [wrap_i32_small _ (by omega) (by omega)]
  omega
set_option maxRecDepth 100000 in
set_option maxHeartbeats 1600000 in
theorem runes_any (t : ByteArray) (w : World) (h0 : 0 < t.size) (ht : t.size ≤ 4096) :
    Calls Tryd.prog 59 #[.string t] w fun e w' => e = .returned (.tuple #[.int .i32 (rns (byL t)).1, .int .i32 (rns (byL t)).2.1, .bool (rns (byL t)).2.2]) ∧ Below w.heap.size w w' := by
  have mixed : Tryd.prog.follows .mixedOrders = true := by kernel_rfl
  have e0 := byL_at t 0 h0
  have HAT := Lib.hid (byL_at t)
  have HOK := Lib.hid (byL_ok t)
  have HLN := Lib.hid (byL_len t)
  have CL := Lib.hid (fun W => long_any (t[0].toNat : Int) W)
  obtain ⟨n, hn⟩ : ∃ n, n = lng (t[0].toNat : Int) := ⟨_, rfl⟩
  have HN := Lib.hid hn
  rw [← hn] at CL
  have hn4 : 0 ≤ n ∧ n ≤ 4 := by rw [hn]; rcases lng_inv (t[0].toNat : Int) with h | h | h | h | h <;> omega
  have hne : (n : Int) = 0 ∨ 1 ≤ n := by omega
  have HE0 := Lib.hid e0
  clear hn e0
  by_cases hbad : n = 0 ∨ (t.size : Int) > n
  · have HR := Lib.hid (show rns (byL t) = (0, 0, false) from by
      unfold rns
      rw [if_neg (fun h => by
        have h2 := ((rnB_iff _).1 h).1
        rw [HE0.out, ← HN.out, HLN.out] at h2
        omega)])
    by_cases hz : n = 0
    · have hz' : (n == 0) = true := by simp [hz]
      go_enter Tryd.func59, Tryd.ntmps59
      go_wp2_with (go_at_call 58; refine (CL.out _).mono ?_; rintro e w1 ⟨rfl, rfl⟩)
      go_returns
      rw [HR.out]
      exact ⟨rfl, Below.refl _ _⟩
    · have hz' : (n == 0) = false := by rw [beq_eq_false_iff_ne]; exact hz
      have hgt : (t.size : Int) > n := by omega
      go_enter Tryd.func59, Tryd.ntmps59
      go_wp2_with (go_at_call 58; refine (CL.out _).mono ?_; rintro e w1 ⟨rfl, rfl⟩)
      go_returns
      rw [HR.out]
      exact ⟨rfl, Below.refl _ _⟩
  · have hz' : (n == 0) = false := by rw [beq_eq_false_iff_ne]; omega
    have hgt : ¬ ((t.size : Int) > n) := by omega
    go_enter Tryd.func59, Tryd.ntmps59
    go_upto_region 6 with (go_at_call 58; refine (CL.out _).mono ?_; rintro e w1 ⟨rfl, rfl⟩)
    have H7 := Lib.hid (lowV_bd (byL t) n HOK.out (by rw [HLN.out]; exact h0))
    have hn14 : n = 1 ∨ n = 2 ∨ n = 3 ∨ n = 4 := by omega
    obtain ⟨m, hm⟩ : ∃ m : Int, m = (if n = 1 then 127 else if n = 2 then 31 else if n = 3 then 15 else 7) := ⟨_, rfl⟩
    obtain ⟨k, rfl⟩ : ∃ k : Nat, n = k := ⟨n.toNat, by omega⟩
    have hk : k < 5 := by omega
    have hc7 := fun (W : World) (o : Obj) (t1 : TypeId) => mk_cell W o t1 [.int .u8 0, .int .u8 127, .int .u8 31, .int .u8 15, .int .u8 7] k (.int .u8 m) (by
      have : k = 1 ∨ k = 2 ∨ k = 3 ∨ k = 4 := by omega
      rcases this with rfl | rfl | rfl | rfl <;> simp [hm])
    have hand : bits .and .u8 (t[0].toNat : Int) m = fst7 k (t[0].toNat : Int) := by
      have hb : t[0].toNat < 256 := t[0].toNat_lt
      have : k = 1 ∨ k = 2 ∨ k = 3 ∨ k = 4 := by omega
      rcases this with rfl | rfl | rfl | rfl
      · rw [hm]
        have := u8_and_nat t[0].toNat 127 hb (by omega)
        rw [nat_mask7] at this
        simpa [fst7] using this
      · rw [hm]
        have := u8_and_nat t[0].toNat 31 hb (by omega)
        rw [nat_mask5] at this
        simpa [fst7] using this
      · rw [hm]
        have := u8_and_nat t[0].toNat 15 hb (by omega)
        rw [nat_mask4] at this
        simpa [fst7] using this
      · rw [hm]
        have := u8_and_nat t[0].toNat 7 hb (by omega)
        rw [nat_mask3] at this
        simpa [fst7] using this
    have hw0 := (H7.out 0)
    simp only [lowV, HE0.out, Int.pow_zero] at hw0
    have hw1 : IntKind.i32.wrap (fst7 k (t[0].toNat : Int)) = fst7 k (t[0].toNat : Int) := by rw [IntKind.wrap_i32]; omega
    have HV0 := Lib.hid (show lowV (byL t) k 0 = fst7 k (t[0].toNat : Int) ∧ highV (byL t) k 0 = fst7 k (t[0].toNat : Int) from by simp only [lowV, highV, HE0.out]; exact ⟨trivial, trivial⟩)
    generalize fst7 k (t[0].toNat : Int) = f0 at *
    clear hm hn14
    go_quiet (fail)
    go_wp2_with fail
    refine name_world ?_
    intro wq hq
    have HBQ := Lib.hid (show Below w.heap.size w wq from by rw [hq]; exact below_drewN (below_two _ _ _) _)
    have hleast : wq.cell? ⟨w.heap.size, k, none⟩ = some (.int .i32 (lst k)) := by
      rw [hq]
      have hb := ((Blk.new w 165 [.int .i32 0, .int .i32 0, .int .i32 128, .int .i32 2048, .int .i32 65536]).alloc (.cells #[.int .u8 0, .int .u8 127, .int .u8 31, .int .u8 15, .int .u8 7] 166)).cell k
      have : k = 1 ∨ k = 2 ∨ k = 3 ∨ k = 4 := by omega
      rcases this with rfl | rfl | rfl | rfl <;> exact hb
    clear hq hc7 hand
    go_loopw [8, 9, 10, 11, 12] (fun v8 v9 v10 _ _ wr => ∃ (i : Nat) (lo hi : Int), 1 ≤ i ∧ i ≤ k ∧ v10 = .int .i64 i ∧ v8 = .int .i32 lo ∧ v9 = .int .i32 hi ∧ wq = wr ∧ 0 ≤ lo ∧ lo < 33554432 ∧ 0 ≤ hi ∧ hi < 33554432 ∧ Hid (lo = lowV (byL t) k (i - 1) ∧ hi = highV (byL t) k (i - 1) ∧ ∀ j : Nat, 1 ≤ j → j < i → j < t.size → 128 ≤ (byL t).getD j 0 ∧ (byL t).getD j 0 ≤ 191)) (fun _ _ v10 _ _ _ => k - (intOf v10).toNat)
    case atStart => exact ⟨1, f0, f0, by omega, by omega, rfl, rfl, rfl, rfl, by omega, by omega, by omega, by omega, Lib.hid ⟨HV0.out.1.symm, HV0.out.2.symm, fun j h1 h2 => by omega⟩⟩
    case round =>
      obtain ⟨i, lo, hi, hi1, hik, rfl, rfl, rfl, rfl, hl0, hl1, hh0, hh1, H1⟩ := hrel
      by_cases hlt : i < k
      · have hbn := Lib.hid (show 0 ≤ lowV (byL t) k i ∧ lowV (byL t) k i < 33554432 ∧ 0 ≤ highV (byL t) k i ∧ highV (byL t) k i < 33554432 from by
          have h := H7.out i
          have : i = 1 ∨ i = 2 ∨ i = 3 := by omega
          have e1 : (64 : Int) ^ 1 = 64 := by decide
          have e2 : (64 : Int) ^ 2 = 4096 := by decide
          have e3 : (64 : Int) ^ 3 = 262144 := by decide
          rcases this with rfl | rfl | rfl
          · rw [e1] at h; omega
          · rw [e2] at h; omega
          · rw [e3] at h; omega)
        have HNX := Lib.hid (show lowV (byL t) k i = lo * 64 + bitL (byL t) i ∧ highV (byL t) k i = hi * 64 + bitH (byL t) i from by
          obtain ⟨j, rfl⟩ : ∃ j, i = j + 1 := ⟨i - 1, by omega⟩
          rw [H1.out.1, H1.out.2.1]
          exact ⟨rfl, rfl⟩)
        have w1 : IntKind.i32.wrap (lo * 64) = lo * 64 := by rw [IntKind.wrap_i32]; omega
        have w2 : IntKind.i32.wrap (hi * 64) = hi * 64 := by rw [IntKind.wrap_i32]; omega
        by_cases hs : i < t.size
        · have hx := Lib.hid (HAT.out i hs)
          have hx0 : t[i].toNat < 256 := t[i].toNat_lt
          by_cases h128 : (t[i].toNat : Int) < 128
          · have HR := Lib.hid (show rns (byL t) = (0, 0, false) from rns_bad (n := (k : Int)) (by rw [HE0.out]; exact HN.out.symm) hi1 (by omega) (by rw [HLN.out]; exact hs) (by rw [hx.out]; omega))
            go_wp2
            go_returns
            rw [HR.out]
            exact ⟨rfl, HBQ.out⟩
          · by_cases h191 : 191 < (t[i].toNat : Int)
            · have HR := Lib.hid (show rns (byL t) = (0, 0, false) from rns_bad (n := (k : Int)) (by rw [HE0.out]; exact HN.out.symm) hi1 (by omega) (by rw [HLN.out]; exact hs) (by rw [hx.out]; omega))
              go_wp2
              go_returns
              rw [HR.out]
              exact ⟨rfl, HBQ.out⟩
            · have a1 := and_63 (t[i].toNat : Int) (by omega) (by omega)
              have w3 : IntKind.i32.wrap ((t[i].toNat : Int) % 64) = (t[i].toNat : Int) % 64 := by rw [IntKind.wrap_i32]; omega
              have o1 := or_low6 lo ((t[i].toNat : Int) % 64) hl0 hl1 (by omega) (by omega)
              have o2 := or_low6 hi ((t[i].toNat : Int) % 64) hh0 hh1 (by omega) (by omega)
              have HB := Lib.hid (show bitL (byL t) i = (t[i].toNat : Int) % 64 ∧ bitH (byL t) i = (t[i].toNat : Int) % 64 from by
                unfold bitL bitH
                rw [if_pos (by rw [HLN.out]; exact hs), if_pos (by rw [HLN.out]; exact hs), hx.out]
                exact ⟨rfl, rfl⟩)
              have HC := Lib.hid (show ∀ j : Nat, 1 ≤ j → j < i + 1 → j < t.size → 128 ≤ (byL t).getD j 0 ∧ (byL t).getD j 0 ≤ 191 from fun j h1 h2 h3 => by
                rcases Nat.lt_or_ge j i with h | h
                · exact H1.out.2.2 j h1 h h3
                · obtain rfl : j = i := by omega
                  rw [hx.out]
                  omega)
              have HS := Lib.hid (show lowV (byL t) k i = lo * 64 + (t[i].toNat : Int) % 64 ∧ highV (byL t) k i = hi * 64 + (t[i].toNat : Int) % 64 from by rw [HNX.out.1, HNX.out.2, HB.out.1, HB.out.2]; exact ⟨rfl, rfl⟩)
              go_wp2
              go_roundw
              case rel => exact ⟨i + 1, lo * 64 + (t[i].toNat : Int) % 64, hi * 64 + (t[i].toNat : Int) % 64, by omega, by omega, by go_num, rfl, rfl, by first | rfl | trivial, by rw [← HS.out.1]; exact hbn.out.1, by rw [← HS.out.1]; exact hbn.out.2.1, by rw [← HS.out.2]; exact hbn.out.2.2.1, by rw [← HS.out.2]; exact hbn.out.2.2.2, Lib.hid ⟨HS.out.1.symm, HS.out.2.symm, HC.out⟩⟩
              case measure => simp [intOf]; omega
        · have o1 := or_low6 lo 0 hl0 hl1 (by omega) (by omega)
          have o2 := or_low6 hi 63 hh0 hh1 (by omega) (by omega)
          have HS := Lib.hid (show lowV (byL t) k i = lo * 64 + 0 ∧ highV (byL t) k i = hi * 64 + 63 from by
            rw [HNX.out.1, HNX.out.2]
            unfold bitL bitH
            rw [if_neg (by rw [HLN.out]; exact hs), if_neg (by rw [HLN.out]; exact hs)]
            exact ⟨rfl, rfl⟩)
          have HC := Lib.hid (show ∀ j : Nat, 1 ≤ j → j < i + 1 → j < t.size → 128 ≤ (byL t).getD j 0 ∧ (byL t).getD j 0 ≤ 191 from fun j h1 h2 h3 => H1.out.2.2 j h1 (by omega) h3)
          go_wp2
          go_roundw
          case rel => exact ⟨i + 1, lo * 64 + 0, hi * 64 + 63, by omega, by omega, by go_num, by go_num, by go_num, by first | rfl | trivial, by rw [← HS.out.1]; exact hbn.out.1, by rw [← HS.out.1]; exact hbn.out.2.1, by rw [← HS.out.2]; exact hbn.out.2.2.1, by rw [← HS.out.2]; exact hbn.out.2.2.2, Lib.hid ⟨HS.out.1.symm, HS.out.2.symm, HC.out⟩⟩
          case measure => simp [intOf]; omega
      · obtain rfl : i = k := by omega
        have HE := Lib.hid (show rns (byL t) = (max lo (lst i), min hi 1114111, decide (max lo (lst i) ≤ min hi 1114111)) from by
          have hb : rnB (byL t) = true := by
            rw [rnB_iff, HE0.out, ← HN.out, HLN.out]
            refine ⟨by omega, ?_⟩
            unfold contB
            rw [HLN.out]
            exact decide_eq_true (fun j h3 h1 h2 => H1.out.2.2 j h1 (by omega) h3)
          unfold rns
          rw [if_pos hb]
          unfold rnL rnH
          rw [HE0.out, ← HN.out, Int.toNat_natCast, ← H1.out.1, ← H1.out.2.1])
        have hls : 0 ≤ lst i ∧ lst i ≤ 65536 := by unfold lst; split <;> (try split) <;> (try split) <;> omega
        generalize lst i = z at *
        go_wp2
        all_goals
          go_returns
          rw [HE.out]
          refine ⟨?_, HBQ.out⟩
          first
          | (rw [show max lo z = z by omega, show min hi 1114111 = 1114111 by omega]; rfl)
          | (rw [show max lo z = z by omega, show min hi 1114111 = hi by omega]; rfl)
          | (rw [show max lo z = lo by omega, show min hi 1114111 = 1114111 by omega]; rfl)
          | (rw [show max lo z = lo by omega, show min hi 1114111 = hi by omega]; rfl)
end Go.Proofs.YtbkpgfccghombaaDoor.rx
