/-
  Sorting through an interface value: choosePivot, breakPatterns (what the sort leans on: places within the range). Conditions: as stated.
-/
import Derived.Test.YtgblmafollhojaaSrtD
import Derived.Test.YtgblmafollhojaaShelf
import Derived.Laws.BitsAllLaws
namespace Go.Proofs.Ytgblmafollhojaa
open Go.ChangeShapes Go.WideShapes Go.ChangeAt Go.RowKit
open Go.Sort (swp PermIn)
set_option linter.unusedVariables false

/-- a counter in a block of the call's own -/
structure Bx {α : Type} [Inhabited α] (I : Itf α) (W : World) (d : Array α) (w : World) (cb s : Nat) : Prop where
  h : Hs I W d w
  b : Blk w cb 3 [.int .i64 s]
  ge : W.heap.size ≤ cb
  lt : I.blk < W.heap.size

section
variable {α : Type} [Inhabited α] {I : Itf α} {W w w' : World} {d : Array α} {cb s : Nat}
theorem Bx.on (O : I.Ok) (B : Bx I W d w cb s) (h : Hs I w d w') : Bx I W d w' cb s := ⟨B.h.on h, B.b.grown h.g (by have := B.ge; have := B.lt; intro e; injection e with e; omega), B.ge, B.lt⟩
theorem Hs.box (O : I.Ok) (h : Hs I W d w) (hge : W.heap.size ≤ cb) (hlt : I.blk < W.heap.size) (u : Value) : Hs I W d (w.setCell ⟨cb, 0, none⟩ u) := by
  have hne : I.blk ≠ cb := by omega
  refine ⟨O.loc h.s (Below.heap_setCell w ⟨cb, 0, none⟩ u I.blk hne), ⟨h.g.os, h.g.tape, h.g.output, by simpa [World.setCell] using h.g.size, fun k hk hk2 => ?_⟩⟩
  exact (Below.heap_setCell w ⟨cb, 0, none⟩ u k (by show k ≠ cb; omega)).trans (h.g.block k hk hk2)
theorem Bx.set_ (O : I.Ok) (B : Bx I W d w cb s) (t : Nat) : Bx I W d (w.setCell ⟨cb, 0, none⟩ (.int .i64 t)) cb t := ⟨B.h.box O B.ge B.lt _, B.b.set_ 0 _, B.ge, B.lt⟩
theorem Bx.new (O : I.Ok) (h : I.S w d) : Bx I w d (w.alloc (.cells #[.int .i64 0] 3)) w.heap.size 0 := by
  have hlt := O.inb h
  refine ⟨⟨O.loc h (Below.heap_alloc w _ I.blk hlt), only_alloc (World.grownBy.refl w _) _⟩, ?_, Nat.le_refl _, hlt⟩
  exact Blk.new w 3 [.int .i64 0]
end

set_option maxRecDepth 100000 in
set_option maxHeartbeats 800000 in
theorem ord_any {α : Type} [Inhabited α] {I : Itf α} (O : I.Ok) {W w : World} {d : Array α} {cb s : Nat} (B : Bx I W d w cb s) (x y : Int) (a b : Nat) (hx : x = a) (hy : y = b) (ha : a < I.N) (hb : b < I.N) (hs : s < 1000) :
    Calls Try.prog 66 #[.iface I.T I.rv, .int .i64 x, .int .i64 y, .pointer (some ⟨cb, 0, none⟩)] w fun e w' =>
      ∃ u v t : Nat, e = .returned (.tuple #[.int .i64 u, .int .i64 v]) ∧ (u = a ∧ v = b ∨ u = b ∧ v = a) ∧ t ≤ s + 1 ∧ Bx I W d w' cb t := by
  subst hx hy
  have mL := O.mL
  have eL := O.eL
  have big := O.big
  have HO := Lib.hid O
  have HB := Lib.hid B
  have HL := Lib.hid ((Hs.refl B.h.s).lessI O (b : Int) (a : Int) b a rfl rfl hb ha)
  clear O B
  cases hlv : I.lt d[b]! d[a]! with
  | true =>
    have HLV := Lib.hid hlv
    clear hlv
    go_enter Try.func66, Try.ntmps66
    go_wp2_with fail
    refine HL.out.mono ?_
    rw [HLV.out]
    rintro e w1 ⟨rfl, hs1⟩
    have HB1 := Lib.hid (HB.out.on HO.out hs1)
    have hc := HB1.out.b.cell 0
    have hf := HB1.out.b.frozen 0
    simp only [List.getElem?_cons_zero] at hc
    clear hs1 HL HB
    go_wp2
    go_ret2
    exact ⟨b, a, s + 1, rfl, .inr ⟨rfl, rfl⟩, Nat.le_refl _, HB1.out.set_ HO.out (s + 1)⟩
  | false =>
    have HLV := Lib.hid hlv
    clear hlv
    go_enter Try.func66, Try.ntmps66
    go_wp2_with fail
    refine HL.out.mono ?_
    rw [HLV.out]
    rintro e w1 ⟨rfl, hs1⟩
    have HB1 := Lib.hid (HB.out.on HO.out hs1)
    clear hs1 HL HB
    go_wp2
    go_ret2
    exact ⟨a, b, s, rfl, .inl ⟨rfl, rfl⟩, by omega, HB1.out⟩

set_option maxRecDepth 100000 in
set_option maxHeartbeats 800000 in
theorem med_any {α : Type} [Inhabited α] {I : Itf α} (O : I.Ok) {W w : World} {d : Array α} {cb s : Nat} (B : Bx I W d w cb s) (x y z : Int) (a b c : Nat) (hx : x = a) (hy : y = b) (hz : z = c) (ha : a < I.N) (hb : b < I.N) (hc : c < I.N) (hs : s < 900) :
    Calls Try.prog 65 #[.iface I.T I.rv, .int .i64 x, .int .i64 y, .int .i64 z, .pointer (some ⟨cb, 0, none⟩)] w fun e w' =>
      ∃ u t : Nat, e = .returned (.int .i64 u) ∧ (u = a ∨ u = b ∨ u = c) ∧ t ≤ s + 3 ∧ Bx I W d w' cb t := by
  subst hx hy hz
  have big := O.big
  have HO := Lib.hid O
  have HB := Lib.hid B
  clear O B
  go_enter Try.func65, Try.ntmps65
  go_wp2_with fail
  refine (ord_any HO.out HB.out _ _ a b rfl rfl ha hb (by omega)).mono ?_
  rintro e w1 ⟨a1, b1, t1, rfl, h1, ht1, hB1⟩
  have HB1 := Lib.hid hB1
  have H1 := Lib.hid h1
  have ha1 : a1 < I.N := by omega
  have hb1 : b1 < I.N := by omega
  clear hB1 h1
  go_wp2_with fail
  refine (ord_any HO.out HB1.out _ _ b1 c rfl rfl hb1 hc (by omega)).mono ?_
  rintro e w2 ⟨b2, c2, t2, rfl, h2, ht2, hB2⟩
  have HB2 := Lib.hid hB2
  have H2 := Lib.hid h2
  have hb2 : b2 < I.N := by omega
  clear hB2 h2
  go_wp2_with fail
  refine (ord_any HO.out HB2.out _ _ a1 b2 rfl rfl ha1 hb2 (by omega)).mono ?_
  rintro e w3 ⟨a3, b3, t3, rfl, h3, ht3, hB3⟩
  have HB3 := Lib.hid hB3
  have H3 := Lib.hid h3
  clear hB3 h3
  go_wp2
  go_ret
  exact ⟨b3, t3, rfl, by have := H1.out; have := H2.out; have := H3.out; omega, by omega, HB3.out⟩

set_option maxRecDepth 100000 in
set_option maxHeartbeats 400000 in
theorem madj_any {α : Type} [Inhabited α] {I : Itf α} (O : I.Ok) {W w : World} {d : Array α} {cb s : Nat} (B : Bx I W d w cb s) (x : Int) (a : Nat) (hx : x = a) (h1 : 1 ≤ a) (ha : a + 1 < I.N) (hs : s < 900) :
    Calls Try.prog 64 #[.iface I.T I.rv, .int .i64 x, .pointer (some ⟨cb, 0, none⟩)] w fun e w' =>
      ∃ u t : Nat, e = .returned (.int .i64 u) ∧ (u + 1 = a ∨ u = a ∨ u = a + 1) ∧ t ≤ s + 3 ∧ Bx I W d w' cb t := by
  subst hx
  have big := O.big
  have HO := Lib.hid O
  have HB := Lib.hid B
  clear O B
  go_enter Try.func64, Try.ntmps64
  go_wp2_with fail
  refine (med_any HO.out HB.out _ _ _ (a - 1) a (a + 1) (by omega) (by omega) (by omega) (by omega) (by omega) (by omega) hs).mono ?_
  rintro e w1 ⟨u, t, rfl, hu, ht, hB⟩
  have HB1 := Lib.hid hB
  have HU := Lib.hid hu
  clear hB hu
  go_wp2
  go_ret
  exact ⟨u, t, rfl, by have := HU.out; omega, ht, HB1.out⟩

/-- a pivot -/
def Piv {α : Type} [Inhabited α] (I : Itf α) (W : World) (d : Array α) (a b : Nat) (e : Ending) (w' : World) : Prop :=
  ∃ p h : Nat, e = .returned (.tuple #[.int .i64 p, .int .i64 h]) ∧ a ≤ p ∧ p < b ∧ h ≤ 2 ∧ Hs I W d w'

set_option maxRecDepth 100000 in
set_option maxHeartbeats 1600000 in
theorem piv_any {α : Type} [Inhabited α] {I : Itf α} (O : I.Ok) (W : World) (d : Array α) (a b : Nat) (h : I.S W d) (hab : a + 12 < b) (hb : b ≤ I.N) :
    Calls Try.prog 56 #[.iface I.T I.rv, .int .i64 a, .int .i64 b] W (Piv I W d a b) := by
  have big := O.big
  have HO := Lib.hid O
  have HB := Lib.hid (Bx.new O h)
  clear O h
  by_cases h50 : a + 50 ≤ b
  · go_enter Try.func56, Try.ntmps56
    go_wp2_with fail
    refine (madj_any HO.out HB.out _ (a + (b - a) / 4) (by omega) (by omega) (by omega) (by omega)).mono ?_
    rintro e w1 ⟨i1, t1, rfl, hi1, ht1, hB1⟩
    have HB1 := Lib.hid hB1
    have g1 : i1 < b := by omega
    have g1' : a ≤ i1 := by omega
    clear hB1 HB hi1
    go_wp2_with fail
    refine (madj_any HO.out HB1.out _ (a + (b - a) / 4 * 2) (by omega) (by omega) (by omega) (by omega)).mono ?_
    rintro e w2 ⟨j1, t2, rfl, hj1, ht2, hB2⟩
    have HB2 := Lib.hid hB2
    have g2 : j1 < b := by omega
    have g2' : a ≤ j1 := by omega
    clear hB2 HB1 hj1
    go_wp2_with fail
    refine (madj_any HO.out HB2.out _ (a + (b - a) / 4 * 3) (by omega) (by omega) (by omega) (by omega)).mono ?_
    rintro e w3 ⟨k1, t3, rfl, hk1, ht3, hB3⟩
    have HB3 := Lib.hid hB3
    have g3 : k1 < b := by omega
    have g3' : a ≤ k1 := by omega
    clear hB3 HB2 hk1
    go_wp2_with fail
    refine (med_any HO.out HB3.out _ _ _ i1 j1 k1 rfl rfl rfl (by omega) (by omega) (by omega) (by omega)).mono ?_
    rintro e w4 ⟨p, t4, rfl, hp, ht4, hB4⟩
    have HB4 := Lib.hid hB4
    have hc := hB4.b.cell 0
    simp only [List.getElem?_cons_zero] at hc
    have g4 : p < b := by omega
    have g4' : a ≤ p := by omega
    clear hB4 HB3 hp
    by_cases h0 : t4 = 0
    · subst h0
      go_wp2
      go_ret2
      exact ⟨p, 1, rfl, g4', g4, by omega, HB4.out.h⟩
    · have e0 : ((t4 : Int) == 0) = false := by rw [beq_eq_false_iff_ne]; omega
      by_cases h12 : t4 = 12
      · subst h12
        go_wp2
        go_ret2
        exact ⟨p, 2, rfl, g4', g4, by omega, HB4.out.h⟩
      · have e12 : ((t4 : Int) == 12) = false := by rw [beq_eq_false_iff_ne]; omega
        clear h0 h12
        go_wp2
        go_ret2
        exact ⟨p, 0, rfl, g4', g4, by omega, HB4.out.h⟩
  · go_enter Try.func56, Try.ntmps56
    go_wp2_with fail
    refine (med_any HO.out HB.out _ _ _ (a + (b - a) / 4) (a + (b - a) / 4 * 2) (a + (b - a) / 4 * 3) (by omega) (by omega) (by omega) (by omega) (by omega) (by omega) (by omega)).mono ?_
    rintro e w4 ⟨p, t4, rfl, hp, ht4, hB4⟩
    have HB4 := Lib.hid hB4
    have hc := hB4.b.cell 0
    simp only [List.getElem?_cons_zero] at hc
    have g4 : p < b := by omega
    have g4' : a ≤ p := by omega
    clear hB4 HB hp
    by_cases h0 : t4 = 0
    · subst h0
      go_wp2
      go_ret2
      exact ⟨p, 1, rfl, g4', g4, by omega, HB4.out.h⟩
    · have e0 : ((t4 : Int) == 0) = false := by rw [beq_eq_false_iff_ne]; omega
      have e12 : ((t4 : Int) == 12) = false := by rw [beq_eq_false_iff_ne]; omega
      clear h0
      go_wp2
      go_ret2
      exact ⟨p, 0, rfl, g4', g4, by omega, HB4.out.h⟩

/-- the patterns broken: the same elements -/
def Brk {α : Type} [Inhabited α] (I : Itf α) (W : World) (d : Array α) (a b : Nat) (e : Ending) (w' : World) : Prop :=
  e = .returned (.tuple #[]) ∧ ∃ d', PermIn a b d d' ∧ Hs I W d' w'

theorem and_below (x m : Nat) (hx : x < 18446744073709551616) (hm : m < 18446744073709551616) : ∃ k : Nat, bits BinOp.and IntKind.u64 (x : Int) (m : Int) = (k : Int) ∧ k ≤ m :=
  ⟨_, u64_and_nat x m hx hm, Nat.and_le_right⟩

set_option maxRecDepth 100000 in
set_option maxHeartbeats 1600000 in
theorem brk_any {α : Type} [Inhabited α] {I : Itf α} (O : I.Ok) (W : World) (d : Array α) (a b : Nat) (h : I.S W d) (hab : a + 12 < b) (hb : b ≤ I.N) :
    Calls Try.prog 55 #[.iface I.T I.rv, .int .i64 a, .int .i64 b] W (Brk I W d a b) := by
  have mS := O.mS
  have eS := O.eS
  have big := O.big
  have hlt := O.inb h
  have HO := Lib.hid O
  have hnb : ((b - a : Nat) : Int) = (b : Int) - a := by omega
  have HX := Lib.hid (show Hs I W d (W.alloc (.cells #[.int .u64 ((b : Int) - a)] 105)) from ⟨O.loc h (Below.heap_alloc W _ I.blk hlt), only_alloc (World.grownBy.refl W _) _⟩)
  have HBK := Lib.hid (Blk.new W 105 [.int .u64 ((b - a : Nat) : Int)])
  have hmod1 := Go.Sort.two_pow_bitsLen_le (n := b - a) (by omega)
  have hmod0 := Go.Sort.lt_two_pow_bitsLen (b - a)
  have CP := Lib.hid (fun w => Try.nextPowerOfTwo (b - a) (by omega) w)
  have hsl : (1 <<< Go.Sort.bitsLen (b - a) : Nat) = 2 ^ Go.Sort.bitsLen (b - a) := Nat.one_shiftLeft _
  rw [hsl, hnb] at CP
  rw [hnb] at HBK
  generalize 2 ^ Go.Sort.bitsLen (b - a) = m at *
  have hm64 : m < 9223372036854775808 := by omega
  clear O h hsl hnb
  go_enter Try.func55, Try.ntmps55
  go_wp2_with fail
  refine (CP.out _).mono ?_
  rintro e w1 ⟨rfl, rfl⟩
  go_wp2_with fail
  have HPR := Lib.hid (Go.Sort.permIn_refl (α := α) d a b)
  have hc0 : W.heap.size < W.heap.size + 1 := Nat.lt_succ_self _
  have HX0 := Lib.hid (show b - a < 18446744073709551616 by omega)
  go_loopw [9, 10] (fun vx _ wr => ∃ (x : Int) (X : Nat) (dk : Array α), vx = .int .i64 x ∧ (a : Int) + ((b : Int) - a) / 4 * 2 - 1 ≤ x ∧ x ≤ (a : Int) + ((b : Int) - a) / 4 * 2 + 2 ∧ Hid (X < 18446744073709551616) ∧ Hid (Blk wr W.heap.size 105 [.int .u64 X]) ∧ Hid (PermIn a b d dk) ∧ Hid (Hs I W dk wr))
    (fun vx _ _ => ((a : Int) + ((b : Int) - a) / 4 * 2 + 2 - intOf vx).toNat)
  case atStart => exact ⟨_, b - a, d, rfl, by omega, by omega, HX0, by rw [show ((b - a : Nat) : Int) = (b : Int) - a by omega]; exact HBK, HPR, HX⟩
  case round =>
    obtain ⟨x, X, dk, rfl, hx1, hx2, HXX, HBX, HPD, HK⟩ := hrel
    by_cases hgo : x ≤ (a : Int) + ((b : Int) - a) / 4 * 2 + 1
    · have CN := Lib.hid (Try.xorshift_Next W.heap.size 0 X HXX.out wr (HBX.out.cell 0) (HBX.out.frozen 0))
      have HX1 := Lib.hid (Go.Sort.xorNextN_lt X HXX.out)
      obtain ⟨k, hk, hkm⟩ := and_below (Go.Sort.xorNextN X) (m - 1) HX1.out (by omega)
      rw [show ((m - 1 : Nat) : Int) = (m : Int) - 1 by omega] at hk
      generalize Go.Sort.xorNextN X = Y at *
      have hm1 : (1 : Int) ≤ m := by omega
      have hpl : ∃ o : Nat, o < b - a ∧ ((k < b - a ∧ o = k) ∨ (¬ k < b - a ∧ o = k - (b - a))) := by
        by_cases hkn : k < b - a
        · exact ⟨k, hkn, .inl ⟨hkn, rfl⟩⟩
        · exact ⟨k - (b - a), by omega, .inr ⟨hkn, rfl⟩⟩
      obtain ⟨o, ho, hkn⟩ := hpl
      have H2 := Lib.hid (HK.out.box HO.out (Nat.le_refl W.heap.size) hlt (.int .u64 Y))
      have HB2 := Lib.hid (HBX.out.set_ 0 (.int .u64 Y))
      clear HPR HX0 HX
      obtain ⟨xn, hxn⟩ := Int.eq_ofNat_of_zero_le (show 0 ≤ x by omega)
      have HXN := Lib.hid hxn
      have hxa : a ≤ xn := by omega
      have hxb : xn < b := by omega
      clear hxn
      rcases hkn with ⟨hkn, hok⟩ | ⟨hkn, hok⟩
      · have HOK := Lib.hid hok
        clear hok
        go_wp2_with fail
        refine CN.out.mono ?_
        rintro e w2 ⟨rfl, rfl⟩
        have H3 := Lib.hid (H2.out.below HO.out (below_drewN (Below.refl _ _) 3))
        have HB3 := Lib.hid (HB2.out.drewN 3)
        clear H2 HB2 CN
        go_wp2_with fail
        refine ((Hs.refl H3.out.s).swapI HO.out _ _ xn (a + o) (by have := HXN.out; omega) (by have := HOK.out; omega) (by omega) (by omega)).mono ?_
        rintro e w3 ⟨rfl, hs3⟩
        have HB4 := Lib.hid (HB3.out.grown hs3.g (by intro e; injection e with e; omega))
        have H4 := Lib.hid (H3.out.on hs3)
        have HP4 := Lib.hid (Go.Sort.permIn_trans _ _ _ a b HPD.out (Go.Sort.swp_permIn dk a b xn (a + o) (by omega) (by omega) (by omega) (by omega) (by have := HO.out.siz HK.out.s; omega)))
        clear hs3 H3 HB3
        go_wp2
        go_roundw
        case rel => exact ⟨x + 1, Y, _, by go_num, by omega, by omega, HX1, HB4, HP4, H4⟩
        case measure => simp [intOf]; omega
      · have HOK := Lib.hid hok
        clear hok
        go_wp2_with fail
        refine CN.out.mono ?_
        rintro e w2 ⟨rfl, rfl⟩
        have H3 := Lib.hid (H2.out.below HO.out (below_drewN (Below.refl _ _) 3))
        have HB3 := Lib.hid (HB2.out.drewN 3)
        clear H2 HB2 CN
        go_wp2_with fail
        refine ((Hs.refl H3.out.s).swapI HO.out _ _ xn (a + o) (by have := HXN.out; omega) (by have := HOK.out; omega) (by omega) (by omega)).mono ?_
        rintro e w3 ⟨rfl, hs3⟩
        have HB4 := Lib.hid (HB3.out.grown hs3.g (by intro e; injection e with e; omega))
        have H4 := Lib.hid (H3.out.on hs3)
        have HP4 := Lib.hid (Go.Sort.permIn_trans _ _ _ a b HPD.out (Go.Sort.swp_permIn dk a b xn (a + o) (by omega) (by omega) (by omega) (by omega) (by have := HO.out.siz HK.out.s; omega)))
        clear hs3 H3 HB3
        go_wp2
        go_roundw
        case rel => exact ⟨x + 1, Y, _, by go_num, by omega, by omega, HX1, HB4, HP4, H4⟩
        case measure => simp [intOf]; omega
    · go_wp2
      go_returns
      exact ⟨rfl, dk, HPD.out, HK.out⟩

end Go.Proofs.Ytgblmafollhojaa
