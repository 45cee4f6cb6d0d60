/-
  LevenshteinNFA.simpleTransition. Conditions: as stated.
-/
import Derived.Test.YtgblmafollhojaaTrA
import Derived.Deep.DeepCutAuto
import Derived.Deep.LoopGhost
namespace Go.Proofs.Ytgblmafollhojaa
open Go.ChangeShapes Go.WideShapes Go.ChangeAt Go.RowKit
set_option linter.unusedVariables false

theorem MSt.own_lt {w : World} {M B : Nat} {v : Value} {l : List Pl} (h : MSt w M B v l) (k : Nat) (hk : v.ownBlock = some k) : k < w.heap.size := by
  rcases h.o.2 with ⟨rfl, _⟩ | ⟨g, cap, cur, rfl, hg, hh, _⟩
  · simp [Value.ownBlock] at hk
  · simp [Value.ownBlock] at hk
    subst hk
    exact (Array.getElem?_eq_some_iff.1 hh).1

/-- a new block is kept, too -/
abbrev Also (Q : Nat → Prop) (k : Nat) : Nat → Prop := fun j => Q j ∨ j = k
theorem Tr.inner {Q : Nat → Prop} {B M : Nat} {A : List Pl} {w0 w : World} (h : Tr Q B M A w0 w) (o : Obj) : Tr (Also Q w.heap.size) B M A (w.alloc o) (w.alloc o) := by
  have hb : Below w.heap.size w (w.alloc o) := (Below.refl _ _).alloc (Nat.le_refl _) o
  obtain ⟨v, h1, h2⟩ := h.m
  refine ⟨⟨v, h1.below hb, fun k hk hq => ?_⟩, Keeps.refl, fun k hk => ?_, fun hq => ?_, ?_, h.ok⟩
  · rcases hq with hq | rfl
    · exact h2 k hk hq
    · exact absurd (h1.own_lt _ hk) (Nat.lt_irrefl _)
  · have := h.k.size
    rcases hk with hk | rfl
    · have := h.lt k hk
      simp
      omega
    · simp
  · rcases hq with hq | hq
    · exact h.nM hq
    · have := h1.b.lt
      omega
  · have := h.k.size
    have := h.hB
    simp
    omega
theorem Tr.outer {Q : Nat → Prop} {B M : Nat} {A A' : List Pl} {w0 w w' : World} {o : Obj} (h : Tr Q B M A w0 w) (h2 : Tr (Also Q w.heap.size) B M A' (w.alloc o) w') : Tr Q B M A' w0 w' := by
  have hb : Below w.heap.size w (w.alloc o) := (Below.refl _ _).alloc (Nat.le_refl _) o
  obtain ⟨v, h3, h4⟩ := h2.m
  refine ⟨⟨v, h3, fun k hk hq => h4 k hk (.inl hq)⟩, ?_, h.lt, h.nM, h.hB, h2.ok⟩
  refine (h.k.trans (Keeps.of_below hb (fun k hk => Nat.lt_of_lt_of_le (h.lt k hk) h.k.size))).trans ?_
  exact ⟨h2.k.os, h2.k.tape, h2.k.output, h2.k.size, fun k hk => h2.k.block k (.inl hk)⟩

/-- what the walk reads: the automaton, the place -/
structure Rd (w : World) (L K m : Nat) (dam : Bool) (s : Pl) : Prop where
  l0 : w.cell? ⟨L, 0, none⟩ = some (.int .u8 m)
  l1 : w.cell? ⟨L, 1, none⟩ = some (.bool dam)
  k0 : w.cell? ⟨K, 0, none⟩ = some (.int .u32 s.1)
  k1 : w.cell? ⟨K, 1, none⟩ = some (.int .u8 s.2.1)
  k2 : w.cell? ⟨K, 2, none⟩ = some (.bool s.2.2)
theorem Rd.of {w : World} {L K m : Nat} {dam : Bool} {s : Pl} (hL : Blk w L 78 [.int .u8 m, .bool dam]) (hK : Blk w K 63 (enc3 s)) : Rd w L K m dam s := by
  have a0 := hL.cell 0
  have a1 := hL.cell 1
  have b0 := hK.cell 0
  have b1 := hK.cell 1
  have b2 := hK.cell 2
  simp only [enc3, List.getElem?_cons_zero, List.getElem?_cons_succ] at a0 a1 b0 b1 b2
  exact ⟨a0, a1, b0, b1, b2⟩

/-- in the middle of simpleTransition -/
structure Mid (Q : Nat → Prop) (B M L K m : Nat) (dam : Bool) (s : Pl) (A : List Pl) (w0 w : World) : Prop where
  t : Tr Q B M A w0 w
  l : Blk w0 L 78 [.int .u8 m, .bool dam]
  k : Blk w0 K 63 (enc3 s)
  qL : Q L
  qK : Q K
theorem Mid.rd {Q : Nat → Prop} {B M L K m : Nat} {dam : Bool} {s : Pl} {A : List Pl} {w0 w : World} (h : Mid Q B M L K m dam s A w0 w) : Rd w L K m dam s := Rd.of (h.t.k.blk h.qL h.l) (h.t.k.blk h.qK h.k)
theorem Mid.below {Q : Nat → Prop} {B M L K m : Nat} {dam : Bool} {s : Pl} {A : List Pl} {w0 w w1 : World} (h : Mid Q B M L K m dam s A w0 w) (hb : Below w.heap.size w w1) : Mid Q B M L K m dam s A w0 w1 := ⟨h.t.below hb, h.l, h.k, h.qL, h.qK⟩
theorem Mid.same {Q : Nat → Prop} {B M L K m : Nat} {dam : Bool} {s : Pl} {A A' : List Pl} {w0 w : World} (h : Mid Q B M L K m dam s A w0 w) (e : A = A') : Mid Q B M L K m dam s A' w0 w := e ▸ h
theorem Mid.add {Q : Nat → Prop} {B M L K m : Nat} {dam : Bool} {s : Pl} {A : List Pl} {w0 w : World} (h : Mid Q B M L K m dam s A w0 w) (o d : Nat) (t : Bool) (x y : Int) (hx : x = (o : Nat)) (hy : y = (d : Nat)) (ho : o ≤ 909) (hd : d ≤ 255) :
    Calls Try.prog 31 #[.pointer (some ⟨M, 0, none⟩), .agg #[.int .u32 x, .int .u8 y, .bool t]] w fun e w' => e = .returned (.tuple #[]) ∧ Mid Q B M L K m dam s (A ++ [(o, d, t)]) w0 w' :=
  (addT h.t o d t x y hx hy ho hd).mono fun e w' ⟨he, h2⟩ => ⟨he, h2, h.l, h.k, h.qL, h.qK⟩

set_option maxRecDepth 100000 in
set_option maxHeartbeats 1600000 in
theorem simple_mid {Q : Nat → Prop} {B M L : Nat} {A : List Pl} {w : World} (m : Nat) (dam : Bool) (hm : m ≤ 8) (o e : Nat) (f : Bool) (ho : o ≤ 890) (he : e ≤ m) (sym : Nat) (hsym : sym < 18446744073709551616)
    (h : Mid Q B M L w.heap.size m dam (o, e, f) A (w.alloc (.cells #[.int .u32 o, .int .u8 e, .bool f] 63)) (w.alloc (.cells #[.int .u32 o, .int .u8 e, .bool f] 63))) :
    Calls Try.prog 43 #[.pointer (some ⟨L, 0, none⟩), .agg #[.int .u32 o, .int .u8 e, .bool f], .int .u64 sym, .pointer (some ⟨M, 0, none⟩)] w fun en w' => en = .returned (.tuple #[]) ∧ Mid Q B M L w.heap.size m dam (o, e, f) (A ++ mvs m dam sym (o, e, f)) (w.alloc (.cells #[.int .u32 o, .int .u8 e, .bool f] 63)) w' := by
  obtain ⟨w1, hw1⟩ : ∃ w1, w1 = w.alloc (.cells #[.int .u32 o, .int .u8 e, .bool f] 63) := ⟨_, rfl⟩
  have HW1 := Lib.hid hw1
  rw [← hw1] at h ⊢
  have H := Lib.hid h
  clear h hw1
  have CB0 := Lib.hid (fun W => bit_any sym 0 0 rfl hsym (by omega) W)
  have CB1 := Lib.hid (fun W => bit_any sym 1 1 rfl hsym (by omega) W)
  have HSY := Lib.hid hsym
  clear hsym
  go_enter Try.func43, Try.ntmps43
  go_upto_region 1 with (fail)
  rw [← HW1.out]
  obtain ⟨l0, l1, k0, k1, k2⟩ := H.out.rd
  go_cut [16] (fun s16 wx => s16 = .bool (decide (e < m)) ∧ Hid (Mid Q B M L w.heap.size m dam (o, e, f) A w1 wx))
  case first =>
    go_quiet (fail)
    go_wp2_with (fail)
    go_meet
    case rel => exact ⟨rfl, Lib.hid (H.out.below (below_drewN (Below.refl _ _) _))⟩
  case rest =>
    clear l0 l1 k0 k1 k2
    obtain ⟨rfl, HC⟩ := hcut
    go_upto_if 16 with (fail)
    go_cut [] (fun wx => Hid (Mid Q B M L w.heap.size m dam (o, e, f) (A ++ mvE m dam sym (o, e, f)) w1 wx))
    case first =>
      by_cases hem : e < m
      · have hd : decide (e < m) = true := decide_eq_true hem
        simp only [hd]
        clear hd
        have e1 : IntKind.u8.wrap ((e : Int) + 1) = e + 1 := by rw [IntKind.wrap_u8]; omega
        have o1 : IntKind.u32.wrap ((o : Int) + 1) = o + 1 := by rw [IntKind.wrap_u32]; omega
        have m1 : IntKind.u8.wrap ((m : Int) + 1) = m + 1 := by rw [IntKind.wrap_u8]; omega
        have n1 : IntKind.u8.wrap ((m : Int) + 1 - e) = m + 1 - e := by rw [IntKind.wrap_u8]; omega
        obtain ⟨l0, l1, k0, k1, k2⟩ := HC.out.rd
        go_wp2_with (fail)
        refine (HC.out.add o (e + 1) false _ _ rfl (by omega) (by omega) (by omega)).mono ?_
        rintro en w2 ⟨rfl, h2⟩
        have H2 := Lib.hid h2
        clear h2 l0 l1 k0 k1 k2
        obtain ⟨l0, l1, k0, k1, k2⟩ := H2.out.rd
        go_wp2_with (fail)
        refine (H2.out.add (o + 1) (e + 1) false _ _ (by omega) (by omega) (by omega) (by omega)).mono ?_
        rintro en w3 ⟨rfl, h3⟩
        have H3 := Lib.hid (h3.same (show _ = A ++ mv0 (o, e, f) ++ delsL (o, e, f) sym 0 by simp [mv0, delsL]))
        clear h3 l0 l1 k0 k1 k2
        obtain ⟨l0, l1, k0, k1, k2⟩ := H3.out.rd
        go_wp2_with (fail)
        go_quiet (fail)
        have H4 := Lib.hid (fun n => H3.out.below (below_drewN (Below.refl _ _) n))
        clear l0 l1 k0 k1 k2
        go_wp2_with (fail)
        go_loopw [9] (fun vd wr => ∃ d : Nat, 1 ≤ d ∧ d ≤ m + 1 - e ∧ vd = .int .u8 d ∧ Hid (Mid Q B M L w.heap.size m dam (o, e, f) (A ++ mv0 (o, e, f) ++ delsL (o, e, f) sym (d - 1)) w1 wr)) (fun vd _ => m + 1 - e - (intOf vd).toNat)
        case atStart => exact ⟨1, by omega, by omega, rfl, Lib.hid (H4.out _)⟩
        case round =>
          obtain ⟨d, hd1, hd2, rfl, HD⟩ := hrel
          by_cases hlt : d < m + 1 - e
          · have hlt' : (d : Int) < m + 1 - e := by omega
            have CB := Lib.hid (fun W => bit_any sym d d rfl HSY.out (by omega) W)
            have dw : IntKind.u8.wrap ((d : Int) + 1) = d + 1 := by rw [IntKind.wrap_u8]; omega
            have HDS := Lib.hid (show delsL (o, e, f) sym d = delsL (o, e, f) sym (d - 1) ++ (if sym.testBit d then [(o + 1 + d, e + d, false)] else []) by
              obtain ⟨k, rfl⟩ : ∃ k, d = k + 1 := ⟨d - 1, by omega⟩
              rfl)
            cases hb : sym.testBit d with
            | true =>
              rw [hb] at HDS CB
              clear hb
              go_wp2_with (fail)
              refine (CB.out _).mono ?_
              rintro en w5 ⟨rfl, rfl⟩
              have d32 : IntKind.u32.wrap (d : Int) = d := by rw [IntKind.wrap_u32]; omega
              have od : IntKind.u32.wrap ((o : Int) + 1 + d) = o + 1 + d := by rw [IntKind.wrap_u32]; omega
              have ed : IntKind.u8.wrap ((e : Int) + d) = e + d := by rw [IntKind.wrap_u8]; omega
              obtain ⟨l0, l1, k0, k1, k2⟩ := HD.out.rd
              go_wp2_with (fail)
              refine (HD.out.add (o + 1 + d) (e + d) false _ _ (by omega) (by omega) (by omega) (by omega)).mono ?_
              rintro en w6 ⟨rfl, h6⟩
              have H6 := Lib.hid (h6.same (show _ = A ++ mv0 (o, e, f) ++ delsL (o, e, f) sym (d + 1 - 1) by rw [show d + 1 - 1 = d by omega, HDS.out]; simp))
              clear h6 l0 l1 k0 k1 k2
              go_wp2_with (fail)
              go_roundw
              case rel => exact ⟨d + 1, by omega, by omega, by go_num, H6⟩
              case measure => simp [intOf]; omega
            | false =>
              rw [hb] at HDS CB
              clear hb
              go_wp2_with (fail)
              refine (CB.out _).mono ?_
              rintro en w5 ⟨rfl, rfl⟩
              have H6 := Lib.hid (HD.out.same (show _ = A ++ mv0 (o, e, f) ++ delsL (o, e, f) sym (d + 1 - 1) by rw [show d + 1 - 1 = d by omega, HDS.out]; simp))
              go_wp2_with (fail)
              go_roundw
              case rel => exact ⟨d + 1, by omega, by omega, by go_num, H6⟩
              case measure => simp [intOf]; omega
          · have hlt' : ¬ (d : Int) < m + 1 - e := by omega
            have H5 := Lib.hid (HD.out.same (show _ = A ++ mv0 (o, e, f) ++ delsL (o, e, f) sym (m - e) by rw [show d - 1 = m - e by omega]))
            have HE := Lib.hid (show mvE m dam sym (o, e, f) = mv0 (o, e, f) ++ delsL (o, e, f) sym (m - e) ++ mvT dam sym (o, e, f) from if_pos hem)
            clear HD
            obtain ⟨l0, l1, k0, k1, k2⟩ := H5.out.rd
            cases dam with
            | false =>
              go_wp2_with (fail)
              go_meet
              case rel => exact Lib.hid (H5.out.same (by rw [HE.out]; simp [mvT]))
            | true =>
              cases hb : sym.testBit 1 with
              | false =>
                rw [hb] at CB1
                have HT := Lib.hid (show mvT true sym (o, e, f) = [] by simp [mvT, hb])
                clear hb
                go_wp2_with (fail)
                refine (CB1.out _).mono ?_
                rintro en w6 ⟨rfl, rfl⟩
                go_wp2_with (fail)
                go_meet
                case rel => exact Lib.hid (H5.out.same (by rw [HE.out, HT.out]; simp))
              | true =>
                rw [hb] at CB1
                have HT := Lib.hid (show mvT true sym (o, e, f) = [(o, e + 1, true)] by simp [mvT, hb])
                clear hb
                go_wp2_with (fail)
                refine (CB1.out _).mono ?_
                rintro en w6 ⟨rfl, rfl⟩
                go_wp2_with (fail)
                refine (H5.out.add o (e + 1) true _ _ rfl (by omega) (by omega) (by omega)).mono ?_
                rintro en w7 ⟨rfl, h7⟩
                have H7 := Lib.hid h7
                clear h7 l0 l1 k0 k1 k2
                go_wp2_with (fail)
                go_meet
                case rel => exact Lib.hid (H7.out.same (by rw [HE.out, HT.out]; simp))
      · have hd : decide (e < m) = false := decide_eq_false hem
        simp only [hd]
        clear hd
        have HE := Lib.hid (show mvE m dam sym (o, e, f) = [] from if_neg hem)
        go_wp2_with (fail)
        go_meet
        case rel => exact Lib.hid (HC.out.same (by rw [HE.out]; simp))
    case rest =>
      clear HC
      have HC := Lib.hid hcut.out
      clear hcut
      have o1 : IntKind.u32.wrap ((o : Int) + 1) = o + 1 := by rw [IntKind.wrap_u32]; omega
      have o2 : IntKind.u32.wrap ((o : Int) + 2) = o + 2 := by rw [IntKind.wrap_u32]; omega
      obtain ⟨l0, l1, k0, k1, k2⟩ := HC.out.rd
      cases hb : sym.testBit 0 with
      | false =>
        rw [hb] at CB0
        have HT := Lib.hid (show mvs m dam sym (o, e, f) = mvE m dam sym (o, e, f) by simp [mvs, mv1, mv2, hb])
        clear hb
        go_wp2_with (fail)
        refine (CB0.out _).mono ?_
        rintro en w6 ⟨rfl, rfl⟩
        cases f with
        | false =>
          go_wp2_with (fail)
          go_returns
          exact ⟨rfl, HC.out.same (by rw [HT.out])⟩
        | true =>
          go_wp2_with (fail)
          refine (CB0.out _).mono ?_
          rintro en w7 ⟨rfl, rfl⟩
          go_wp2_with (fail)
          go_returns
          exact ⟨rfl, HC.out.same (by rw [HT.out])⟩
      | true =>
        rw [hb] at CB0
        have HT := Lib.hid (show mvs m dam sym (o, e, f) = mvE m dam sym (o, e, f) ++ [(o + 1, e, false)] ++ (if f then [(o + 2, e, false)] else []) by simp [mvs, mv1, mv2, hb])
        clear hb
        go_wp2_with (fail)
        refine (CB0.out _).mono ?_
        rintro en w6 ⟨rfl, rfl⟩
        go_wp2_with (fail)
        refine (HC.out.add (o + 1) e false _ _ (by omega) rfl (by omega) (by omega)).mono ?_
        rintro en w7 ⟨rfl, h7⟩
        have H7 := Lib.hid h7
        clear h7 l0 l1 k0 k1 k2
        obtain ⟨l0, l1, k0, k1, k2⟩ := H7.out.rd
        cases f with
        | false =>
          go_wp2_with (fail)
          go_returns
          exact ⟨rfl, H7.out.same (by rw [HT.out]; simp)⟩
        | true =>
          go_wp2_with (fail)
          refine (CB0.out _).mono ?_
          rintro en w8 ⟨rfl, rfl⟩
          go_wp2_with (fail)
          refine (H7.out.add (o + 2) e false _ _ (by omega) rfl (by omega) (by omega)).mono ?_
          rintro en w9 ⟨rfl, h9⟩
          have H9 := Lib.hid h9
          clear h9
          go_wp2_with (fail)
          go_returns
          exact ⟨rfl, H9.out.same (by rw [HT.out]; simp)⟩

end Go.Proofs.Ytgblmafollhojaa
