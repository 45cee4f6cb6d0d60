/-
  FnSequenceOf: the sequence of the bytes of two letters of a width has a range from each byte to the other one; of unlike widths there is none. Conditions: none.
-/
import Derived.Test.YtpmkkajbmdoflacSeqOfA
namespace Go.Proofs.Ytpmkkajbmdoflac.fnSequenceOf
open Go.ChangeShapes Go.WideShapes Go.ChangeAt Go.RowKit
set_option linter.unusedVariables false

theorem prs_snoc (ps : List (Int × Int)) (n : Nat) (h : n < ps.length) : prs (ps.take (n + 1)) = prs (ps.take n) ++ [.int .u8 ps[n].1, .int .u8 ps[n].2] := by
  unfold prs
  rw [List.take_succ_eq_append_getElem h, List.flatMap_append]
  rfl
theorem pair_at {w : World} {B : Nat} {a : Option Addr} {ps : List (Int × Int)} (h : Sl w B a (prs ps)) (i : Nat) (hi : i < ps.length) :
    ∃ ad, a = some ad ∧ w.cell? (ad.add (i * 2)) = some (.int .u8 ps[i].1) ∧ w.cell? ⟨(ad.add (i * 2)).block, (ad.add (i * 2)).off + 1, none⟩ = some (.int .u8 ps[i].2) := by
  obtain ⟨ad, rfl, hb, h0⟩ := Sl.elem pr_len h i 0 (by omega) hi (.int .u8 ps[i].1) rfl
  obtain ⟨ad', he, hb', h1⟩ := Sl.elem pr_len h i 1 (by omega) hi (.int .u8 ps[i].2) rfl
  injection he with he
  subst he
  exact ⟨ad, rfl, h0, cell_off h1⟩
theorem infoArr : (Try.prog.info? 32).map (fun i => (i.zero, i.size, i.bytes)) = some (some (.agg #[.int .u8 0, .int .u8 0]), 2, 2) := by kernel_rfl

set_option maxHeartbeats 400000 in
theorem bof_any (a : Option Addr) (ps : List (Int × Int)) (c : Nat) (w : World) (hl1 : ps.length ≤ 2147483647) (hs : Sl w w.heap.size a (prs ps)) :
    Calls Try.prog 12 #[.slice a ps.length c] w fun e w' => ∃ v, e = .returned v ∧ PairsV w' v ps ∧ Below w.heap.size w w' := by
  obtain ⟨i0, hi, hz0, hz1, hz2⟩ := info_parts infoArr
  have HS := Lib.hid hs
  clear hs
  go_enter Try.func12, Try.ntmps12
  go_wp2_with fail
  go_loopw [3, 5, 8] (fun v _ k wr => ∃ n : Nat, n ≤ ps.length ∧ k = .int .i64 n ∧ wr.ownsRow w.heap.size 32 2 v n (prs (ps.take n)) ∧ Below w.heap.size w wr) (fun _ _ k _ => ps.length - (intOf k).toNat)
  case atStart => exact ⟨0, by omega, rfl, ⟨by simp [prs], .inl ⟨rfl, rfl⟩⟩, Below.refl _ _⟩
  case round =>
    obtain ⟨n, hnn, rfl, hown, hbw⟩ := hrel
    by_cases hlt : n < ps.length
    · obtain ⟨ad, rfl, hc0, hc1⟩ := pair_at (HS.out.below hbw) n hlt
      have HN := Lib.hid (prs_snoc ps n hlt)
      generalize ps[n] = q at *
      obtain ⟨lo, hi'⟩ := q
      simp only at hc0 hc1
      go_wp2_with (at_builtin; refine append1 _ _ rfl (.tmp 12) (.tmp 18) 29 rfl w.heap.size 32 i0 _ 2 2 Try.underlying29 hi hz0 hz1 hz2 rfl (by omega) rfl u3 n (prs (ps.take n)) rfl (hown.alloc _) (wr.heap.size + 1) (by simp) rfl (by simp [Value.oneCell']) (by unfold maxLen; omega) (by omega) (by have := hbw.size; simp; omega) ?_; intro v' w1 hown' hg' _)
      go_roundw
      case rel => exact ⟨n + 1, by omega, by go_num, by rw [HN.out]; exact hown', (hbw.alloc hbw.size _).grown hg' (by have := hbw.size; simp; omega) (own_block_ge hown)⟩
      case measure => simp [intOf]; omega
    · obtain rfl : n = ps.length := by omega
      obtain ⟨a1, c1, rfl⟩ := own_value hown
      rw [List.take_length] at hown
      have HO := Lib.hid hown
      clear hown
      go_wp2
      go_ret
      exact ⟨_, rfl, ⟨a1, c1, rfl, sl_of_own HO.out⟩, hbw⟩

/-- the pairs of two lists of bytes -/
def zipB (xs ys : List Int) : List (Int × Int) := xs.zip ys

theorem seqof_yes (a b : Option Addr) (c d : Nat) (ps : List (Int × Int)) (n : Nat) (w : World) (hl : ps.length ≤ 4)
    (h : Calls Try.prog 11 #[.slice a n c, .slice b n d] w fun e w' => ∃ v, e = .returned (.tuple #[v, .nilIface]) ∧ PairsV w' v ps ∧ Below w.heap.size w w') :
    Calls Try.prog 9 #[.slice a n c, .slice b n d] w fun e w' => ∃ v, e = .returned (.tuple #[v, .bool true]) ∧ PairsV w' v ps ∧ Below w.heap.size w w' := by
  have C := Lib.hid h
  clear h
  go_enter Try.func9, Try.ntmps9
  go_wp2_with fail
  refine C.out.mono ?_
  rintro e w1 ⟨v, rfl, ⟨a1, c1, rfl, hs1⟩, hb1⟩
  have C2 := Lib.hid (fun W (hW : Below w1.heap.size w1 W) => bof_any a1 ps c1 W (by omega) ((hs1.below hW).more hW.size))
  have HB := Lib.hid hb1
  clear hs1 hb1 C
  go_wp2_with fail
  go_region_held3 (fun _ => True) (trivial)
    (first | (go_at_call 12; refine (C2.out _ (Below.refl _ _).drew).mono ?_; rintro e w2 ⟨v2, rfl, hp2, hb2⟩))
  go_wp2
  go_ret2
  exact ⟨v2, rfl, hp2, HB.out.drew.trans (hb2.mono (by have := HB.out.size; exact this))⟩

theorem seqof_no (a b : Option Addr) (n m c d : Nat) (w : World) (h : n ≠ m ∨ n = 1) (hn : n ≤ 4) (hm : m ≤ 4) :
    Calls Try.prog 9 #[.slice a n c, .slice b m d] w fun e w' => ∃ v, e = .returned (.tuple #[v, .bool false]) ∧ PairsV w' v [] ∧ Below w.heap.size w w' := by
  have C := Lib.hid (sfer_no a b n m c d w h hn hm)
  clear h
  go_enter Try.func9, Try.ntmps9
  go_wp2_with fail
  refine C.out.mono ?_
  rintro e w1 ⟨T, x, rfl, hb1⟩
  have C2 := Lib.hid (fun (W : World) => bof_any none [] 0 W (by simp) Sl.nil)
  have HB := Lib.hid hb1
  clear hb1 C
  go_wp2_with fail
  go_region_held3 (fun _ => True) (trivial)
    (first | (go_at_call 12; refine (C2.out _).mono ?_; rintro e w2 ⟨v2, rfl, hp2, hb2⟩))
  go_wp2
  go_ret2
  exact ⟨v2, rfl, hp2, HB.out.drew.trans (hb2.mono (by have := HB.out.size; exact this))⟩

theorem seqof_eq (a b : Option Addr) (xs ys : List Int) (c d : Nat) (B : Nat) (w : World) (hl : xs.length = ys.length) (h2 : 2 ≤ xs.length) (h4 : xs.length ≤ 4) (hx : Sl w B a (xs.map (.int .u8))) (hy : Sl w B b (ys.map (.int .u8))) :
    Calls Try.prog 9 #[.slice a xs.length c, .slice b ys.length d] w fun e w' => ∃ v, e = .returned (.tuple #[v, .bool true]) ∧ PairsV w' v (xs.zip ys) ∧ Below w.heap.size w w' := by
  match xs, ys, hl, h2, h4 with
  | [x0, x1], [y0, y1], _, _, _ => exact seqof_yes a b c d _ 2 w (by simp) (sfer_2 a b c d x0 x1 y0 y1 B w hx hy)
  | [x0, x1, x2], [y0, y1, y2], _, _, _ => exact seqof_yes a b c d _ 3 w (by simp) (sfer_3 a b c d x0 x1 x2 y0 y1 y2 B w hx hy)
  | [x0, x1, x2, x3], [y0, y1, y2, y3], _, _, _ => exact seqof_yes a b c d _ 4 w (by simp) (sfer_4 a b c d x0 x1 x2 x3 y0 y1 y2 y3 B w hx hy)

theorem ub_len (r : Int) : 1 ≤ (ub r).length ∧ (ub r).length ≤ 4 := by
  unfold ub
  split
  · simp
  · split
    · simp
    · split <;> simp

set_option maxHeartbeats 1000000 in
theorem law_any (a b : Int) (w : World) (ha : -2147483648 ≤ a ∧ a ≤ 2147483647) (hb : -2147483648 ≤ b ∧ b ≤ 2147483647) :
    Calls Try.prog 4 #[.int .i32 a, .int .i32 b] w fun e w' => e = .returned (.bool true) ∧ Below w.heap.size w w' := by
  have I1 := Lib.hid (fun W => isl_any a W ha)
  have I2 := Lib.hid (fun W => isl_any b W hb)
  cases h1 : isL a with
  | false =>
    rw [h1] at I1
    clear I2 h1
    go_enter Try.func4, Try.ntmps4
    go_wp2_with (first | (go_at_call 7; refine (I1.out _).mono ?_; rintro e w' ⟨rfl, rfl⟩))
    go_ret
    exact ⟨rfl, Below.refl _ _⟩
  | true =>
    cases h2 : isL b with
    | false =>
      rw [h1] at I1
      rw [h2] at I2
      clear h1 h2
      go_enter Try.func4, Try.ntmps4
      go_wp2_with fail
      refine (I1.out _).mono ?_
      rintro e w' ⟨rfl, rfl⟩
      go_wp2_with fail
      refine (I2.out _).mono ?_
      rintro e w' ⟨rfl, rfl⟩
      go_wp2
      go_ret
      exact ⟨rfl, Below.refl _ _⟩
    | true =>
      rw [h1] at I1
      rw [h2] at I2
      have r1 : 0 ≤ a ∧ a ≤ 1114111 := by have := of_decide_eq_true h1; omega
      have r2 : 0 ≤ b ∧ b ≤ 1114111 := by have := of_decide_eq_true h2; omega
      clear h1 h2
      have C1 := Lib.hid (fun W => bytes_any a W r1.1 r1.2)
      have C2 := Lib.hid (fun W => bytes_any b W r2.1 r2.2)
      have l1 := ub_len a
      have l2 := ub_len b
      generalize ub a = xs at *
      generalize ub b = ys at *
      go_enter Try.func4, Try.ntmps4
      go_wp2_with fail
      refine (I1.out _).mono ?_
      rintro e w' ⟨rfl, rfl⟩
      go_wp2_with fail
      refine (I2.out _).mono ?_
      rintro e w' ⟨rfl, rfl⟩
      go_wp2_with fail
      refine (C1.out _).mono ?_
      rintro e w1 ⟨v1, rfl, hv1, hb1⟩
      go_wp2_with fail
      refine (C2.out _).mono ?_
      rintro e w2 ⟨v2, rfl, hv2, hb2⟩
      obtain ⟨a1, c1, rfl, hs1⟩ := hv1.below hb2
      obtain ⟨a2, c2, rfl, hs2⟩ := hv2
      have HB := Lib.hid (hb1.trans (hb2.mono hb1.size))
      clear hv1 hb1 hb2 I1 I2 C1 C2
      by_cases hl : xs.length = ys.length
      · by_cases h2 : 2 ≤ xs.length
        · have C := Lib.hid (seqof_eq a1 a2 xs ys c1 c2 w2.heap.size w2 hl h2 l1.2 hs1 hs2)
          have hz : (xs.zip ys).length = xs.length := by simp [hl]
          have hne : ((xs.length : Int) != (ys.length : Int)) = false := by rw [bne_eq_false_iff_eq]; omega
          have hn1 : ((xs.length : Int) == 1) = false := by rw [beq_eq_false_iff_ne]; omega
          have HS1 := Lib.hid hs1
          have HS2 := Lib.hid hs2
          have HL := Lib.hid hl
          have HZ := Lib.hid hz
          clear hs1 hs2 hl hz
          go_wp2_with fail
          refine C.out.mono ?_
          rintro e w3 ⟨v3, rfl, ⟨a3, c3, rfl, hs3⟩, hb3⟩
          have HB3 := Lib.hid (HB.out.trans (hb3.mono HB.out.size))
          have HS1' := Lib.hid (HS1.out.below hb3)
          have HS2' := Lib.hid (HS2.out.below hb3)
          have HS3 := Lib.hid hs3
          clear hs3 hb3 C HS1 HS2 HB
          rw [HZ.out]
          have hne2 : ((xs.length : Int) != (xs.length : Int)) = false := by rw [bne_eq_false_iff_eq]
          go_wp2
          go_loopw [9] (fun i wr => ∃ n m : Nat, n ≤ xs.length ∧ i = .int .i64 n ∧ wr = w3.drewN m) (fun i _ => xs.length - (intOf i).toNat)
          case atStart => exact ⟨0, 0, by omega, rfl, rfl⟩
          case round =>
            obtain ⟨n, m, hn, rfl, rfl⟩ := hrel
            by_cases hlt : n < xs.length
            · obtain ⟨ad, rfl, hc0, hc1⟩ := pair_at HS3.out n (by rw [HZ.out]; exact hlt)
              obtain ⟨ad1, rfl, hd0⟩ := HS1'.out.ints n hlt
              obtain ⟨ad2, rfl, hd1⟩ := HS2'.out.ints n (by have := HL.out; omega)
              have e1 : ((xs.zip ys)[n]'(by rw [HZ.out]; exact hlt)) = (xs.getD n 0, ys.getD n 0) := by
                rw [List.getElem_zip]
                rw [List.getD_eq_getElem?_getD, List.getD_eq_getElem?_getD, List.getElem?_eq_getElem hlt, List.getElem?_eq_getElem (by have := HL.out; omega)]
                rfl
              rw [e1] at hc0 hc1
              simp only at hc0 hc1
              clear e1
              have hb0 : (0 : Int) ≤ (n : Int) := by omega
              have hb1 : (n : Int) < (xs.length : Int) := by omega
              have hb2 : (n : Int) < (ys.length : Int) := by have := HL.out; omega
              generalize xs.getD n 0 = x at *
              generalize ys.getD n 0 = y at *
              have hx1 : (x != x) = false := by rw [bne_eq_false_iff_eq]
              have hy1 : (y != y) = false := by rw [bne_eq_false_iff_eq]
              go_wp2
              go_quiet (fail)
              go_wp2
              go_roundw
              case rel => exact ⟨n + 1, _, by omega, by go_num, rfl⟩
              case measure => simp [intOf]; omega
            · go_wp2
              go_ret
              exact ⟨rfl, below_drewN HB3.out _⟩
        · have C := Lib.hid (seqof_no a1 a2 xs.length ys.length c1 c2 w2 (by omega) l1.2 l2.2)
          have hne : ((xs.length : Int) != (ys.length : Int)) = false := by rw [bne_eq_false_iff_eq]; omega
          have hn1 : ((xs.length : Int) == 1) = true := by rw [beq_iff_eq]; omega
          clear hs1 hs2 hl h2
          go_wp2_with fail
          refine C.out.mono ?_
          rintro e w3 ⟨v3, rfl, ⟨a3, c3, rfl, hs3⟩, hb3⟩
          have HB3 := Lib.hid (HB.out.trans (hb3.mono HB.out.size))
          clear hs3 hb3 C HB
          go_wp2
          go_ret
          exact ⟨rfl, HB3.out⟩
      · have C := Lib.hid (seqof_no a1 a2 xs.length ys.length c1 c2 w2 (.inl hl) l1.2 l2.2)
        have hne : ((xs.length : Int) != (ys.length : Int)) = true := by rw [bne_iff_ne]; omega
        clear hs1 hs2 hl
        go_wp2_with fail
        refine C.out.mono ?_
        rintro e w3 ⟨v3, rfl, ⟨a3, c3, rfl, hs3⟩, hb3⟩
        have HB3 := Lib.hid (HB.out.trans (hb3.mono HB.out.size))
        clear hs3 hb3 C HB
        go_wp2
        go_ret
        exact ⟨rfl, HB3.out⟩

end Go.Proofs.Ytpmkkajbmdoflac.fnSequenceOf
