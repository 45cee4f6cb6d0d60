/-
  FnNfa: the automaton of sets of places tells the edit distance, if it is not above the greatest one, else one more than that. Conditions: none.
-/
import Derived.Test.YtgblmafollhojaaNfaC
import Derived.Test.YtgblmafollhojaaNum
namespace Go.Proofs.Ytgblmafollhojaa.fnNfa
open Go.ChangeShapes Go.WideShapes Go.ChangeAt Go.RowKit
set_option linter.unusedVariables false

theorem zzd_any (L m : Nat) (dam : Bool) (w : World) (hbL : Blk w L 78 [.int .u8 m, .bool dam]) (hm : m ≤ 8) (a : Option Addr) (zs : List Int) (c : Nat) (a2 : Option Addr) (ts : List Int) (c2 : Nat) (hz : zs.length ≤ 40) (ht : ts.length ≤ 40)
    (hs : Sl w w.heap.size a (zs.map (.int .i32))) (hs2 : Sl w w.heap.size a2 (ts.map (.int .i32))) :
    Calls Try.prog 27 #[.pointer (some ⟨L, 0, none⟩), .slice a zs.length c, .slice a2 ts.length c2] w fun e w' => e = .returned (.iface 91 (.agg #[.int .u8 (min (eds dam zs ts zs.length ts.length) (m + 1) : Nat)])) ∧ Below w.heap.size w w' := by
  have C := Lib.hid (comp_any L m dam w hbL hm a zs c a2 ts c2 hz ht hs hs2)
  clear hbL hs hs2
  go_enter Try.func27, Try.ntmps27
  go_wp2_with (fail)
  refine C.out.mono ?_
  rintro e w1 ⟨rfl, h⟩
  have H := Lib.hid h
  clear h C
  go_wp2_with (fail)
  go_ret
  exact ⟨rfl, H.out⟩

set_option maxRecDepth 100000 in
theorem zzk_any (R : Nat) (w : World) : Calls Try.prog 37 #[.iface 91 (.agg #[.int .u8 R])] w fun e w' => e = .returned (.tuple #[.bool false, .int .u8 R]) ∧ Below w.heap.size w w' := by
  have C := Lib.hid (fun W => atl_any R W)
  have HB := Lib.hid ((Below.refl w.heap.size w).alloc (Nat.le_refl _) (.cells #[.int .u8 0] 80))
  have hta : ∀ u : World, (Instr.typeAssert (.iface 91 (.agg #[.int .u8 R])) 56 80 true).run Try.prog u = .ok (.tuple #[.agg #[.int .u8 0], .bool false]) u := fun _ => by kernel_rfl
  go_enter Try.func37, Try.ntmps37
  go_wp2_with (fail)
  refine (C.out _).mono ?_
  rintro e w1 ⟨rfl, h⟩
  have H := Lib.hid (HB.out.trans (h.mono (by simp)))
  clear h
  go_wp2_with (fail)
  go_ret2
  exact ⟨rfl, H.out⟩

theorem told_any (R m D : Nat) (w : World) (hR : R = min D (m + 1)) (hm : m ≤ 8) (hD : D ≤ 1000) : Calls Try.prog 15 #[.int .u8 R, .int .u8 m, .int .i64 D] w fun e w' => e = .returned (.bool true) ∧ w' = w := by
  have e1 : IntKind.i64.wrap (R : Int) = R := by rw [IntKind.wrap_i64]; omega
  have e2 : IntKind.i64.wrap (m : Int) = m := by rw [IntKind.wrap_i64]; omega
  have HR := Lib.hid hR
  clear hR
  go_enter Try.func15, Try.ntmps15
  go_wp2_with (fail)
  go_ret
  exact ⟨ret_b (by show (_ == _) = true; rw [beq_iff_eq]; have := HR.out; omega), rfl⟩

theorem kind_any (R : Nat) (w : World) : Calls Try.prog 26 #[.iface 91 (.agg #[.int .u8 R])] w fun e w' => e = .returned (.tuple #[.bool false, .int .u8 R]) ∧ Below w.heap.size w w' := by
  have C := Lib.hid (zzk_any R w)
  go_enter Try.func26, Try.ntmps26
  go_wp2_with (fail)
  refine C.out.mono ?_
  rintro e w1 ⟨rfl, h⟩
  have H := Lib.hid h
  clear h C
  go_wp2_with (fail)
  go_ret2
  exact ⟨rfl, H.out⟩

set_option maxRecDepth 100000 in
theorem nfad_any (m : Nat) (dam : Bool) (hm : m ≤ 8) (w : World) (a : Option Addr) (zs : List Int) (c : Nat) (a2 : Option Addr) (ts : List Int) (c2 : Nat) (hz : zs.length ≤ 40) (ht : ts.length ≤ 40)
    (hs : Sl w w.heap.size a (zs.map (.int .i32))) (hs2 : Sl w w.heap.size a2 (ts.map (.int .i32))) :
    Calls Try.prog 14 #[.slice a zs.length c, .slice a2 ts.length c2, .int .u8 m, .bool dam] w fun e w' => e = .returned (.tuple #[.bool false, .int .u8 (min (eds dam zs ts zs.length ts.length) (m + 1) : Nat)]) ∧ Below w.heap.size w w' := by
  obtain ⟨R, hR⟩ : ∃ R, R = min (eds dam zs ts zs.length ts.length) (m + 1) := ⟨_, rfl⟩
  rw [← hR]
  have HR := Lib.hid hR
  clear hR
  have CN := Lib.hid (zznfa_any m dam w)
  have HS := Lib.hid hs
  have HS2 := Lib.hid hs2
  clear hs hs2
  go_enter Try.func14, Try.ntmps14
  go_wp2_with fail
  refine CN.out.mono ?_
  rintro e w1 ⟨rfl, hbl, hb1⟩
  have HB1 := Lib.hid hb1
  have h0 := zzd_any w.heap.size m dam w1 hbl hm a zs c a2 ts c2 hz ht (sl_on HS.out (Nat.le_refl _) hb1) (sl_on HS2.out (Nat.le_refl _) hb1)
  rw [← HR.out] at h0
  have CZ := Lib.hid h0
  clear hbl hb1 CN h0
  go_wp2_with fail
  refine CZ.out.mono ?_
  rintro e w2 ⟨rfl, hb2⟩
  have HB2 := Lib.hid (HB1.out.trans (hb2.mono HB1.out.size))
  clear hb2 CZ
  have CK := Lib.hid (kind_any R w2)
  go_wp2_with fail
  refine CK.out.mono ?_
  rintro e w3 ⟨rfl, hb3⟩
  have HB3 := Lib.hid (HB2.out.trans (hb3.mono HB2.out.size))
  clear hb3 CK
  go_wp2_with fail
  go_ret2
  exact ⟨rfl, HB3.out⟩

theorem num_len {zs : List Int} (h : numOk zs = true) : zs.length ≤ 40 := by
  unfold numOk at h
  rw [Bool.and_eq_true] at h
  exact of_decide_eq_true h.1

set_option maxRecDepth 100000 in
set_option maxHeartbeats 3200000 in
theorem law_any (a : Option Addr) (c : Nat) (zs : List Int) (a2 : Option Addr) (c2 : Nat) (ts : List Int) (m : Nat) (dam : Bool) (w : World) (hlz : zs.length ≤ maxLen) (hlt : ts.length ≤ maxLen) (hs : Sl w w.heap.size a (zs.map (.int .i32))) (hs2 : Sl w w.heap.size a2 (ts.map (.int .i32)))
    (hb : ∀ z ∈ zs, -2147483648 ≤ z ∧ z ≤ 2147483647) (hb2 : ∀ z ∈ ts, -2147483648 ≤ z ∧ z ≤ 2147483647) (hm : m ≤ 255) :
    Calls Try.prog 6 #[.slice a zs.length c, .slice a2 ts.length c2, .int .u8 m, .bool dam] w fun e w' => e = .returned (.bool true) ∧ Below w.heap.size w w' := by
  have CQ := Lib.hid (numbers_any a c zs w hlz hs hb)
  have CT := Lib.hid (fun w1 (h : Below w.heap.size w w1) => numbers_any a2 c2 ts w1 hlt (sl_on hs2 (Nat.le_refl _) h) hb2)
  have HS := Lib.hid hs
  have HS2 := Lib.hid hs2
  clear hs hs2 hb hb2
  unfold maxLen at hlz hlt
  by_cases hq : zs.length ≤ 2147483647
  · by_cases ht : ts.length ≤ 2147483647
    · cases hnz : numOk zs with
      | false =>
        cases hnt : numOk ts with
        | false =>
          rw [hnz] at CQ
          rw [hnt] at CT
          go_enter Try.func6, Try.ntmps6
          go_wp2_with (fail)
          refine CQ.out.mono ?_
          rintro e w1 ⟨rfl, hb1⟩
          have HB1 := Lib.hid hb1
          clear hb1
          go_wp2_with (fail)
          refine (CT.out _ HB1.out).mono ?_
          rintro e w2 ⟨rfl, hb2⟩
          have HB2 := Lib.hid (HB1.out.trans (hb2.mono HB1.out.size))
          clear hb2 CQ CT
          go_wp2_with (fail)
          go_ret
          exact ⟨rfl, HB2.out⟩
        | true =>
          rw [hnz] at CQ
          rw [hnt] at CT
          go_enter Try.func6, Try.ntmps6
          go_wp2_with (fail)
          refine CQ.out.mono ?_
          rintro e w1 ⟨rfl, hb1⟩
          have HB1 := Lib.hid hb1
          clear hb1
          go_wp2_with (fail)
          refine (CT.out _ HB1.out).mono ?_
          rintro e w2 ⟨⟨at_, ct, rfl, st, -⟩, hb2⟩
          have ST := Lib.hid st
          clear st
          have HB2 := Lib.hid (HB1.out.trans (hb2.mono HB1.out.size))
          clear hb2 CQ CT
          go_wp2_with (fail)
          go_ret
          exact ⟨rfl, HB2.out⟩
      | true =>
        cases hnt : numOk ts with
        | false =>
          rw [hnz] at CQ
          rw [hnt] at CT
          go_enter Try.func6, Try.ntmps6
          go_wp2_with (fail)
          refine CQ.out.mono ?_
          rintro e w1 ⟨⟨aq, cq, rfl, sq, -⟩, hb1⟩
          have SQ := Lib.hid sq
          clear sq
          have HB1 := Lib.hid hb1
          clear hb1
          go_wp2_with (fail)
          refine (CT.out _ HB1.out).mono ?_
          rintro e w2 ⟨rfl, hb2⟩
          have SQ2 := Lib.hid (sl_on SQ.out (Nat.le_refl _) hb2)
          have HB2 := Lib.hid (HB1.out.trans (hb2.mono HB1.out.size))
          clear hb2 CQ CT
          go_wp2_with (fail)
          go_ret
          exact ⟨rfl, HB2.out⟩
        | true =>
          have hz40 := num_len hnz
          have ht40 := num_len hnt
          by_cases hm8 : m ≤ 8
          · rw [hnz] at CQ
            rw [hnt] at CT
            go_enter Try.func6, Try.ntmps6
            go_wp2_with (fail)
            refine CQ.out.mono ?_
            rintro e w1 ⟨⟨aq, cq, rfl, sq, -⟩, hb1⟩
            have SQ := Lib.hid sq
            clear sq
            have HB1 := Lib.hid hb1
            clear hb1
            go_wp2_with (fail)
            refine (CT.out _ HB1.out).mono ?_
            rintro e w2 ⟨⟨at_, ct, rfl, st, -⟩, hb2⟩
            have ST := Lib.hid st
            clear st
            have SQ2 := Lib.hid (sl_on SQ.out (Nat.le_refl _) hb2)
            have HB2 := Lib.hid (HB1.out.trans (hb2.mono HB1.out.size))
            clear hb2 CQ CT
            have CF := Lib.hid (nfad_any m dam hm8 w2 a zs c a2 ts c2 hz40 ht40 (sl_on HS.out (Nat.le_refl _) HB2.out) (sl_on HS2.out (Nat.le_refl _) HB2.out))
            go_wp2_with (fail)
            refine CF.out.mono ?_
            rintro e w3 ⟨rfl, hb3⟩
            have HB3 := Lib.hid (HB2.out.trans (hb3.mono HB2.out.size))
            have CD := Lib.hid (dist_any dam aq at_ zs ts cq ct w3 (by omega) (by omega) (sl_on SQ2.out (Nat.le_refl _) hb3) (sl_on ST.out (Nat.le_refl _) hb3))
            clear hb3 CF
            go_wp2_with (fail)
            refine CD.out.mono ?_
            rintro e w4 ⟨rfl, hb4⟩
            have HB4 := Lib.hid (HB3.out.trans (hb4.mono HB3.out.size))
            clear hb4 CD
            have hD := eds_le dam zs ts _ zs.length ts.length (Nat.le_refl _)
            have CO := Lib.hid (told_any (min (eds dam zs ts zs.length ts.length) (m + 1)) m (eds dam zs ts zs.length ts.length) w4 rfl hm8 (by omega))
            go_wp2_with (fail)
            refine CO.out.mono ?_
            rintro e w5 ⟨rfl, rfl⟩
            go_wp2_with (fail)
            go_ret
            exact ⟨rfl, HB4.out⟩
          · have hm8' : ¬ (m : Int) ≤ 8 := by omega
            rw [hnz] at CQ
            rw [hnt] at CT
            go_enter Try.func6, Try.ntmps6
            go_wp2_with (fail)
            refine CQ.out.mono ?_
            rintro e w1 ⟨⟨aq, cq, rfl, sq, -⟩, hb1⟩
            have SQ := Lib.hid sq
            clear sq
            have HB1 := Lib.hid hb1
            clear hb1
            go_wp2_with (fail)
            refine (CT.out _ HB1.out).mono ?_
            rintro e w2 ⟨⟨at_, ct, rfl, st, -⟩, hb2⟩
            have ST := Lib.hid st
            clear st
            have SQ2 := Lib.hid (sl_on SQ.out (Nat.le_refl _) hb2)
            have HB2 := Lib.hid (HB1.out.trans (hb2.mono HB1.out.size))
            clear hb2 CQ CT
            go_wp2_with (fail)
            go_ret
            exact ⟨rfl, HB2.out⟩
    · go_enter Try.func6, Try.ntmps6
      go_wp2_with (fail)
      go_ret
      exact ⟨rfl, Below.refl _ _⟩
  · go_enter Try.func6, Try.ntmps6
    go_wp2_with (fail)
    go_ret
    exact ⟨rfl, Below.refl _ _⟩

theorem walk (a : Option Addr) (c : Nat) (zs : List Int) (a2 : Option Addr) (c2 : Nat) (ts : List Int) (y : Int) (dam : Bool) (w : World) (hlz : zs.length ≤ maxLen) (hlt : ts.length ≤ maxLen) (hs : Sl w w.heap.size a (zs.map (.int .i32))) (hs2 : Sl w w.heap.size a2 (ts.map (.int .i32)))
    (hb : ∀ z ∈ zs, -2147483648 ≤ z ∧ z ≤ 2147483647) (hb2 : ∀ z ∈ ts, -2147483648 ≤ z ∧ z ≤ 2147483647) (hy : 0 ≤ y ∧ y ≤ 255) :
    Calls Try.prog 6 #[.slice a zs.length c, .slice a2 ts.length c2, .int .u8 y, .bool dam] w fun e w' => e = .returned (.bool true) ∧ Below w.heap.size w w' := by
  obtain ⟨m, rfl⟩ := Int.eq_ofNat_of_zero_le hy.1
  exact law_any a c zs a2 c2 ts m dam w hlz hlt hs hs2 hb hb2 (by omega)

end Go.Proofs.Ytgblmafollhojaa.fnNfa
