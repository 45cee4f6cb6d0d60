/-
  FnPlacesKept: no place that places are moved on to is needless, or has more edits than the greatest number. Conditions: none.
-/
import Derived.Test.YtgblmafollhojaaTrD
import Derived.Test.YtgblmafollhojaaNeed
import Derived.Test.YtgblmafollhojaaNum
namespace Go.Proofs.Ytgblmafollhojaa.fnPlacesKept
open Go.ChangeShapes Go.WideShapes Go.ChangeAt Go.RowKit
set_option linter.unusedVariables false

theorem anti_idx {A l : List Pl} (h : l.Perm (addAll A)) : ∀ i k (hi : i < l.length) (hk : k < l.length), i ≠ k → impB l[i] l[k] = false := by
  have hp : l.Pairwise (fun a b => impB a b = false ∧ impB b a = false) := (h.pairwise_iff (fun {x y} hxy => ⟨hxy.2, hxy.1⟩)).2 (kept_all A).anti
  have h1 := List.pairwise_iff_getElem.1 hp
  intro i k hi hk hik
  rcases Nat.lt_or_ge i k with hlt | hge
  · exact (h1 i k hi hk hlt).1
  · exact (h1 k i hk hi (by omega)).2
theorem first_ne {m : Nat} {dam : Bool} {scv : Nat} {l' : List Pl} (h : Stepped m dam scv [(0, 0, false)] l') (hm : 0 < m) : 0 < l'.length := by
  rw [h.1.length_eq]
  have hne : addAll (stepL m dam scv [(0, 0, false)]) ≠ [] := by
    refine addAll_ne _ ?_
    unfold stepL mvs mvE mv0
    simp [hm]
  rcases Nat.eq_zero_or_pos (addAll (stepL m dam scv [(0, 0, false)])).length with h | h
  · exact absurd (List.eq_nil_of_length_eq_zero h) hne
  · exact h
theorem num_len {zs : List Int} (h : numOk zs = true) : zs.length ≤ 40 := by
  unfold numOk at h
  rw [Bool.and_eq_true] at h
  exact of_decide_eq_true h.1

theorem chi64 (zs : List Int) (r : Int) (h : zs.length ≤ 40) : chiN zs r zs.length < 18446744073709551616 := by
  have h1 := chiN_lt zs r zs.length
  have h2 : 2 ^ zs.length ≤ 2 ^ 40 := Nat.pow_le_pow_right (by omega) h
  omega
theorem sl_more {w w1 : World} {B : Nat} {a : Option Addr} {xs : List Value} (h : Sl w B a xs) (hB : B ≤ w.heap.size) (hb : Below w.heap.size w w1) : Sl w1 w1.heap.size a xs := fun j u hj => by
  obtain ⟨ad, h1, h2, h3⟩ := h.below (hb.mono hB) j u hj
  exact ⟨ad, h1, Nat.lt_of_lt_of_le h2 (Nat.le_trans hB hb.size), h3⟩

/-- where the places stand -/
structure At (w wr : World) (m i : Nat) (a : Option Addr) (l : List Pl) : Prop where
  b : Below w.heap.size w wr
  s : Sl wr wr.heap.size a (l.flatMap enc3)
  ok : ∀ p ∈ l, p.1 ≤ 10 * i ∧ p.2.1 ≤ m
  len : l.length ≤ 2000
  first : i = 0 → l = [(0, 0, false)]

set_option maxRecDepth 100000 in
set_option maxHeartbeats 3200000 in
theorem law_any (a : Option Addr) (c : Nat) (zs : List Int) (a2 : Option Addr) (c2 : Nat) (ts : List Int) (m : Nat) (dam : Bool) (w : World) (hlz : zs.length ≤ maxLen) (hlt : ts.length ≤ maxLen) (hs : Sl w w.heap.size a (zs.map (.int .i32))) (hs2 : Sl w w.heap.size a2 (ts.map (.int .i32)))
    (hb : ∀ z ∈ zs, -2147483648 ≤ z ∧ z ≤ 2147483647) (hb2 : ∀ z ∈ ts, -2147483648 ≤ z ∧ z ≤ 2147483647) (hm : m ≤ 255) :
    Calls Try.prog 5 #[.slice a zs.length c, .slice a2 ts.length c2, .int .u8 m, .bool dam] w fun e w' => e = .returned (.bool true) ∧ Below w.heap.size w w' := by
  have CQ := Lib.hid (numbers_any a c zs w hlz hs hb)
  have CT := Lib.hid (fun w1 (h : Below w.heap.size w w1) => numbers_any a2 c2 ts w1 hlt (fun j u hj => by
    obtain ⟨ad, h1, h2, h3⟩ := hs2.below h j u hj
    exact ⟨ad, h1, Nat.lt_of_lt_of_le h2 h.size, h3⟩) hb2)
  have HS := Lib.hid hs
  have HS2 := Lib.hid hs2
  clear hs hs2 hb hb2
  unfold maxLen at hlz hlt
  by_cases hq : zs.length ≤ 2147483647
  · by_cases ht : ts.length ≤ 2147483647
    · cases hnz : numOk zs with
      | false =>
        cases hnt : numOk ts with
        | false =>
          rw [hnz] at CQ
          rw [hnt] at CT
          go_enter Try.func5, Try.ntmps5
          go_wp2_with (fail)
          refine CQ.out.mono ?_
          rintro e w1 ⟨rfl, hb1⟩
          have HB1 := Lib.hid hb1
          clear hb1
          go_wp2_with (fail)
          refine (CT.out _ HB1.out).mono ?_
          rintro e w2 ⟨rfl, hb2⟩
          have HB2 := Lib.hid (HB1.out.trans (hb2.mono HB1.out.size))
          clear hb2 CQ CT
          go_wp2_with (fail)
          go_ret
          exact ⟨rfl, HB2.out⟩
        | true =>
          rw [hnz] at CQ
          rw [hnt] at CT
          go_enter Try.func5, Try.ntmps5
          go_wp2_with (fail)
          refine CQ.out.mono ?_
          rintro e w1 ⟨rfl, hb1⟩
          have HB1 := Lib.hid hb1
          clear hb1
          go_wp2_with (fail)
          refine (CT.out _ HB1.out).mono ?_
          rintro e w2 ⟨⟨at_, ct, rfl, -⟩, hb2⟩
          have HB2 := Lib.hid (HB1.out.trans (hb2.mono HB1.out.size))
          clear hb2 CQ CT
          go_wp2_with (fail)
          go_ret
          exact ⟨rfl, HB2.out⟩
      | true =>
        cases hnt : numOk ts with
        | false =>
          rw [hnz] at CQ
          rw [hnt] at CT
          go_enter Try.func5, Try.ntmps5
          go_wp2_with (fail)
          refine CQ.out.mono ?_
          rintro e w1 ⟨⟨aq, cq, rfl, -⟩, hb1⟩
          have HB1 := Lib.hid hb1
          clear hb1
          go_wp2_with (fail)
          refine (CT.out _ HB1.out).mono ?_
          rintro e w2 ⟨rfl, hb2⟩
          have HB2 := Lib.hid (HB1.out.trans (hb2.mono HB1.out.size))
          clear hb2 CQ CT
          go_wp2_with (fail)
          go_ret
          exact ⟨rfl, HB2.out⟩
        | true =>
          have hz40 := num_len hnz
          have ht40 := num_len hnt
          by_cases hm8 : m ≤ 8
          · have hdq : decide (2147483647 < (zs.length : Int)) = false := decide_eq_false (by omega)
            have hdt : decide (2147483647 < (ts.length : Int)) = false := decide_eq_false (by omega)
            have hdm : decide (8 < (m : Int)) = false := decide_eq_false (by omega)
            rw [hnz] at CQ
            rw [hnt] at CT
            go_enter Try.func5, Try.ntmps5
            go_wp2_with (fail)
            refine CQ.out.mono ?_
            rintro e w1 ⟨⟨aq, cq, rfl, -⟩, hb1⟩
            have HB1 := Lib.hid hb1
            clear hb1
            go_wp2_with (fail)
            refine (CT.out _ HB1.out).mono ?_
            rintro e w2 ⟨⟨at_, ct, rfl, -⟩, hb2⟩
            have HB2 := Lib.hid (HB1.out.trans (hb2.mono HB1.out.size))
            clear hb2 CQ CT
            go_wp2_with (fail)
            have hz0 : At w (w2.alloc (.cells #[.int .u32 0, .int .u8 0, .bool false] 29)) m 0 (some ⟨w2.heap.size, 0, none⟩) [(0, 0, false)] := by
              have hbn := Blk.new w2 29 [.int .u32 0, .int .u8 0, .bool false]
              refine ⟨HB2.out.alloc HB2.out.size _, fun j u hj => ⟨_, rfl, by simp, ?_⟩, fun p hp => by simp at hp; subst hp; simp, by simp, fun _ => rfl⟩
              have hlt3 := (List.getElem?_eq_some_iff.1 hj).1
              simp [enc3] at hlt3
              match j, hlt3 with
              | 0, _ => simp [enc3] at hj; subst hj; exact hbn.cell 0
              | 1, _ => simp [enc3] at hj; subst hj; exact hbn.cell 1
              | 2, _ => simp [enc3] at hj; subst hj; exact hbn.cell 2
            have HZ0 := Lib.hid hz0
            clear hz0
            go_loopw [13, 14] (fun va vi wr => ∃ (i : Nat) (a' : Option Addr) (l : List Pl) (c' : Nat), i ≤ ts.length ∧ vi = .int .i64 i ∧ va = .slice a' l.length c' ∧ Hid (At w wr m i a' l)) (fun _ vi _ => ts.length - (intOf vi).toNat)
            case atStart => exact ⟨0, _, [(0, 0, false)], 1, by omega, rfl, rfl, HZ0⟩
            case round =>
              obtain ⟨i, a', l, c', hil, rfl, rfl, HA⟩ := hrel
              by_cases hlt2 : i < ts.length
              · obtain ⟨ad, rfl, hcell⟩ := (HS2.out.below HA.out.b).ints i hlt2
                generalize ts.getD i 0 = r at *
                have CC := Lib.hid (char_any a zs c r wr hz40 (sl_more HS.out (Nat.le_refl _) HA.out.b))
                go_wp2_with (fail)
                refine CC.out.mono ?_
                rintro e w3 ⟨rfl, hb3⟩
                have CS := Lib.hid (stepP_any m dam hm8 w3 a' l c' (sl_more HA.out.s (Nat.le_refl _) hb3) (fun s hs => by have := HA.out.ok s hs; omega) HA.out.len _ (chi64 zs r hz40))
                have HB3 := Lib.hid (HA.out.b.trans (hb3.mono HA.out.b.size))
                clear hb3 CC
                go_wp2_with (fail)
                refine CS.out.mono ?_
                rintro e w4 ⟨v4, l4, rfl, hst, ho4, hb4⟩
                obtain ⟨a4, c4, rfl⟩ := own_value ho4
                have HCN := Lib.hid (needed_any a4 l4 c4 w4 (hst.short hm8 (fun s hs => by have := HA.out.ok s hs; omega)) (sl_of_own ho4) (fun p hp => by
                  have := hst.ok (10 * i) (fun s hs => HA.out.ok s hs) p hp
                  exact ⟨by omega, by omega⟩) (anti_idx hst.1))
                have HAN := Lib.hid (fun w5 (h5 : Below w4.heap.size w4 w5) => show At w w5 m (i + 1) a4 l4 from
                  ⟨(HB3.out.trans (hb4.mono HB3.out.size)).trans (h5.mono (Nat.le_trans HB3.out.size hb4.size)), sl_more (sl_of_own ho4) (Nat.le_refl _) h5, fun p hp => by
                    have := hst.ok (10 * i) (fun s hs => HA.out.ok s hs) p hp
                    omega, hst.short hm8 (fun s hs => by have := HA.out.ok s hs; omega), fun h => absurd h (by omega)⟩)
                have HNE := Lib.hid (fun (h0 : i = 0) (h1 : 0 < m) => show ((l4.length : Int) == 0) = false from by
                  rw [HA.out.first h0] at hst
                  have := first_ne hst h1
                  rw [beq_eq_false_iff_ne]
                  omega)
                have hl4 := hst.short hm8 (fun s hs => by have := HA.out.ok s hs; omega)
                clear ho4 hb4 hst CS
                by_cases hi0 : i = 0
                · have hi : ((i : Int) == 0) = true := by rw [beq_iff_eq]; omega
                  by_cases hm0 : 0 < m
                  · have hm1 : decide (0 < (m : Int)) = true := decide_eq_true (by omega)
                    have hl0 := HNE.out hi0 hm0
                    clear hi0
                    go_wp2_with (fail)
                    refine HCN.out.mono ?_
                    rintro e w5 ⟨rfl, hb5⟩
                    have HA5 := Lib.hid (HAN.out w5 hb5)
                    clear hb5 HCN HAN
                    go_wp2_with (fail)
                    go_loopw [15] (fun vk wx => ∃ k : Nat, k ≤ l4.length ∧ vk = .int .i64 k ∧ wx = w5) (fun vk _ => l4.length - (intOf vk).toNat)
                    case atStart => exact ⟨0, by omega, rfl, rfl⟩
                    case round =>
                      obtain ⟨k, hkl, rfl, rfl⟩ := hrel
                      by_cases hk : k < l4.length
                      · obtain ⟨ad4, rfl, -, f0, f1, f2⟩ := three_at HA5.out.s k hk
                        have hpk := (HA5.out.ok l4[k] (List.getElem_mem hk)).2
                        generalize l4[k] = p at *
                        have hpd : decide ((m : Int) < (p.2.1 : Int)) = false := decide_eq_false (by omega)
                        go_wp2_with (fail)
                        go_roundw
                        case rel => exact ⟨k + 1, by omega, by go_num, trivial⟩
                        case measure => simp [intOf]; omega
                      · obtain rfl : k = l4.length := by omega
                        go_wp2_with (fail)
                        go_roundw
                        case rel => exact ⟨i + 1, _, l4, c4, by omega, by go_num, rfl, HA5⟩
                        case measure => simp [intOf]; omega
                  · have hm1 : decide (0 < (m : Int)) = false := decide_eq_false (by omega)
                    clear hi0
                    go_wp2_with (fail)
                    refine HCN.out.mono ?_
                    rintro e w5 ⟨rfl, hb5⟩
                    have HA5 := Lib.hid (HAN.out w5 hb5)
                    clear hb5 HCN HAN
                    go_wp2_with (fail)
                    go_loopw [15] (fun vk wx => ∃ k : Nat, k ≤ l4.length ∧ vk = .int .i64 k ∧ wx = w5) (fun vk _ => l4.length - (intOf vk).toNat)
                    case atStart => exact ⟨0, by omega, rfl, rfl⟩
                    case round =>
                      obtain ⟨k, hkl, rfl, rfl⟩ := hrel
                      by_cases hk : k < l4.length
                      · obtain ⟨ad4, rfl, -, f0, f1, f2⟩ := three_at HA5.out.s k hk
                        have hpk := (HA5.out.ok l4[k] (List.getElem_mem hk)).2
                        generalize l4[k] = p at *
                        have hpd : decide ((m : Int) < (p.2.1 : Int)) = false := decide_eq_false (by omega)
                        go_wp2_with (fail)
                        go_roundw
                        case rel => exact ⟨k + 1, by omega, by go_num, trivial⟩
                        case measure => simp [intOf]; omega
                      · obtain rfl : k = l4.length := by omega
                        go_wp2_with (fail)
                        go_roundw
                        case rel => exact ⟨i + 1, _, l4, c4, by omega, by go_num, rfl, HA5⟩
                        case measure => simp [intOf]; omega
                · have hi : ((i : Int) == 0) = false := by rw [beq_eq_false_iff_ne]; omega
                  clear hi0
                  go_wp2_with (fail)
                  refine HCN.out.mono ?_
                  rintro e w5 ⟨rfl, hb5⟩
                  have HA5 := Lib.hid (HAN.out w5 hb5)
                  clear hb5 HCN HAN
                  go_wp2_with (fail)
                  go_loopw [15] (fun vk wx => ∃ k : Nat, k ≤ l4.length ∧ vk = .int .i64 k ∧ wx = w5) (fun vk _ => l4.length - (intOf vk).toNat)
                  case atStart => exact ⟨0, by omega, rfl, rfl⟩
                  case round =>
                    obtain ⟨k, hkl, rfl, rfl⟩ := hrel
                    by_cases hk : k < l4.length
                    · obtain ⟨ad4, rfl, -, f0, f1, f2⟩ := three_at HA5.out.s k hk
                      have hpk := (HA5.out.ok l4[k] (List.getElem_mem hk)).2
                      generalize l4[k] = p at *
                      have hpd : decide ((m : Int) < (p.2.1 : Int)) = false := decide_eq_false (by omega)
                      go_wp2_with (fail)
                      go_roundw
                      case rel => exact ⟨k + 1, by omega, by go_num, trivial⟩
                      case measure => simp [intOf]; omega
                    · obtain rfl : k = l4.length := by omega
                      go_wp2_with (fail)
                      go_roundw
                      case rel => exact ⟨i + 1, _, l4, c4, by omega, by go_num, rfl, HA5⟩
                      case measure => simp [intOf]; omega
              · obtain rfl : i = ts.length := by omega
                go_wp2_with (fail)
                go_ret
                exact ⟨rfl, HA.out.b⟩
          · have hm8' : ¬ (m : Int) ≤ 8 := by omega
            rw [hnz] at CQ
            rw [hnt] at CT
            go_enter Try.func5, Try.ntmps5
            go_wp2_with (fail)
            refine CQ.out.mono ?_
            rintro e w1 ⟨⟨aq, cq, rfl, -⟩, hb1⟩
            have HB1 := Lib.hid hb1
            clear hb1
            go_wp2_with (fail)
            refine (CT.out _ HB1.out).mono ?_
            rintro e w2 ⟨⟨at_, ct, rfl, -⟩, hb2⟩
            have HB2 := Lib.hid (HB1.out.trans (hb2.mono HB1.out.size))
            clear hb2 CQ CT
            go_wp2_with (fail)
            go_ret
            exact ⟨rfl, HB2.out⟩
    · go_enter Try.func5, Try.ntmps5
      go_wp2_with (fail)
      go_ret
      exact ⟨rfl, Below.refl _ _⟩
  · go_enter Try.func5, Try.ntmps5
    go_wp2_with (fail)
    go_ret
    exact ⟨rfl, Below.refl _ _⟩

theorem walk (a : Option Addr) (c : Nat) (zs : List Int) (a2 : Option Addr) (c2 : Nat) (ts : List Int) (y : Int) (dam : Bool) (w : World) (hlz : zs.length ≤ maxLen) (hlt : ts.length ≤ maxLen) (hs : Sl w w.heap.size a (zs.map (.int .i32))) (hs2 : Sl w w.heap.size a2 (ts.map (.int .i32)))
    (hb : ∀ z ∈ zs, -2147483648 ≤ z ∧ z ≤ 2147483647) (hb2 : ∀ z ∈ ts, -2147483648 ≤ z ∧ z ≤ 2147483647) (hy : 0 ≤ y ∧ y ≤ 255) :
    Calls Try.prog 5 #[.slice a zs.length c, .slice a2 ts.length c2, .int .u8 y, .bool dam] w fun e w' => e = .returned (.bool true) ∧ Below w.heap.size w w' := by
  obtain ⟨m, rfl⟩ := Int.eq_ofNat_of_zero_le hy.1
  exact law_any a c zs a2 c2 ts m dam w hlz hlt hs hs2 hb hb2 (by omega)

end Go.Proofs.Ytgblmafollhojaa.fnPlacesKept
