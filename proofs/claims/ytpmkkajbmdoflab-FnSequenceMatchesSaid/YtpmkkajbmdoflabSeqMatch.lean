/-
  FnSequenceMatches: bytes match ranges if each is within the range of its place; too few match none. Conditions: none.
-/
import Derived.Test.YtpmkkajbmdoflabBase
import Derived.OwnWalk
namespace Go.Proofs.Ytpmkkajbmdoflab.fnSequenceMatches
open Go.ChangeShapes Go.WideShapes Go.ChangeAt Go.RowKit
set_option linter.unusedVariables false

theorem info50 : (Try.prog.info? 50).map (fun i => (i.zero, i.size, i.bytes)) = some (some (.agg #[.int .u8 0, .int .u8 0]), 2, 2) := by kernel_rfl
def pr (p : Int × Int) : List Value := [.int .u8 p.1, .int .u8 p.2]
def prs (ps : List (Int × Int)) : List Value := ps.flatMap pr
def inR (p : Int × Int) (b : Int) : Bool := decide (p.1 ≤ b) && decide (b ≤ p.2)
/-- the bytes are each within the range of their place -/
def allIn : List (Int × Int) → List Int → Bool
  | [], _ => true
  | _ :: _, [] => false
  | p :: ps, b :: bs => inR p b && allIn ps bs

theorem below_cell {w w' : World} (h : Below w.heap.size w w') {p : Addr} {v : Value} (hp : p.block < w.heap.size) (hc : w.cell? p = some v) : w'.cell? p = some v := (h.cell hp).trans hc

set_option maxHeartbeats 400000 in
theorem range_any (lo hi b : Int) (w : World) (h0 : 0 ≤ lo ∧ lo ≤ 255) (h1 : 0 ≤ hi ∧ hi ≤ 255) (h2 : 0 ≤ b ∧ b ≤ 255) :
    Calls Try.prog 31 #[.agg #[.int .u8 lo, .int .u8 hi], .int .u8 b] w fun e w' => e = .returned (.bool (inR (lo, hi) b)) ∧ Below w.heap.size w w' := by
  by_cases ha : lo ≤ b
  · by_cases hb : b ≤ hi
    · have e : inR (lo, hi) b = true := by simp [inR, ha, hb]
      rw [e]; clear e
      go_enter Try.func31, Try.ntmps31
      go_wp2
      go_ret
      exact ⟨rfl, (Below.refl _ _).alloc (Nat.le_refl _) _⟩
    · have e : inR (lo, hi) b = false := by simp [inR, ha, hb]
      rw [e]; clear e
      go_enter Try.func31, Try.ntmps31
      go_wp2
      go_ret
      exact ⟨rfl, (Below.refl _ _).alloc (Nat.le_refl _) _⟩
  · have e : inR (lo, hi) b = false := by simp [inR, ha]
    have hd : decide (lo ≤ b) = false := by simpa using ha
    rw [e]; clear e
    go_enter Try.func31, Try.ntmps31
    go_wp2
    go_ret
    exact ⟨rfl, (Below.refl _ _).alloc (Nat.le_refl _) _⟩

theorem pr_len (p : Int × Int) : (pr p).length = 2 := rfl

/-- an element's two cells, as the walk spells their addresses -/
theorem pair_at {w : World} {B : Nat} {a : Option Addr} {ps : List (Int × Int)} (h : Sl w B a (prs ps)) (i : Nat) (hi : i < ps.length) :
    ∃ ad, a = some ad ∧ w.cell? (ad.add (i * 2)) = some (.int .u8 ps[i].1) ∧ w.cell? ⟨(ad.add (i * 2)).block, (ad.add (i * 2)).off + 1, none⟩ = some (.int .u8 ps[i].2) := by
  obtain ⟨ad, rfl, hb, h0⟩ := Sl.elem pr_len h i 0 (by omega) hi (.int .u8 ps[i].1) rfl
  obtain ⟨ad', he, hb', h1⟩ := Sl.elem pr_len h i 1 (by omega) hi (.int .u8 ps[i].2) rfl
  injection he with he
  subst he
  exact ⟨ad, rfl, h0, cell_off h1⟩

theorem allIn_drop (ps : List (Int × Int)) (bs : List Int) (n : Nat) (h1 : n < ps.length) (h2 : n < bs.length) : allIn (ps.drop n) (bs.drop n) = (inR ps[n] bs[n] && allIn (ps.drop (n + 1)) (bs.drop (n + 1))) := by
  rw [List.drop_eq_getElem_cons h1, List.drop_eq_getElem_cons h2]
  rfl

theorem allIn_short : ∀ (ps : List (Int × Int)) (bs : List Int), bs.length < ps.length → allIn ps bs = false
  | [], bs, h => by simp at h
  | _ :: _, [], _ => rfl
  | p :: ps, b :: bs, h => by
    simp only [allIn, allIn_short ps bs (by simpa using h), Bool.and_false]

theorem ret_bool {a b : Bool} (h : a = b) : Ending.returned (.bool a) = .returned (.bool b) := by rw [h]

set_option maxHeartbeats 400000 in
theorem matches_any (a b : Option Addr) (ps : List (Int × Int)) (zs : List Int) (c d : Nat) (B : Nat) (w : World) (hB : B ≤ w.heap.size) (hl1 : ps.length ≤ 2147483647) (hl2 : zs.length ≤ 2147483647)
    (hs : Sl w B a (prs ps)) (hz : Sl w B b (zs.map (.int .u8))) (hp : ∀ p ∈ ps, (0 ≤ p.1 ∧ p.1 ≤ 255) ∧ (0 ≤ p.2 ∧ p.2 ≤ 255)) (hzb : ∀ z ∈ zs, 0 ≤ z ∧ z ≤ 255) :
    Calls Try.prog 21 #[.slice a ps.length c, .slice b zs.length d] w fun e w' => e = .returned (.bool (allIn ps zs)) ∧ Below w.heap.size w w' := by
  have HS := Lib.hid hs
  have HZ := Lib.hid hz
  have HP := Lib.hid hp
  have HZB := Lib.hid hzb
  clear hs hz hp hzb
  by_cases hlen : zs.length < ps.length
  · have e := Lib.hid (allIn_short ps zs hlen)
    go_enter Try.func21, Try.ntmps21
    go_wp2
    go_ret
    exact ⟨ret_bool e.out.symm, Below.refl _ _⟩
  · go_enter Try.func21, Try.ntmps21
    go_wp2
    go_loopw [5] (fun i wr => ∃ n : Nat, n ≤ ps.length ∧ i = .int .i64 n ∧ Hid (allIn ps zs = allIn (ps.drop n) (zs.drop n)) ∧ Below w.heap.size w wr) (fun i _ => ps.length - (intOf i).toNat)
    case atStart => exact ⟨0, by omega, rfl, Lib.hid rfl, Below.refl _ _⟩
    case round =>
      obtain ⟨n, hn, rfl, hall, hbw⟩ := hrel
      by_cases hlt : n < ps.length
      · obtain ⟨ad, rfl, hc0, hc1⟩ := pair_at (HS.out.below (hbw.mono hB)) n hlt
        obtain ⟨ad', rfl, hz0⟩ := (HZ.out.below (hbw.mono hB)).ints n (by omega)
        have hpn := HP.out ps[n] (List.getElem_mem _)
        have hzn := HZB.out (zs.getD n 0) (by rw [List.getD_eq_getElem?_getD, List.getElem?_eq_getElem (show n < zs.length by omega)]; exact List.getElem_mem _)
        have hstep := allIn_drop ps zs n hlt (by omega)
        have ez : zs[n]'(by omega) = zs.getD n 0 := by rw [List.getD_eq_getElem?_getD, List.getElem?_eq_getElem (show n < zs.length by omega)]; rfl
        rw [ez] at hstep
        have HSTEP := Lib.hid hstep
        clear hstep ez
        generalize zs.getD n 0 = z at *
        generalize hq : ps[n] = q at *
        obtain ⟨lo, hi⟩ := q
        have HQ := Lib.hid hq
        clear hq
        simp only at hc0 hc1 hpn
        obtain ⟨hlo, hhi⟩ := hpn
        have hb0 : (0 : Int) ≤ (n : Int) := by omega
        have hb1 : (n : Int) < (ps.length : Int) := by omega
        have hb2 : (n : Int) < (zs.length : Int) := by omega
        have HHALL := Lib.hid hall
        clear hall
        cases hin : inR (lo, hi) z with
        | true =>
          have HIN := Lib.hid hin
          clear hin
          have C := Lib.hid (fun W => (range_any lo hi z W hlo hhi hzn))
          go_wp2_with fail
          refine wp_region_still_tail 8 (by kernel_rfl) (by kernel_rfl) ?_
          simp only [List.take_succ_cons, List.take_zero, List.drop_succ_cons, List.drop_zero]
          change wpStill _ _ (World.drew _) _ _ _
          repeat still_step
          refine wpStill_nil ?_
          change wpList _ _ _ _ _ (World.drew _)
          go_wp2_with (go_at_call 31; refine (C.out _).mono ?_; rw [HIN.out]; rintro e w' ⟨rfl, hb'⟩)
          go_roundw
          case rel => exact ⟨n + 1, by omega, by go_num, Lib.hid (by rw [HHALL.out.out, HSTEP.out, HIN.out]; rfl), hbw.drew.trans (hb'.mono hbw.size)⟩
          case measure => simp [intOf]; omega
        | false =>
          have HIN := Lib.hid hin
          clear hin
          have C := Lib.hid (fun W => (range_any lo hi z W hlo hhi hzn))
          go_wp2_with fail
          refine wp_region_still_tail 8 (by kernel_rfl) (by kernel_rfl) ?_
          simp only [List.take_succ_cons, List.take_zero, List.drop_succ_cons, List.drop_zero]
          change wpStill _ _ (World.drew _) _ _ _
          repeat still_step
          refine wpStill_nil ?_
          change wpList _ _ _ _ _ (World.drew _)
          go_wp2_with (go_at_call 31; refine (C.out _).mono ?_; rw [HIN.out]; rintro e w' ⟨rfl, hb'⟩)
          go_ret
          exact ⟨ret_bool (by rw [HHALL.out.out, HSTEP.out, HIN.out]; rfl), hbw.drew.trans (hb'.mono hbw.size)⟩
      · obtain rfl : n = ps.length := by omega
        have HHALL := Lib.hid hall
        clear hall
        go_wp2
        go_ret
        exact ⟨ret_bool (by rw [HHALL.out.out, List.drop_length]; rfl), hbw⟩

theorem prs_len (ps : List (Int × Int)) : (prs ps).length = ps.length * 2 := flat_len pr 2 pr_len ps

theorem prs_snoc (ps : List (Int × Int)) (n : Nat) (h : n < ps.length) : prs (ps.take (n + 1)) = prs (ps.take n) ++ [.int .u8 ps[n].1, .int .u8 ps[n].2] := by
  unfold prs
  rw [List.take_succ_eq_append_getElem h, List.flatMap_append]
  rfl

set_option maxHeartbeats 400000 in
theorem imp_any (a b : Option Addr) (ps : List (Int × Int)) (zs : List Int) (c d : Nat) (w : World) (hl1 : ps.length ≤ 2147483647) (hl2 : zs.length ≤ 2147483647)
    (hs : Sl w w.heap.size a (prs ps)) (hz : Sl w w.heap.size b (zs.map (.int .u8))) (hp : ∀ p ∈ ps, (0 ≤ p.1 ∧ p.1 ≤ 255) ∧ (0 ≤ p.2 ∧ p.2 ≤ 255)) (hzb : ∀ z ∈ zs, 0 ≤ z ∧ z ≤ 255) :
    Calls Try.prog 10 #[.slice a ps.length c, .slice b zs.length d] w fun e w' => e = .returned (.bool (allIn ps zs)) ∧ Below w.heap.size w w' := by
  obtain ⟨i0, hi, hz0, hz1, hz2⟩ := info_parts info50
  have HS := Lib.hid hs
  have HZ := Lib.hid hz
  have HP := Lib.hid hp
  have HZB := Lib.hid hzb
  clear hs hz hp hzb
  go_enter Try.func10, Try.ntmps10
  go_wp2_with fail
  go_loopw [5, 7, 10] (fun v _ k wr => ∃ n : Nat, n ≤ ps.length ∧ k = .int .i64 n ∧ wr.ownsRow w.heap.size 50 2 v n (prs (ps.take n)) ∧ Below w.heap.size w wr) (fun _ _ k _ => ps.length - (intOf k).toNat)
  case atStart => exact ⟨0, by omega, rfl, ⟨by simp [prs], .inl ⟨rfl, rfl⟩⟩, Below.refl _ _⟩
  case round =>
    obtain ⟨n, hnn, rfl, hown, hbw⟩ := hrel
    by_cases hlt : n < ps.length
    · obtain ⟨ad, rfl, hc0, hc1⟩ := pair_at (HS.out.below hbw) n hlt
      have HN := Lib.hid (prs_snoc ps n hlt)
      generalize ps[n] = q at *
      obtain ⟨lo, hi'⟩ := q
      simp only at hc0 hc1
      go_wp2_with (at_builtin; (refine append1 _ _ rfl (.tmp 14) (.tmp 20) 47 rfl w.heap.size 50 i0 _ 2 2 Try.underlying47 hi hz0 hz1 hz2 rfl (by omega) rfl u5 n (prs (ps.take n)) rfl (hown.alloc _) (wr.heap.size + 1) (by simp) rfl (by simp [Value.oneCell']) (by unfold maxLen; omega) (by omega) (by have := hbw.size; simp; omega) ?_); intro v' w1 hown' hg' _)
      go_roundw
      case rel => exact ⟨n + 1, by omega, by go_num, by rw [HN.out]; exact hown', (hbw.alloc hbw.size _).grown hg' (by have := hbw.size; simp; omega) (own_block_ge hown)⟩
      case measure => simp [intOf]; omega
    · obtain rfl : n = ps.length := by omega
      obtain ⟨a1, c1, rfl⟩ := own_value hown
      rw [List.take_length] at hown
      have hb := HZ.out.below hbw
      have C := Lib.hid (matches_any a1 b ps zs c1 d wr.heap.size wr (Nat.le_refl _) hl1 hl2 (sl_of_own hown) (hb.more hbw.size) HP.out HZB.out)
      clear hown hb
      go_wp2_with (go_at_call 21; refine C.out.mono ?_; rintro e w' ⟨rfl, hb'⟩)
      go_ret
      exact ⟨rfl, hbw.trans (hb'.mono hbw.size)⟩

set_option maxHeartbeats 400000 in
theorem covers_any (a b : Option Addr) (ps : List (Int × Int)) (zs : List Int) (c d : Nat) (B : Nat) (w : World) (hl1 : ps.length ≤ 2147483647) (hl2 : zs.length ≤ ps.length)
    (hs : Sl w B a (prs ps)) (hz : Sl w B b (zs.map (.int .u8))) (hp : ∀ p ∈ ps, (0 ≤ p.1 ∧ p.1 ≤ 255) ∧ (0 ≤ p.2 ∧ p.2 ≤ 255)) (hzb : ∀ z ∈ zs, 0 ≤ z ∧ z ≤ 255) :
    Calls Try.prog 11 #[.slice a ps.length c, .slice b zs.length d] w fun e w' => e = .returned (.bool (allIn ps zs)) ∧ Below w.heap.size w w' := by
  have HS := Lib.hid hs
  have HZ := Lib.hid hz
  have HP := Lib.hid hp
  have HZB := Lib.hid hzb
  clear hs hz hp hzb
  by_cases hlen : zs.length < ps.length
  · have e := Lib.hid (allIn_short ps zs hlen)
    have hne : ((ps.length : Int) != (zs.length : Int)) = true := by rw [bne_iff_ne]; omega
    go_enter Try.func11, Try.ntmps11
    go_wp2
    go_ret
    exact ⟨ret_bool e.out.symm, Below.refl _ _⟩
  · have hne : ((ps.length : Int) != (zs.length : Int)) = false := by rw [bne_eq_false_iff_eq]; omega
    go_enter Try.func11, Try.ntmps11
    go_wp2
    go_loopw [5] (fun i wr => ∃ n m : Nat, n ≤ ps.length ∧ i = .int .i64 n ∧ wr = w.drewN m ∧ Hid (allIn ps zs = allIn (ps.drop n) (zs.drop n))) (fun i _ => ps.length - (intOf i).toNat)
    case atStart => exact ⟨0, 0, by omega, rfl, rfl, Lib.hid rfl⟩
    case round =>
      obtain ⟨n, m, hn, rfl, rfl, hall⟩ := hrel
      have HHALL := Lib.hid hall
      clear hall
      by_cases hlt : n < ps.length
      · obtain ⟨ad, rfl, hc0, hc1⟩ := pair_at HS.out n hlt
        obtain ⟨ad', rfl, hz0⟩ := HZ.out.ints n (by omega)
        have hpn := HP.out ps[n] (List.getElem_mem _)
        have hzn := HZB.out (zs.getD n 0) (by rw [List.getD_eq_getElem?_getD, List.getElem?_eq_getElem (show n < zs.length by omega)]; exact List.getElem_mem _)
        have hstep := allIn_drop ps zs n hlt (by omega)
        have ez : zs[n]'(by omega) = zs.getD n 0 := by rw [List.getD_eq_getElem?_getD, List.getElem?_eq_getElem (show n < zs.length by omega)]; rfl
        rw [ez] at hstep
        have HSTEP := Lib.hid hstep
        clear hstep ez
        generalize zs.getD n 0 = z at *
        generalize ps[n] = q at *
        obtain ⟨lo, hi⟩ := q
        simp only at hc0 hc1 hpn
        obtain ⟨hlo, hhi⟩ := hpn
        have hb0 : (0 : Int) ≤ (n : Int) := by omega
        have hb1 : (n : Int) < (ps.length : Int) := by omega
        have hb2 : (n : Int) < (zs.length : Int) := by omega
        by_cases h1 : z < lo
        · have hin := Lib.hid (show inR (lo, hi) z = false by simp [inR]; omega)
          have hd : decide (z < lo) = true := by simpa using h1
          go_wp2
          go_quiet (fail)
          go_wp2
          go_ret
          exact ⟨ret_bool (by rw [HHALL.out.out, HSTEP.out, hin.out]; rfl), below_drewN (below_drewN (Below.refl _ _) _) _⟩
        · have hd : decide (z < lo) = false := by simpa using h1
          by_cases h2 : hi < z
          · have hin := Lib.hid (show inR (lo, hi) z = false by simp [inR]; omega)
            go_wp2
            go_quiet (fail)
            go_wp2
            go_ret
            exact ⟨ret_bool (by rw [HHALL.out.out, HSTEP.out, hin.out]; rfl), below_drewN (below_drewN (Below.refl _ _) _) _⟩
          · have hin := Lib.hid (show inR (lo, hi) z = true by simp [inR]; omega)
            go_wp2
            go_quiet (fail)
            go_wp2
            go_roundw
            case rel => exact ⟨n + 1, _, by omega, by go_num, rfl, Lib.hid (by rw [HHALL.out.out, HSTEP.out, hin.out]; rfl)⟩
            case measure => simp [intOf]; omega
      · obtain rfl : n = ps.length := by omega
        go_wp2
        go_ret
        exact ⟨ret_bool (by rw [HHALL.out.out, List.drop_length]; rfl), below_drewN (Below.refl _ _) _⟩

set_option maxHeartbeats 400000 in
theorem walk (a b : Option Addr) (ps : List (Int × Int)) (zs : List Int) (c d : Nat) (w : World) (hm1 : ps.length ≤ maxLen) (hm2 : zs.length ≤ maxLen)
    (hs : Sl w w.heap.size a (prs ps)) (hz : Sl w w.heap.size b (zs.map (.int .u8))) (hp : ∀ p ∈ ps, (0 ≤ p.1 ∧ p.1 ≤ 255) ∧ (0 ≤ p.2 ∧ p.2 ≤ 255)) (hzb : ∀ z ∈ zs, 0 ≤ z ∧ z ≤ 255) :
    Calls Try.prog 4 #[.slice a ps.length c, .slice b zs.length d] w fun e w' => e = .returned (.bool true) ∧ Below w.heap.size w w' := by
  unfold maxLen at hm1 hm2
  by_cases h : ps.length ≤ 2147483647 ∧ zs.length ≤ ps.length ∧ 0 < ps.length
  · obtain ⟨h1, h2, h3⟩ := h
    have hne : ((ps.length : Int) == 0) = false := by rw [beq_eq_false_iff_ne]; omega
    have C1 := Lib.hid (imp_any a b ps zs c d w h1 (by omega) hs hz hp hzb)
    have C2 := Lib.hid (fun (W : World) (hb : Below w.heap.size w W) => covers_any a b ps zs c d w.heap.size W h1 h2 (hs.below hb) (hz.below hb) hp hzb)
    clear hs hz hp hzb hm1 hm2
    go_enter Try.func4, Try.ntmps4
    go_wp2_with (first | (go_at_call 10; refine C1.out.mono ?_; rintro e w1 ⟨rfl, hb1⟩) | (go_at_call 11; refine (C2.out _ hb1).mono ?_; rintro e w2 ⟨rfl, hb2⟩))
    go_ret
    exact ⟨rfl, hb1.trans (hb2.mono hb1.size)⟩
  · clear hs hz hp hzb
    by_cases h1 : 2147483647 < ps.length
    · go_enter Try.func4, Try.ntmps4
      go_wp2
      all_goals (go_ret; exact ⟨rfl, Below.refl _ _⟩)
    · by_cases h2 : 2147483647 < zs.length
      · go_enter Try.func4, Try.ntmps4
        go_wp2
        all_goals (go_ret; exact ⟨rfl, Below.refl _ _⟩)
      · by_cases h3 : ps.length = 0
        · have hne : ((ps.length : Int) == 0) = true := by rw [beq_iff_eq]; omega
          clear h h3
          go_enter Try.func4, Try.ntmps4
          go_wp2
          all_goals (go_ret; exact ⟨rfl, Below.refl _ _⟩)
        · have hne : ((ps.length : Int) == 0) = false := by rw [beq_eq_false_iff_ne]; omega
          have h4 : (ps.length : Int) < zs.length := by omega
          clear h h3
          go_enter Try.func4, Try.ntmps4
          go_wp2
          all_goals (go_ret; exact ⟨rfl, Below.refl _ _⟩)

end Go.Proofs.Ytpmkkajbmdoflab.fnSequenceMatches
