/-
  FnStateFor: the law's walk. Conditions: the tables of short codes, as listed.
-/
import Derived.Test.YtjonmfaeonldcaaDoorStLaw
import Derived.Test.YtjonmfaeonldcaaDoorStZ
namespace Go.Proofs.YtjonmfaeonldcaaDoor.fnStateFor
open Go.ChangeShapes Go.WideShapes Go.ChangeAt Go.RowKit
set_option linter.unusedVariables false

/-- what the law compares with: the arc k is the one that goes by b -/
theorem hit_ans {w : World} {B : Nat} {ls : List LS} (hok : oksL ls) {i : Nat} (hi : i < ls.length) (hg : goodLS w B ls[i]) {k : Nat} (hk : k < ls[i].l.length) :
    (∀ w N, Rd w N (arcsOf ((E ls ls.length).2.take i) ls[i].sta) → Calls Tryd.prog 87 #[.pointer (some ⟨N, 0, none⟩), .int .u8 ls[i].l[k].1] w fun e w' => e = .returned (.tuple #[.int .i64 k, .int .i64 (adr ((E ls ls.length).2.take i) ls[i].l[k].2.2), .int .u64 ls[i].l[k].2.1]) ∧ ∃ n, w' = w.drewN n) ∧
    numOf (E ls ls.length).2 (adr ((E ls ls.length).2.take i) ls[i].l[k].2.2) = ls[i].l[k].2.2 := by
  obtain ⟨S, t, hst⟩ := sti_of hok hi hg
  refine ⟨fun w N hR => ?_, ?_⟩
  · have h := hR.hit k (by rw [arcsOf_len]; exact hk)
    rw [arcs_get _ _ _ hk] at h
    exact h
  · have hb := hst.bt _ (List.getElem_mem hk)
    exact numOf_adr hst.p hst.ri hb.1 hb.2 (by rw [hst.n]; omega)
theorem none_ans {w : World} {B : Nat} {ls : List LS} (hok : oksL ls) {i : Nat} (hi : i < ls.length) (hg : goodLS w B ls[i]) {b : Int} (hb0 : 0 ≤ b) (hb1 : b ≤ 255) (hn : ∀ k (h : k < ls[i].l.length), ls[i].l[k].1 ≠ b) :
    (∀ w N, Rd w N (arcsOf ((E ls ls.length).2.take i) ls[i].sta) → Calls Tryd.prog 87 #[.pointer (some ⟨N, 0, none⟩), .int .u8 b] w fun e w' => e = .returned (.tuple #[.int .i64 (-1), .int .i64 1, .int .u64 0]) ∧ ∃ n, w' = w.drewN n) ∧
    numOf (E ls ls.length).2 1 = -2 := by
  obtain ⟨S, t, hst⟩ := sti_of hok hi hg
  refine ⟨fun w N hR => hR.none b hb0 hb1 (fun x hx => ?_), numOf_one hst.p⟩
  rw [arcsOf_eq] at hx
  obtain ⟨y, hy, rfl⟩ := List.mem_map.1 hx
  obtain ⟨k, hk, rfl⟩ := List.getElem_of_mem hy
  exact hn k hk
theorem goodLS.keep {w W : World} {s : LS} (h : goodLS w w.heap.size s) (hb : Below w.heap.size w W) : goodLS W W.heap.size s := ⟨h.ob, h.n, h.g, (h.s.below hb).more hb.size⟩
theorem keys_ne {ls : List LS} (hok : oksL ls) {i : Nat} (hi : i < ls.length) (j k : Nat) (hj : j < ls[i].l.length) (hk : k < ls[i].l.length) (h : j ≠ k) : ls[i].l[j].1 ≠ ls[i].l[k].1 := by
  obtain ⟨o1, o2, o3, o4, o5⟩ := hok i hi
  rcases Nat.lt_or_ge j k with h1 | h1
  · have : (ls[i].l[j]).1 < (ls[i].l[k]).1 := rise_lt o5 k j hk hj h1
    omega
  · have : (ls[i].l[k]).1 < (ls[i].l[j]).1 := rise_lt o5 j k hj hk (by omega)
    omega
theorem hit_or (l : List Arc) (b : Int) : (∃ k, ∃ h : k < l.length, l[k].1 = b) ∨ ∀ k (h : k < l.length), l[k].1 ≠ b := by
  by_cases h : ∃ k, ∃ h : k < l.length, l[k].1 = b
  · exact .inl h
  · exact .inr (fun k hk e => h ⟨k, hk, e⟩)

set_option maxRecDepth 100000 in
set_option maxHeartbeats 6400000 in
theorem law_any (a : Option Addr) (c : Nat) (ls : List LS) (i b : Int) (w : World) (hl : ls.length ≤ maxLen) (hg : ∀ s ∈ ls, goodLS w w.heap.size s) (hs : Sl w w.heap.size a (ls.flatMap lsc)) (hT : Tabs w)
    (hi0 : -9223372036854775808 ≤ i ∧ i ≤ 9223372036854775807) (hb : 0 ≤ b ∧ b ≤ 255) :
    Calls Tryd.prog 3 #[.slice a ls.length c, .int .i64 i, .int .u8 b] w fun e w' => e = .returned (.bool true) ∧ Below w.heap.size w w' := by
  have CF := Lib.hid (fits8_any a c ls w hl hg hs)
  have HS := Lib.hid hs
  have HG := Lib.hid hg
  have HT := Lib.hid hT
  unfold maxLen at hl
  by_cases h2000 : 2000 < ls.length
  · clear hg hs hT
    go_enter Tryd.func3, Tryd.ntmps3
    go_wp2_with (go_at_call 4; refine CF.out.mono ?_; rintro e w1 ⟨f, rfl, hb1⟩; have HB1 := Lib.hid hb1; clear hb1; cases f)
    all_goals
      go_returns
      exact ⟨rfl, HB1.out⟩
  · have hl2 : ls.length ≤ 2000 := by omega
    have CR := Lib.hid (fun (W : World) (h : Below w.heap.size w W) => right_any a c ls W hl2 (fun s hs => (hg s hs).keep h) ((hs.below h).more h.size))
    by_cases hin : 0 ≤ i ∧ i < ls.length
    · obtain ⟨m, rfl⟩ := Int.eq_ofNat_of_zero_le hin.1
      have hm : m < ls.length := by omega
      have hm2 : ¬ (ls.length : Int) ≤ (m : Int) := by omega
      have hm0 : ¬ (m : Int) < 0 := by omega
      have hm3 : m ≤ 2000 := by omega
      have hln := (hg _ (List.getElem_mem hm)).n
      unfold maxLen at hln
      have CS := Lib.hid (fun (hok : oksL ls) (W : World) (h : Below w.heap.size w W) => sf_any a c ls W hl2 (fun s hs => (hg s hs).keep h) ((hs.below h).more h.size) hok (hT.below h (Nat.le_refl _)) m hm b)
      clear hg hs hT hin
      rcases hit_or ls[m].l b with ⟨k0, hk0, hkb⟩ | hno
      · have HA := Lib.hid (fun (hok : oksL ls) => hit_ans hok hm (HG.out _ (List.getElem_mem hm)) hk0)
        have HKN := Lib.hid (fun (hok : oksL ls) (n : Nat) (h : n < ls[m].l.length) (hne : n ≠ k0) => show ls[m].l[n].1 ≠ b from by rw [← hkb]; exact keys_ne hok hm n k0 h hk0 hne)
        have HKB := Lib.hid hkb
        have hk1 : k0 ≤ 9223372036854775807 := by omega
        clear hkb
        go_enter Tryd.func3, Tryd.ntmps3
        go_wp2_with (first
          | (go_at_call 4; refine CF.out.mono ?_; rintro e w1 ⟨f, rfl, hb1⟩; have HB1 := Lib.hid hb1; clear hb1; cases f)
          | fail)
        · go_returns
          exact ⟨rfl, HB1.out⟩
        · go_wp2_with (go_at_call 5; refine (CR.out _ HB1.out).mono ?_; rintro e w2 ⟨r, rfl, hr, hb2⟩; have HB2 := Lib.hid (HB1.out.trans (hb2.mono HB1.out.size)); clear hb2; cases r)
          · go_returns
            exact ⟨rfl, HB2.out⟩
          · have HOK := Lib.hid (show oksL ls from fun j hj => hr (by simp) j hj hj)
            have CS2 := Lib.hid (CS.out HOK.out w2 HB2.out _ _ _ (by have := (HA.out HOK.out).1; rw [HKB.out] at this; exact this))
            have HN2 := Lib.hid (HA.out HOK.out).2
            rw [HN2.out] at CS2
            clear hr CS HN2 HA
            go_wp2_with (go_at_call 6; refine CS2.out.mono ?_; rintro e w3 ⟨rfl, hb3⟩; have HB3 := Lib.hid (HB2.out.trans (hb3.mono HB2.out.size)); clear hb3)
            go_loopw [11, 12] (fun k _ wr => ∃ n : Nat, n ≤ k0 ∧ k = .int .i64 n ∧ Below w.heap.size w wr) (fun k _ _ => k0 + 1 - (intOf k).toNat)
            case atStart => exact ⟨0, by omega, rfl, HB3.out⟩
            case round =>
              obtain ⟨n, hnn, rfl, hbx⟩ := hrel
              have HBX := Lib.hid hbx
              obtain ⟨ad, rfl, hb1, hc0, hc1, hc2⟩ := three_at lsc_len (HS.out.below hbx) m hm _ _ _ rfl
              have HSA := Lib.hid (show Sl w w.heap.size ls[m].a (ls[m].l.flatMap ac) from (HG.out _ (List.getElem_mem hm)).s)
              obtain ⟨ad2, e2, hb2, hd0, hd1, hd2⟩ := three_at ac_len (HSA.out.below hbx) n (by omega) _ _ _ rfl
              rw [e2] at hc2
              have hnl : (n : Int) < (ls[m].l.length : Int) := by omega
              clear hbx hc0 hc1 e2
              by_cases hnk : n = k0
              · subst hnk
                have hkb2 := HKB.out
                clear HKN HKB CS2 HSA
                generalize ls[m].l[n] = q at *
                generalize ls[m].l.length = ln at *
                generalize ls[m].c = sc at *
                obtain ⟨xi, xo, xt⟩ := q
                simp only at hd0 hd1 hd2 hkb2
                subst hkb2
                go_wp2
                go_returns
                exact ⟨rfl, HBX.out.alloc HBX.out.size _⟩
              · have hne := HKN.out HOK.out n (by omega) hnk
                clear HKN HKB CS2 HSA
                have hlk : k0 < ls[m].l.length := hk0
                generalize ls[m].l[n] = q at *
                obtain ⟨xi, xo, xt⟩ := q
                simp only at hd0 hd1 hd2 hne
                go_wp2
                go_roundw
                case rel => exact ⟨n + 1, by omega, by go_num, HBX.out.alloc HBX.out.size _⟩
                case measure => simp [intOf]; omega
      · have HA := Lib.hid (fun (hok : oksL ls) => none_ans hok hm (HG.out _ (List.getElem_mem hm)) hb.1 hb.2 hno)
        have HNO := Lib.hid hno
        clear hno
        go_enter Tryd.func3, Tryd.ntmps3
        go_wp2_with (first
          | (go_at_call 4; refine CF.out.mono ?_; rintro e w1 ⟨f, rfl, hb1⟩; have HB1 := Lib.hid hb1; clear hb1; cases f)
          | fail)
        · go_returns
          exact ⟨rfl, HB1.out⟩
        · go_wp2_with (go_at_call 5; refine (CR.out _ HB1.out).mono ?_; rintro e w2 ⟨r, rfl, hr, hb2⟩; have HB2 := Lib.hid (HB1.out.trans (hb2.mono HB1.out.size)); clear hb2; cases r)
          · go_returns
            exact ⟨rfl, HB2.out⟩
          · have HOK := Lib.hid (show oksL ls from fun j hj => hr (by simp) j hj hj)
            have CS2 := Lib.hid (CS.out HOK.out w2 HB2.out _ _ _ (HA.out HOK.out).1)
            have HN2 := Lib.hid (HA.out HOK.out).2
            rw [HN2.out] at CS2
            clear hr CS HN2 HA
            go_wp2_with (go_at_call 6; refine CS2.out.mono ?_; rintro e w3 ⟨rfl, hb3⟩; have HB3 := Lib.hid (HB2.out.trans (hb3.mono HB2.out.size)); clear hb3)
            go_loopw [11, 12] (fun k _ wr => ∃ n : Nat, n ≤ ls[m].l.length ∧ k = .int .i64 n ∧ Below w.heap.size w wr) (fun k _ _ => ls[m].l.length - (intOf k).toNat)
            case atStart => exact ⟨0, by omega, rfl, HB3.out⟩
            case round =>
              obtain ⟨n, hnn, rfl, hbx⟩ := hrel
              have HBX := Lib.hid hbx
              obtain ⟨ad, rfl, hb1, hc0, hc1, hc2⟩ := three_at lsc_len (HS.out.below hbx) m hm _ _ _ rfl
              have HSA := Lib.hid (show Sl w w.heap.size ls[m].a (ls[m].l.flatMap ac) from (HG.out _ (List.getElem_mem hm)).s)
              by_cases hlt : n < ls[m].l.length
              · obtain ⟨ad2, e2, hb2, hd0, hd1, hd2⟩ := three_at ac_len (HSA.out.below hbx) n (by omega) _ _ _ rfl
                rw [e2] at hc2
                have hne := HNO.out n hlt
                clear hbx hc0 hc1 e2 HNO CS2 HSA
                generalize ls[m].l[n] = q at *
                generalize ls[m].l.length = ln at *
                generalize ls[m].c = sc at *
                obtain ⟨xi, xo, xt⟩ := q
                simp only at hd0 hd1 hd2 hne
                go_wp2
                go_roundw
                case rel => exact ⟨n + 1, by omega, by go_num, HBX.out.alloc HBX.out.size _⟩
                case measure => simp [intOf]; omega
              · obtain rfl : n = ls[m].l.length := by omega
                clear hbx hc0 hc1 HNO CS2 HSA
                generalize ls[m].l.length = ln at *
                generalize ls[m].c = sc at *
                generalize ls[m].a = sa at *
                go_wp2
                go_returns
                exact ⟨rfl, HBX.out⟩
    · clear hg hs hT
      have hin2 : i < 0 ∨ (ls.length : Int) ≤ i := by omega
      clear hin
      rcases hin2 with hin | hin
      all_goals
        go_enter Tryd.func3, Tryd.ntmps3
        go_wp2_with (first
          | (go_at_call 4; refine CF.out.mono ?_; rintro e w1 ⟨f, rfl, hb1⟩; have HB1 := Lib.hid hb1; clear hb1; cases f)
          | fail)
        · go_returns
          exact ⟨rfl, HB1.out⟩
        · go_wp2_with (go_at_call 5; refine (CR.out _ HB1.out).mono ?_; rintro e w2 ⟨r, rfl, hr, hb2⟩; have HB2 := Lib.hid (HB1.out.trans (hb2.mono HB1.out.size)); clear hb2; cases r)
          all_goals
            go_returns
            exact ⟨rfl, HB2.out⟩

end Go.Proofs.YtjonmfaeonldcaaDoor.fnStateFor
