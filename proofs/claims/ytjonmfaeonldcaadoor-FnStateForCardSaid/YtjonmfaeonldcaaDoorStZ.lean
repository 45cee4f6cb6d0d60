/-
  FnStateFor: whether states can be built. Conditions: as stated.
-/
import Derived.Test.YtjonmfaeonldcaaDoorStY
import Derived.Deep.DeepCutAuto
namespace Go.Proofs.YtjonmfaeonldcaaDoor.fnStateFor
open Go.ChangeShapes Go.WideShapes Go.ChangeAt Go.RowKit
set_option linter.unusedVariables false

def okTo (i : Nat) (l : List Arc) (n : Nat) : Prop := (∀ j (h : j < l.length), j < n → -1 ≤ l[j].2.2 ∧ l[j].2.2 < i) ∧ ∀ j (h : j + 1 < l.length), j + 1 < n → l[j].1 < l[j + 1].1
theorem okTo_more {i : Nat} {l : List Arc} {n : Nat} (h : okTo i l n) (hn : n < l.length) (h1 : -1 ≤ l[n].2.2) (h2 : l[n].2.2 < i) (h3 : ∀ m (hm : m + 1 = n), l[m].1 < l[n].1) : okTo i l (n + 1) :=
  ⟨fun j hj hjn => by
    rcases Nat.lt_or_ge j n with h4 | h4
    · exact h.1 j hj h4
    · obtain rfl : j = n := by omega
      exact ⟨h1, h2⟩, fun j hj hjn => by
    rcases Nat.lt_or_ge (j + 1) n with h4 | h4
    · exact h.2 j hj h4
    · obtain rfl : j + 1 = n := by omega
      exact h3 j rfl⟩
theorem okSt_of {i : Nat} {s : LS} (h1 : s.l.length ≤ 256) (h2 : ¬ (s.l.length = 0 ∧ s.o = 0)) (h3 : ¬ (s.f = false ∧ s.o ≠ 0)) (h : okTo i s.l s.l.length) : okSt i s.sta :=
  ⟨h1, fun e e2 => h2 ⟨e, e2⟩, fun e => by
    by_cases h0 : s.o = 0
    · exact h0
    · exact absurd ⟨e, h0⟩ h3, fun x hx => by
    obtain ⟨j, hj, rfl⟩ := List.getElem_of_mem hx
    exact h.1 j hj hj, fun k hk => h.2 k hk hk⟩

def oks (ls : List LS) (n : Nat) : Prop := ∀ j (h : j < ls.length), j < n → okSt j ls[j].sta
theorem oks_more {ls : List LS} {n : Nat} (h : oks ls n) (hn : n < ls.length) (h1 : okSt n ls[n].sta) : oks ls (n + 1) := fun j hj hjn => by
  rcases Nat.lt_or_ge j n with h4 | h4
  · exact h j hj h4
  · obtain rfl : j = n := by omega
    exact h1

theorem bne_of_beq {x : Int} {b : Bool} (h : (x == 0) = b) : (x != 0) = !b := by simp [bne, h]

def RightS (w : World) (ls : List LS) (e : Ending) (w' : World) : Prop := ∃ b, e = .returned (.bool b) ∧ (b = true → oks ls ls.length) ∧ Below w.heap.size w w'

set_option maxRecDepth 100000 in
set_option maxHeartbeats 12800000 in
theorem right_any (a : Option Addr) (c : Nat) (ls : List LS) (w : World) (hl : ls.length ≤ 2000) (hg : ∀ s ∈ ls, goodLS w w.heap.size s) (hs : Sl w w.heap.size a (ls.flatMap lsc)) :
    Calls Tryd.prog 5 #[.slice a ls.length c] w (RightS w ls) := by
  have HS := Lib.hid hs
  have HG := Lib.hid hg
  clear hs hg
  go_enter Tryd.func5, Tryd.ntmps5
  go_wp2
  go_loopw [3, 4, 5] (fun k _ _ wr => ∃ i : Nat, i ≤ ls.length ∧ k = .int .i64 i ∧ Hid (oks ls i) ∧ Below w.heap.size w wr) (fun k _ _ _ => ls.length - (intOf k).toNat)
  case atStart => exact ⟨0, by omega, rfl, Lib.hid (fun j _ h => absurd h (by omega)), Below.refl _ _⟩
  case round =>
    obtain ⟨i, hii, rfl, hok, hbw⟩ := hrel
    have HBW := Lib.hid hbw
    by_cases hlt : i < ls.length
    · obtain ⟨ad, rfl, hb, hc0, hc1, hc2⟩ := three_at lsc_len (HS.out.below hbw) i hlt _ _ _ rfl
      have HGI := Lib.hid (HG.out _ (List.getElem_mem hlt))
      have HM := Lib.hid (fun h1 => oks_more hok.out hlt h1)
      generalize ls[i] = s at *
      obtain ⟨f, o, sa, sc, l⟩ := s
      simp only at hc0 hc1 hc2
      have hob := HGI.out.ob
      have hln := HGI.out.n
      simp only at hob hln
      unfold maxLen at hln
      have HGA := Lib.hid (fun x (hx : x ∈ l) => HGI.out.g x hx)
      have HSA := Lib.hid (show Sl w w.heap.size sa (l.flatMap ac) from HGI.out.s)
      clear hbw HG hok HGI
      have hW : Hid (Below w.heap.size w wr) := HBW
      have HM2 := Lib.hid (fun (h2 : ¬ 256 < l.length) (h0 : ¬ (l.length = 0 ∧ o = 0)) (h1 : ¬ (f = false ∧ o ≠ 0)) (h : okTo i l l.length) => HM.out (okSt_of (s := ⟨f, o, sa, sc, l⟩) (by show l.length ≤ 256; omega) h0 h1 h))
      have HI := Lib.hid hlt
      have hil : i ≤ 2000 := by omega
      clear HM hob
      go_upto_region 5 with (fail)
      go_cut [40] (fun s40 wx => ∃ b : Bool, s40 = .bool b ∧ Hid (b = false → ¬ 256 < l.length ∧ ¬ (l.length = 0 ∧ o = 0) ∧ ¬ (f = false ∧ o ≠ 0)) ∧ wx.cell? ⟨wr.heap.size, 2, none⟩ = some (.slice sa l.length sc) ∧ Hid (Below w.heap.size w wx))
      case first => as_aux_lemma =>
        have hN2 : (wr.alloc (.cells #[.bool f, .int .u64 o, .slice sa l.length sc] 29)).cell? ⟨wr.heap.size, 2, none⟩ = some (.slice sa l.length sc) := (Blk.new wr 29 [_, _, _]).cell 2
        have HBA := Lib.hid (HBW.out.alloc HBW.out.size (.cells #[.bool f, .int .u64 o, .slice sa l.length sc] 29))
        clear HM2 HGA HSA HI
        by_cases h256 : 256 < l.length
        · cases f
          all_goals
            go_wp2
            go_meet
            case rel => exact ⟨true, rfl, Lib.hid (fun h => by cases h), hN2, HBA⟩
        · have hd256 : decide ((256 : Int) < (l.length : Int)) = false := decide_eq_false (by omega)
          cases hb1 : ((l.length : Int) == 0) <;> cases hb2 : (o == 0)
          all_goals
            have hb3 := bne_of_beq hb2
            have hq1 : (l.length = 0) = (((l.length : Int) == 0) = true) := by simp
            have hq2 : (o = 0) = ((o == 0) = true) := by simp
            rw [hb1] at hq1
            rw [hb2] at hq2
            have HQ := Lib.hid (And.intro hq1 hq2)
            clear hq1 hq2
            cases f
          all_goals
            go_wp2
            go_meet
            case rel => exact ⟨_, rfl, Lib.hid (fun h => ⟨h256, by have q := HQ.out; revert h; simp only [q.1, q.2]; decide, by have q := HQ.out; revert h; simp only [ne_eq, q.2]; decide⟩), hN2, HBA⟩
      case rest =>
      obtain ⟨b, rfl, hgood, hN2, hBA⟩ := hcut
      cases b
      · have HM3 := Lib.hid (fun h => HM2.out (hgood.out rfl).1 (hgood.out rfl).2.1 (hgood.out rfl).2.2 h)
        clear HM2 hgood
        go_wp2
        go_loopw [5] (fun k wx => ∃ n : Nat, n ≤ l.length ∧ k = .int .i64 n ∧ Hid (okTo i l n) ∧ wx.cell? ⟨wr.heap.size, 2, none⟩ = some (.slice sa l.length sc) ∧ Below w.heap.size w wx) (fun k _ => l.length - (intOf k).toNat)
        case atStart => exact ⟨0, by omega, rfl, Lib.hid ⟨fun j _ h => absurd h (by omega), fun j _ h => absurd h (by omega)⟩, hN2, hBA.out⟩
        case round =>
          obtain ⟨n, hnn, rfl, hot, hcl, hbx⟩ := hrel
          have HBX := Lib.hid hbx
          by_cases hln : n < l.length
          · obtain ⟨ad, rfl, hb, hd0, hd1, hd2⟩ := three_at ac_len (HSA.out.below hbx) n hln _ _ _ rfl
            have HOM := Lib.hid (fun h1 h2 h3 => okTo_more hot.out hln h1 h2 h3)
            have hga := HGA.out _ (List.getElem_mem hln)
            have HP : Hid (n ≠ 0 → ∃ y : Arc, (∀ m (hm : m + 1 = n), l[m] = y) ∧ wr.cell? (ad.add ((n - 1) * 3)) = some (.int .u8 y.1) ∧ 0 ≤ y.1 ∧ y.1 ≤ 255) := Lib.hid (fun h0 => by
              obtain ⟨ad', e, _, he0, _, _⟩ := three_at ac_len (HSA.out.below hbx) (n - 1) (by omega) _ _ _ rfl
              obtain rfl : ad = ad' := by injection e
              exact ⟨l[n - 1], fun m hm => by simp only [← hm]; rfl, he0, (HGA.out _ (List.getElem_mem _)).1⟩)
            generalize hlq : l[n] = q at *
            have HQ := Lib.hid hlq
            clear hlq
            obtain ⟨xi, xo, xt⟩ := q
            simp only at hd0 hd1 hd2
            obtain ⟨hq0, hq1, hq2⟩ := hga
            simp only at hq0 hq1 hq2
            clear hbx hot
            by_cases c1 : xt < -1
            · go_wp2
              go_quiet (fail)
              go_wp2
              go_returns
              exact ⟨_, rfl, fun h => absurd h (by simp), below_drewN HBX.out _⟩
            · have e1 : decide (xt < -1) = false := decide_eq_false c1
              by_cases c2 : (i : Int) ≤ xt
              · have e2 : decide ((i : Int) ≤ xt) = true := decide_eq_true c2
                go_wp2
                go_quiet (fail)
                go_wp2
                go_returns
                exact ⟨_, rfl, fun h => absurd h (by simp), below_drewN HBX.out _⟩
              · have e2 : decide ((i : Int) ≤ xt) = false := decide_eq_false c2
                by_cases c3 : n = 0
                · have e3 : decide (0 < n) = false := decide_eq_false (by omega)
                  have HR := Lib.hid (show okTo i l (n + 1) from HOM.out (by show -1 ≤ xt; omega) (by show xt < i; omega) (fun m hm => by omega))
                  clear HOM HP c1 c2 c3
                  go_wp2
                  go_quiet (fail)
                  go_wp2
                  go_roundw
                  case rel => exact ⟨n + 1, by omega, by go_num, HR, hcl, below_drewN HBX.out _⟩
                  case measure => simp [intOf]; omega
                · obtain ⟨y, hy, hcy, hy0, hy1⟩ := HP.out c3
                  have HY := Lib.hid hy
                  obtain ⟨m, rfl⟩ : ∃ m, n = m + 1 := ⟨n - 1, by omega⟩
                  simp only [Nat.add_sub_cancel] at hcy
                  have em : (((m + 1 : Nat) : Int) - 1) = m := by omega
                  have e3 : decide (0 < m + 1) = true := decide_eq_true (by omega)
                  clear hy HP
                  obtain ⟨yi, hyi⟩ : ∃ yi, yi = y.1 := ⟨_, rfl⟩
                  rw [← hyi] at hcy hy0 hy1
                  have HYI := Lib.hid hyi
                  clear hyi
                  by_cases c4 : xi ≤ yi
                  · have hd : decide (xi ≤ yi) = true := decide_eq_true c4
                    clear HOM c1 c2 c3
                    go_wp2
                    go_quiet (fail)
                    go_wp2
                    go_returns
                    exact ⟨_, rfl, fun h => absurd h (by simp), below_drewN HBX.out _⟩
                  · have hd : decide (xi ≤ yi) = false := decide_eq_false c4
                    have HR := Lib.hid (show okTo i l (m + 1 + 1) from HOM.out (by show -1 ≤ xt; omega) (by show xt < i; omega) (fun m' hm' => by have e := HY.out m' hm'; rw [e, ← HYI.out]; show yi < xi; omega))
                    clear HOM c1 c2 c3 c4
                    go_wp2
                    go_quiet (fail)
                    go_wp2
                    go_roundw
                    case rel => exact ⟨m + 1 + 1, by omega, by go_num, HR, hcl, below_drewN HBX.out _⟩
                    case measure => simp [intOf]; omega
          · obtain rfl : n = l.length := by omega
            clear hbx
            go_wp2
            go_roundw
            case rel => exact ⟨i + 1, by omega, by go_num, Lib.hid (HM3.out hot.out), HBX.out⟩
            case measure => simp [intOf]; omega
      · go_wp2
        go_returns
        exact ⟨_, rfl, fun h => absurd h (by simp), hBA.out⟩
    · obtain rfl : i = ls.length := by omega
      clear hbw
      go_wp2
      go_returns
      exact ⟨_, rfl, fun _ => hok.out, HBW.out⟩

end Go.Proofs.YtjonmfaeonldcaaDoor.fnStateFor
