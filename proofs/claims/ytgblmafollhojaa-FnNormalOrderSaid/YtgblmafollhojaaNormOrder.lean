/-
  FnNormalOrder: it does not matter in which order places are added. Conditions: none.
-/
import Derived.Test.YtgblmafollhojaaNormP
namespace Go.Proofs.Ytgblmafollhojaa.fnNormalOrder
open Go.ChangeShapes Go.WideShapes Go.ChangeAt Go.RowKit
set_option linter.unusedVariables false

theorem rev_get (l : List Pl) (k : Nat) (h : k < l.length) : l.reverse[k]'(by simpa using h) = l[l.length - 1 - k]'(by omega) := by
  rw [List.getElem_reverse]

set_option maxRecDepth 100000 in
set_option maxHeartbeats 3200000 in
theorem law_any (a : Option Addr) (l : List Pl) (c : Nat) (w : World) (hm : l.length ≤ maxLen) (hs : Sl w w.heap.size a (l.flatMap enc3)) :
    Calls Try.prog 4 #[.slice a l.length c] w fun e w' => e = .returned (.bool true) ∧ Below w.heap.size w w' := by
  unfold maxLen at hm
  obtain ⟨i0, hi, hz0, hz1, hz2⟩ := info_parts infoPl
  have HS := Lib.hid hs
  clear hs
  by_cases h60 : l.length ≤ 60
  · by_cases h0 : l.length = 0
    · have hb0 : ((l.length : Int) == 0) = true := by rw [beq_iff_eq]; omega
      clear h0
      go_enter Try.func4, Try.ntmps4
      go_wp2
      go_ret
      exact ⟨rfl, Below.refl _ _⟩
    · have hb0 : ((l.length : Int) == 0) = false := by rw [beq_eq_false_iff_ne]; omega
      have hpos : 0 < l.length := by omega
      clear h0
      go_enter Try.func4, Try.ntmps4
      go_wp2
      go_loopw [3, 4] (fun v vx wr => ∃ (x : Int) (k : Nat), k ≤ l.length ∧ vx = .int .i64 x ∧ x + 1 + k ≤ l.length ∧ (l.length : Int) ≤ x + 1 + k ∧ wr.ownsRow w.heap.size 29 3 v k ((l.reverse.take k).flatMap enc3) ∧ Hid (∀ p ∈ l.reverse.take k, okP p) ∧ Hid (Below w.heap.size w wr))
        (fun _ vx _ => ((intOf vx) + 1).toNat)
      case atStart => exact ⟨_, 0, by omega, rfl, by omega, by omega, ⟨by simp, .inl ⟨rfl, rfl⟩⟩, Lib.hid (fun p hp => by simp at hp), Lib.hid (Below.refl _ _)⟩
      case round =>
        obtain ⟨x, k, hk, rfl, hx1, hx2, hown, HOK, HB⟩ := hrel
        have hbs := HB.out.size
        by_cases hlt : k < l.length
        · obtain ⟨n, hn⟩ := Int.eq_ofNat_of_zero_le (show 0 ≤ x by omega)
          subst hn
          have hnl : n < l.length := by omega
          obtain ⟨ad, rfl, hab, c0, c1, c2⟩ := three_at (HS.out.below HB.out) n hnl
          have HN := Lib.hid (flat3_snoc l.reverse k (by simpa using hlt))
          have HE := Lib.hid (show l.reverse[k]'(by simpa using hlt) = l[n] by rw [rev_get l k hlt]; congr 1; omega)
          have HO2 := Lib.hid (fun (h : okP l[n]) => show ∀ p ∈ l.reverse.take (k + 1), okP p from fun p hp => by
            rw [List.take_succ_eq_append_getElem (by simpa using hlt)] at hp
            rcases List.mem_append.1 hp with hp | hp
            · exact HOK.out p hp
            · simp only [List.mem_singleton] at hp
              rw [hp, HE.out]
              exact h)
          rw [HE.out] at HN
          clear HE
          generalize l[n] = p at *
          by_cases ho : p.1 ≤ 1000
          · have hod : decide ((1000 : Int) < (p.1 : Int)) = false := decide_eq_false (by omega)
            by_cases hd : p.2.1 ≤ 100
            · have HO3 := Lib.hid (HO2.out ⟨by omega, by omega⟩)
              clear HO2
              go_wp2_with (at_builtin; refine append1 _ _ rfl (.tmp 42) (.tmp 47) 26 rfl w.heap.size 29 i0 _ 3 8 Try.underlying26 hi hz0 hz1 hz2 rfl (by omega) rfl u3 k ((l.reverse.take k).flatMap enc3) rfl hown (wr.heap.size) rfl rfl (by simp [Value.oneCell']) (by unfold maxLen; omega) (by omega) (by omega) ?_; intro v' w1 hown' hg' _)
              go_roundw
              case rel => exact ⟨(n : Int) - 1, k + 1, by omega, by go_num, by omega, by omega, by rw [HN.out]; exact hown', HO3, Lib.hid (HB.out.grown hg' (by omega) (own_block_ge hown))⟩
              case measure => simp [intOf]
            · have hd' : ¬ ((p.2.1 : Int) ≤ 100) := by omega
              clear HO2
              go_wp2
              go_ret
              exact ⟨rfl, HB.out⟩
          · have ho' : ¬ ((p.1 : Int) ≤ 1000) := by omega
            clear HO2
            go_wp2
            go_ret
            exact ⟨rfl, HB.out⟩
        · obtain rfl : k = l.length := by omega
          have hx : ¬ 0 ≤ x := by omega
          obtain ⟨a2, c2, rfl⟩ := own_value hown
          have hrl : l.reverse.length = l.length := by simp
          have hrt : l.reverse.take l.length = l.reverse := List.take_of_length_le (by simp)
          rw [hrt] at hown HOK
          have hokl : ∀ p ∈ l, okP p := fun p hp => HOK.out p (List.mem_reverse.2 hp)
          have C1 := Lib.hid (inorm_any a l c wr h60 hpos hokl ((HS.out.below HB.out).more hbs))
          have HSR := Lib.hid (sl_of_own hown)
          clear hown hrt hokl
          go_wp2_with fail
          refine C1.out.mono ?_
          rintro e w2 ⟨v2, l2, rfl, hs2, ho2, hb2⟩
          obtain ⟨b2, d2, rfl⟩ := own_value ho2
          have HB2 := Lib.hid (HB.out.trans (hb2.mono hbs))
          have HR2 := Lib.hid (sl_of_own ho2)
          have C2 := inorm_any a2 l.reverse c2 w2 (by omega) (by omega) HOK.out ((HSR.out.below hb2).more hb2.size)
          rw [hrl] at C2
          have HC2 := Lib.hid C2
          have HS2 := Lib.hid hs2
          clear hs2 ho2 hb2 C1 C2 hrl
          go_wp2_with fail
          refine HC2.out.mono ?_
          rintro e w3 ⟨v3, l3, rfl, hs3, ho3, hb3⟩
          obtain rfl : l2 = l3 := set0_eq (fun p => (List.mem_reverse (x := p)).symm) HS2.out hs3
          have hmn : minO (addAll l.reverse) = minO (addAll l) := (minO_perm (kept_perm (fun p => (List.mem_reverse (x := p)).symm))).symm
          rw [hmn]
          have hp2 := set0_ne hpos HS2.out
          have hl0 : ((l2.length : Int) == 0) = false := by rw [beq_eq_false_iff_ne]; omega
          obtain ⟨b3, d3, rfl⟩ := own_value ho3
          have HB3 := Lib.hid (HB2.out.trans (hb3.mono HB2.out.size))
          have HA := Lib.hid ((HR2.out.below hb3).more hb3.size)
          have HC := Lib.hid (sl_of_own ho3)
          have hl2 : l2.length ≤ 60 := by
            have h1 := HS2.out.1.length_eq
            have h2 := addAll_len l l.length (Nat.le_refl _)
            rw [List.take_length] at h2
            rw [List.length_map] at h1
            omega
          clear hmn hs3 ho3 hb3 HC2
          go_wp2
          go_loopw [9] (fun vi wx => ∃ i n : Nat, i ≤ l2.length ∧ vi = .int .i64 i ∧ wx = w3.drewN n) (fun vi _ => l2.length - (intOf vi).toNat)
          case atStart => exact ⟨0, 0, by omega, rfl, rfl⟩
          case round =>
            obtain ⟨i, n, hi2, rfl, rfl⟩ := hrel
            by_cases hil : i < l2.length
            · obtain ⟨ea, rfl, _, e0, e1, e2⟩ := three_at HA.out i hil
              obtain ⟨eb, rfl, _, f0, f1, f2⟩ := three_at HC.out i hil
              generalize l2[i] = q at *
              have hi0 : (0 : Int) ≤ (i : Int) := by omega
              have hi3 : (i : Int) < (l2.length : Int) := by omega
              go_wp2
              go_quiet (fail)
              go_wp2
              go_roundw
              case rel => exact ⟨i + 1, _, by omega, by go_num, rfl⟩
              case measure => simp [intOf]; omega
            · go_wp2
              go_ret
              exact ⟨rfl, below_drewN HB3.out _⟩
  · have hb0 : ((l.length : Int) == 0) = false := by rw [beq_eq_false_iff_ne]; omega
    go_enter Try.func4, Try.ntmps4
    go_wp2
    all_goals go_ret
    all_goals exact ⟨rfl, Below.refl _ _⟩

end Go.Proofs.Ytgblmafollhojaa.fnNormalOrder
