/-
  The law's rune at the beginning of a text. Conditions: as stated.
-/
import Derived.Test.YtbkpgfccghombaaDoorM20
namespace Go.Proofs.YtbkpgfccghombaaDoor.rx
open Go.ChangeShapes Go.WideShapes Go.ChangeAt Go.RowKit
set_option linter.unusedVariables false

theorem byL_ext (t : ByteArray) (i j : Nat) : byL (t.extract i j) = ((byL t).take j).drop i := by
  unfold byL
  rw [ByteArray.data_extract]
  simp [Array.toList_extract, List.map_drop, List.map_take]
  rw [List.drop_take]
theorem low_high (s : List Int) (n : Int) : ∀ k, k < s.length ∨ k = 0 → lowV s n k = highV s n k
  | 0, _ => rfl
  | k + 1, h => by
    have h1 := low_high s n k (by omega)
    simp only [lowV, highV]
    rw [h1]
    unfold bitL bitH
    rw [if_pos (by omega), if_pos (by omega)]
/-- the rune at the beginning, how many bytes it has -/
def rneF (s : List Int) : Int × Int :=
  if s = [] ∨ lng (s.getD 0 0) = 0 ∨ (s.length : Int) < lng (s.getD 0 0) then (0, 0)
  else if (rns (s.take (lng (s.getD 0 0)).toNat)).2.2 = true ∧ (rns (s.take (lng (s.getD 0 0)).toNat)).1 = (rns (s.take (lng (s.getD 0 0)).toNat)).2.1 ∧ isL (rns (s.take (lng (s.getD 0 0)).toNat)).1 = true then ((rns (s.take (lng (s.getD 0 0)).toNat)).1, lng (s.getD 0 0)) else (0, 0)
theorem rneF_iff (s : List Int) (hs : okB s) (c : Int) (hc : isL c = true) : (∃ v, s = ub c ++ v) ↔ rneF s = (c, (((ub c).length : Nat) : Int)) := by
  have hl1 := (ub_len c).1
  constructor
  · rintro ⟨v, rfl⟩
    have e := ub_lead c hc
    have e0 : (ub c ++ v).getD 0 0 = (ub c).getD 0 0 := by
      match ub c, hl1 with
      | x :: r, _ => rfl
    have e1 : (ub c ++ v).take (lng ((ub c ++ v).getD 0 0)).toNat = ub c := by rw [e0, e]; simp
    unfold rneF
    rw [if_neg (by
      rintro (h | h | h)
      · have h2 := (List.append_eq_nil_iff.1 h).1
        rw [h2] at hl1
        simp at hl1
      · rw [e0, e] at h
        omega
      · rw [e0, e, List.length_append] at h
        omega), e1]
    have h1 := (rns_iff (ub c) (by intro h; rw [h] at hl1; simp at hl1) (fun x hx => hs x (by simp [hx])) c hc).1 ⟨[], by simp⟩
    have h2 := (rns_arith (ub c) c).1 h1
    have hV := low_high (ub c) (lng ((ub c).getD 0 0)) ((lng ((ub c).getD 0 0)).toNat - 1) (by rw [e]; omega)
    have h3 := h2.2
    unfold rnL rnH at h3
    have h4 : rns (ub c) = (rnL (ub c), rnH (ub c), decide (rnL (ub c) ≤ rnH (ub c))) := by unfold rns; rw [if_pos h2.1]
    have h5 : rnL (ub c) = c ∧ rnH (ub c) = c := by
      unfold rnL rnH
      rw [hV] at h3 ⊢
      omega
    rw [if_pos ⟨h1.1, by rw [h4]; simp [h5], by rw [h4]; simp only; rw [h5.1]; exact hc⟩, h4, e0, e]
    simp only
    rw [h5.1]
  · intro h
    unfold rneF at h
    by_cases h1 : s = [] ∨ lng (s.getD 0 0) = 0 ∨ (s.length : Int) < lng (s.getD 0 0)
    · rw [if_pos h1] at h
      injection h with _ h
      omega
    · rw [if_neg h1] at h
      by_cases h2 : (rns (s.take (lng (s.getD 0 0)).toNat)).2.2 = true ∧ (rns (s.take (lng (s.getD 0 0)).toNat)).1 = (rns (s.take (lng (s.getD 0 0)).toNat)).2.1 ∧ isL (rns (s.take (lng (s.getD 0 0)).toNat)).1 = true
      · rw [if_pos h2] at h
        injection h with h3 h4
        have hn := lng_inv (s.getD 0 0)
        have hlp : (s.take (lng (s.getD 0 0)).toNat).length = (ub c).length := by rw [List.length_take]; omega
        obtain ⟨v, hv⟩ := (rns_iff (s.take (lng (s.getD 0 0)).toNat) (by intro e; rw [e] at hlp; simp at hlp; omega) (fun x hx => hs x (List.mem_of_mem_take hx)) c hc).2 ⟨h2.1, by omega, by have := h2.2.1; omega⟩
        have hv0 : v = [] := by
          have := congrArg List.length hv
          rw [List.length_append] at this
          exact List.length_eq_zero_iff.1 (by omega)
        rw [hv0, List.append_nil] at hv
        exact ⟨s.drop (lng (s.getD 0 0)).toNat, by rw [hv, List.take_append_drop]⟩
      · rw [if_neg h2] at h
        injection h with _ h
        omega
set_option maxRecDepth 100000 in
theorem few_any (t : ByteArray) (m : Nat) (w : World) (hm : m ≤ 1000) (ht : t.size ≤ 140737488355328) : Calls Tryd.prog 11 #[.string t, .int .i64 m] w fun e w' => ∃ u, e = .returned (.string u) ∧ byL u = (byL t).take m ∧ w = w' := by
  by_cases h : t.size ≤ m
  · go_enter Tryd.func11, Tryd.ntmps11
    go_wp2
    go_ret
    exact ⟨t, rfl, by rw [List.take_of_length_le (by rw [byL_len]; exact h)], rfl⟩
  · have hlt : m < t.size := by omega
    go_enter Tryd.func11, Tryd.ntmps11
    go_wp2
    go_ret
    exact ⟨_, rfl, by rw [byL_ext]; rfl, rfl⟩
set_option maxRecDepth 100000 in
set_option maxHeartbeats 1600000 in
theorem rune_any (t : ByteArray) (w : World) (ht : t.size ≤ 4096) :
    Calls Tryd.prog 47 #[.string t] w fun e w' => e = .returned (.tuple #[.int .i32 (rneF (byL t)).1, .int .i64 (rneF (byL t)).2]) ∧ Below w.heap.size w w' := by
  by_cases h0 : t.size = 0
  · have HR := Lib.hid (show rneF (byL t) = (0, 0) from if_pos (.inl (List.length_eq_zero_iff.1 (by rw [byL_len]; exact h0))))
    have he : t = ⟨#[]⟩ := by
      obtain ⟨d⟩ := t
      have : d.size = 0 := h0
      rw [Array.eq_empty_of_size_eq_zero this]
    rw [he] at HR ⊢
    clear h0 ht he
    go_enter Tryd.func47, Tryd.ntmps47
    go_wp2
    go_ret2
    rw [HR.out]
    exact ⟨rfl, Below.refl _ _⟩
  · have hpos : 0 < t.size := by omega
    have hne : t.toList.isEmpty = false := by
      rw [ByteArray.toList_eq]
      cases hl : t.data.toList with
      | nil =>
        have : t.data.size = 0 := by rw [← Array.length_toList, hl]; rfl
        exact absurd this h0
      | cons _ _ => rfl
    have e0 := byL_at t 0 hpos
    have CL := Lib.hid (fun W => long_any (t[0].toNat : Int) W)
    obtain ⟨n, hn⟩ : ∃ n, n = lng (t[0].toNat : Int) := ⟨_, rfl⟩
    have HN := Lib.hid hn
    have HE0 := Lib.hid e0
    have hn4 : 0 ≤ n ∧ n ≤ 4 := by rw [hn]; rcases lng_inv (t[0].toNat : Int) with h | h | h | h | h <;> omega
    rw [← hn] at CL
    clear hn e0
    have hsn : byL t ≠ [] := fun e => by have h9 := congrArg List.length e; rw [byL_len] at h9; exact h0 h9
    have HSN := Lib.hid hsn
    clear hsn
    by_cases hz : n = 0
    · have hz' : (n == 0) = true := by simp [hz]
      have HR := Lib.hid (show rneF (byL t) = (0, 0) from if_pos (.inr (.inl (by rw [HE0.out, ← HN.out]; exact hz))))
      go_enter Tryd.func47, Tryd.ntmps47
      go_wp2_with (go_at_call 58; refine (CL.out _).mono ?_; rintro e w1 ⟨rfl, rfl⟩)
      go_ret2
      rw [HR.out]
      exact ⟨rfl, Below.refl _ _⟩
    · have hz' : (n == 0) = false := by rw [beq_eq_false_iff_ne]; exact hz
      by_cases hs : (t.size : Int) < n
      · have HR := Lib.hid (show rneF (byL t) = (0, 0) from if_pos (.inr (.inr (by rw [HE0.out, ← HN.out, byL_len]; exact hs))))
        go_enter Tryd.func47, Tryd.ntmps47
        go_wp2_with (go_at_call 58; refine (CL.out _).mono ?_; rintro e w1 ⟨rfl, rfl⟩)
        go_ret2
        rw [HR.out]
        exact ⟨rfl, Below.refl _ _⟩
      · obtain ⟨k, rfl⟩ : ∃ k : Nat, n = k := ⟨n.toNat, by omega⟩
        have hk : k ≤ t.size := by omega
        have hk1 : 1 ≤ k := by omega
        have hkn : ¬ ((k : Int) = 0) := hz
        have HF := Lib.hid (show rneF (byL t) = (if (rns ((byL t).take k)).2.2 = true ∧ (rns ((byL t).take k)).1 = (rns ((byL t).take k)).2.1 ∧ isL (rns ((byL t).take k)).1 = true then ((rns ((byL t).take k)).1, (k : Int)) else (0, 0)) from by
          unfold rneF
          rw [HE0.out, ← HN.out, if_neg (by
            rintro (h | h | h)
            · exact HSN.out h
            · exact hz h
            · rw [byL_len] at h; exact hs h), Int.toNat_natCast])
        have CR := Lib.hid (fun (u : ByteArray) (hu : byL u = (byL t).take k) W => show Calls Tryd.prog 59 #[.string u] W fun e w' => e = .returned (.tuple #[.int .i32 (rns ((byL t).take k)).1, .int .i32 (rns ((byL t).take k)).2.1, .bool (rns ((byL t).take k)).2.2]) ∧ Below W.heap.size W w' from by
          have hl : u.size = k := by rw [← byL_len, hu, List.length_take, byL_len]; omega
          have := runes_any u W (by omega) (by omega)
          rw [hu] at this
          exact this)
        have CV := Lib.hid (fun W => valid_any (rns ((byL t).take k)).1 W)
        obtain ⟨A, hA⟩ : ∃ A, A = (rns ((byL t).take k)).1 := ⟨_, rfl⟩
        obtain ⟨Z, hZ⟩ : ∃ Z, Z = (rns ((byL t).take k)).2.1 := ⟨_, rfl⟩
        obtain ⟨ok, hok⟩ : ∃ ok, ok = (rns ((byL t).take k)).2.2 := ⟨_, rfl⟩
        rw [← hA, ← hZ, ← hok] at CR HF
        rw [← hA] at CV
        clear hA hZ hok hz hz' hn4 HSN HE0 HN
        have HX := Lib.hid (byL_ext t 0 k)
        have hkz : ((k : Int) == 0) = false := by rw [beq_eq_false_iff_ne]; exact hkn
        by_cases hkk : k = t.size
        · have HY := Lib.hid (show byL t = (byL t).take k from (List.take_of_length_le (by rw [byL_len]; omega)).symm)
          subst hkk
          cases ok with
          | false =>
            have HR := Lib.hid (show rneF (byL t) = (0, 0) from by rw [HF.out]; simp)
            go_enter Tryd.func47, Tryd.ntmps47
            go_wp2_with (first | (go_at_call 58; refine (CL.out _).mono ?_; rintro e w1 ⟨rfl, rfl⟩) | (go_at_call 59; refine (CR.out _ HY.out _).mono ?_; rintro e w1 ⟨rfl, hb1⟩) | fail)
            go_ret2
            rw [HR.out]
            exact ⟨rfl, hb1⟩
          | true =>
            by_cases hAZ : A = Z
            · subst hAZ
              cases hL : isL A with
              | false =>
                rw [hL] at CV
                have HR := Lib.hid (show rneF (byL t) = (0, 0) from by rw [HF.out, hL]; simp)
                clear hL
                go_enter Tryd.func47, Tryd.ntmps47
                go_wp2_with (first | (go_at_call 58; refine (CL.out _).mono ?_; rintro e w1 ⟨rfl, rfl⟩) | (go_at_call 59; refine (CR.out _ HY.out _).mono ?_; rintro e w1 ⟨rfl, hb1⟩) | (go_at_call 39; refine (CV.out _).mono ?_; rintro e w2 ⟨rfl, rfl⟩) | fail)
                go_ret2
                rw [HR.out]
                exact ⟨rfl, hb1⟩
              | true =>
                rw [hL] at CV
                have HR := Lib.hid (show rneF (byL t) = (A, (t.size : Int)) from by rw [HF.out, hL]; simp)
                clear hL
                go_enter Tryd.func47, Tryd.ntmps47
                go_wp2_with (first | (go_at_call 58; refine (CL.out _).mono ?_; rintro e w1 ⟨rfl, rfl⟩) | (go_at_call 59; refine (CR.out _ HY.out _).mono ?_; rintro e w1 ⟨rfl, hb1⟩) | (go_at_call 39; refine (CV.out _).mono ?_; rintro e w2 ⟨rfl, rfl⟩) | fail)
                go_ret2
                rw [HR.out]
                exact ⟨rfl, hb1⟩
            · have hAZ' : (A == Z) = false := by rw [beq_eq_false_iff_ne]; exact hAZ
              have HR := Lib.hid (show rneF (byL t) = (0, 0) from by rw [HF.out]; simp [hAZ])
              go_enter Tryd.func47, Tryd.ntmps47
              go_wp2_with (first | (go_at_call 58; refine (CL.out _).mono ?_; rintro e w1 ⟨rfl, rfl⟩) | (go_at_call 59; refine (CR.out _ HY.out _).mono ?_; rintro e w1 ⟨rfl, hb1⟩) | fail)
              go_ret2
              rw [HR.out]
              exact ⟨rfl, hb1⟩
        · have hk2 : k < t.size := by omega
          cases ok with
          | false =>
            have HR := Lib.hid (show rneF (byL t) = (0, 0) from by rw [HF.out]; simp)
            go_enter Tryd.func47, Tryd.ntmps47
            go_wp2_with (first | (go_at_call 58; refine (CL.out _).mono ?_; rintro e w1 ⟨rfl, rfl⟩) | (go_at_call 59; refine (CR.out _ HX.out _).mono ?_; rintro e w1 ⟨rfl, hb1⟩) | fail)
            go_ret2
            rw [HR.out]
            exact ⟨rfl, hb1⟩
          | true =>
            by_cases hAZ : A = Z
            · subst hAZ
              cases hL : isL A with
              | false =>
                rw [hL] at CV
                have HR := Lib.hid (show rneF (byL t) = (0, 0) from by rw [HF.out, hL]; simp)
                clear hL
                go_enter Tryd.func47, Tryd.ntmps47
                go_wp2_with (first | (go_at_call 58; refine (CL.out _).mono ?_; rintro e w1 ⟨rfl, rfl⟩) | (go_at_call 59; refine (CR.out _ HX.out _).mono ?_; rintro e w1 ⟨rfl, hb1⟩) | (go_at_call 39; refine (CV.out _).mono ?_; rintro e w2 ⟨rfl, rfl⟩) | fail)
                go_ret2
                rw [HR.out]
                exact ⟨rfl, hb1⟩
              | true =>
                rw [hL] at CV
                have HR := Lib.hid (show rneF (byL t) = (A, (k : Int)) from by rw [HF.out, hL]; simp)
                clear hL
                go_enter Tryd.func47, Tryd.ntmps47
                go_wp2_with (first | (go_at_call 58; refine (CL.out _).mono ?_; rintro e w1 ⟨rfl, rfl⟩) | (go_at_call 59; refine (CR.out _ HX.out _).mono ?_; rintro e w1 ⟨rfl, hb1⟩) | (go_at_call 39; refine (CV.out _).mono ?_; rintro e w2 ⟨rfl, rfl⟩) | fail)
                go_ret2
                rw [HR.out]
                exact ⟨rfl, hb1⟩
            · have hAZ' : (A == Z) = false := by rw [beq_eq_false_iff_ne]; exact hAZ
              have HR := Lib.hid (show rneF (byL t) = (0, 0) from by rw [HF.out]; simp [hAZ])
              go_enter Tryd.func47, Tryd.ntmps47
              go_wp2_with (first | (go_at_call 58; refine (CL.out _).mono ?_; rintro e w1 ⟨rfl, rfl⟩) | (go_at_call 59; refine (CR.out _ HX.out _).mono ?_; rintro e w1 ⟨rfl, hb1⟩) | fail)
              go_ret2
              rw [HR.out]
              exact ⟨rfl, hb1⟩
end Go.Proofs.YtbkpgfccghombaaDoor.rx
