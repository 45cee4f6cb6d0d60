/-
  Parts of the proof in one text: Rw, Rg, Rs, Rt, Rta, Rtr, Rtc. Conditions: as each states.
-/
import Derived.Test.YtbkpgfccghombaaDoorM20
import Derived.Test.YtbkpgfccghombaaDoorM04
import Derived.Deep.OwnRows
/-! The law's rune at the beginning of a text. Conditions: as stated. -/
namespace Go.Proofs.YtbkpgfccghombaaDoor.rx
open Go.ChangeShapes Go.WideShapes Go.ChangeAt Go.RowKit
set_option linter.unusedVariables false

theorem byL_ext (t : ByteArray) (i j : Nat) : byL (t.extract i j) = ((byL t).take j).drop i := by
  unfold byL
  rw [ByteArray.data_extract]
  simp [Array.toList_extract, List.map_drop, List.map_take]
  rw [List.drop_take]
theorem low_high (s : List Int) (n : Int) : ∀ k, k < s.length ∨ k = 0 → lowV s n k = highV s n k
  | 0, _ => rfl
  | k + 1, h => by
    have h1 := low_high s n k (by omega)
    simp only [lowV, highV]
    rw [h1]
    unfold bitL bitH
    rw [if_pos (by omega), if_pos (by omega)]
/-- the rune at the beginning, how many bytes it has -/
def rneF (s : List Int) : Int × Int :=
  if s = [] ∨ lng (s.getD 0 0) = 0 ∨ (s.length : Int) < lng (s.getD 0 0) then (0, 0)
  else if (rns (s.take (lng (s.getD 0 0)).toNat)).2.2 = true ∧ (rns (s.take (lng (s.getD 0 0)).toNat)).1 = (rns (s.take (lng (s.getD 0 0)).toNat)).2.1 ∧ isL (rns (s.take (lng (s.getD 0 0)).toNat)).1 = true then ((rns (s.take (lng (s.getD 0 0)).toNat)).1, lng (s.getD 0 0)) else (0, 0)
theorem rneF_iff (s : List Int) (hs : okB s) (c : Int) (hc : isL c = true) : (∃ v, s = ub c ++ v) ↔ rneF s = (c, (((ub c).length : Nat) : Int)) := by
  have hl1 := (ub_len c).1
  constructor
  · rintro ⟨v, rfl⟩
    have e := ub_lead c hc
    have e0 : (ub c ++ v).getD 0 0 = (ub c).getD 0 0 := by
      match ub c, hl1 with
      | x :: r, _ => rfl
    have e1 : (ub c ++ v).take (lng ((ub c ++ v).getD 0 0)).toNat = ub c := by rw [e0, e]; simp
    unfold rneF
    rw [if_neg (by
      rintro (h | h | h)
      · have h2 := (List.append_eq_nil_iff.1 h).1
        rw [h2] at hl1
        simp at hl1
      · rw [e0, e] at h
        omega
      · rw [e0, e, List.length_append] at h
        omega), e1]
    have h1 := (rns_iff (ub c) (by intro h; rw [h] at hl1; simp at hl1) (fun x hx => hs x (by simp [hx])) c hc).1 ⟨[], by simp⟩
    have h2 := (rns_arith (ub c) c).1 h1
    have hV := low_high (ub c) (lng ((ub c).getD 0 0)) ((lng ((ub c).getD 0 0)).toNat - 1) (by rw [e]; omega)
    have h3 := h2.2
    unfold rnL rnH at h3
    have h4 : rns (ub c) = (rnL (ub c), rnH (ub c), decide (rnL (ub c) ≤ rnH (ub c))) := by unfold rns; rw [if_pos h2.1]
    have h5 : rnL (ub c) = c ∧ rnH (ub c) = c := by
      unfold rnL rnH
      rw [hV] at h3 ⊢
      omega
    rw [if_pos ⟨h1.1, by rw [h4]; simp [h5], by rw [h4]; simp only; rw [h5.1]; exact hc⟩, h4, e0, e]
    simp only
    rw [h5.1]
  · intro h
    unfold rneF at h
    by_cases h1 : s = [] ∨ lng (s.getD 0 0) = 0 ∨ (s.length : Int) < lng (s.getD 0 0)
    · rw [if_pos h1] at h
      injection h with _ h
      omega
    · rw [if_neg h1] at h
      by_cases h2 : (rns (s.take (lng (s.getD 0 0)).toNat)).2.2 = true ∧ (rns (s.take (lng (s.getD 0 0)).toNat)).1 = (rns (s.take (lng (s.getD 0 0)).toNat)).2.1 ∧ isL (rns (s.take (lng (s.getD 0 0)).toNat)).1 = true
      · rw [if_pos h2] at h
        injection h with h3 h4
        have hn := lng_inv (s.getD 0 0)
        have hlp : (s.take (lng (s.getD 0 0)).toNat).length = (ub c).length := by rw [List.length_take]; omega
        obtain ⟨v, hv⟩ := (rns_iff (s.take (lng (s.getD 0 0)).toNat) (by intro e; rw [e] at hlp; simp at hlp; omega) (fun x hx => hs x (List.mem_of_mem_take hx)) c hc).2 ⟨h2.1, by omega, by have := h2.2.1; omega⟩
        have hv0 : v = [] := by
          have := congrArg List.length hv
          rw [List.length_append] at this
          exact List.length_eq_zero_iff.1 (by omega)
        rw [hv0, List.append_nil] at hv
        exact ⟨s.drop (lng (s.getD 0 0)).toNat, by rw [hv, List.take_append_drop]⟩
      · rw [if_neg h2] at h
        injection h with _ h
        omega
set_option maxRecDepth 100000 in
theorem few_any (t : ByteArray) (m : Nat) (w : World) (hm : m ≤ 1000) (ht : t.size ≤ 140737488355328) : Calls Tryd.prog 11 #[.string t, .int .i64 m] w fun e w' => ∃ u, e = .returned (.string u) ∧ byL u = (byL t).take m ∧ w = w' := by
  by_cases h : t.size ≤ m
  · go_enter Tryd.func11, Tryd.ntmps11
    go_wp2
    go_ret
    exact ⟨t, rfl, by rw [List.take_of_length_le (by rw [byL_len]; exact h)], rfl⟩
  · have hlt : m < t.size := by omega
    go_enter Tryd.func11, Tryd.ntmps11
    go_wp2
    go_ret
    exact ⟨_, rfl, by rw [byL_ext]; rfl, rfl⟩
set_option maxRecDepth 100000 in
set_option maxHeartbeats 1600000 in
theorem rune_any (t : ByteArray) (w : World) (ht : t.size ≤ 4096) :
    Calls Tryd.prog 47 #[.string t] w fun e w' => e = .returned (.tuple #[.int .i32 (rneF (byL t)).1, .int .i64 (rneF (byL t)).2]) ∧ Below w.heap.size w w' := by
  by_cases h0 : t.size = 0
  · have HR := Lib.hid (show rneF (byL t) = (0, 0) from if_pos (.inl (List.length_eq_zero_iff.1 (by rw [byL_len]; exact h0))))
    have he : t = ⟨#[]⟩ := by
      obtain ⟨d⟩ := t
      have : d.size = 0 := h0
      rw [Array.eq_empty_of_size_eq_zero this]
    rw [he] at HR ⊢
    clear h0 ht he
    go_enter Tryd.func47, Tryd.ntmps47
    go_wp2
    go_ret2
    rw [HR.out]
    exact ⟨rfl, Below.refl _ _⟩
  · have hpos : 0 < t.size := by omega
    have hne : t.toList.isEmpty = false := by
      rw [ByteArray.toList_eq]
      cases hl : t.data.toList with
      | nil =>
        have : t.data.size = 0 := by rw [← Array.length_toList, hl]; rfl
        exact absurd this h0
      | cons _ _ => rfl
    have e0 := byL_at t 0 hpos
    have CL := Lib.hid (fun W => long_any (t[0].toNat : Int) W)
    obtain ⟨n, hn⟩ : ∃ n, n = lng (t[0].toNat : Int) := ⟨_, rfl⟩
    have HN := Lib.hid hn
    have HE0 := Lib.hid e0
    have hn4 : 0 ≤ n ∧ n ≤ 4 := by rw [hn]; rcases lng_inv (t[0].toNat : Int) with h | h | h | h | h <;> omega
    rw [← hn] at CL
    clear hn e0
    have hsn : byL t ≠ [] := fun e => by have h9 := congrArg List.length e; rw [byL_len] at h9; exact h0 h9
    have HSN := Lib.hid hsn
    clear hsn
    by_cases hz : n = 0
    · have hz' : (n == 0) = true := by simp [hz]
      have HR := Lib.hid (show rneF (byL t) = (0, 0) from if_pos (.inr (.inl (by rw [HE0.out, ← HN.out]; exact hz))))
      go_enter Tryd.func47, Tryd.ntmps47
      go_wp2_with (go_at_call 58; refine (CL.out _).mono ?_; rintro e w1 ⟨rfl, rfl⟩)
      go_ret2
      rw [HR.out]
      exact ⟨rfl, Below.refl _ _⟩
    · have hz' : (n == 0) = false := by rw [beq_eq_false_iff_ne]; exact hz
      by_cases hs : (t.size : Int) < n
      · have HR := Lib.hid (show rneF (byL t) = (0, 0) from if_pos (.inr (.inr (by rw [HE0.out, ← HN.out, byL_len]; exact hs))))
        go_enter Tryd.func47, Tryd.ntmps47
        go_wp2_with (go_at_call 58; refine (CL.out _).mono ?_; rintro e w1 ⟨rfl, rfl⟩)
        go_ret2
        rw [HR.out]
        exact ⟨rfl, Below.refl _ _⟩
      · obtain ⟨k, rfl⟩ : ∃ k : Nat, n = k := ⟨n.toNat, by omega⟩
        have hk : k ≤ t.size := by omega
        have hk1 : 1 ≤ k := by omega
        have hkn : ¬ ((k : Int) = 0) := hz
        have HF := Lib.hid (show rneF (byL t) = (if (rns ((byL t).take k)).2.2 = true ∧ (rns ((byL t).take k)).1 = (rns ((byL t).take k)).2.1 ∧ isL (rns ((byL t).take k)).1 = true then ((rns ((byL t).take k)).1, (k : Int)) else (0, 0)) from by
          unfold rneF
          rw [HE0.out, ← HN.out, if_neg (by
            rintro (h | h | h)
            · exact HSN.out h
            · exact hz h
            · rw [byL_len] at h; exact hs h), Int.toNat_natCast])
        have CR := Lib.hid (fun (u : ByteArray) (hu : byL u = (byL t).take k) W => show Calls Tryd.prog 59 #[.string u] W fun e w' => e = .returned (.tuple #[.int .i32 (rns ((byL t).take k)).1, .int .i32 (rns ((byL t).take k)).2.1, .bool (rns ((byL t).take k)).2.2]) ∧ Below W.heap.size W w' from by
          have hl : u.size = k := by rw [← byL_len, hu, List.length_take, byL_len]; omega
          have := runes_any u W (by omega) (by omega)
          rw [hu] at this
          exact this)
        have CV := Lib.hid (fun W => valid_any (rns ((byL t).take k)).1 W)
        obtain ⟨A, hA⟩ : ∃ A, A = (rns ((byL t).take k)).1 := ⟨_, rfl⟩
        obtain ⟨Z, hZ⟩ : ∃ Z, Z = (rns ((byL t).take k)).2.1 := ⟨_, rfl⟩
        obtain ⟨ok, hok⟩ : ∃ ok, ok = (rns ((byL t).take k)).2.2 := ⟨_, rfl⟩
        rw [← hA, ← hZ, ← hok] at CR HF
        rw [← hA] at CV
        clear hA hZ hok hz hz' hn4 HSN HE0 HN
        have HX := Lib.hid (byL_ext t 0 k)
        have hkz : ((k : Int) == 0) = false := by rw [beq_eq_false_iff_ne]; exact hkn
        by_cases hkk : k = t.size
        · have HY := Lib.hid (show byL t = (byL t).take k from (List.take_of_length_le (by rw [byL_len]; omega)).symm)
          subst hkk
          cases ok with
          | false =>
            have HR := Lib.hid (show rneF (byL t) = (0, 0) from by rw [HF.out]; simp)
            go_enter Tryd.func47, Tryd.ntmps47
            go_wp2_with (first | (go_at_call 58; refine (CL.out _).mono ?_; rintro e w1 ⟨rfl, rfl⟩) | (go_at_call 59; refine (CR.out _ HY.out _).mono ?_; rintro e w1 ⟨rfl, hb1⟩) | fail)
            go_ret2
            rw [HR.out]
            exact ⟨rfl, hb1⟩
          | true =>
            by_cases hAZ : A = Z
            · subst hAZ
              cases hL : isL A with
              | false =>
                rw [hL] at CV
                have HR := Lib.hid (show rneF (byL t) = (0, 0) from by rw [HF.out, hL]; simp)
                clear hL
                go_enter Tryd.func47, Tryd.ntmps47
                go_wp2_with (first | (go_at_call 58; refine (CL.out _).mono ?_; rintro e w1 ⟨rfl, rfl⟩) | (go_at_call 59; refine (CR.out _ HY.out _).mono ?_; rintro e w1 ⟨rfl, hb1⟩) | (go_at_call 39; refine (CV.out _).mono ?_; rintro e w2 ⟨rfl, rfl⟩) | fail)
                go_ret2
                rw [HR.out]
                exact ⟨rfl, hb1⟩
              | true =>
                rw [hL] at CV
                have HR := Lib.hid (show rneF (byL t) = (A, (t.size : Int)) from by rw [HF.out, hL]; simp)
                clear hL
                go_enter Tryd.func47, Tryd.ntmps47
                go_wp2_with (first | (go_at_call 58; refine (CL.out _).mono ?_; rintro e w1 ⟨rfl, rfl⟩) | (go_at_call 59; refine (CR.out _ HY.out _).mono ?_; rintro e w1 ⟨rfl, hb1⟩) | (go_at_call 39; refine (CV.out _).mono ?_; rintro e w2 ⟨rfl, rfl⟩) | fail)
                go_ret2
                rw [HR.out]
                exact ⟨rfl, hb1⟩
            · have hAZ' : (A == Z) = false := by rw [beq_eq_false_iff_ne]; exact hAZ
              have HR := Lib.hid (show rneF (byL t) = (0, 0) from by rw [HF.out]; simp [hAZ])
              go_enter Tryd.func47, Tryd.ntmps47
              go_wp2_with (first | (go_at_call 58; refine (CL.out _).mono ?_; rintro e w1 ⟨rfl, rfl⟩) | (go_at_call 59; refine (CR.out _ HY.out _).mono ?_; rintro e w1 ⟨rfl, hb1⟩) | fail)
              go_ret2
              rw [HR.out]
              exact ⟨rfl, hb1⟩
        · have hk2 : k < t.size := by omega
          cases ok with
          | false =>
            have HR := Lib.hid (show rneF (byL t) = (0, 0) from by rw [HF.out]; simp)
            go_enter Tryd.func47, Tryd.ntmps47
            go_wp2_with (first | (go_at_call 58; refine (CL.out _).mono ?_; rintro e w1 ⟨rfl, rfl⟩) | (go_at_call 59; refine (CR.out _ HX.out _).mono ?_; rintro e w1 ⟨rfl, hb1⟩) | fail)
            go_ret2
            rw [HR.out]
            exact ⟨rfl, hb1⟩
          | true =>
            by_cases hAZ : A = Z
            · subst hAZ
              cases hL : isL A with
              | false =>
                rw [hL] at CV
                have HR := Lib.hid (show rneF (byL t) = (0, 0) from by rw [HF.out, hL]; simp)
                clear hL
                go_enter Tryd.func47, Tryd.ntmps47
                go_wp2_with (first | (go_at_call 58; refine (CL.out _).mono ?_; rintro e w1 ⟨rfl, rfl⟩) | (go_at_call 59; refine (CR.out _ HX.out _).mono ?_; rintro e w1 ⟨rfl, hb1⟩) | (go_at_call 39; refine (CV.out _).mono ?_; rintro e w2 ⟨rfl, rfl⟩) | fail)
                go_ret2
                rw [HR.out]
                exact ⟨rfl, hb1⟩
              | true =>
                rw [hL] at CV
                have HR := Lib.hid (show rneF (byL t) = (A, (k : Int)) from by rw [HF.out, hL]; simp)
                clear hL
                go_enter Tryd.func47, Tryd.ntmps47
                go_wp2_with (first | (go_at_call 58; refine (CL.out _).mono ?_; rintro e w1 ⟨rfl, rfl⟩) | (go_at_call 59; refine (CR.out _ HX.out _).mono ?_; rintro e w1 ⟨rfl, hb1⟩) | (go_at_call 39; refine (CV.out _).mono ?_; rintro e w2 ⟨rfl, rfl⟩) | fail)
                go_ret2
                rw [HR.out]
                exact ⟨rfl, hb1⟩
            · have hAZ' : (A == Z) = false := by rw [beq_eq_false_iff_ne]; exact hAZ
              have HR := Lib.hid (show rneF (byL t) = (0, 0) from by rw [HF.out]; simp [hAZ])
              go_enter Tryd.func47, Tryd.ntmps47
              go_wp2_with (first | (go_at_call 58; refine (CL.out _).mono ?_; rintro e w1 ⟨rfl, rfl⟩) | (go_at_call 59; refine (CR.out _ HX.out _).mono ?_; rintro e w1 ⟨rfl, hb1⟩) | fail)
              go_ret2
              rw [HR.out]
              exact ⟨rfl, hb1⟩
end Go.Proofs.YtbkpgfccghombaaDoor.rx

/-! Whether a rune of pairs begins with bytes. Conditions: as stated. -/
namespace Go.Proofs.YtbkpgfccghombaaDoor.rx
open Go.ChangeShapes Go.WideShapes Go.ChangeAt Go.RowKit
set_option linter.unusedVariables false

/-- whether a rune of a pair lies between -/
def btw (lo hi : Int) (p : Int × Int) : Bool := decide (max p.1 lo ≤ min p.2 hi ∧ (max p.1 lo < 55296 ∨ 57343 < min p.2 hi))
def bgnR (l s : List Int) : Bool := if s = [] then true else if 4 < s.length then false else (rns s).2.2 && (pairs l).any (btw (rns s).1 (rns s).2.1)
theorem bgnR_iff (l s : List Int) (hl : okPairs l) (hs : okB s) : bgnR l s = true ↔ ∃ v, clsL (pairs l) (s ++ v) := by
  unfold bgnR
  by_cases h0 : s = []
  · subst h0
    rw [if_pos rfl]
    refine ⟨fun _ => ?_, fun _ => rfl⟩
    obtain ⟨p, hp⟩ := List.exists_mem_of_ne_nil _ hl.1
    exact ⟨ub p.1, p, hp, p.1, (hl.2.2 p hp).2.2, Int.le_refl _, (hl.2.2 p hp).1, rfl⟩
  · rw [if_neg h0]
    by_cases h4 : 4 < s.length
    · rw [if_pos h4]
      constructor
      · intro h
        cases h
      · rintro ⟨v, p, hp, c, hc, -, -, e⟩
        have := congrArg List.length e
        rw [List.length_append] at this
        have := (ub_len c).2
        omega
    · rw [if_neg h4, Bool.and_eq_true, List.any_eq_true]
      constructor
      · rintro ⟨hok, p, hp, hb⟩
        have hb := of_decide_eq_true hb
        obtain ⟨g1, g2, g3⟩ := hl.2.2 p hp
        have g4 := of_decide_eq_true g3
        obtain ⟨c, hc, c1, c2⟩ : ∃ c, isL c = true ∧ max p.1 (rns s).1 ≤ c ∧ c ≤ min p.2 (rns s).2.1 := by
          rcases hb.2 with h | h
          · exact ⟨max p.1 (rns s).1, decide_eq_true (by omega), Int.le_refl _, hb.1⟩
          · exact ⟨min p.2 (rns s).2.1, decide_eq_true (by omega), hb.1, Int.le_refl _⟩
        obtain ⟨v, hv⟩ := (rns_iff s h0 (fun x hx => hs x hx) c hc).2 ⟨hok, by omega, by omega⟩
        exact ⟨v, p, hp, c, hc, by omega, by omega, hv.symm⟩
      · rintro ⟨v, p, hp, c, hc, c1, c2, e⟩
        obtain ⟨h1, h2, h3⟩ := (rns_iff s h0 (fun x hx => hs x hx) c hc).1 ⟨v, e.symm⟩
        have g := of_decide_eq_true hc
        exact ⟨h1, p, hp, decide_eq_true ⟨by omega, by omega⟩⟩
theorem any_snoc (l : List Int) (f : Int × Int → Bool) (m : Nat) (h : 2 * m + 1 < l.length) : ((pairs l).take (m + 1)).any f = (((pairs l).take m).any f || f (l[2 * m], l[2 * m + 1])) := by
  rw [List.take_add_one, pairs_at l m h, List.any_append]
  simp
theorem any_of (l : List Int) (f : Int × Int → Bool) (m : Nat) (h : 2 * m + 1 < l.length) (hf : f (l[2 * m], l[2 * m + 1]) = true) : (pairs l).any f = true :=
  List.any_eq_true.2 ⟨_, List.mem_of_getElem? (pairs_at l m h), hf⟩
set_option maxRecDepth 100000 in
set_option maxHeartbeats 3200000 in
theorem begins_any (aa : Option Addr) (ca : Nat) (l : List Int) (t : ByteArray) (w : World) (hs : Sl w w.heap.size aa (l.map (.int .i32))) (hl : l.length ≤ 1000000) (ht : t.size ≤ 4096) :
    Calls Tryd.prog 53 #[.slice aa l.length ca, .string t] w fun e w' => e = .returned (.bool (bgnR l (byL t))) ∧ Below w.heap.size w w' := by
  have HS := Lib.hid hs
  clear hs
  by_cases h0 : t.size = 0
  · have HR := Lib.hid (show bgnR l (byL t) = true from if_pos (List.length_eq_zero_iff.1 (by rw [byL_len]; exact h0)))
    have he : t = ⟨#[]⟩ := by
      obtain ⟨d⟩ := t
      have : d.size = 0 := h0
      rw [Array.eq_empty_of_size_eq_zero this]
    rw [he] at HR ⊢
    clear h0 ht he
    go_enter Tryd.func53, Tryd.ntmps53
    go_wp2
    go_ret
    rw [HR.out]
    exact ⟨rfl, Below.refl _ _⟩
  · have hne : t.toList.isEmpty = false := by
      rw [ByteArray.toList_eq]
      cases hl : t.data.toList with
      | nil =>
        have : t.data.size = 0 := by rw [← Array.length_toList, hl]; rfl
        exact absurd this h0
      | cons _ _ => rfl
    have hsn : byL t ≠ [] := fun e => by have h9 := congrArg List.length e; rw [byL_len] at h9; exact h0 h9
    by_cases h4 : 4 < t.size
    · have HR := Lib.hid (show bgnR l (byL t) = false from by unfold bgnR; rw [if_neg hsn, if_pos (by rw [byL_len]; exact h4)])
      clear hsn
      go_enter Tryd.func53, Tryd.ntmps53
      go_wp2
      go_ret
      rw [HR.out]
      exact ⟨rfl, Below.refl _ _⟩
    · have HB := Lib.hid (show bgnR l (byL t) = ((rns (byL t)).2.2 && (pairs l).any (btw (rns (byL t)).1 (rns (byL t)).2.1)) from by unfold bgnR; rw [if_neg hsn, if_neg (by rw [byL_len]; exact h4)])
      have CR := Lib.hid (runes_any t w (by omega) ht)
      obtain ⟨lo, hlo⟩ : ∃ A, A = (rns (byL t)).1 := ⟨_, rfl⟩
      obtain ⟨hi, hhi⟩ : ∃ Z, Z = (rns (byL t)).2.1 := ⟨_, rfl⟩
      obtain ⟨ok, hok⟩ : ∃ ok, ok = (rns (byL t)).2.2 := ⟨_, rfl⟩
      rw [← hlo, ← hhi, ← hok] at CR HB
      clear hlo hhi hok hsn
      cases ok with
      | false =>
        have HR := Lib.hid (show bgnR l (byL t) = false from by rw [HB.out]; rfl)
        go_enter Tryd.func53, Tryd.ntmps53
        by_cases hg : (1 : Int) < (l.length : Int)
        · go_wp2_with (first | (go_at_call 59; refine CR.out.mono ?_; rintro e w1 ⟨rfl, hb1⟩) | fail)
          go_loopw [8, 9, 10] (fun v8 _ _ wr => v8 = .int .i64 0 ∧ w1 = wr) (fun _ _ _ _ => 0)
          case atStart => exact ⟨rfl, rfl⟩
          case round =>
            obtain ⟨rfl, rfl⟩ := hrel
            go_wp2
            go_ret
            rw [HR.out]
            exact ⟨rfl, hb1⟩
        · go_wp2_with (first | (go_at_call 59; refine CR.out.mono ?_; rintro e w1 ⟨rfl, hb1⟩) | fail)
          go_loopw [8, 9, 10] (fun v8 _ _ wr => v8 = .int .i64 0 ∧ w1 = wr) (fun _ _ _ _ => 0)
          case atStart => exact ⟨rfl, rfl⟩
          case round =>
            obtain ⟨rfl, rfl⟩ := hrel
            go_wp2
            go_ret
            rw [HR.out]
            exact ⟨rfl, hb1⟩
      | true =>
        go_enter Tryd.func53, Tryd.ntmps53
        go_wp2_with (first | (go_at_call 59; refine CR.out.mono ?_; rintro e w1 ⟨rfl, hb1⟩; have HB1 := Lib.hid hb1; clear hb1 CR) | fail)
        go_loopw [8, 9, 10] (fun v8 _ _ wr => ∃ m q : Nat, q ≤ l.length + 1 ∧ v8 = .int .i64 q ∧ Hid (q = 2 * m ∧ ((pairs l).take m).any (btw lo hi) = false ∧ Below w.heap.size w wr)) (fun v8 _ _ _ => l.length + 1 - (intOf v8).toNat)
        case atStart => exact ⟨0, 0, by omega, rfl, Lib.hid ⟨rfl, by simp, HB1.out⟩⟩
        case round =>
          obtain ⟨m, q, hq, rfl, H1⟩ := hrel
          by_cases hlt : q + 1 < l.length
          · have hlt1 : q < l.length := by omega
            have hlt2 : (q : Int) + 1 < (l.length : Int) := by omega
            have hlt3 : (0 : Int) ≤ (q : Int) + 1 := by omega
            have hwq : IntKind.i64.wrap ((q : Int) + 1) = (q : Int) + 1 := by rw [IntKind.wrap_i64]; omega
            obtain ⟨ad, rfl, -, hc⟩ := rune_at (HS.out.below H1.out.2.2) q hlt1
            obtain ⟨ad2, had, -, hc2⟩ := rune_at (HS.out.below H1.out.2.2) (q + 1) hlt
            injection had with had
            subst had
            have hc2 := cell_next hc2
            have HT := Lib.hid (show ((pairs l).take (m + 1)).any (btw lo hi) = (((pairs l).take m).any (btw lo hi) || btw lo hi (l[q], l[q + 1])) from by
              have e := H1.out.1
              subst e
              exact any_snoc l _ m hlt)
            have HY := Lib.hid (fun (h : btw lo hi (l[q], l[q + 1]) = true) => show (pairs l).any (btw lo hi) = true from by
              have e := H1.out.1
              subst e
              exact any_of l _ m hlt h)
            generalize l[q] = x at *
            generalize l[q + 1] = y at *
            go_upto_region 9 with fail
            refine wp_region_ks (fun W => W.cell? (ad.add q) = some (.int .i32 x) ∧ W.cell? ⟨ad.block, ad.off + (q + 1), none⟩ = some (.int .i32 y)) [] (by kernel_rfl) ?_
            simp only [List.size_toArray, List.length_cons, List.length_nil, Nat.reduceAdd]
            refine ks_pure (i := 0) (oi := ?oi0) (v := ?v0) ?hi0 (by kernel_rfl) (by kernel_rfl) (by kernel_rfl) ?hQ0 ?hy0 ?rest0
            case hi0 =>
              simp only [List.getElem?_toArray, List.getElem?_cons_zero]
              rfl
            case hQ0 => exact fun _ _ _ h => h
            case hy0 =>
              refine yields_if (by rfl) (fun W hW => ?_)
              try dsimp only at hW
              go_simp
              first | done | with_reducible rfl
            simp only [Act.put, List.setIfInBounds_toArray, List.set_cons_zero, List.set_cons_succ]
            refine ks_pure (i := 1) (oi := ?oi1) (v := ?v1) ?hi1 (by kernel_rfl) (by kernel_rfl) (by kernel_rfl) ?hQ1 ?hy1 ?rest1
            case hi1 =>
              simp only [List.getElem?_toArray, List.getElem?_cons_succ, List.getElem?_cons_zero]
              rfl
            case hQ1 => exact fun _ _ _ h => h
            case hy1 =>
              refine yields_if (by rfl) (fun W hW => ?_)
              try dsimp only at hW
              go_simp
              first | done | with_reducible rfl
            simp only [Act.put, List.setIfInBounds_toArray, List.set_cons_zero, List.set_cons_succ]
            refine ks_pure (i := 2) (oi := ?oi2) (v := ?v2) ?hi2 (by kernel_rfl) (by kernel_rfl) (by kernel_rfl) ?hQ2 ?hy2 ?rest2
            case hi2 =>
              simp only [List.getElem?_toArray, List.getElem?_cons_succ, List.getElem?_cons_zero]
              rfl
            case hQ2 => exact fun _ _ _ h => h
            case hy2 =>
              refine yields_if (by rfl) (fun W hW => ?_)
              try dsimp only at hW
              go_simp
              first | done | with_reducible rfl
            simp only [Act.put, List.setIfInBounds_toArray, List.set_cons_zero, List.set_cons_succ]
            refine ks_take (i := 3) (oi := ?oi3) (v := ?v3) ?hi3 (by kernel_rfl) (by kernel_rfl) (by kernel_rfl) (by kernel_rfl) ?hQ3 ?hS3 ?hy3 ?rest3
            case hi3 =>
              simp only [List.getElem?_toArray, List.getElem?_cons_succ, List.getElem?_cons_zero]
              rfl
            case hQ3 => exact fun _ _ _ h => h
            case hS3 => exact ⟨hc, hc2⟩
            case hy3 =>
              refine yields_if (by rfl) (fun W hW => ?_)
              obtain ⟨hW1, hW2⟩ := hW
              go_simp
              first | done | with_reducible rfl
            simp only [Act.put, List.setIfInBounds_toArray, List.set_cons_zero, List.set_cons_succ]
            refine ks_pure (i := 4) (oi := ?oi4) (v := ?v4) ?hi4 (by kernel_rfl) (by kernel_rfl) (by kernel_rfl) ?hQ4 ?hy4 ?rest4
            case hi4 =>
              simp only [List.getElem?_toArray, List.getElem?_cons_succ, List.getElem?_cons_zero]
              rfl
            case hQ4 => exact fun _ _ _ h => h
            case hy4 =>
              refine yields_if (by rfl) (fun W hW => ?_)
              try dsimp only at hW
              go_simp
              first | done | with_reducible rfl
            simp only [Act.put, List.setIfInBounds_toArray, List.set_cons_zero, List.set_cons_succ]
            refine ks_pure (i := 5) (oi := ?oi5) (v := ?v5) ?hi5 (by kernel_rfl) (by kernel_rfl) (by kernel_rfl) ?hQ5 ?hy5 ?rest5
            case hi5 =>
              simp only [List.getElem?_toArray, List.getElem?_cons_succ, List.getElem?_cons_zero]
              rfl
            case hQ5 => exact fun _ _ _ h => h
            case hy5 =>
              refine yields_if (by rfl) (fun W hW => ?_)
              try dsimp only at hW
              go_simp
              first | done | with_reducible rfl
            simp only [Act.put, List.setIfInBounds_toArray, List.set_cons_zero, List.set_cons_succ]
            refine ks_pure (i := 6) (oi := ?oi6) (v := ?v6) ?hi6 (by kernel_rfl) (by kernel_rfl) (by kernel_rfl) ?hQ6 ?hy6 ?rest6
            case hi6 =>
              simp only [List.getElem?_toArray, List.getElem?_cons_succ, List.getElem?_cons_zero]
              rfl
            case hQ6 => exact fun _ _ _ h => h
            case hy6 =>
              refine yields_if (by rfl) (fun W hW => ?_)
              try dsimp only at hW
              go_simp
              first | done | with_reducible rfl
            simp only [Act.put, List.setIfInBounds_toArray, List.set_cons_zero, List.set_cons_succ]
            refine ks_pure (i := 7) (oi := ?oi7) (v := ?v7) ?hi7 (by kernel_rfl) (by kernel_rfl) (by kernel_rfl) ?hQ7 ?hy7 ?rest7
            case hi7 =>
              simp only [List.getElem?_toArray, List.getElem?_cons_succ, List.getElem?_cons_zero]
              rfl
            case hQ7 => exact fun _ _ _ h => h
            case hy7 =>
              refine yields_if (by rfl) (fun W hW => ?_)
              try dsimp only at hW
              go_simp
              first | done | with_reducible rfl
            simp only [Act.put, List.setIfInBounds_toArray, List.set_cons_zero, List.set_cons_succ]
            refine ks_pure (i := 8) (oi := ?oi8) (v := ?v8) ?hi8 (by kernel_rfl) (by kernel_rfl) (by kernel_rfl) ?hQ8 ?hy8 ?rest8
            case hi8 =>
              simp only [List.getElem?_toArray, List.getElem?_cons_succ, List.getElem?_cons_zero]
              rfl
            case hQ8 => exact fun _ _ _ h => h
            case hy8 =>
              refine yields_if (by rfl) (fun W hW => ?_)
              try dsimp only at hW
              go_simp
              first | done | with_reducible rfl
            simp only [Act.put, List.setIfInBounds_toArray, List.set_cons_zero, List.set_cons_succ]
            refine ks_pure (i := 9) (oi := ?oi9) (v := ?v9) ?hi9 (by kernel_rfl) (by kernel_rfl) (by kernel_rfl) ?hQ9 ?hy9 ?rest9
            case hi9 =>
              simp only [List.getElem?_toArray, List.getElem?_cons_succ, List.getElem?_cons_zero]
              rfl
            case hQ9 => exact fun _ _ _ h => h
            case hy9 =>
              refine yields_if (by rfl) (fun W hW => ?_)
              try dsimp only at hW
              go_simp
              first | done | with_reducible rfl
            simp only [Act.put, List.setIfInBounds_toArray, List.set_cons_zero, List.set_cons_succ]
            refine ks_take (i := 10) (oi := ?oi10) (v := ?v10) ?hi10 (by kernel_rfl) (by kernel_rfl) (by kernel_rfl) (by kernel_rfl) ?hQ10 ?hS10 ?hy10 ?rest10
            case hi10 =>
              simp only [List.getElem?_toArray, List.getElem?_cons_succ, List.getElem?_cons_zero]
              rfl
            case hQ10 => exact fun _ _ _ h => h
            case hS10 => exact ⟨hc, hc2⟩
            case hy10 =>
              refine yields_if (by rfl) (fun W hW => ?_)
              obtain ⟨hW1, hW2⟩ := hW
              go_simp
              first | done | with_reducible rfl
            simp only [Act.put, List.setIfInBounds_toArray, List.set_cons_zero, List.set_cons_succ]
            refine ks_pure (i := 11) (oi := ?oi11) (v := ?v11) ?hi11 (by kernel_rfl) (by kernel_rfl) (by kernel_rfl) ?hQ11 ?hy11 ?rest11
            case hi11 =>
              simp only [List.getElem?_toArray, List.getElem?_cons_succ, List.getElem?_cons_zero]
              rfl
            case hQ11 => exact fun _ _ _ h => h
            case hy11 =>
              refine yields_if (by rfl) (fun W hW => ?_)
              try dsimp only at hW
              go_simp
              first | done | with_reducible rfl
            simp only [Act.put, List.setIfInBounds_toArray, List.set_cons_zero, List.set_cons_succ]
            refine ks_pure (i := 12) (oi := ?oi12) (v := ?v12) ?hi12 (by kernel_rfl) (by kernel_rfl) (by kernel_rfl) ?hQ12 ?hy12 ?rest12
            case hi12 =>
              simp only [List.getElem?_toArray, List.getElem?_cons_succ, List.getElem?_cons_zero]
              rfl
            case hQ12 => exact fun _ _ _ h => h
            case hy12 =>
              refine yields_if (by rfl) (fun W hW => ?_)
              try dsimp only at hW
              go_simp
              first | done | with_reducible rfl
            simp only [Act.put, List.setIfInBounds_toArray, List.set_cons_zero, List.set_cons_succ]
            refine ks_pure (i := 13) (oi := ?oi13) (v := ?v13) ?hi13 (by kernel_rfl) (by kernel_rfl) (by kernel_rfl) ?hQ13 ?hy13 ?rest13
            case hi13 =>
              simp only [List.getElem?_toArray, List.getElem?_cons_succ, List.getElem?_cons_zero]
              rfl
            case hQ13 => exact fun _ _ _ h => h
            case hy13 =>
              refine yields_if (by rfl) (fun W hW => ?_)
              try dsimp only at hW
              go_simp
              first | done | with_reducible rfl
            simp only [Act.put, List.setIfInBounds_toArray, List.set_cons_zero, List.set_cons_succ]
            refine ks_pure (i := 14) (oi := ?oi14) (v := ?v14) ?hi14 (by kernel_rfl) (by kernel_rfl) (by kernel_rfl) ?hQ14 ?hy14 ?rest14
            case hi14 =>
              simp only [List.getElem?_toArray, List.getElem?_cons_succ, List.getElem?_cons_zero]
              rfl
            case hQ14 => exact fun _ _ _ h => h
            case hy14 =>
              refine yields_if (by rfl) (fun W hW => ?_)
              try dsimp only at hW
              go_simp
              first | done | with_reducible rfl
            simp only [Act.put, List.setIfInBounds_toArray, List.set_cons_zero, List.set_cons_succ]
            refine ks_done (by kernel_rfl) ?_ _
            try simp only [Exit.then]
            rename_i hK1
            refine hK1 _ _ ?_
            clear hK1
            have HE := Lib.hid (show btw lo hi (x, y) = decide ((if x < lo then lo else x) ≤ (if hi < y then hi else y) ∧ ((if x < lo then lo else x) < 55296 ∨ 57343 < (if hi < y then hi else y))) from by
              have e1 : max x lo = if x < lo then lo else x := by split <;> omega
              have e2 : min y hi = if hi < y then hi else y := by split <;> omega
              unfold btw
              rw [e1, e2])
            generalize (if x < lo then lo else x) = A at *
            generalize (if hi < y then hi else y) = Z at *
            clear hc hc2
            have HBW := Lib.hid H1.out.2.2
            by_cases g1 : A ≤ Z
            · by_cases g2 : A < 55296
              · have HR := Lib.hid (show bgnR l (byL t) = true from by rw [HB.out, HY.out (by rw [HE.out]; exact decide_eq_true ⟨g1, .inl g2⟩)]; rfl)
                go_wp2
                go_ret
                rw [HR.out]
                exact ⟨rfl, HBW.out.drew⟩
              · by_cases g3 : 57343 < Z
                · have HR := Lib.hid (show bgnR l (byL t) = true from by rw [HB.out, HY.out (by rw [HE.out]; exact decide_eq_true ⟨g1, .inr g3⟩)]; rfl)
                  go_wp2
                  go_ret
                  rw [HR.out]
                  exact ⟨rfl, HBW.out.drew⟩
                · have HN := Lib.hid (show ((pairs l).take (m + 1)).any (btw lo hi) = false from by rw [HT.out, H1.out.2.1, HE.out, decide_eq_false (fun h => h.2.elim g2 g3)]; rfl)
                  go_wp2
                  go_roundw
                  case rel => exact ⟨m + 1, q + 2, by omega, by go_num, Lib.hid ⟨by have := H1.out.1; omega, HN.out, HBW.out.drew⟩⟩
                  case measure => simp [intOf]; omega
            · have HN := Lib.hid (show ((pairs l).take (m + 1)).any (btw lo hi) = false from by rw [HT.out, H1.out.2.1, HE.out, decide_eq_false (fun h => g1 h.1)]; rfl)
              go_wp2
              go_roundw
              case rel => exact ⟨m + 1, q + 2, by omega, by go_num, Lib.hid ⟨by have := H1.out.1; omega, HN.out, HBW.out.drew⟩⟩
              case measure => simp [intOf]; omega
          · have hlt2 : ¬ ((q : Int) + 1 < (l.length : Int)) := by omega
            have HR := Lib.hid (show bgnR l (byL t) = false from by
              have h2 : (pairs l).take m = pairs l := List.take_of_length_le (by rw [pairs_len]; have := H1.out.1; omega)
              have h3 := H1.out.2.1
              rw [h2] at h3
              rw [HB.out, h3]
              rfl)
            go_wp2
            go_ret
            rw [HR.out]
            exact ⟨rfl, H1.out.2.2⟩
end Go.Proofs.YtbkpgfccghombaaDoor.rx

/-! Where words of an expression can end: the plain cases. Conditions: as stated. -/
namespace Go.Proofs.YtbkpgfccghombaaDoor.rx
open Go.ChangeShapes Go.WideShapes Go.ChangeAt Go.RowKit
set_option linter.unusedVariables false

theorem run_bools (c : Nat) (hc : c ≤ 1000000000000) (w : World) : (Instr.makeSlice 35 (.int .i64 (c : Int)) (.int .i64 (c : Int))).run Tryd.prog w = .ok (.slice (some ⟨w.heap.size, 0, none⟩) c c) (w.alloc (.cells (madeCells #[.bool false] c) 4)) :=
  run_make_row' 35 4 (.bool false) 1 Tryd.underlying35 infoO rfl .i64 .i64 c (by omega) (by omega) w
/-- what is told of expressions of d levels -/
def ReOk (d : Nat) : Prop := ∀ (w : World) (r : Rx) (cs : List Value) (t : ByteArray) (aa : Option Addr) (ca : Nat) (f : List Bool), RgC w w.heap.size d r cs → wf 3 d r → Sl w w.heap.size aa (f.map .bool) → f.length = t.size + 1 → t.size ≤ 1000 →
  Calls Tryd.prog 36 #[.agg cs.toArray, .string t, .slice aa f.length ca] w fun e w' => ∃ v, e = .returned v ∧ BS w' w.heap.size v (rch (lang d r) (byL t) f) ∧ Below w.heap.size w w'
theorem own_zero {B : Nat} (w2 : World) (h : B ≤ w2.heap.size) : (w2.alloc (.cells #[] 4)).ownsRow B 4 1 (.slice (some ⟨w2.heap.size, 0, none⟩) 0 0) 0 [] := World.ownsRow_lit w2 #[] 0 h (by simp [maxLen]) rfl
theorem copy_bs {w w2 w3 : World} {v : Value} {f : List Bool} (hb : Below w.heap.size w w2) (ho : w3.ownsRow w.heap.size 4 1 v f.length (f.map .bool)) (hg : (w2.alloc (.cells #[] 4)).grownBy w3 (Value.slice (some ⟨w2.heap.size, 0, none⟩) 0 0).ownBlock) (hn : 0 < f.length) : BS w3 w.heap.size v f ∧ Below w.heap.size w w3 :=
  ⟨BS.of_own ho hn, (hb.alloc hb.size _).trans (grown_below hg (fun k hk => by simp [Value.ownBlock] at hk; have := hb.size; omega) (by have := hb.size; simp; omega))⟩
theorem copy_low {w w2 w3 : World} (hb : Below w.heap.size w w2) (hg : (w2.alloc (.cells #[] 4)).grownBy w3 (Value.slice (some ⟨w2.heap.size, 0, none⟩) 0 0).ownBlock) : Below w2.heap.size w2 w3 :=
  ((Below.refl w2.heap.size w2).alloc (Nat.le_refl _) _).trans (grown_below hg (fun k hk => by simp [Value.ownBlock] at hk; omega) (by simp))
set_option maxRecDepth 100000 in
set_option maxHeartbeats 1600000 in
theorem reach_eps (mn mx : Int) (ra : Option Addr) (rn rc : Nat) (sa : Option Addr) (sn sc : Nat) (w : World) (t : ByteArray) (aa : Option Addr) (ca : Nat) (f : List Bool) (ha : Sl w w.heap.size aa (f.map .bool)) (hf : f.length = t.size + 1) (ht : t.size ≤ 1000) :
    Calls Tryd.prog 36 #[.agg (rxc 2 mn mx ra rn rc sa sn sc).toArray, .string t, .slice aa f.length ca] w fun e w' => ∃ v, e = .returned v ∧ BS w' w.heap.size v f ∧ Below w.heap.size w w' := by
  obtain ⟨i0, hi0, hz0, hz1, hz2⟩ := info_parts infoO
  have hmk := run_bools (t.size + 1) (by omega)
  rw [Int.natCast_succ] at hmk
  have hfl : 1 ≤ f.length ∧ f.length ≤ 1001 := by omega
  have HA := Lib.hid ha
  clear ha hf
  unfold rxc
  go_enter Tryd.func36, Tryd.ntmps36
  go_upto_region 6 with fail
  refine name_world ?_
  intro w2 hw2
  have HB2 := Lib.hid (show Below w.heap.size w w2 from by rw [hw2]; exact below_two _ _ _)
  clear hw2
  go_wp2_with (first | (at_builtin; refine list_spread rfl (.tmp 40) (.tmp 41) 35 rfl w.heap.size w.heap.size 4 i0 _ 1 1 Tryd.underlying35 hi0 hz0 hz1 hz2 rfl (by omega) (.slice (some ⟨w2.heap.size, 0, none⟩) 0 0) 0 [] rfl (own_zero w2 HB2.out.size) aa f.length ca (f.map .bool) rfl (by simp) (HA.out.below (HB2.out.alloc HB2.out.size _)) (fun u hu => by obtain ⟨x, -, rfl⟩ := List.mem_map.1 hu; rfl) (by unfold maxLen; omega) (by omega) (by have := HB2.out.size; simp; omega) ?_; intro v3 w3 ho3 hg3 hat3; simp only [Nat.zero_add, List.nil_append] at ho3; have HC := Lib.hid (copy_bs HB2.out ho3 hg3 (by omega)); clear ho3 hg3 hat3) | fail)
  go_ret
  exact ⟨_, rfl, HC.out.1, HC.out.2⟩
theorem add0 (ad : Addr) : ad.add 0 = ad := by simp [Addr.add]
set_option maxRecDepth 100000 in
set_option maxHeartbeats 1600000 in
theorem reach_capt {d : Nat} (IH : ReOk d) (mn mx : Int) (ra : Option Addr) (rn rc : Nat) (sa : Option Addr) (sc : Nat) (r : Rx) (ls : List (List Value)) (w : World) (t : ByteArray) (aa : Option Addr) (ca : Nat) (f : List Bool) (hw : wf 3 d r) (h3 : ls.length = [r].length) (h4 : ∀ x ∈ ls, x.length = 7) (h5 : Sl w w.heap.size sa (ls.flatMap id)) (h6 : ∀ x ∈ [r].zip ls, RgC w w.heap.size d x.1 x.2) (ha : Sl w w.heap.size aa (f.map .bool)) (hf : f.length = t.size + 1) (ht : t.size ≤ 1000) :
    Calls Tryd.prog 36 #[.agg (rxc 13 mn mx ra rn rc sa 1 sc).toArray, .string t, .slice aa f.length ca] w fun e w' => ∃ v, e = .returned v ∧ BS w' w.heap.size v (rch (lang d r) (byL t) f) ∧ Below w.heap.size w w' := by
  have hmk := run_bools (t.size + 1) (by omega)
  rw [Int.natCast_succ] at hmk
  have HB := Lib.hid (Bx.new w (rxc 13 mn mx ra rn rc sa 1 sc))
  have HA := Lib.hid ha
  have HF := Lib.hid hf
  have HS := Lib.hid (And.intro h3 (And.intro h4 (And.intro h5 h6)))
  have HW := Lib.hid hw
  have IH := Lib.hid IH
  clear ha hf h3 h4 h5 h6 hw
  unfold rxc at *
  go_enter Tryd.func36, Tryd.ntmps36
  go_upto_region 39 with fail
  refine name_world ?_
  intro w2 hw2
  have HB2 := Lib.hid (show Bx w w2 _ from by rw [hw2]; exact HB.out.go ((Below.refl _ _).alloc (Nat.le_refl _) _))
  clear hw2
  have c6 := HB2.out.b.cell 6
  simp only [List.getElem?_cons_zero, List.getElem?_cons_succ] at c6
  obtain ⟨ad, v0, v1, v2, v3, v4, v5, v6, rfl, -, hR, e0, e1, e2, e3, e4, e5, e6⟩ := sub_at HS.out.1 HS.out.2.1 (HS.out.2.2.1.below HB2.out.l) (fun x hx => (HS.out.2.2.2 x hx).below HB2.out.l) 0 (by simp)
  simp only [Nat.zero_mul, add0] at e0 e1 e2 e3 e4 e5 e6
  have CR := Lib.hid (IH.out w2 r _ t aa ca f (hR.more HB2.out.l.size) HW.out ((HA.out.below HB2.out.l).more HB2.out.l.size) HF.out ht)
  clear hR
  go_wp2_with (first | (go_at_call 36; refine CR.out.mono ?_; rintro e w5 ⟨v, rfl, h5, hb5⟩; have H5 := Lib.hid (And.intro h5 hb5); clear h5 hb5) | fail)
  go_ret
  exact ⟨_, rfl, H5.out.1.more HB2.out.l.size, HB2.out.l.trans (H5.out.2.mono HB2.out.l.size)⟩
end Go.Proofs.YtbkpgfccghombaaDoor.rx

/-! Where words of an expression can end: parts behind each other, ways beside each other. Conditions: as stated. -/
namespace Go.Proofs.YtbkpgfccghombaaDoor.rx
open Go.ChangeShapes Go.WideShapes Go.ChangeAt Go.RowKit
set_option linter.unusedVariables false

/-- behind the parts, one by one -/
noncomputable def catR (s : List Int) (L : List Lg) (f : List Bool) : List Bool := L.foldl (fun cur X => rch X s cur) f
theorem catR_len (s : List Int) : ∀ (L : List Lg) (f : List Bool), f.length = s.length + 1 → (catR s L f).length = s.length + 1
  | [], f, h => h
  | X :: L, f, h => catR_len s L _ (rch_len X s f)
theorem catR_is (s : List Int) : ∀ (L : List Lg) (f : List Bool), f.length = s.length + 1 → catR s L f = rch (catL L) s f
  | [], f, h => (rch_eps h).symm
  | X :: L, f, h => by
    show catR s L (rch X s f) = rch (cat2 X (catL L)) s f
    rw [rch_cat, catR_is s L _ (rch_len X s f)]
theorem catR_snoc (s : List Int) (L : List Lg) (X : Lg) (f : List Bool) : catR s (L ++ [X]) f = rch X s (catR s L f) := by simp [catR]
/-- the places of ways, one by one -/
noncomputable def altR (s : List Int) (L : List Lg) (f : List Bool) : List Bool := L.foldl (fun out X => orS out (rch X s f)) (List.replicate (s.length + 1) false)
theorem altR_snoc (s : List Int) (L : List Lg) (X : Lg) (f : List Bool) : altR s (L ++ [X]) f = orS (altR s L f) (rch X s f) := by simp [altR]
theorem altR_at (s : List Int) (f : List Bool) : ∀ (L : List Lg) (out : List Bool), out.length = s.length + 1 → (L.foldl (fun out X => orS out (rch X s f)) out).length = s.length + 1 ∧ ∀ j : Nat, (L.foldl (fun out X => orS out (rch X s f)) out)[j]? = some true ↔ (out[j]? = some true ∨ ∃ X ∈ L, (rch X s f)[j]? = some true)
  | [], out, h => ⟨h, fun j => by simp⟩
  | X :: L, out, h => by
    have hl : out.length = (rch X s f).length := by rw [h, rch_len]
    obtain ⟨h1, h2⟩ := altR_at s f L (orS out (rch X s f)) (by rw [orS_len hl, h])
    refine ⟨h1, fun j => ?_⟩
    rw [List.foldl_cons, h2 j, orS_at hl]
    simp only [List.mem_cons, exists_eq_or_imp]
    rw [or_assoc]
theorem altR_len (s : List Int) (L : List Lg) (f : List Bool) : (altR s L f).length = s.length + 1 := (altR_at s f L _ (by simp)).1
theorem altL_any : ∀ (L : List Lg), L ≠ [] → ∀ u, altL L u ↔ ∃ X ∈ L, X u
  | [], h, _ => absurd rfl h
  | [X], _, u => by simp [altL]
  | X :: Y :: L, _, u => by
    have := altL_any (Y :: L) (by simp) u
    show or2 X (altL (Y :: L)) u ↔ _
    unfold or2
    rw [this]
    simp
theorem altR_is (s : List Int) (L : List Lg) (hL : L ≠ []) (f : List Bool) : altR s L f = rch (altL L) s f := by
  refine set_ext (by rw [altR_len, rch_len]) fun j hj => ?_
  rw [altR_len] at hj
  have h := (altR_at s f L (List.replicate (s.length + 1) false) (by simp)).2 j
  unfold altR
  rw [h, rch_at]
  constructor
  · rintro (h1 | ⟨X, hX, h1⟩)
    · rw [List.getElem?_replicate] at h1
      split at h1 <;> simp at h1
    · obtain ⟨g1, i, g2, g3, g4⟩ := rch_at.1 h1
      exact ⟨g1, i, g2, g3, (altL_any L hL _).2 ⟨X, hX, g4⟩⟩
  · rintro ⟨g1, i, g2, g3, g4⟩
    obtain ⟨X, hX, g5⟩ := (altL_any L hL _).1 g4
    exact .inr ⟨X, hX, rch_at.2 ⟨g1, i, g2, g3, g5⟩⟩
theorem map_take_snoc {d : Nat} (subs : List Rx) (i : Nat) (h : i < subs.length) : (subs.take (i + 1)).map (lang d) = (subs.take i).map (lang d) ++ [lang d subs[i]] := by
  rw [List.take_succ_eq_append_getElem h, List.map_append]
  rfl
theorem BS.len {w : World} {B n c : Nat} {a : Option Addr} {l : List Bool} (h : BS w B (.slice a n c) l) : n = l.length := by
  obtain ⟨g, c', rest, h1, -⟩ := h
  injection h1
theorem BS.form {w : World} {B : Nat} {v : Value} {l : List Bool} (h : BS w B v l) : ∃ g c, v = .slice (some ⟨g, 0, none⟩) l.length c := by
  obtain ⟨g, c, rest, h1, -⟩ := h
  exact ⟨g, c, h1⟩
theorem BS.formN {w : World} {B n : Nat} {v : Value} {l : List Bool} (h : BS w B v l) (hn : l.length = n) : ∃ g c, v = .slice (some ⟨g, 0, none⟩) n c := by
  subst hn
  exact h.form
theorem BS.sl' {w : World} {B g n c : Nat} {l : List Bool} (h : BS w B (.slice (some ⟨g, 0, none⟩) n c) l) : Sl w w.heap.size (some ⟨g, 0, none⟩) (l.map .bool) := by
  obtain ⟨a, c', h1, h2⟩ := h.sl
  injection h1 with h3
  rw [h3]
  exact h2
set_option maxRecDepth 100000 in
set_option maxHeartbeats 1600000 in
theorem reach_cat {d : Nat} (IH : ReOk d) (mn mx : Int) (ra : Option Addr) (rn rc : Nat) (sa : Option Addr) (sc : Nat) (subs : List Rx) (ls : List (List Value)) (w : World) (t : ByteArray) (aa : Option Addr) (ca : Nat) (f : List Bool) (hw : ∀ s ∈ subs, wf 3 d s) (hl : subs.length ≤ 3) (h3 : ls.length = subs.length) (h4 : ∀ x ∈ ls, x.length = 7) (h5 : Sl w w.heap.size sa (ls.flatMap id)) (h6 : ∀ x ∈ subs.zip ls, RgC w w.heap.size d x.1 x.2) (ha : Sl w w.heap.size aa (f.map .bool)) (hf : f.length = t.size + 1) (ht : t.size ≤ 1000) :
    Calls Tryd.prog 36 #[.agg (rxc 18 mn mx ra rn rc sa subs.length sc).toArray, .string t, .slice aa f.length ca] w fun e w' => ∃ v, e = .returned v ∧ BS w' w.heap.size v (rch (catL (subs.map (lang d))) (byL t) f) ∧ Below w.heap.size w w' := by
  obtain ⟨i0, hi0, hz0, hz1, hz2⟩ := info_parts infoO
  have hmk := run_bools (t.size + 1) (by omega)
  rw [Int.natCast_succ] at hmk
  have hfl : 1 ≤ f.length ∧ f.length ≤ 1001 := by omega
  have HB := Lib.hid (Bx.new w (rxc 18 mn mx ra rn rc sa subs.length sc))
  have HA := Lib.hid ha
  have HF := Lib.hid hf
  have HS := Lib.hid (And.intro h3 (And.intro h4 (And.intro h5 h6)))
  have HW := Lib.hid hw
  have IH := Lib.hid IH
  have HR := Lib.hid (show rch (catL (subs.map (lang d))) (byL t) f = catR (byL t) (subs.map (lang d)) f from (catR_is _ _ f (by rw [hf, byL_len])).symm)
  clear ha hf h3 h4 h5 h6 hw
  unfold rxc at *
  go_enter Tryd.func36, Tryd.ntmps36
  go_upto_region 28 with fail
  refine name_world ?_
  intro w2 hw2
  have HBX := Lib.hid (show Bx w w2 _ from by rw [hw2]; exact HB.out.go ((Below.refl _ _).alloc (Nat.le_refl _) _))
  have HB2 := Lib.hid HBX.out.l
  clear hw2
  go_wp2_with (first | (at_builtin; refine list_spread rfl (.tmp 128) (.tmp 129) 35 rfl w.heap.size w.heap.size 4 i0 _ 1 1 Tryd.underlying35 hi0 hz0 hz1 hz2 rfl (by omega) (.slice (some ⟨w2.heap.size, 0, none⟩) 0 0) 0 [] rfl (own_zero w2 HB2.out.size) aa f.length ca (f.map .bool) rfl (by simp) (HA.out.below (HB2.out.alloc HB2.out.size _)) (fun u hu => by obtain ⟨x, -, rfl⟩ := List.mem_map.1 hu; rfl) (by unfold maxLen; omega) (by omega) (by have := HB2.out.size; simp; omega) ?_; intro v3 w3 ho3 hg3 hat3; simp only [Nat.zero_add, List.nil_append] at ho3; have HG3 := Lib.hid (copy_low HB2.out hg3); have HC := Lib.hid (copy_bs HB2.out ho3 hg3 (by omega)); clear ho3 hg3 hat3) | fail)
  obtain ⟨g0, c0, rfl⟩ := HC.out.1.form
  have HB3 := Lib.hid (show Bx w w3 _ from ⟨(HG3.out.block w.heap.size (by have := HBX.out.s; omega)).trans HBX.out.b, HC.out.2, Nat.le_trans HBX.out.s HG3.out.size⟩)
  go_loopw [7, 14] (fun v7 v14 wr => ∃ (i g c : Nat), i ≤ subs.length ∧ v14 = .int .i64 i ∧ v7 = .slice (some ⟨g, 0, none⟩) f.length c ∧ Hid (BS wr w.heap.size v7 (catR (byL t) ((subs.take i).map (lang d)) f) ∧ Bx w wr [.int .i64 18, .slice ra rn rc, .int .i64 mn, .int .i64 mx, .bool false, .bool false, .slice sa subs.length sc])) (fun _ v14 _ => subs.length - (intOf v14).toNat)
  case atStart => exact ⟨0, g0, c0, by omega, rfl, rfl, Lib.hid ⟨HC.out.1, HB3.out⟩⟩
  case round =>
    obtain ⟨i, g, c, hi, rfl, rfl, H1⟩ := hrel
    have c6 := H1.out.2.b.cell 6
    simp only [List.getElem?_cons_zero, List.getElem?_cons_succ] at c6
    have HLN := Lib.hid (show (catR (byL t) ((subs.take i).map (lang d)) f).length = f.length from H1.out.1.len.symm)
    by_cases hlt : i < subs.length
    · obtain ⟨ad, v0, v1, v2, v3, v4, v5, v6, rfl, -, hR, e0, e1, e2, e3, e4, e5, e6⟩ := sub_at HS.out.1 HS.out.2.1 (HS.out.2.2.1.below H1.out.2.l) (fun x hx => (HS.out.2.2.2 x hx).below H1.out.2.l) i hlt
      have CR0 := IH.out wr subs[i] _ t (some ⟨g, 0, none⟩) c _ (hR.more H1.out.2.l.size) (HW.out _ (List.getElem_mem hlt)) H1.out.1.sl' (by rw [HLN.out]; exact HF.out) ht
      rw [HLN.out] at CR0
      have CR := Lib.hid CR0
      have HT := Lib.hid (map_take_snoc (d := d) subs i hlt)
      clear hR CR0
      go_wp2_with (first | (go_at_call 36; refine CR.out.mono ?_; rintro e w5 ⟨v, rfl, h5, hb5⟩; obtain ⟨g5, c5, rfl⟩ := h5.formN (n := f.length) (by rw [rch_len, byL_len, HF.out]); have H5 := Lib.hid (And.intro h5 hb5); clear h5 hb5) | fail)
      go_roundw
      case rel => exact ⟨i + 1, g5, c5, by omega, by go_num, rfl, Lib.hid ⟨by rw [HT.out, catR_snoc]; exact H5.out.1.more H1.out.2.l.size, H1.out.2.go H5.out.2⟩⟩
      case measure => simp [intOf]; omega
    · obtain rfl : i = subs.length := by omega
      have H2 := Lib.hid (show BS wr w.heap.size (.slice (some ⟨g, 0, none⟩) f.length c) (rch (catL (subs.map (lang d))) (byL t) f) from by
        rw [HR.out]
        have := H1.out.1
        rw [List.take_length] at this
        exact this)
      go_wp2
      go_ret
      exact ⟨_, rfl, H2.out, H1.out.2.l⟩
end Go.Proofs.YtbkpgfccghombaaDoor.rx

/-! Where words of an expression can end: ways beside each other. Conditions: as stated. -/
namespace Go.Proofs.YtbkpgfccghombaaDoor.rx
open Go.ChangeShapes Go.WideShapes Go.ChangeAt Go.RowKit
set_option linter.unusedVariables false
set_option linter.unusedSimpArgs false

theorem made_list (c : Nat) : madeCells #[.bool false] c = ((List.replicate c false).map Value.bool).toArray := by
  apply Array.toList_inj.1
  rw [toList_madeCells_one]
  simp
theorem blk_made (w : World) (c : Nat) : Blk (w.alloc (.cells (madeCells #[.bool false] c) 4)) w.heap.size 4 ((List.replicate c false).map Value.bool) := by
  rw [made_list]
  exact Blk.new w _ _
theorem bs_made {w : World} {B c : Nat} (hB : B ≤ w.heap.size) : BS (w.alloc (.cells (madeCells #[.bool false] c) 4)) B (.slice (some ⟨w.heap.size, 0, none⟩) c c) (List.replicate c false) :=
  ⟨w.heap.size, c, [], by simp, hB, by rw [List.append_nil]; exact blk_made w c⟩
theorem either_n {n : Nat} (aa ab : Option Addr) (ca cb : Nat) (a b : List Bool) (w : World) (ha : Sl w w.heap.size aa (a.map .bool)) (hb : Sl w w.heap.size ab (b.map .bool)) (hla : a.length = n) (hlb : b.length = n) (hn : 0 < n) (hn2 : n ≤ 1000000) :
    Calls Tryd.prog 49 #[.slice aa n ca, .slice ab n cb] w fun e w' => ∃ g c, e = .returned (.slice (some ⟨g, 0, none⟩) n c) ∧ BS w' w.heap.size (.slice (some ⟨g, 0, none⟩) n c) (orS a b) ∧ Below w.heap.size w w' := by
  subst hla
  have h := either_any aa ab ca cb a b w ha hb hlb.symm hn hn2
  rw [hlb] at h
  refine h.mono ?_
  rintro e w' ⟨v, rfl, h1, h2⟩
  obtain ⟨g, c, rfl⟩ := h1.formN (n := a.length) (by rw [orS_len hlb.symm])
  exact ⟨g, c, rfl, h1, h2⟩
set_option maxRecDepth 100000 in
set_option maxHeartbeats 1600000 in
theorem reach_alt {d : Nat} (IH : ReOk d) (mn mx : Int) (ra : Option Addr) (rn rc : Nat) (sa : Option Addr) (sc : Nat) (subs : List Rx) (ls : List (List Value)) (w : World) (t : ByteArray) (aa : Option Addr) (ca : Nat) (f : List Bool) (hw : ∀ s ∈ subs, wf 3 d s) (hl : subs.length ≤ 3) (hne : subs ≠ []) (h3 : ls.length = subs.length) (h4 : ∀ x ∈ ls, x.length = 7) (h5 : Sl w w.heap.size sa (ls.flatMap id)) (h6 : ∀ x ∈ subs.zip ls, RgC w w.heap.size d x.1 x.2) (ha : Sl w w.heap.size aa (f.map .bool)) (hf : f.length = t.size + 1) (ht : t.size ≤ 1000) :
    Calls Tryd.prog 36 #[.agg (rxc 19 mn mx ra rn rc sa subs.length sc).toArray, .string t, .slice aa f.length ca] w fun e w' => ∃ v, e = .returned v ∧ BS w' w.heap.size v (rch (altL (subs.map (lang d))) (byL t) f) ∧ Below w.heap.size w w' := by
  have hmk := run_bools (t.size + 1) (by omega)
  rw [Int.natCast_succ] at hmk
  have hfl : 1 ≤ f.length ∧ f.length ≤ 1001 := by omega
  have HB := Lib.hid (Bx.new w (rxc 19 mn mx ra rn rc sa subs.length sc))
  have HA := Lib.hid ha
  have HF := Lib.hid hf
  have HS := Lib.hid (And.intro h3 (And.intro h4 (And.intro h5 h6)))
  have HW := Lib.hid hw
  have IH := Lib.hid IH
  have HR := Lib.hid (show rch (altL (subs.map (lang d))) (byL t) f = altR (byL t) (subs.map (lang d)) f from (altR_is _ _ (by simpa using hne) f).symm)
  have HM := Lib.hid (show ∀ W : World, w.heap.size ≤ W.heap.size → BS (W.alloc (.cells (madeCells #[.bool false] (t.size + 1)) 4)) w.heap.size (.slice (some ⟨W.heap.size, 0, none⟩) (t.size + 1) (t.size + 1)) (altR (byL t) ((subs.take 0).map (lang d)) f) from fun W hW => by
    have := bs_made (c := t.size + 1) hW
    rw [← byL_len] at this ⊢
    exact this)
  clear ha hf h3 h4 h5 h6 hw hne
  unfold rxc at *
  go_enter Tryd.func36, Tryd.ntmps36
  go_upto_region 34 with fail
  refine name_world ?_
  intro w2 hw2
  have HBX := Lib.hid (show Bx w w2 _ from by rw [hw2]; exact HB.out.go ((Below.refl _ _).alloc (Nat.le_refl _) _))
  have HM2 := Lib.hid (show BS w2 w.heap.size (.slice (some ⟨w.heap.size + 1, 0, none⟩) (t.size + 1) (t.size + 1)) (altR (byL t) ((subs.take 0).map (lang d)) f) from by
    rw [hw2]
    have := HM.out (w.alloc (.cells #[.int .i64 19, .slice ra rn rc, .int .i64 mn, .int .i64 mx, .bool false, .bool false, .slice sa subs.length sc] 25)) (by simp)
    simpa using this)
  clear hw2
  go_wp2_with fail
  go_loopw [7, 15] (fun v7 v15 wr => ∃ (i g c : Nat), i ≤ subs.length ∧ v15 = .int .i64 i ∧ v7 = .slice (some ⟨g, 0, none⟩) f.length c ∧ Hid (BS wr w.heap.size v7 (altR (byL t) ((subs.take i).map (lang d)) f) ∧ Bx w wr [.int .i64 19, .slice ra rn rc, .int .i64 mn, .int .i64 mx, .bool false, .bool false, .slice sa subs.length sc])) (fun _ v15 _ => subs.length - (intOf v15).toNat)
  case atStart => exact ⟨0, _, _, by omega, rfl, by rw [HF.out], Lib.hid ⟨HM2.out, HBX.out⟩⟩
  case round =>
    obtain ⟨i, g, c, hi, rfl, rfl, H1⟩ := hrel
    have c6 := H1.out.2.b.cell 6
    simp only [List.getElem?_cons_zero, List.getElem?_cons_succ] at c6
    by_cases hlt : i < subs.length
    · obtain ⟨ad, v0, v1, v2, v3, v4, v5, v6, rfl, -, hR, e0, e1, e2, e3, e4, e5, e6⟩ := sub_at HS.out.1 HS.out.2.1 (HS.out.2.2.1.below H1.out.2.l) (fun x hx => (HS.out.2.2.2 x hx).below H1.out.2.l) i hlt
      have CR := Lib.hid (IH.out wr subs[i] _ t aa ca f (hR.more H1.out.2.l.size) (HW.out _ (List.getElem_mem hlt)) ((HA.out.below H1.out.2.l).more H1.out.2.l.size) HF.out ht)
      have HT := Lib.hid (map_take_snoc (d := d) subs i hlt)
      clear hR
      go_wp2_with (first | (go_at_call 36; refine CR.out.mono ?_; rintro e w5 ⟨v, rfl, h5, hb5⟩; obtain ⟨g5, c5, rfl⟩ := h5.formN (n := f.length) (by rw [rch_len, byL_len, HF.out]); have H5 := Lib.hid (And.intro h5 hb5); clear h5 hb5; have CE := Lib.hid (either_n (n := f.length) (some ⟨g, 0, none⟩) (some ⟨g5, 0, none⟩) c c5 _ _ w5 (H1.out.1.go H5.out.2).sl' H5.out.1.sl' (by rw [altR_len, byL_len, HF.out]) (by rw [rch_len, byL_len, HF.out]) (by omega) (by omega))) | (go_at_call 49; refine CE.out.mono ?_; rintro e w6 ⟨g6, c6, rfl, h6, hb6⟩; have H6 := Lib.hid (And.intro h6 hb6); clear h6 hb6) | fail)
      go_roundw
      case rel => exact ⟨i + 1, g6, c6, by omega, by go_num, rfl, Lib.hid ⟨by rw [HT.out, altR_snoc]; exact H6.out.1.more (Nat.le_trans H1.out.2.l.size H5.out.2.size), (H1.out.2.go H5.out.2).go H6.out.2⟩⟩
      case measure => simp [intOf]; omega
    · obtain rfl : i = subs.length := by omega
      have H2 := Lib.hid (show BS wr w.heap.size (.slice (some ⟨g, 0, none⟩) f.length c) (rch (altL (subs.map (lang d))) (byL t) f) from by
        rw [HR.out]
        have := H1.out.1
        rw [List.take_length] at this
        exact this)
      go_wp2
      go_ret
      exact ⟨_, rfl, H2.out, H1.out.2.l⟩
end Go.Proofs.YtbkpgfccghombaaDoor.rx

/-! Where words of an expression can end: a part again and again. Conditions: as stated. -/
namespace Go.Proofs.YtbkpgfccghombaaDoor.rx
open Go.ChangeShapes Go.WideShapes Go.ChangeAt Go.RowKit
set_option linter.unusedVariables false
set_option linter.unusedSimpArgs false

theorem rch_pow_zero {X : Lg} {s : List Int} {f : List Bool} (hl : f.length = s.length + 1) : rch (powL X 0) s f = f := rch_eps hl
/-- how often: at least, at most -/
def tms (op mn mx : Int) : Int × Int := if op = 14 then (0, -1) else if op = 15 then (1, -1) else if op = 16 then (0, 1) else (mn, mx)
set_option maxRecDepth 100000 in
theorem times_any (op mn mx : Int) (ra : Option Addr) (rn rc : Nat) (sa : Option Addr) (sn sc : Nat) (w : World) :
    Calls Tryd.prog 50 #[.agg (rxc op mn mx ra rn rc sa sn sc).toArray] w fun e w' => e = .returned (.tuple #[.int .i64 (tms op mn mx).1, .int .i64 (tms op mn mx).2]) ∧ Below w.heap.size w w' := by
  have HBW := Lib.hid ((Below.refl w.heap.size w).alloc (Nat.le_refl _) (.cells (rxc op mn mx ra rn rc sa sn sc).toArray 25))
  by_cases h14 : op = 14
  · have HT := Lib.hid (show tms op mn mx = (0, -1) from if_pos h14)
    subst h14
    rw [HT.out]
    unfold rxc at *
    go_enter Tryd.func50, Tryd.ntmps50
    go_wp2
    go_ret2
    exact ⟨rfl, HBW.out⟩
  by_cases h15 : op = 15
  · have HT := Lib.hid (show tms op mn mx = (1, -1) from by unfold tms; rw [if_neg h14, if_pos h15])
    subst h15
    clear h14
    rw [HT.out]
    unfold rxc at *
    go_enter Tryd.func50, Tryd.ntmps50
    go_wp2
    go_ret2
    exact ⟨rfl, HBW.out⟩
  by_cases h16 : op = 16
  · have HT := Lib.hid (show tms op mn mx = (0, 1) from by unfold tms; rw [if_neg h14, if_neg h15, if_pos h16])
    subst h16
    clear h14 h15
    rw [HT.out]
    unfold rxc at *
    go_enter Tryd.func50, Tryd.ntmps50
    go_wp2
    go_ret2
    exact ⟨rfl, HBW.out⟩
  have HT := Lib.hid (show tms op mn mx = (mn, mx) from by unfold tms; rw [if_neg h14, if_neg h15, if_neg h16])
  have e14 : (op == 14) = false := by rw [beq_eq_false_iff_ne]; exact h14
  have e15 : (op == 15) = false := by rw [beq_eq_false_iff_ne]; exact h15
  have e16 : (op == 16) = false := by rw [beq_eq_false_iff_ne]; exact h16
  clear h14 h15 h16
  rw [HT.out]
  unfold rxc at *
  go_enter Tryd.func50, Tryd.ntmps50
  go_upto_region 8 with fail
  go_quiet (fail)
  go_wp2
  go_ret2
  exact ⟨rfl, ⟨HBW.out.os, HBW.out.tape, HBW.out.output, HBW.out.size, HBW.out.block⟩⟩
set_option maxRecDepth 100000 in
set_option maxHeartbeats 3200000 in
theorem rep_any {d : Nat} (IH : ReOk d) (w : World) (r : Rx) (cs : List Value) (t : ByteArray) (aa : Option Addr) (ca : Nat) (f : List Bool) (a : Nat) (hi : Int) (n : Nat) (hR : RgC w w.heap.size d r cs) (hw : wf 3 d r) (ha : Sl w w.heap.size aa (f.map .bool)) (hf : f.length = t.size + 1) (ht : t.size ≤ 1000) (h10 : a ≤ 10)
    (hn : hi < 0 ∧ n = t.size + 1 ∨ 0 ≤ hi ∧ hi = ((a + n : Nat) : Int) ∧ hi ≤ 10) :
    Calls Tryd.prog 51 #[.agg cs.toArray, .string t, .slice aa f.length ca, .int .i64 (a : Int), .int .i64 hi] w fun e w' => ∃ v, e = .returned v ∧ BS w' w.heap.size v (rch (uptoL (lang d r) a n) (byL t) f) ∧ Below w.heap.size w w' := by
  obtain ⟨i0, hi0, hz0, hz1, hz2⟩ := info_parts infoO
  have hfl : 1 ≤ f.length ∧ f.length ≤ 1001 := by omega
  have hnl : n ≤ 1001 := by omega
  obtain ⟨v0, v1, v2, v3, v4, v5, v6, rfl⟩ := seven hR.len
  have HB := Lib.hid (Bx.new w [v0, v1, v2, v3, v4, v5, v6])
  have HA := Lib.hid ha
  have HF := Lib.hid hf
  have HFB := Lib.hid (show f.length = (byL t).length + 1 from by rw [byL_len, hf])
  have HR := Lib.hid hR
  have HW := Lib.hid hw
  have IH := Lib.hid IH
  have HN := Lib.hid hn
  generalize hX : lang d r = X at *
  have HX := Lib.hid hX
  clear ha hf hR hw hX hn
  go_enter Tryd.func51, Tryd.ntmps51
  go_upto_region 1 with fail
  refine name_world ?_
  intro w2 hw2
  have HBX := Lib.hid (show Bx w w2 _ from by rw [hw2]; exact HB.out)
  have HB2 := Lib.hid HBX.out.l
  clear hw2
  go_wp2_with (first | (at_builtin; refine list_spread rfl (.tmp 15) (.tmp 16) 35 rfl w.heap.size w.heap.size 4 i0 _ 1 1 Tryd.underlying35 hi0 hz0 hz1 hz2 rfl (by omega) (.slice (some ⟨w2.heap.size, 0, none⟩) 0 0) 0 [] rfl (own_zero w2 HB2.out.size) aa f.length ca (f.map .bool) rfl (by simp) (HA.out.below (HB2.out.alloc HB2.out.size _)) (fun u hu => by obtain ⟨x, -, rfl⟩ := List.mem_map.1 hu; rfl) (by unfold maxLen; omega) (by omega) (by have := HB2.out.size; simp; omega) ?_; intro v3 w3 ho3 hg3 hat3; simp only [Nat.zero_add, List.nil_append] at ho3; have HG3 := Lib.hid (copy_low HB2.out hg3); have HC := Lib.hid (copy_bs HB2.out ho3 hg3 (by omega)); clear ho3 hg3 hat3) | fail)
  obtain ⟨g0, c0, rfl⟩ := HC.out.1.form
  have HB3 := Lib.hid (show Bx w w3 _ from ⟨(HG3.out.block w.heap.size (by have := HBX.out.s; omega)).trans HBX.out.b, HC.out.2, Nat.le_trans HBX.out.s HG3.out.size⟩)
  go_loopw [11, 12] (fun v11 v12 wr => ∃ (i g c : Nat), i ≤ a ∧ v12 = .int .i64 i ∧ v11 = .slice (some ⟨g, 0, none⟩) f.length c ∧ Hid (BS wr w.heap.size v11 (rch (powL X i) (byL t) f) ∧ Bx w wr [v0, v1, v2, v3, v4, v5, v6])) (fun _ v12 _ => a - (intOf v12).toNat)
  case atStart => exact ⟨0, g0, c0, by omega, rfl, rfl, Lib.hid ⟨by rw [rch_pow_zero HFB.out]; exact HC.out.1, HB3.out⟩⟩
  case round =>
    obtain ⟨i, g, c, hi2, rfl, rfl, H1⟩ := hrel
    have e0 := H1.out.2.b.cell 0
    have e1 := H1.out.2.b.cell 1
    have e2 := H1.out.2.b.cell 2
    have e3 := H1.out.2.b.cell 3
    have e4 := H1.out.2.b.cell 4
    have e5 := H1.out.2.b.cell 5
    have e6 := H1.out.2.b.cell 6
    simp only [List.getElem?_cons_zero, List.getElem?_cons_succ] at e0 e1 e2 e3 e4 e5 e6
    have HLN := Lib.hid (show (rch (powL X i) (byL t) f).length = f.length from by rw [rch_len, byL_len, HF.out])
    by_cases hlt : i < a
    · have CR0 := IH.out wr r _ t (some ⟨g, 0, none⟩) c _ ((HR.out.below H1.out.2.l).more H1.out.2.l.size) HW.out H1.out.1.sl' (by rw [HLN.out]; exact HF.out) ht
      rw [HLN.out, HX.out] at CR0
      have CR := Lib.hid CR0
      clear CR0
      go_wp2_with (first | (go_at_call 36; refine CR.out.mono ?_; rintro e w5 ⟨v, rfl, h5, hb5⟩; obtain ⟨g5, c5, rfl⟩ := h5.formN (n := f.length) (by rw [rch_len, byL_len, HF.out]); have H5 := Lib.hid (And.intro h5 hb5); clear h5 hb5) | fail)
      go_roundw
      case rel => exact ⟨i + 1, g5, c5, by omega, by go_num, rfl, Lib.hid ⟨by rw [rch_pow_succ]; exact H5.out.1.more H1.out.2.l.size, H1.out.2.go H5.out.2⟩⟩
      case measure => simp [intOf]; omega
    · obtain rfl : i = a := by omega
      have HBw := Lib.hid H1.out.2.l
      have HSl := Lib.hid (H1.out.1.sl')
      have HHB := Lib.hid H1.out.2
      have HC1 := Lib.hid H1.out.1
      obtain ⟨cur, hcur⟩ : ∃ x, x = rch (powL X i) (byL t) f := ⟨_, rfl⟩
      have HCU := Lib.hid hcur
      rw [← hcur] at HSl HC1 HLN
      have hcl : cur.length = f.length := HLN.out
      clear hcur H1 hlt hi2
      generalize hwq : wr = wq at *
      clear hwq
      go_wp2_with (first | (at_builtin; refine list_spread rfl (.tmp 27) (.tmp 28) 35 rfl w.heap.size wq.heap.size 4 i0 _ 1 1 Tryd.underlying35 hi0 hz0 hz1 hz2 rfl (by omega) (.slice (some ⟨wq.heap.size, 0, none⟩) 0 0) 0 [] rfl (own_zero wq HBw.out.size) (some ⟨g, 0, none⟩) f.length c (cur.map .bool) rfl (by simpa using hcl) (HSl.out.below ((Below.refl _ _).alloc (Nat.le_refl _) _)) (fun u hu => by obtain ⟨x, -, rfl⟩ := List.mem_map.1 hu; rfl) (by unfold maxLen; omega) (by omega) (by have := HBw.out.size; simp; omega) ?_; intro v3 w3 ho3 hg3 hat3; simp only [Nat.zero_add, List.nil_append] at ho3; have HG3 := Lib.hid (copy_low HBw.out hg3); have HC3 := Lib.hid (copy_bs (f := cur) HBw.out (by rw [hcl]; exact ho3) hg3 (by omega)); clear ho3 hg3 hat3) | fail)
      obtain ⟨g3, c3, rfl⟩ := HC3.out.1.formN hcl
      have HBq := Lib.hid (HHB.out.go HG3.out)
      have HCq := Lib.hid (HC1.out.go HG3.out)
      clear HHB HBw HSl HC1 HG3
      go_loopw [11, 13, 14] (fun v11 v13 v14 wr => ∃ (q j g5 c5 g6 c6 : Nat), j ≤ n ∧ i ≤ q ∧ q ≤ i + n ∧ v14 = .int .i64 (q : Int) ∧ v11 = .slice (some ⟨g5, 0, none⟩) f.length c5 ∧ v13 = .slice (some ⟨g6, 0, none⟩) f.length c6 ∧ Hid (q = i + j ∧ BS wr w.heap.size v11 (rch (powL X (i + j)) (byL t) f) ∧ BS wr w.heap.size v13 (rch (uptoL X i j) (byL t) f) ∧ Bx w wr [v0, v1, v2, v3, v4, v5, v6])) (fun _ _ v14 _ => i + n - (intOf v14).toNat)
      case atStart => exact ⟨i, 0, g, c, g3, c3, by omega, by omega, by omega, rfl, rfl, rfl, Lib.hid ⟨rfl, by rw [Nat.add_zero, ← HCU.out]; exact HCq.out, by rw [rch_upto_zero, ← HCU.out]; exact HC3.out.1, HBq.out⟩⟩
      case round =>
        obtain ⟨q, j, g5, c5, g6, c6, hj, hq1, hq2, rfl, rfl, rfl, H1⟩ := hrel
        have e0 := H1.out.2.2.2.b.cell 0
        have e1 := H1.out.2.2.2.b.cell 1
        have e2 := H1.out.2.2.2.b.cell 2
        have e3 := H1.out.2.2.2.b.cell 3
        have e4 := H1.out.2.2.2.b.cell 4
        have e5 := H1.out.2.2.2.b.cell 5
        have e6 := H1.out.2.2.2.b.cell 6
        simp only [List.getElem?_cons_zero, List.getElem?_cons_succ] at e0 e1 e2 e3 e4 e5 e6
        have CR0 := IH.out wr r _ t (some ⟨g5, 0, none⟩) c5 _ ((HR.out.below H1.out.2.2.2.l).more H1.out.2.2.2.l.size) HW.out H1.out.2.1.sl' (by rw [rch_len, byL_len]) ht
        rw [show (rch (powL X (i + j)) (byL t) f).length = f.length from by rw [rch_len, byL_len, HF.out], HX.out] at CR0
        have CR := Lib.hid CR0
        clear CR0
        have HHn := HN.out
        by_cases hneg : hi < 0
        · have hnn : n = t.size + 1 := by omega
          clear HHn
          by_cases hlt : q < i + n
          · have hlt2 : (q : Int) < (i : Int) + (t.size : Int) + 1 := by omega
            clear hnn
            go_wp2_with (first | (go_at_call 36; refine CR.out.mono ?_; rintro e w5 ⟨v, rfl, h5, hb5⟩; obtain ⟨g7, c7, rfl⟩ := h5.formN (n := f.length) (by rw [rch_len, byL_len, HF.out]); have H5 := Lib.hid (And.intro h5 hb5); clear h5 hb5; have CE := Lib.hid (either_n (n := f.length) (some ⟨g6, 0, none⟩) (some ⟨g7, 0, none⟩) c6 c7 _ _ w5 (H1.out.2.2.1.go H5.out.2).sl' H5.out.1.sl' (by rw [rch_len, byL_len, HF.out]) (by rw [rch_len, byL_len, HF.out]) (by omega) (by omega))) | (go_at_call 49; refine CE.out.mono ?_; rintro e w6 ⟨g8, c8, rfl, h6, hb6⟩; have H6 := Lib.hid (And.intro h6 hb6); clear h6 hb6) | fail)
            go_roundw
            case rel => exact ⟨q + 1, j + 1, g7, c7, g8, c8, by have := H1.out.1; omega, by omega, by omega, by go_num, rfl, rfl, Lib.hid ⟨by have := H1.out.1; omega, by rw [show i + (j + 1) = i + j + 1 from rfl, rch_pow_succ]; exact (H5.out.1.go H6.out.2).more H1.out.2.2.2.l.size, by rw [rch_upto]; exact H6.out.1.more (Nat.le_trans H1.out.2.2.2.l.size H5.out.2.size), (H1.out.2.2.2.go H5.out.2).go H6.out.2⟩⟩
            case measure => simp [intOf]; omega
          · have hlt2 : ¬ ((q : Int) < (i : Int) + (t.size : Int) + 1) := by omega
            clear hnn
            have H2 := Lib.hid (show BS wr w.heap.size (.slice (some ⟨g6, 0, none⟩) f.length c6) (rch (uptoL X i n) (byL t) f) from by
              have e := H1.out.1
              have := H1.out.2.2.1
              rw [show j = n by omega] at this
              exact this)
            have H3 := Lib.hid H1.out.2.2.2.l
            go_wp2
            go_ret
            exact ⟨_, rfl, H2.out, H3.out⟩
        · have hnn : hi = ((i + n : Nat) : Int) := by omega
          clear HHn
          by_cases hlt : q < i + n
          · have hlt2 : (q : Int) < hi := by omega
            clear hnn
            go_wp2_with (first | (go_at_call 36; refine CR.out.mono ?_; rintro e w5 ⟨v, rfl, h5, hb5⟩; obtain ⟨g7, c7, rfl⟩ := h5.formN (n := f.length) (by rw [rch_len, byL_len, HF.out]); have H5 := Lib.hid (And.intro h5 hb5); clear h5 hb5; have CE := Lib.hid (either_n (n := f.length) (some ⟨g6, 0, none⟩) (some ⟨g7, 0, none⟩) c6 c7 _ _ w5 (H1.out.2.2.1.go H5.out.2).sl' H5.out.1.sl' (by rw [rch_len, byL_len, HF.out]) (by rw [rch_len, byL_len, HF.out]) (by omega) (by omega))) | (go_at_call 49; refine CE.out.mono ?_; rintro e w6 ⟨g8, c8, rfl, h6, hb6⟩; have H6 := Lib.hid (And.intro h6 hb6); clear h6 hb6) | fail)
            go_roundw
            case rel => exact ⟨q + 1, j + 1, g7, c7, g8, c8, by have := H1.out.1; omega, by omega, by omega, by go_num, rfl, rfl, Lib.hid ⟨by have := H1.out.1; omega, by rw [show i + (j + 1) = i + j + 1 from rfl, rch_pow_succ]; exact (H5.out.1.go H6.out.2).more H1.out.2.2.2.l.size, by rw [rch_upto]; exact H6.out.1.more (Nat.le_trans H1.out.2.2.2.l.size H5.out.2.size), (H1.out.2.2.2.go H5.out.2).go H6.out.2⟩⟩
            case measure => simp [intOf]; omega
          · have hlt2 : ¬ ((q : Int) < hi) := by omega
            clear hnn
            have H2 := Lib.hid (show BS wr w.heap.size (.slice (some ⟨g6, 0, none⟩) f.length c6) (rch (uptoL X i n) (byL t) f) from by
              have e := H1.out.1
              have := H1.out.2.2.1
              rw [show j = n by omega] at this
              exact this)
            have H3 := Lib.hid H1.out.2.2.2.l
            go_wp2
            go_ret
            exact ⟨_, rfl, H2.out, H3.out⟩
set_option maxRecDepth 100000 in
set_option maxHeartbeats 1600000 in
theorem reach_rep {d : Nat} (IH : ReOk d) (op : Nat) (h14 : 14 ≤ op) (h17 : op ≤ 17) (mn mx : Int) (a n : Nat) (hi : Int) (htm : tms op mn mx = ((a : Int), hi)) (h10 : a ≤ 10) (ra : Option Addr) (rn rc : Nat) (sa : Option Addr) (sc : Nat) (r : Rx) (ls : List (List Value)) (w : World) (t : ByteArray) (aa : Option Addr) (ca : Nat) (f : List Bool) (hnn : hi < 0 ∧ n = t.size + 1 ∨ 0 ≤ hi ∧ hi = ((a + n : Nat) : Int) ∧ hi ≤ 10) (hw : wf 3 d r) (h3 : ls.length = [r].length) (h4 : ∀ x ∈ ls, x.length = 7) (h5 : Sl w w.heap.size sa (ls.flatMap id)) (h6 : ∀ x ∈ [r].zip ls, RgC w w.heap.size d x.1 x.2) (ha : Sl w w.heap.size aa (f.map .bool)) (hf : f.length = t.size + 1) (ht : t.size ≤ 1000) :
    Calls Tryd.prog 36 #[.agg (rxc op mn mx ra rn rc sa 1 sc).toArray, .string t, .slice aa f.length ca] w fun e w' => ∃ v, e = .returned v ∧ BS w' w.heap.size v (rch (uptoL (lang d r) a n) (byL t) f) ∧ Below w.heap.size w w' := by
  have hmk := run_bools (t.size + 1) (by omega)
  rw [Int.natCast_succ] at hmk
  have HB := Lib.hid (Bx.new w (rxc op mn mx ra rn rc sa 1 sc))
  have HA := Lib.hid ha
  have HF := Lib.hid hf
  have HS := Lib.hid (And.intro h3 (And.intro h4 (And.intro h5 h6)))
  have HW := Lib.hid hw
  have IH := Lib.hid IH
  have HNN := Lib.hid hnn
  have CT := Lib.hid (fun W => times_any op mn mx ra rn rc sa 1 sc W)
  rw [htm] at CT
  have g2 : ((op : Int) == 2) = false := by rw [beq_eq_false_iff_ne]; omega
  have g3 : ((op : Int) == 3) = false := by rw [beq_eq_false_iff_ne]; omega
  have g4 : ((op : Int) == 4) = false := by rw [beq_eq_false_iff_ne]; omega
  have g5 : ((op : Int) == 5) = false := by rw [beq_eq_false_iff_ne]; omega
  have g6 : ((op : Int) == 6) = false := by rw [beq_eq_false_iff_ne]; omega
  have g13 : ((op : Int) == 13) = false := by rw [beq_eq_false_iff_ne]; omega
  have g18 : ((op : Int) == 18) = false := by rw [beq_eq_false_iff_ne]; omega
  have g19 : ((op : Int) == 19) = false := by rw [beq_eq_false_iff_ne]; omega
  clear ha hf h3 h4 h5 h6 hw hnn htm h14 h17
  unfold rxc at *
  go_enter Tryd.func36, Tryd.ntmps36
  go_upto_region 3 with fail
  refine name_world ?_
  intro w2 hw2
  have HB2 := Lib.hid (show Bx w w2 _ from by rw [hw2]; exact HB.out.go ((Below.refl _ _).alloc (Nat.le_refl _) _))
  clear hw2 g2 g3 g4 g5 g6 g13 g18 g19
  have c0 := HB2.out.b.cell 0
  have c1 := HB2.out.b.cell 1
  have c2 := HB2.out.b.cell 2
  have c3 := HB2.out.b.cell 3
  have c4 := HB2.out.b.cell 4
  have c5 := HB2.out.b.cell 5
  have c6 := HB2.out.b.cell 6
  simp only [List.getElem?_cons_zero, List.getElem?_cons_succ] at c0 c1 c2 c3 c4 c5 c6
  go_wp2_with (first | (go_at_call 50; refine (CT.out _).mono ?_; rintro e w5 ⟨rfl, hb5⟩; have HB5 := Lib.hid (HB2.out.go hb5); clear hb5 c0 c1 c2 c3 c4 c5 c6; have c6 := HB5.out.b.cell 6; simp only [List.getElem?_cons_zero, List.getElem?_cons_succ] at c6; obtain ⟨ad, v0, v1, v2, v3, v4, v5, v6, rfl, -, hR, e0, e1, e2, e3, e4, e5, e6⟩ := sub_at HS.out.1 HS.out.2.1 (HS.out.2.2.1.below HB5.out.l) (fun x hx => (HS.out.2.2.2 x hx).below HB5.out.l) 0 (by simp); simp only [Nat.zero_mul, add0] at e0 e1 e2 e3 e4 e5 e6; have CR := Lib.hid (rep_any IH.out w5 r [v0, v1, v2, v3, v4, v5, v6] t aa ca f a hi n (hR.more HB5.out.l.size) HW.out ((HA.out.below HB5.out.l).more HB5.out.l.size) HF.out ht h10 HNN.out); clear hR) | (go_at_call 51; refine CR.out.mono ?_; rintro e w6 ⟨v, rfl, h7, hb7⟩; have H7 := Lib.hid (And.intro (h7.more HB5.out.l.size) (HB5.out.l.trans (hb7.mono HB5.out.l.size))); clear h7 hb7) | fail)
  go_ret
  exact ⟨_, rfl, H7.out.1, H7.out.2⟩
end Go.Proofs.YtbkpgfccghombaaDoor.rx

/-! Where words of an expression can end: classes. Printed by mkrtc.py. Conditions: as stated. -/
namespace Go.Proofs.YtbkpgfccghombaaDoor.rx
open Go.ChangeShapes Go.WideShapes Go.ChangeAt Go.RowKit
set_option linter.unusedVariables false
set_option linter.unusedSimpArgs false

theorem rneF_pos (s : List Int) (hs : okB s) (h : 0 < (rneF s).2) : isL (rneF s).1 = true ∧ (rneF s).2 = (((ub (rneF s).1).length : Nat) : Int) := by
  by_cases h1 : s = [] ∨ lng (s.getD 0 0) = 0 ∨ (s.length : Int) < lng (s.getD 0 0)
  · unfold rneF at h
    rw [if_pos h1] at h
    simp at h
  · by_cases h2 : (rns (s.take (lng (s.getD 0 0)).toNat)).2.2 = true ∧ (rns (s.take (lng (s.getD 0 0)).toNat)).1 = (rns (s.take (lng (s.getD 0 0)).toNat)).2.1 ∧ isL (rns (s.take (lng (s.getD 0 0)).toNat)).1 = true
    · have e : rneF s = ((rns (s.take (lng (s.getD 0 0)).toNat)).1, lng (s.getD 0 0)) := by unfold rneF; rw [if_neg h1, if_pos h2]
      have hn := lng_inv (s.getD 0 0)
      have hlt : (s.take (lng (s.getD 0 0)).toNat).length = (lng (s.getD 0 0)).toNat := by rw [List.length_take]; omega
      obtain ⟨v, hv⟩ := (rns_iff (s.take (lng (s.getD 0 0)).toNat) (by intro e; rw [e] at hlt; have h9 : (0 : Nat) = (lng (s.getD 0 0)).toNat := hlt; have h8 : lng (s.getD 0 0) ≠ 0 := fun h => h1 (.inr (.inl h)); omega) (fun x hx => hs x (List.mem_of_mem_take hx)) _ h2.2.2).2 ⟨h2.1, Int.le_refl _, Int.le_of_eq h2.2.1⟩
      have hl := ub_lead _ h2.2.2
      have hg : (ub (rns (s.take (lng (s.getD 0 0)).toNat)).1).getD 0 0 = s.getD 0 0 := by
        rw [hv]
        match s, (show 0 < (lng (s.getD 0 0)).toNat by omega), h1 with
        | [], _, h1 => simp at h1
        | x :: r, h3, _ =>
          obtain ⟨k, hk⟩ : ∃ k, (lng ((x :: r).getD 0 0)).toNat = k + 1 := ⟨(lng ((x :: r).getD 0 0)).toNat - 1, by omega⟩
          rw [hk]
          rfl
      rw [e]
      exact ⟨h2.2.2, by rw [← hl, hg]⟩
    · unfold rneF at h
      rw [if_neg h1, if_neg h2] at h
      simp at h
theorem rneF_le (s : List Int) (hs : okB s) (h : 0 < (rneF s).2) : (rneF s).2 ≤ s.length := by
  obtain ⟨h1, h2⟩ := rneF_pos s hs h
  obtain ⟨v, hv⟩ := (rneF_iff s hs _ h1).2 (by rw [← h2])
  have := congrArg List.length hv
  rw [List.length_append] at this
  omega
def clsStep (l s : List Int) (f : List Bool) (cur : List Bool) (i : Nat) : List Bool := if f.getD i false = true ∧ 0 < (rneF (s.drop i)).2 ∧ inP l (rneF (s.drop i)).1 = true then cur.set (i + (rneF (s.drop i)).2.toNat) true else cur
/-- the places behind a rune of pairs: so many beginnings looked at -/
def clsR (l s : List Int) (f : List Bool) (n : Nat) : List Bool := (List.range n).foldl (clsStep l s f) (List.replicate (s.length + 1) false)
theorem clsR_succ (l s : List Int) (f : List Bool) (n : Nat) : clsR l s f (n + 1) = clsStep l s f (clsR l s f n) n := by
  unfold clsR
  rw [List.range_succ, List.foldl_append]
  rfl
theorem clsStep_len (l s : List Int) (f cur : List Bool) (i : Nat) : (clsStep l s f cur i).length = cur.length := by
  unfold clsStep
  split <;> simp
theorem clsR_len (l s : List Int) (f : List Bool) : ∀ n, (clsR l s f n).length = s.length + 1
  | 0 => by simp [clsR]
  | n + 1 => by rw [clsR_succ, clsStep_len, clsR_len l s f n]
theorem getD_true {f : List Bool} {i : Nat} : f.getD i false = true ↔ f[i]? = some true := by
  rw [List.getD_eq_getElem?_getD]
  cases f[i]? <;> simp
theorem clsR_at (l s : List Int) (hs : okB s) (f : List Bool) : ∀ (n j : Nat), n ≤ s.length → ((clsR l s f n)[j]? = some true ↔ ∃ i, i < n ∧ f[i]? = some true ∧ 0 < (rneF (s.drop i)).2 ∧ inP l (rneF (s.drop i)).1 = true ∧ j = i + (rneF (s.drop i)).2.toNat)
  | 0, j, _ => by
    unfold clsR
    simp only [List.range_zero, List.foldl_nil, List.getElem?_replicate]
    constructor
    · intro h
      split at h <;> simp at h
    · rintro ⟨i, h, -⟩
      omega
  | n + 1, j, hn => by
    have ih := clsR_at l s hs f n j (by omega)
    have hl := clsR_len l s f n
    rw [clsR_succ]
    unfold clsStep
    by_cases hc : f.getD n false = true ∧ 0 < (rneF (s.drop n)).2 ∧ inP l (rneF (s.drop n)).1 = true
    · rw [if_pos hc]
      have hle := rneF_le (s.drop n) (fun x hx => hs x (List.mem_of_mem_drop hx)) hc.2.1
      rw [List.length_drop] at hle
      rw [List.getElem?_set]
      by_cases hj : n + (rneF (s.drop n)).2.toNat = j
      · rw [if_pos hj, if_pos (by omega)]
        exact ⟨fun _ => ⟨n, by omega, getD_true.1 hc.1, hc.2.1, hc.2.2, hj.symm⟩, fun _ => rfl⟩
      · rw [if_neg hj, ih]
        constructor
        · rintro ⟨i, h1, h2⟩
          exact ⟨i, by omega, h2⟩
        · rintro ⟨i, h1, h2⟩
          refine ⟨i, ?_, h2⟩
          rcases Nat.lt_or_ge i n with h | h
          · exact h
          · obtain rfl : i = n := by omega
            exact absurd h2.2.2.2.symm hj
    · rw [if_neg hc, ih]
      constructor
      · rintro ⟨i, h1, h2⟩
        exact ⟨i, by omega, h2⟩
      · rintro ⟨i, h1, h2⟩
        refine ⟨i, ?_, h2⟩
        rcases Nat.lt_or_ge i n with h | h
        · exact h
        · obtain rfl : i = n := by omega
          exact absurd ⟨getD_true.2 h2.1, h2.2.1, h2.2.2.1⟩ hc
theorem seg_eq (s : List Int) (i j : Nat) : seg s i j = (s.drop i).take (j - i) := by
  unfold seg
  rw [List.drop_take]
theorem inP_iff (l : List Int) (c : Int) : inP l c = true ↔ ∃ p ∈ pairs l, p.1 ≤ c ∧ c ≤ p.2 := by
  unfold inP
  rw [List.any_eq_true]
  simp only [decide_eq_true_eq]
theorem clsR_is (l s : List Int) (hs : okB s) (f : List Bool) : clsR l s f s.length = rch (clsL (pairs l)) s f := by
  have hd : ∀ i, okB (s.drop i) := fun i x hx => hs x (List.mem_of_mem_drop hx)
  refine set_ext (by rw [clsR_len, rch_len]) fun j hj => ?_
  rw [clsR_len] at hj
  rw [clsR_at l s hs f _ j (Nat.le_refl _), rch_at]
  constructor
  · rintro ⟨i, h1, h2, h3, h4, h5⟩
    obtain ⟨g1, g2⟩ := rneF_pos _ (hd i) h3
    obtain ⟨v, hv⟩ := (rneF_iff _ (hd i) _ g1).2 (by rw [← g2])
    obtain ⟨p, hp, h6, h7⟩ := (inP_iff l _).1 h4
    refine ⟨by omega, i, by omega, h2, p, hp, _, g1, h6, h7, ?_⟩
    have g3 : (rneF (s.drop i)).2.toNat = (ub (rneF (s.drop i)).1).length := by omega
    have g4 : j - i = (ub (rneF (s.drop i)).1).length := by omega
    rw [seg_eq, g4]
    generalize ub (rneF (s.drop i)).1 = u at *
    rw [hv]
    simp
  · rintro ⟨h1, i, h2, h3, p, hp, c, hc, h6, h7, h8⟩
    have hl := congrArg List.length h8
    rw [seg_len h1] at hl
    have := (ub_len c).1
    have e := seg_app (s := s) h2 h1 (Nat.le_refl _)
    rw [seg_end, seg_end, h8] at e
    have g := (rneF_iff _ (hd i) c hc).1 ⟨_, e⟩
    refine ⟨i, by omega, h3, by rw [g]; simp only; omega, by rw [g]; exact (inP_iff l c).2 ⟨p, hp, h6, h7⟩, by rw [g]; simp only; omega⟩
theorem add_block (ad : Addr) (i : Nat) : (ad.add i).block = ad.block := by
  unfold Addr.add
  by_cases h : i = 0 <;> simp [h]
theorem Bx.set {w w1 : World} {cs : List Value} (h : Bx w w1 cs) {p : Addr} (hp : w.heap.size < p.block) (u : Value) : Bx w (w1.setCell p u) cs :=
  ⟨h.b.far (by omega) u, h.l.setCell (by omega) u, by have := h.s; simpa using this⟩
theorem bool_getD {f : List Bool} {i : Nat} (h : i < f.length) : f.getD i false = f[i] := by
  rw [List.getD_eq_getElem?_getD, List.getElem?_eq_getElem h]
  rfl
set_option maxRecDepth 100000 in
set_option maxHeartbeats 3200000 in
theorem reach_cls4 (mn mx : Int) (ra : Option Addr) (rs : List Int) (rc : Nat) (sa : Option Addr) (sn sc : Nat) (w : World) (t : ByteArray) (aa : Option Addr) (ca : Nat) (f : List Bool) (h56 : 4 = 5 ∨ 4 = 6 → rs = []) (hl : rs.length ≤ 8) (hr : Sl w w.heap.size ra (rs.map (.int .i32))) (ha : Sl w w.heap.size aa (f.map .bool)) (hf : f.length = t.size + 1) (ht : t.size ≤ 1000) :
    Calls Tryd.prog 36 #[.agg (rxc 4 mn mx ra rs.length rc sa sn sc).toArray, .string t, .slice aa f.length ca] w fun e w' => ∃ v, e = .returned v ∧ BS w' w.heap.size v (rch (clsL (pairs (rngs 4 rs))) (byL t) f) ∧ Below w.heap.size w w' := by
  have hmk := run_bools (t.size + 1) (by omega)
  rw [Int.natCast_succ] at hmk
  have hfl : 1 ≤ f.length ∧ f.length ≤ 1001 := by omega
  have HB := Lib.hid (Bx.new w (rxc 4 mn mx ra rs.length rc sa sn sc))
  have HA := Lib.hid ha
  have HF := Lib.hid hf
  have HSR := Lib.hid hr
  have hrl : (rngs 4 rs).length ≤ 1000000 := by
    unfold rngs
    repeat' split
    all_goals first | omega | simp
  have CRG := Lib.hid (fun (W : World) (h : Sl W W.heap.size ra (rs.map (.int .i32))) => rngs_any 4 mn mx ra rs rc sa sn sc W 4 rfl h56 h)
  clear ha hf hr h56 hl
  unfold rxc at *
  generalize hle : rngs 4 rs = l at *
  clear hle
  have HR := Lib.hid (clsR_is l (byL t) (byL_ok t) f)
  have HM := Lib.hid (show ∀ W : World, Blk (W.alloc (.cells (madeCells #[.bool false] (t.size + 1)) 4)) W.heap.size 4 ((clsR l (byL t) f 0).map .bool) from fun W => by
    have := blk_made W (t.size + 1)
    rw [← byL_len] at this ⊢
    exact this)
  go_enter Tryd.func36, Tryd.ntmps36
  go_upto_region 21 with fail
  refine name_world ?_
  intro w2 hw2
  have HBX := Lib.hid (show Bx w w2 _ from by rw [hw2]; exact HB.out.go ((Below.refl _ _).alloc (Nat.le_refl _) _))
  have HM2 := Lib.hid (show Blk w2 (w.heap.size + 1) 4 ((clsR l (byL t) f 0).map .bool) from by
    rw [hw2]
    have := HM.out (w.alloc (.cells #[.int .i64 4, .slice ra rs.length rc, .int .i64 mn, .int .i64 mx, .bool false, .bool false, .slice sa sn sc] 25))
    simpa using this)
  clear hw2 hmk
  go_wp2_with fail
  go_loopw [11, 12, 13] (fun v11 v12 v13 wr => ∃ i : Nat, i ≤ t.size ∧ v11 = .int .i64 i ∧ Hid (Blk wr (w.heap.size + 1) 4 ((clsR l (byL t) f i).map .bool) ∧ Bx w wr [.int .i64 4, .slice ra rs.length rc, .int .i64 mn, .int .i64 mx, .bool false, .bool false, .slice sa sn sc])) (fun v11 _ _ _ => t.size - (intOf v11).toNat)
  case atStart => exact ⟨0, by omega, rfl, Lib.hid ⟨HM2.out, HBX.out⟩⟩
  case round =>
    obtain ⟨i, hi, rfl, H1⟩ := hrel
    by_cases hlt : i < t.size
    · have hif : i < f.length := by have := HF.out; omega
      obtain ⟨ad, rfl, had, hc⟩ := bool_at (HA.out.below H1.out.2.l) i hif
      have HCW := Lib.hid (fun (W : World) (hb : Below wr.heap.size wr W) => (hb.cell (show (ad.add i).block < wr.heap.size from by rw [add_block]; exact Nat.lt_of_lt_of_le had H1.out.2.l.size)).trans hc)
      have HG := Lib.hid (bool_getD hif)
      have HX := Lib.hid (show byL (t.extract i t.size) = (byL t).drop i from by rw [byL_ext, ← byL_len, List.take_length])
      have CR := Lib.hid (show ∀ W, _ from fun W => rune_any (t.extract i t.size) W (by rw [← byL_len, HX.out, List.length_drop, byL_len]; omega))
      rw [HX.out] at CR
      have HPOS := Lib.hid (rneF_le ((byL t).drop i) (fun x hx => byL_ok t x (List.mem_of_mem_drop hx)))
      have HST := Lib.hid (clsR_succ l (byL t) f i)
      unfold clsStep at HST
      rw [HG.out] at HST
      obtain ⟨c, n, hcn⟩ : ∃ c n, rneF ((byL t).drop i) = (c, n) := ⟨_, _, rfl⟩
      rw [hcn] at CR HPOS HST
      simp only at CR HPOS HST
      clear hcn HG hc
      have hlti : (i : Int) < (f.length : Int) := by omega
      generalize hx : f[i] = x at *
      clear hx
      cases x with
      | false =>
        have HS2 := Lib.hid (show clsR l (byL t) f (i + 1) = clsR l (byL t) f i from by rw [HST.out, if_neg (fun h => Bool.noConfusion h.1)])
        go_wp2_with (first | (go_at_call 47; refine (CR.out _).mono ?_; rintro e w5 ⟨rfl, hb5⟩; have HB5 := Lib.hid (And.intro (H1.out.1.below hb5 H1.out.1.lt) (H1.out.2.go hb5)); have hc := HCW.out _ hb5; have c0 := HB5.out.2.b.cell 0; have c1 := HB5.out.2.b.cell 1; have c2 := HB5.out.2.b.cell 2; have c3 := HB5.out.2.b.cell 3; have c4 := HB5.out.2.b.cell 4; have c5 := HB5.out.2.b.cell 5; have c6 := HB5.out.2.b.cell 6; simp only [List.getElem?_cons_zero, List.getElem?_cons_succ] at c0 c1 c2 c3 c4 c5 c6) | fail)
        go_roundw
        case rel => exact ⟨i + 1, by omega, by go_num, Lib.hid ⟨by rw [HS2.out]; exact HB5.out.1, HB5.out.2⟩⟩
        case measure => simp [intOf]; omega
      | true =>
        by_cases hn0 : 0 < n
        · obtain ⟨k, rfl⟩ : ∃ k : Nat, n = k := ⟨n.toNat, by omega⟩
          have hk : i + k ≤ t.size := by
            have h8 := HPOS.out (by omega)
            rw [List.length_drop, byL_len] at h8
            omega
          have hk0 : 0 < k := by omega
          have CIN := Lib.hid (fun (a : Option Addr) (cc : Nat) (W : World) (h : Sl W W.heap.size a (l.map (.int .i32))) => in_any a cc l c _ W h hrl)
          cases hin : inP l c with
          | false =>
            have HS2 := Lib.hid (show clsR l (byL t) f (i + 1) = clsR l (byL t) f i from by rw [HST.out, if_neg (fun h => by rw [hin] at h; exact Bool.noConfusion h.2.2)])
            rw [hin] at CIN
            clear hin
            go_wp2_with (first | (go_at_call 47; refine (CR.out _).mono ?_; rintro e w5 ⟨rfl, hb5⟩; have HB5 := Lib.hid (And.intro (H1.out.1.below hb5 H1.out.1.lt) (H1.out.2.go hb5)); have hc := HCW.out _ hb5; have c0 := HB5.out.2.b.cell 0; have c1 := HB5.out.2.b.cell 1; have c2 := HB5.out.2.b.cell 2; have c3 := HB5.out.2.b.cell 3; have c4 := HB5.out.2.b.cell 4; have c5 := HB5.out.2.b.cell 5; have c6 := HB5.out.2.b.cell 6; simp only [List.getElem?_cons_zero, List.getElem?_cons_succ] at c0 c1 c2 c3 c4 c5 c6) | (go_at_call 44; refine (CRG.out _ ((HSR.out.below HB5.out.2.l).more HB5.out.2.l.size)).mono ?_; rintro e w6 ⟨a6, c6, rfl, hs6, hb6⟩; have HB6 := Lib.hid (And.intro (HB5.out.1.below hb6 HB5.out.1.lt) (HB5.out.2.go hb6)); have HS6 := Lib.hid hs6; clear hs6 hb6) | (go_at_call 48; refine (CIN.out _ _ _ HS6.out).mono ?_; rintro e w7 ⟨rfl, rfl⟩) | fail)
            go_roundw
            case rel => exact ⟨i + 1, by omega, by go_num, Lib.hid ⟨by rw [HS2.out]; exact HB6.out.1, HB6.out.2⟩⟩
            case measure => simp [intOf]; omega
          | true =>
            have HS2 := Lib.hid (show clsR l (byL t) f (i + 1) = (clsR l (byL t) f i).set (i + k) true from by rw [HST.out, if_pos ⟨rfl, hn0, hin⟩]; simp)
            rw [hin] at CIN
            clear hin
            have HLL := Lib.hid (show (clsR l (byL t) f i).length = t.size + 1 from by rw [clsR_len, byL_len])
            have hik : ((i : Int) + (k : Int)).toNat = i + k := by omega
            go_wp2_with (first | (go_at_call 47; refine (CR.out _).mono ?_; rintro e w5 ⟨rfl, hb5⟩; have HB5 := Lib.hid (And.intro (H1.out.1.below hb5 H1.out.1.lt) (H1.out.2.go hb5)); have hc := HCW.out _ hb5; have c0 := HB5.out.2.b.cell 0; have c1 := HB5.out.2.b.cell 1; have c2 := HB5.out.2.b.cell 2; have c3 := HB5.out.2.b.cell 3; have c4 := HB5.out.2.b.cell 4; have c5 := HB5.out.2.b.cell 5; have c6 := HB5.out.2.b.cell 6; simp only [List.getElem?_cons_zero, List.getElem?_cons_succ] at c0 c1 c2 c3 c4 c5 c6) | (go_at_call 44; refine (CRG.out _ ((HSR.out.below HB5.out.2.l).more HB5.out.2.l.size)).mono ?_; rintro e w6 ⟨a6, c6, rfl, hs6, hb6⟩; have HB6 := Lib.hid (And.intro (HB5.out.1.below hb6 HB5.out.1.lt) (HB5.out.2.go hb6)); have HS6 := Lib.hid hs6; clear hs6 hb6) | (go_at_call 48; refine (CIN.out _ _ _ HS6.out).mono ?_; rintro e w7 ⟨rfl, rfl⟩; have f7 := HB6.out.1.frozen (i + k); have l7 := HB6.out.1.cell (i + k); rw [List.getElem?_map, List.getElem?_eq_getElem (by rw [HLL.out]; omega)] at l7; simp only [Option.map_some] at l7; have HS7 := Lib.hid (fun (_ : Unit) => show Hid (Blk (w6.setCell ⟨w.heap.size + 1, i + k, none⟩ (.bool true)) (w.heap.size + 1) 4 ((clsR l (byL t) f (i + 1)).map .bool) ∧ Bx w (w6.setCell ⟨w.heap.size + 1, i + k, none⟩ (.bool true)) [.int .i64 4, .slice ra rs.length rc, .int .i64 mn, .int .i64 mx, .bool false, .bool false, .slice sa sn sc]) from Lib.hid ⟨by rw [HS2.out, List.map_set]; exact HB6.out.1.set_ _ _, HB6.out.2.set (by simp) _⟩)) | fail)
            go_roundw
            case rel => exact ⟨i + 1, by omega, by go_num, HS7.out ()⟩
            case measure => simp [intOf]; omega
        · have HS2 := Lib.hid (show clsR l (byL t) f (i + 1) = clsR l (byL t) f i from by rw [HST.out, if_neg (fun h => hn0 h.2.1)])
          go_wp2_with (first | (go_at_call 47; refine (CR.out _).mono ?_; rintro e w5 ⟨rfl, hb5⟩; have HB5 := Lib.hid (And.intro (H1.out.1.below hb5 H1.out.1.lt) (H1.out.2.go hb5)); have hc := HCW.out _ hb5; have c0 := HB5.out.2.b.cell 0; have c1 := HB5.out.2.b.cell 1; have c2 := HB5.out.2.b.cell 2; have c3 := HB5.out.2.b.cell 3; have c4 := HB5.out.2.b.cell 4; have c5 := HB5.out.2.b.cell 5; have c6 := HB5.out.2.b.cell 6; simp only [List.getElem?_cons_zero, List.getElem?_cons_succ] at c0 c1 c2 c3 c4 c5 c6) | fail)
          go_roundw
          case rel => exact ⟨i + 1, by omega, by go_num, Lib.hid ⟨by rw [HS2.out]; exact HB5.out.1, HB5.out.2⟩⟩
          case measure => simp [intOf]; omega
    · obtain rfl : i = t.size := by omega
      have H2 := Lib.hid (show BS wr w.heap.size (.slice (some ⟨w.heap.size + 1, 0, none⟩) (t.size + 1) (t.size + 1)) (rch (clsL (pairs l)) (byL t) f) from by
        have h1 := H1.out.1
        rw [← byL_len, HR.out] at h1
        exact ⟨w.heap.size + 1, t.size + 1, [], by rw [rch_len, byL_len], by omega, by rw [List.append_nil]; exact h1⟩)
      have H3 := Lib.hid H1.out.2.l
      go_wp2
      go_ret
      exact ⟨_, rfl, H2.out, H3.out⟩
set_option maxRecDepth 100000 in
set_option maxHeartbeats 3200000 in
theorem reach_cls5 (mn mx : Int) (ra : Option Addr) (rs : List Int) (rc : Nat) (sa : Option Addr) (sn sc : Nat) (w : World) (t : ByteArray) (aa : Option Addr) (ca : Nat) (f : List Bool) (h56 : 5 = 5 ∨ 5 = 6 → rs = []) (hl : rs.length ≤ 8) (hr : Sl w w.heap.size ra (rs.map (.int .i32))) (ha : Sl w w.heap.size aa (f.map .bool)) (hf : f.length = t.size + 1) (ht : t.size ≤ 1000) :
    Calls Tryd.prog 36 #[.agg (rxc 5 mn mx ra rs.length rc sa sn sc).toArray, .string t, .slice aa f.length ca] w fun e w' => ∃ v, e = .returned v ∧ BS w' w.heap.size v (rch (clsL (pairs (rngs 5 rs))) (byL t) f) ∧ Below w.heap.size w w' := by
  have hmk := run_bools (t.size + 1) (by omega)
  rw [Int.natCast_succ] at hmk
  have hfl : 1 ≤ f.length ∧ f.length ≤ 1001 := by omega
  have HB := Lib.hid (Bx.new w (rxc 5 mn mx ra rs.length rc sa sn sc))
  have HA := Lib.hid ha
  have HF := Lib.hid hf
  have HSR := Lib.hid hr
  have hrl : (rngs 5 rs).length ≤ 1000000 := by
    unfold rngs
    repeat' split
    all_goals first | omega | simp
  have CRG := Lib.hid (fun (W : World) (h : Sl W W.heap.size ra (rs.map (.int .i32))) => rngs_any 5 mn mx ra rs rc sa sn sc W 5 rfl h56 h)
  clear ha hf hr h56 hl
  unfold rxc at *
  generalize hle : rngs 5 rs = l at *
  clear hle
  have HR := Lib.hid (clsR_is l (byL t) (byL_ok t) f)
  have HM := Lib.hid (show ∀ W : World, Blk (W.alloc (.cells (madeCells #[.bool false] (t.size + 1)) 4)) W.heap.size 4 ((clsR l (byL t) f 0).map .bool) from fun W => by
    have := blk_made W (t.size + 1)
    rw [← byL_len] at this ⊢
    exact this)
  go_enter Tryd.func36, Tryd.ntmps36
  go_upto_region 21 with fail
  refine name_world ?_
  intro w2 hw2
  have HBX := Lib.hid (show Bx w w2 _ from by rw [hw2]; exact HB.out.go ((Below.refl _ _).alloc (Nat.le_refl _) _))
  have HM2 := Lib.hid (show Blk w2 (w.heap.size + 1) 4 ((clsR l (byL t) f 0).map .bool) from by
    rw [hw2]
    have := HM.out (w.alloc (.cells #[.int .i64 5, .slice ra rs.length rc, .int .i64 mn, .int .i64 mx, .bool false, .bool false, .slice sa sn sc] 25))
    simpa using this)
  clear hw2 hmk
  go_wp2_with fail
  go_loopw [11, 12, 13] (fun v11 v12 v13 wr => ∃ i : Nat, i ≤ t.size ∧ v11 = .int .i64 i ∧ Hid (Blk wr (w.heap.size + 1) 4 ((clsR l (byL t) f i).map .bool) ∧ Bx w wr [.int .i64 5, .slice ra rs.length rc, .int .i64 mn, .int .i64 mx, .bool false, .bool false, .slice sa sn sc])) (fun v11 _ _ _ => t.size - (intOf v11).toNat)
  case atStart => exact ⟨0, by omega, rfl, Lib.hid ⟨HM2.out, HBX.out⟩⟩
  case round =>
    obtain ⟨i, hi, rfl, H1⟩ := hrel
    by_cases hlt : i < t.size
    · have hif : i < f.length := by have := HF.out; omega
      obtain ⟨ad, rfl, had, hc⟩ := bool_at (HA.out.below H1.out.2.l) i hif
      have HCW := Lib.hid (fun (W : World) (hb : Below wr.heap.size wr W) => (hb.cell (show (ad.add i).block < wr.heap.size from by rw [add_block]; exact Nat.lt_of_lt_of_le had H1.out.2.l.size)).trans hc)
      have HG := Lib.hid (bool_getD hif)
      have HX := Lib.hid (show byL (t.extract i t.size) = (byL t).drop i from by rw [byL_ext, ← byL_len, List.take_length])
      have CR := Lib.hid (show ∀ W, _ from fun W => rune_any (t.extract i t.size) W (by rw [← byL_len, HX.out, List.length_drop, byL_len]; omega))
      rw [HX.out] at CR
      have HPOS := Lib.hid (rneF_le ((byL t).drop i) (fun x hx => byL_ok t x (List.mem_of_mem_drop hx)))
      have HST := Lib.hid (clsR_succ l (byL t) f i)
      unfold clsStep at HST
      rw [HG.out] at HST
      obtain ⟨c, n, hcn⟩ : ∃ c n, rneF ((byL t).drop i) = (c, n) := ⟨_, _, rfl⟩
      rw [hcn] at CR HPOS HST
      simp only at CR HPOS HST
      clear hcn HG hc
      have hlti : (i : Int) < (f.length : Int) := by omega
      generalize hx : f[i] = x at *
      clear hx
      cases x with
      | false =>
        have HS2 := Lib.hid (show clsR l (byL t) f (i + 1) = clsR l (byL t) f i from by rw [HST.out, if_neg (fun h => Bool.noConfusion h.1)])
        go_wp2_with (first | (go_at_call 47; refine (CR.out _).mono ?_; rintro e w5 ⟨rfl, hb5⟩; have HB5 := Lib.hid (And.intro (H1.out.1.below hb5 H1.out.1.lt) (H1.out.2.go hb5)); have hc := HCW.out _ hb5; have c0 := HB5.out.2.b.cell 0; have c1 := HB5.out.2.b.cell 1; have c2 := HB5.out.2.b.cell 2; have c3 := HB5.out.2.b.cell 3; have c4 := HB5.out.2.b.cell 4; have c5 := HB5.out.2.b.cell 5; have c6 := HB5.out.2.b.cell 6; simp only [List.getElem?_cons_zero, List.getElem?_cons_succ] at c0 c1 c2 c3 c4 c5 c6) | fail)
        go_roundw
        case rel => exact ⟨i + 1, by omega, by go_num, Lib.hid ⟨by rw [HS2.out]; exact HB5.out.1, HB5.out.2⟩⟩
        case measure => simp [intOf]; omega
      | true =>
        by_cases hn0 : 0 < n
        · obtain ⟨k, rfl⟩ : ∃ k : Nat, n = k := ⟨n.toNat, by omega⟩
          have hk : i + k ≤ t.size := by
            have h8 := HPOS.out (by omega)
            rw [List.length_drop, byL_len] at h8
            omega
          have hk0 : 0 < k := by omega
          have CIN := Lib.hid (fun (a : Option Addr) (cc : Nat) (W : World) (h : Sl W W.heap.size a (l.map (.int .i32))) => in_any a cc l c _ W h hrl)
          cases hin : inP l c with
          | false =>
            have HS2 := Lib.hid (show clsR l (byL t) f (i + 1) = clsR l (byL t) f i from by rw [HST.out, if_neg (fun h => by rw [hin] at h; exact Bool.noConfusion h.2.2)])
            rw [hin] at CIN
            clear hin
            go_wp2_with (first | (go_at_call 47; refine (CR.out _).mono ?_; rintro e w5 ⟨rfl, hb5⟩; have HB5 := Lib.hid (And.intro (H1.out.1.below hb5 H1.out.1.lt) (H1.out.2.go hb5)); have hc := HCW.out _ hb5; have c0 := HB5.out.2.b.cell 0; have c1 := HB5.out.2.b.cell 1; have c2 := HB5.out.2.b.cell 2; have c3 := HB5.out.2.b.cell 3; have c4 := HB5.out.2.b.cell 4; have c5 := HB5.out.2.b.cell 5; have c6 := HB5.out.2.b.cell 6; simp only [List.getElem?_cons_zero, List.getElem?_cons_succ] at c0 c1 c2 c3 c4 c5 c6) | (go_at_call 44; refine (CRG.out _ ((HSR.out.below HB5.out.2.l).more HB5.out.2.l.size)).mono ?_; rintro e w6 ⟨a6, c6, rfl, hs6, hb6⟩; have HB6 := Lib.hid (And.intro (HB5.out.1.below hb6 HB5.out.1.lt) (HB5.out.2.go hb6)); have HS6 := Lib.hid hs6; clear hs6 hb6) | (go_at_call 48; refine (CIN.out _ _ _ HS6.out).mono ?_; rintro e w7 ⟨rfl, rfl⟩) | fail)
            go_roundw
            case rel => exact ⟨i + 1, by omega, by go_num, Lib.hid ⟨by rw [HS2.out]; exact HB6.out.1, HB6.out.2⟩⟩
            case measure => simp [intOf]; omega
          | true =>
            have HS2 := Lib.hid (show clsR l (byL t) f (i + 1) = (clsR l (byL t) f i).set (i + k) true from by rw [HST.out, if_pos ⟨rfl, hn0, hin⟩]; simp)
            rw [hin] at CIN
            clear hin
            have HLL := Lib.hid (show (clsR l (byL t) f i).length = t.size + 1 from by rw [clsR_len, byL_len])
            have hik : ((i : Int) + (k : Int)).toNat = i + k := by omega
            go_wp2_with (first | (go_at_call 47; refine (CR.out _).mono ?_; rintro e w5 ⟨rfl, hb5⟩; have HB5 := Lib.hid (And.intro (H1.out.1.below hb5 H1.out.1.lt) (H1.out.2.go hb5)); have hc := HCW.out _ hb5; have c0 := HB5.out.2.b.cell 0; have c1 := HB5.out.2.b.cell 1; have c2 := HB5.out.2.b.cell 2; have c3 := HB5.out.2.b.cell 3; have c4 := HB5.out.2.b.cell 4; have c5 := HB5.out.2.b.cell 5; have c6 := HB5.out.2.b.cell 6; simp only [List.getElem?_cons_zero, List.getElem?_cons_succ] at c0 c1 c2 c3 c4 c5 c6) | (go_at_call 44; refine (CRG.out _ ((HSR.out.below HB5.out.2.l).more HB5.out.2.l.size)).mono ?_; rintro e w6 ⟨a6, c6, rfl, hs6, hb6⟩; have HB6 := Lib.hid (And.intro (HB5.out.1.below hb6 HB5.out.1.lt) (HB5.out.2.go hb6)); have HS6 := Lib.hid hs6; clear hs6 hb6) | (go_at_call 48; refine (CIN.out _ _ _ HS6.out).mono ?_; rintro e w7 ⟨rfl, rfl⟩; have f7 := HB6.out.1.frozen (i + k); have l7 := HB6.out.1.cell (i + k); rw [List.getElem?_map, List.getElem?_eq_getElem (by rw [HLL.out]; omega)] at l7; simp only [Option.map_some] at l7; have HS7 := Lib.hid (fun (_ : Unit) => show Hid (Blk (w6.setCell ⟨w.heap.size + 1, i + k, none⟩ (.bool true)) (w.heap.size + 1) 4 ((clsR l (byL t) f (i + 1)).map .bool) ∧ Bx w (w6.setCell ⟨w.heap.size + 1, i + k, none⟩ (.bool true)) [.int .i64 5, .slice ra rs.length rc, .int .i64 mn, .int .i64 mx, .bool false, .bool false, .slice sa sn sc]) from Lib.hid ⟨by rw [HS2.out, List.map_set]; exact HB6.out.1.set_ _ _, HB6.out.2.set (by simp) _⟩)) | fail)
            go_roundw
            case rel => exact ⟨i + 1, by omega, by go_num, HS7.out ()⟩
            case measure => simp [intOf]; omega
        · have HS2 := Lib.hid (show clsR l (byL t) f (i + 1) = clsR l (byL t) f i from by rw [HST.out, if_neg (fun h => hn0 h.2.1)])
          go_wp2_with (first | (go_at_call 47; refine (CR.out _).mono ?_; rintro e w5 ⟨rfl, hb5⟩; have HB5 := Lib.hid (And.intro (H1.out.1.below hb5 H1.out.1.lt) (H1.out.2.go hb5)); have hc := HCW.out _ hb5; have c0 := HB5.out.2.b.cell 0; have c1 := HB5.out.2.b.cell 1; have c2 := HB5.out.2.b.cell 2; have c3 := HB5.out.2.b.cell 3; have c4 := HB5.out.2.b.cell 4; have c5 := HB5.out.2.b.cell 5; have c6 := HB5.out.2.b.cell 6; simp only [List.getElem?_cons_zero, List.getElem?_cons_succ] at c0 c1 c2 c3 c4 c5 c6) | fail)
          go_roundw
          case rel => exact ⟨i + 1, by omega, by go_num, Lib.hid ⟨by rw [HS2.out]; exact HB5.out.1, HB5.out.2⟩⟩
          case measure => simp [intOf]; omega
    · obtain rfl : i = t.size := by omega
      have H2 := Lib.hid (show BS wr w.heap.size (.slice (some ⟨w.heap.size + 1, 0, none⟩) (t.size + 1) (t.size + 1)) (rch (clsL (pairs l)) (byL t) f) from by
        have h1 := H1.out.1
        rw [← byL_len, HR.out] at h1
        exact ⟨w.heap.size + 1, t.size + 1, [], by rw [rch_len, byL_len], by omega, by rw [List.append_nil]; exact h1⟩)
      have H3 := Lib.hid H1.out.2.l
      go_wp2
      go_ret
      exact ⟨_, rfl, H2.out, H3.out⟩
set_option maxRecDepth 100000 in
set_option maxHeartbeats 3200000 in
theorem reach_cls6 (mn mx : Int) (ra : Option Addr) (rs : List Int) (rc : Nat) (sa : Option Addr) (sn sc : Nat) (w : World) (t : ByteArray) (aa : Option Addr) (ca : Nat) (f : List Bool) (h56 : 6 = 5 ∨ 6 = 6 → rs = []) (hl : rs.length ≤ 8) (hr : Sl w w.heap.size ra (rs.map (.int .i32))) (ha : Sl w w.heap.size aa (f.map .bool)) (hf : f.length = t.size + 1) (ht : t.size ≤ 1000) :
    Calls Tryd.prog 36 #[.agg (rxc 6 mn mx ra rs.length rc sa sn sc).toArray, .string t, .slice aa f.length ca] w fun e w' => ∃ v, e = .returned v ∧ BS w' w.heap.size v (rch (clsL (pairs (rngs 6 rs))) (byL t) f) ∧ Below w.heap.size w w' := by
  have hmk := run_bools (t.size + 1) (by omega)
  rw [Int.natCast_succ] at hmk
  have hfl : 1 ≤ f.length ∧ f.length ≤ 1001 := by omega
  have HB := Lib.hid (Bx.new w (rxc 6 mn mx ra rs.length rc sa sn sc))
  have HA := Lib.hid ha
  have HF := Lib.hid hf
  have HSR := Lib.hid hr
  have hrl : (rngs 6 rs).length ≤ 1000000 := by
    unfold rngs
    repeat' split
    all_goals first | omega | simp
  have CRG := Lib.hid (fun (W : World) (h : Sl W W.heap.size ra (rs.map (.int .i32))) => rngs_any 6 mn mx ra rs rc sa sn sc W 6 rfl h56 h)
  clear ha hf hr h56 hl
  unfold rxc at *
  generalize hle : rngs 6 rs = l at *
  clear hle
  have HR := Lib.hid (clsR_is l (byL t) (byL_ok t) f)
  have HM := Lib.hid (show ∀ W : World, Blk (W.alloc (.cells (madeCells #[.bool false] (t.size + 1)) 4)) W.heap.size 4 ((clsR l (byL t) f 0).map .bool) from fun W => by
    have := blk_made W (t.size + 1)
    rw [← byL_len] at this ⊢
    exact this)
  go_enter Tryd.func36, Tryd.ntmps36
  go_upto_region 21 with fail
  refine name_world ?_
  intro w2 hw2
  have HBX := Lib.hid (show Bx w w2 _ from by rw [hw2]; exact HB.out.go ((Below.refl _ _).alloc (Nat.le_refl _) _))
  have HM2 := Lib.hid (show Blk w2 (w.heap.size + 1) 4 ((clsR l (byL t) f 0).map .bool) from by
    rw [hw2]
    have := HM.out (w.alloc (.cells #[.int .i64 6, .slice ra rs.length rc, .int .i64 mn, .int .i64 mx, .bool false, .bool false, .slice sa sn sc] 25))
    simpa using this)
  clear hw2 hmk
  go_wp2_with fail
  go_loopw [11, 12, 13] (fun v11 v12 v13 wr => ∃ i : Nat, i ≤ t.size ∧ v11 = .int .i64 i ∧ Hid (Blk wr (w.heap.size + 1) 4 ((clsR l (byL t) f i).map .bool) ∧ Bx w wr [.int .i64 6, .slice ra rs.length rc, .int .i64 mn, .int .i64 mx, .bool false, .bool false, .slice sa sn sc])) (fun v11 _ _ _ => t.size - (intOf v11).toNat)
  case atStart => exact ⟨0, by omega, rfl, Lib.hid ⟨HM2.out, HBX.out⟩⟩
  case round =>
    obtain ⟨i, hi, rfl, H1⟩ := hrel
    by_cases hlt : i < t.size
    · have hif : i < f.length := by have := HF.out; omega
      obtain ⟨ad, rfl, had, hc⟩ := bool_at (HA.out.below H1.out.2.l) i hif
      have HCW := Lib.hid (fun (W : World) (hb : Below wr.heap.size wr W) => (hb.cell (show (ad.add i).block < wr.heap.size from by rw [add_block]; exact Nat.lt_of_lt_of_le had H1.out.2.l.size)).trans hc)
      have HG := Lib.hid (bool_getD hif)
      have HX := Lib.hid (show byL (t.extract i t.size) = (byL t).drop i from by rw [byL_ext, ← byL_len, List.take_length])
      have CR := Lib.hid (show ∀ W, _ from fun W => rune_any (t.extract i t.size) W (by rw [← byL_len, HX.out, List.length_drop, byL_len]; omega))
      rw [HX.out] at CR
      have HPOS := Lib.hid (rneF_le ((byL t).drop i) (fun x hx => byL_ok t x (List.mem_of_mem_drop hx)))
      have HST := Lib.hid (clsR_succ l (byL t) f i)
      unfold clsStep at HST
      rw [HG.out] at HST
      obtain ⟨c, n, hcn⟩ : ∃ c n, rneF ((byL t).drop i) = (c, n) := ⟨_, _, rfl⟩
      rw [hcn] at CR HPOS HST
      simp only at CR HPOS HST
      clear hcn HG hc
      have hlti : (i : Int) < (f.length : Int) := by omega
      generalize hx : f[i] = x at *
      clear hx
      cases x with
      | false =>
        have HS2 := Lib.hid (show clsR l (byL t) f (i + 1) = clsR l (byL t) f i from by rw [HST.out, if_neg (fun h => Bool.noConfusion h.1)])
        go_wp2_with (first | (go_at_call 47; refine (CR.out _).mono ?_; rintro e w5 ⟨rfl, hb5⟩; have HB5 := Lib.hid (And.intro (H1.out.1.below hb5 H1.out.1.lt) (H1.out.2.go hb5)); have hc := HCW.out _ hb5; have c0 := HB5.out.2.b.cell 0; have c1 := HB5.out.2.b.cell 1; have c2 := HB5.out.2.b.cell 2; have c3 := HB5.out.2.b.cell 3; have c4 := HB5.out.2.b.cell 4; have c5 := HB5.out.2.b.cell 5; have c6 := HB5.out.2.b.cell 6; simp only [List.getElem?_cons_zero, List.getElem?_cons_succ] at c0 c1 c2 c3 c4 c5 c6) | fail)
        go_roundw
        case rel => exact ⟨i + 1, by omega, by go_num, Lib.hid ⟨by rw [HS2.out]; exact HB5.out.1, HB5.out.2⟩⟩
        case measure => simp [intOf]; omega
      | true =>
        by_cases hn0 : 0 < n
        · obtain ⟨k, rfl⟩ : ∃ k : Nat, n = k := ⟨n.toNat, by omega⟩
          have hk : i + k ≤ t.size := by
            have h8 := HPOS.out (by omega)
            rw [List.length_drop, byL_len] at h8
            omega
          have hk0 : 0 < k := by omega
          have CIN := Lib.hid (fun (a : Option Addr) (cc : Nat) (W : World) (h : Sl W W.heap.size a (l.map (.int .i32))) => in_any a cc l c _ W h hrl)
          cases hin : inP l c with
          | false =>
            have HS2 := Lib.hid (show clsR l (byL t) f (i + 1) = clsR l (byL t) f i from by rw [HST.out, if_neg (fun h => by rw [hin] at h; exact Bool.noConfusion h.2.2)])
            rw [hin] at CIN
            clear hin
            go_wp2_with (first | (go_at_call 47; refine (CR.out _).mono ?_; rintro e w5 ⟨rfl, hb5⟩; have HB5 := Lib.hid (And.intro (H1.out.1.below hb5 H1.out.1.lt) (H1.out.2.go hb5)); have hc := HCW.out _ hb5; have c0 := HB5.out.2.b.cell 0; have c1 := HB5.out.2.b.cell 1; have c2 := HB5.out.2.b.cell 2; have c3 := HB5.out.2.b.cell 3; have c4 := HB5.out.2.b.cell 4; have c5 := HB5.out.2.b.cell 5; have c6 := HB5.out.2.b.cell 6; simp only [List.getElem?_cons_zero, List.getElem?_cons_succ] at c0 c1 c2 c3 c4 c5 c6) | (go_at_call 44; refine (CRG.out _ ((HSR.out.below HB5.out.2.l).more HB5.out.2.l.size)).mono ?_; rintro e w6 ⟨a6, c6, rfl, hs6, hb6⟩; have HB6 := Lib.hid (And.intro (HB5.out.1.below hb6 HB5.out.1.lt) (HB5.out.2.go hb6)); have HS6 := Lib.hid hs6; clear hs6 hb6) | (go_at_call 48; refine (CIN.out _ _ _ HS6.out).mono ?_; rintro e w7 ⟨rfl, rfl⟩) | fail)
            go_roundw
            case rel => exact ⟨i + 1, by omega, by go_num, Lib.hid ⟨by rw [HS2.out]; exact HB6.out.1, HB6.out.2⟩⟩
            case measure => simp [intOf]; omega
          | true =>
            have HS2 := Lib.hid (show clsR l (byL t) f (i + 1) = (clsR l (byL t) f i).set (i + k) true from by rw [HST.out, if_pos ⟨rfl, hn0, hin⟩]; simp)
            rw [hin] at CIN
            clear hin
            have HLL := Lib.hid (show (clsR l (byL t) f i).length = t.size + 1 from by rw [clsR_len, byL_len])
            have hik : ((i : Int) + (k : Int)).toNat = i + k := by omega
            go_wp2_with (first | (go_at_call 47; refine (CR.out _).mono ?_; rintro e w5 ⟨rfl, hb5⟩; have HB5 := Lib.hid (And.intro (H1.out.1.below hb5 H1.out.1.lt) (H1.out.2.go hb5)); have hc := HCW.out _ hb5; have c0 := HB5.out.2.b.cell 0; have c1 := HB5.out.2.b.cell 1; have c2 := HB5.out.2.b.cell 2; have c3 := HB5.out.2.b.cell 3; have c4 := HB5.out.2.b.cell 4; have c5 := HB5.out.2.b.cell 5; have c6 := HB5.out.2.b.cell 6; simp only [List.getElem?_cons_zero, List.getElem?_cons_succ] at c0 c1 c2 c3 c4 c5 c6) | (go_at_call 44; refine (CRG.out _ ((HSR.out.below HB5.out.2.l).more HB5.out.2.l.size)).mono ?_; rintro e w6 ⟨a6, c6, rfl, hs6, hb6⟩; have HB6 := Lib.hid (And.intro (HB5.out.1.below hb6 HB5.out.1.lt) (HB5.out.2.go hb6)); have HS6 := Lib.hid hs6; clear hs6 hb6) | (go_at_call 48; refine (CIN.out _ _ _ HS6.out).mono ?_; rintro e w7 ⟨rfl, rfl⟩; have f7 := HB6.out.1.frozen (i + k); have l7 := HB6.out.1.cell (i + k); rw [List.getElem?_map, List.getElem?_eq_getElem (by rw [HLL.out]; omega)] at l7; simp only [Option.map_some] at l7; have HS7 := Lib.hid (fun (_ : Unit) => show Hid (Blk (w6.setCell ⟨w.heap.size + 1, i + k, none⟩ (.bool true)) (w.heap.size + 1) 4 ((clsR l (byL t) f (i + 1)).map .bool) ∧ Bx w (w6.setCell ⟨w.heap.size + 1, i + k, none⟩ (.bool true)) [.int .i64 6, .slice ra rs.length rc, .int .i64 mn, .int .i64 mx, .bool false, .bool false, .slice sa sn sc]) from Lib.hid ⟨by rw [HS2.out, List.map_set]; exact HB6.out.1.set_ _ _, HB6.out.2.set (by simp) _⟩)) | fail)
            go_roundw
            case rel => exact ⟨i + 1, by omega, by go_num, HS7.out ()⟩
            case measure => simp [intOf]; omega
        · have HS2 := Lib.hid (show clsR l (byL t) f (i + 1) = clsR l (byL t) f i from by rw [HST.out, if_neg (fun h => hn0 h.2.1)])
          go_wp2_with (first | (go_at_call 47; refine (CR.out _).mono ?_; rintro e w5 ⟨rfl, hb5⟩; have HB5 := Lib.hid (And.intro (H1.out.1.below hb5 H1.out.1.lt) (H1.out.2.go hb5)); have hc := HCW.out _ hb5; have c0 := HB5.out.2.b.cell 0; have c1 := HB5.out.2.b.cell 1; have c2 := HB5.out.2.b.cell 2; have c3 := HB5.out.2.b.cell 3; have c4 := HB5.out.2.b.cell 4; have c5 := HB5.out.2.b.cell 5; have c6 := HB5.out.2.b.cell 6; simp only [List.getElem?_cons_zero, List.getElem?_cons_succ] at c0 c1 c2 c3 c4 c5 c6) | fail)
          go_roundw
          case rel => exact ⟨i + 1, by omega, by go_num, Lib.hid ⟨by rw [HS2.out]; exact HB5.out.1, HB5.out.2⟩⟩
          case measure => simp [intOf]; omega
    · obtain rfl : i = t.size := by omega
      have H2 := Lib.hid (show BS wr w.heap.size (.slice (some ⟨w.heap.size + 1, 0, none⟩) (t.size + 1) (t.size + 1)) (rch (clsL (pairs l)) (byL t) f) from by
        have h1 := H1.out.1
        rw [← byL_len, HR.out] at h1
        exact ⟨w.heap.size + 1, t.size + 1, [], by rw [rch_len, byL_len], by omega, by rw [List.append_nil]; exact h1⟩)
      have H3 := Lib.hid H1.out.2.l
      go_wp2
      go_ret
      exact ⟨_, rfl, H2.out, H3.out⟩
end Go.Proofs.YtbkpgfccghombaaDoor.rx
