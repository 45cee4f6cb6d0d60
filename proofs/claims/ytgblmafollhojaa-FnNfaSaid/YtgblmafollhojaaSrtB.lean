/-
  Sorting through an interface value: siftDown, heapSort. Conditions: as stated.
-/
import Derived.Test.YtgblmafollhojaaSrtA
namespace Go.Proofs.Ytgblmafollhojaa
open Go.ChangeShapes Go.WideShapes Go.ChangeAt Go.RowKit
open Go.Sort (swp siftDown heapBuild heapPop heapSort)
set_option linter.unusedVariables false

section
variable {α : Type} [Inhabited α] (lt : α → α → Bool) (hi first root : Nat) (d : Array α)
theorem sift_end (h : ¬ 2 * root + 1 < hi) : siftDown lt hi first root d = d := by rw [siftDown, dif_pos (by omega)]
theorem sift_two_stop (h2 : 2 * root + 2 < hi) (hl : lt d[first + (2 * root + 1)]! d[first + (2 * root + 1) + 1]! = true) (hn : lt d[first + root]! d[first + (2 * root + 2)]! = false) : siftDown lt hi first root d = d := by
  rw [siftDown, dif_neg (by omega), if_pos (by rw [hl, Bool.and_true]; simpa using h2), if_pos (by rw [hn]; rfl)]
theorem sift_two_go (h2 : 2 * root + 2 < hi) (hl : lt d[first + (2 * root + 1)]! d[first + (2 * root + 1) + 1]! = true) (hn : lt d[first + root]! d[first + (2 * root + 2)]! = true) :
    siftDown lt hi first root d = siftDown lt hi first (2 * root + 2) (swp d (first + root) (first + (2 * root + 2))) := by
  conv => lhs; rw [siftDown]
  rw [dif_neg (by omega), if_pos (by rw [hl, Bool.and_true]; simpa using h2), if_neg (by rw [hn]; simp), dif_pos h2]
theorem sift_one_stop (h1 : 2 * root + 1 < hi) (hl : ¬ 2 * root + 2 < hi ∨ lt d[first + (2 * root + 1)]! d[first + (2 * root + 1) + 1]! = false) (hn : lt d[first + root]! d[first + (2 * root + 1)]! = false) : siftDown lt hi first root d = d := by
  rw [siftDown, dif_neg (by omega), if_neg (by rcases hl with h | h; · simp; omega
                                               · simp [h]), if_pos (by rw [hn]; rfl)]
theorem sift_one_go (h1 : 2 * root + 1 < hi) (hl : ¬ 2 * root + 2 < hi ∨ lt d[first + (2 * root + 1)]! d[first + (2 * root + 1) + 1]! = false) (hn : lt d[first + root]! d[first + (2 * root + 1)]! = true) :
    siftDown lt hi first root d = siftDown lt hi first (2 * root + 1) (swp d (first + root) (first + (2 * root + 1))) := by
  conv => lhs; rw [siftDown]
  rw [dif_neg (by omega), if_neg (by rcases hl with h | h; · simp; omega
                                     · simp [h]), if_neg (by rw [hn]; simp)]
end

set_option maxRecDepth 100000 in
set_option maxHeartbeats 1600000 in
theorem sift_any {α : Type} [Inhabited α] {I : Itf α} (O : I.Ok) (W : World) (d : Array α) (lo hi first : Nat) (h : I.S W d) (hlo : lo ≤ hi) (hb : first + hi ≤ I.N) :
    Calls Try.prog 61 #[.iface I.T I.rv, .int .i64 lo, .int .i64 hi, .int .i64 first] W fun e w' => e = .returned (.tuple #[]) ∧ Hs I W (siftDown I.lt hi first lo d) w' := by
  have mL := O.mL
  have mS := O.mS
  have eL := O.eL
  have eS := O.eS
  have big := O.big
  have HH := Lib.hid (Hs.refl h)
  have HO := Lib.hid O
  clear h O
  go_enter Try.func61, Try.ntmps61
  go_wp2
  go_loopw [8] (fun vr wr => ∃ (r : Nat) (dk : Array α), vr = .int .i64 r ∧ r ≤ hi ∧ Hid (siftDown I.lt hi first r dk = siftDown I.lt hi first lo d) ∧ Hid (Hs I W dk wr)) (fun vr _ => hi - (intOf vr).toNat)
  case atStart => exact ⟨lo, d, rfl, hlo, Lib.hid rfl, HH⟩
  case round =>
    obtain ⟨r, dk, rfl, hr, HE, HK⟩ := hrel
    by_cases h1 : 2 * r + 1 < hi
    · by_cases h2 : 2 * r + 2 < hi
      · cases hlv : I.lt dk[first + (2 * r + 1)]! dk[first + (2 * r + 1) + 1]! with
        | true =>
          have HLV := Lib.hid hlv
          clear hlv
          go_wp2_with fail
          refine (HK.out.lessI HO.out _ _ (first + (2 * r + 1)) (first + (2 * r + 1) + 1) (by omega) (by omega) (by omega) (by omega)).mono ?_
          rw [HLV.out]
          rintro e w1 ⟨rfl, hs1⟩
          have H1 := Lib.hid hs1
          clear hs1
          cases hrv : I.lt dk[first + r]! dk[first + (2 * r + 2)]! with
          | true =>
            have HRV := Lib.hid hrv
            clear hrv
            go_wp2_with fail
            refine (H1.out.lessI HO.out _ _ (first + r) (first + (2 * r + 2)) (by omega) (by omega) (by omega) (by omega)).mono ?_
            rw [HRV.out]
            rintro e w2 ⟨rfl, hs2⟩
            have H2 := Lib.hid hs2
            clear hs2
            go_wp2_with fail
            refine (H2.out.swapI HO.out _ _ (first + r) (first + (2 * r + 2)) (by omega) (by omega) (by omega) (by omega)).mono ?_
            rintro e w3 ⟨rfl, hs3⟩
            have H3 := Lib.hid hs3
            clear hs3
            go_wp2
            go_roundw
            case rel => exact ⟨2 * r + 2, swp dk (first + r) (first + (2 * r + 2)), by go_num, by omega, Lib.hid (by rw [← HE.out, sift_two_go I.lt hi first r dk h2 HLV.out HRV.out]), H3⟩
            case measure => simp [intOf]; omega
          | false =>
            have HRV := Lib.hid hrv
            clear hrv
            go_wp2_with fail
            refine (H1.out.lessI HO.out _ _ (first + r) (first + (2 * r + 2)) (by omega) (by omega) (by omega) (by omega)).mono ?_
            rw [HRV.out]
            rintro e w2 ⟨rfl, hs2⟩
            have H2 := Lib.hid hs2
            clear hs2
            go_wp2
            go_returns
            exact ⟨rfl, by rw [← HE.out, sift_two_stop I.lt hi first r dk h2 HLV.out HRV.out]; exact H2.out⟩
        | false =>
          have HLV := Lib.hid hlv
          clear hlv
          go_wp2_with fail
          refine (HK.out.lessI HO.out _ _ (first + (2 * r + 1)) (first + (2 * r + 1) + 1) (by omega) (by omega) (by omega) (by omega)).mono ?_
          rw [HLV.out]
          rintro e w1 ⟨rfl, hs1⟩
          have H1 := Lib.hid hs1
          clear hs1
          cases hrv : I.lt dk[first + r]! dk[first + (2 * r + 1)]! with
          | true =>
            have HRV := Lib.hid hrv
            clear hrv
            go_wp2_with fail
            refine (H1.out.lessI HO.out _ _ (first + r) (first + (2 * r + 1)) (by omega) (by omega) (by omega) (by omega)).mono ?_
            rw [HRV.out]
            rintro e w2 ⟨rfl, hs2⟩
            have H2 := Lib.hid hs2
            clear hs2
            go_wp2_with fail
            refine (H2.out.swapI HO.out _ _ (first + r) (first + (2 * r + 1)) (by omega) (by omega) (by omega) (by omega)).mono ?_
            rintro e w3 ⟨rfl, hs3⟩
            have H3 := Lib.hid hs3
            clear hs3
            go_wp2
            go_roundw
            case rel => exact ⟨2 * r + 1, swp dk (first + r) (first + (2 * r + 1)), by go_num, by omega, Lib.hid (by rw [← HE.out, sift_one_go I.lt hi first r dk h1 (.inr HLV.out) HRV.out]), H3⟩
            case measure => simp [intOf]; omega
          | false =>
            have HRV := Lib.hid hrv
            clear hrv
            go_wp2_with fail
            refine (H1.out.lessI HO.out _ _ (first + r) (first + (2 * r + 1)) (by omega) (by omega) (by omega) (by omega)).mono ?_
            rw [HRV.out]
            rintro e w2 ⟨rfl, hs2⟩
            have H2 := Lib.hid hs2
            clear hs2
            go_wp2
            go_returns
            exact ⟨rfl, by rw [← HE.out, sift_one_stop I.lt hi first r dk h1 (.inr HLV.out) HRV.out]; exact H2.out⟩
      · cases hrv : I.lt dk[first + r]! dk[first + (2 * r + 1)]! with
        | true =>
          have HRV := Lib.hid hrv
          clear hrv
          go_wp2_with fail
          refine (HK.out.lessI HO.out _ _ (first + r) (first + (2 * r + 1)) (by omega) (by omega) (by omega) (by omega)).mono ?_
          rw [HRV.out]
          rintro e w2 ⟨rfl, hs2⟩
          have H2 := Lib.hid hs2
          clear hs2
          go_wp2_with fail
          refine (H2.out.swapI HO.out _ _ (first + r) (first + (2 * r + 1)) (by omega) (by omega) (by omega) (by omega)).mono ?_
          rintro e w3 ⟨rfl, hs3⟩
          have H3 := Lib.hid hs3
          clear hs3
          go_wp2
          go_roundw
          case rel => exact ⟨2 * r + 1, swp dk (first + r) (first + (2 * r + 1)), by go_num, by omega, Lib.hid (by rw [← HE.out, sift_one_go I.lt hi first r dk h1 (.inl h2) HRV.out]), H3⟩
          case measure => simp [intOf]; omega
        | false =>
          have HRV := Lib.hid hrv
          clear hrv
          go_wp2_with fail
          refine (HK.out.lessI HO.out _ _ (first + r) (first + (2 * r + 1)) (by omega) (by omega) (by omega) (by omega)).mono ?_
          rw [HRV.out]
          rintro e w2 ⟨rfl, hs2⟩
          have H2 := Lib.hid hs2
          clear hs2
          go_wp2
          go_returns
          exact ⟨rfl, by rw [← HE.out, sift_one_stop I.lt hi first r dk h1 (.inl h2) HRV.out]; exact H2.out⟩
    · go_wp2
      go_returns
      exact ⟨rfl, by rw [← HE.out, sift_end I.lt hi first r dk h1]; exact HK.out⟩

theorem sift_anyI {α : Type} [Inhabited α] {I : Itf α} {W w : World} {d : Array α} (O : I.Ok) (h : Hs I W d w) (x y z : Int) (lo hi first : Nat) (hx : x = lo) (hy : y = hi) (hz : z = first) (hlo : lo ≤ hi) (hb : first + hi ≤ I.N) :
    Calls Try.prog 61 #[.iface I.T I.rv, .int .i64 x, .int .i64 y, .int .i64 z] w fun e w' => e = .returned (.tuple #[]) ∧ Hs I W (siftDown I.lt hi first lo d) w' := by
  subst hx hy hz
  exact (sift_any O w d lo hi first h.s hlo hb).mono fun _ _ ⟨he, hs⟩ => ⟨he, h.on hs⟩

set_option maxRecDepth 100000 in
set_option maxHeartbeats 1600000 in
theorem heap_any {α : Type} [Inhabited α] {I : Itf α} (O : I.Ok) (W : World) (d : Array α) (a b : Nat) (h : I.S W d) (hab : a < b) (hb : b ≤ I.N) :
    Calls Try.prog 54 #[.iface I.T I.rv, .int .i64 a, .int .i64 b] W fun e w' => e = .returned (.tuple #[]) ∧ Hs I W (heapSort I.lt d a b) w' := by
  have mS := O.mS
  have eS := O.eS
  have big := O.big
  have HH := Lib.hid (Hs.refl h)
  have HO := Lib.hid O
  have HD := Lib.hid (show heapPop I.lt a (b - a) (heapBuild I.lt (b - a) a ((b - a - 1) / 2 + 1) d) = heapSort I.lt d a b from rfl)
  clear h O
  go_enter Try.func54, Try.ntmps54
  go_wp2
  go_loopw [9] (fun vi wr => ∃ (x : Int) (k : Nat) (dk : Array α), vi = .int .i64 x ∧ x + 1 ≤ k ∧ (k : Int) ≤ x + 1 ∧ k ≤ b - a ∧ Hid (heapBuild I.lt (b - a) a k dk = heapBuild I.lt (b - a) a ((b - a - 1) / 2 + 1) d) ∧ Hid (Hs I W dk wr)) (fun vi _ => ((intOf vi) + 1).toNat)
  case atStart => exact ⟨_, (b - a - 1) / 2 + 1, d, rfl, by omega, by omega, by omega, Lib.hid rfl, HH⟩
  case round =>
    obtain ⟨x, k, dk, rfl, hk1, hk2, hkn, HE, HK⟩ := hrel
    by_cases hk0 : k = 0
    · subst hk0
      have hx : ¬ 0 ≤ x := by omega
      have HE2 := Lib.hid (show dk = heapBuild I.lt (b - a) a ((b - a - 1) / 2 + 1) d from HE.out)
      go_wp2
      go_loopw [10] (fun vi wr2 => ∃ (y : Int) (k : Nat) (dj : Array α), vi = .int .i64 y ∧ y + 1 ≤ k ∧ (k : Int) ≤ y + 1 ∧ k ≤ b - a ∧ Hid (heapPop I.lt a k dj = heapPop I.lt a (b - a) dk) ∧ Hid (Hs I W dj wr2)) (fun vi _ => ((intOf vi) + 1).toNat)
      case atStart => exact ⟨_, b - a, dk, rfl, by omega, by omega, by omega, Lib.hid rfl, HK⟩
      case round =>
        obtain ⟨y, k, dj, rfl, hj1, hj2, hjn, HP, HJ⟩ := hrel
        by_cases hk0 : k = 0
        · subst hk0
          have hy : ¬ 0 ≤ y := by omega
          go_wp2
          go_returns
          exact ⟨rfl, by rw [← HD.out, ← HE2.out, ← HP.out]; exact HJ.out⟩
        · obtain ⟨m, hm⟩ : ∃ m, k = m + 1 := ⟨k - 1, by omega⟩
          subst hm
          have hy : 0 ≤ y := by omega
          go_wp2_with fail
          refine (HJ.out.swapI HO.out _ _ a (a + m) (by omega) (by omega) (by omega) (by omega)).mono ?_
          rintro e w1 ⟨rfl, hs1⟩
          have H1 := Lib.hid hs1
          clear hs1
          go_wp2_with fail
          refine (sift_anyI HO.out H1.out _ _ _ 0 m a (by omega) (by omega) (by omega) (by omega) (by omega)).mono ?_
          rintro e w2 ⟨rfl, hs2⟩
          have H2 := Lib.hid hs2
          clear hs2
          go_wp2
          go_roundw
          case rel => exact ⟨y - 1, m, _, rfl, by omega, by omega, by omega, Lib.hid (by rw [← HP.out]; rfl), H2⟩
          case measure => simp [intOf]; omega
    · obtain ⟨m, hm⟩ : ∃ m, k = m + 1 := ⟨k - 1, by omega⟩
      subst hm
      have hx : 0 ≤ x := by omega
      go_wp2_with fail
      refine (sift_anyI HO.out HK.out _ _ _ m (b - a) a (by omega) (by omega) (by omega) (by omega) (by omega)).mono ?_
      rintro e w1 ⟨rfl, hs1⟩
      have H1 := Lib.hid hs1
      clear hs1
      go_wp2
      go_roundw
      case rel => exact ⟨x - 1, m, _, rfl, by omega, by omega, by omega, Lib.hid (by rw [← HE.out]; rfl), H1⟩
      case measure => simp [intOf]; omega

end Go.Proofs.Ytgblmafollhojaa
