/-
  needed: no place makes another one needless. Conditions: as stated.
-/
import Derived.Test.YtgblmafollhojaaImpG
import Derived.Deep.DeepCutAuto
import Derived.Deep.LoopGhost
import Derived.StillTailTactics
namespace Go.Proofs.Ytgblmafollhojaa
open Go.ChangeShapes Go.WideShapes Go.ChangeAt Go.RowKit
set_option linter.unusedVariables false

set_option maxRecDepth 100000 in
set_option maxHeartbeats 1600000 in
theorem needed_any (a : Option Addr) (l : List Pl) (c : Nat) (w : World) (hl : l.length ≤ 2000) (hs : Sl w w.heap.size a (l.flatMap enc3)) (hok : ∀ p ∈ l, okP p) (hA : ∀ i k (hi : i < l.length) (hk : k < l.length), i ≠ k → impB l[i] l[k] = false) :
    Calls Try.prog 13 #[.slice a l.length c] w fun e w' => e = .returned (.bool true) ∧ Below w.heap.size w w' := by
  have HS := Lib.hid hs
  have HOK := Lib.hid hok
  have HA := Lib.hid hA
  clear hs hok hA
  go_enter Try.func13, Try.ntmps13
  go_wp2_with (fail)
  go_loopw [3, 4] (fun vi vk wr => ∃ i : Nat, i ≤ l.length ∧ vi = .int .i64 i ∧ Hid (Below w.heap.size w wr)) (fun vi _ _ => l.length - (intOf vi).toNat)
  case atStart => exact ⟨0, by omega, rfl, Lib.hid (Below.refl _ _)⟩
  case round =>
    obtain ⟨i, hil, rfl, HB⟩ := hrel
    by_cases hlt : i < l.length
    · go_wp2_with (fail)
      go_loopw [4] (fun vk wx => ∃ k : Nat, k ≤ l.length ∧ vk = .int .i64 k ∧ Hid (Below w.heap.size w wx)) (fun vk _ => l.length - (intOf vk).toNat)
      case atStart => exact ⟨0, by omega, rfl, HB⟩
      case round =>
        obtain ⟨k, hkl, rfl, HBX⟩ := hrel
        by_cases hlk : k < l.length
        · obtain ⟨ad, rfl, -, c0, c1, c2⟩ := three_at (HS.out.below HBX.out) i hlt
          obtain ⟨ad', had, -, e0, e1, e2⟩ := three_at (HS.out.below HBX.out) k hlk
          injection had with had
          subst had
          by_cases hik : i = k
          · subst hik
            have hne : ((i : Int) != i) = false := by simp
            go_wp2_with (fail)
            go_quiet (fail)
            go_wp2_with (fail)
            go_roundw
            case rel => exact ⟨i + 1, by omega, by go_num, Lib.hid (below_drewN HBX.out _)⟩
            case measure => simp [intOf]; omega
          · have hne : ((i : Int) != k) = true := by simp; omega
            have HI := Lib.hid (HA.out i k hlt hlk hik)
            have hp := HOK.out l[i] (List.getElem_mem hlt)
            have hq := HOK.out l[k] (List.getElem_mem hlk)
            generalize l[i] = p at *
            generalize l[k] = q at *
            obtain ⟨o1, d1, f1⟩ := p
            obtain ⟨o2, d2, f2⟩ := q
            simp only at c0 c1 c2 e0 e1 e2
            have CI := Lib.hid (fun W => implies_any o1 d1 f1 o2 d2 f2 W hp hq)
            clear hp hq
            rw [HI.out] at CI
            go_upto_region 7 with (fail)
            go_still_tail 12, (by kernel_rfl)
            change wpList _ _ _ _ _ wr.drew
            go_wp2_with (fail)
            refine (CI.out _).mono ?_
            rintro en w5 ⟨rfl, h5⟩
            have H5 := Lib.hid (HBX.out.trans (((Below.refl wr.heap.size wr).drew.trans h5).mono HBX.out.size))
            clear h5
            go_wp2_with (fail)
            go_roundw
            case rel => exact ⟨k + 1, by omega, by go_num, H5⟩
            case measure => simp [intOf]; omega
        · obtain rfl : k = l.length := by omega
          go_wp2_with (fail)
          go_roundw
          case rel => exact ⟨i + 1, by omega, by go_num, HBX⟩
          case measure => simp [intOf]; omega
    · obtain rfl : i = l.length := by omega
      go_wp2_with (fail)
      go_ret
      exact ⟨rfl, HB.out⟩

end Go.Proofs.Ytgblmafollhojaa
