/-
  impl.in, impl.out (places as states and back), newMultiState. Conditions: as stated.
-/
import Derived.Test.YtgblmafollhojaaAddB
namespace Go.Proofs.Ytgblmafollhojaa
open Go.ChangeShapes Go.WideShapes Go.ChangeAt Go.RowKit
set_option linter.unusedVariables false

theorem infoPl : (Try.prog.info? 29).map (fun i => (i.zero, i.size, i.bytes)) = some (some (.agg #[.int .u32 0, .int .u8 0, .bool false]), 3, 8) := by kernel_rfl
theorem flat3_snoc (l : List Pl) (n : Nat) (h : n < l.length) : (l.take (n + 1)).flatMap enc3 = (l.take n).flatMap enc3 ++ enc3 l[n] := by
  rw [List.take_succ_eq_append_getElem h, List.flatMap_append]
  simp
/-- the three cells of an element -/
theorem three_at {w : World} {B : Nat} {a : Option Addr} {l : List Pl} (h : Sl w B a (l.flatMap enc3)) (i : Nat) (hi : i < l.length) :
    ∃ ad, a = some ad ∧ ad.block < B ∧ w.cell? (ad.add (i * 3)) = some (.int .u32 l[i].1) ∧ w.cell? ⟨(ad.add (i * 3)).block, (ad.add (i * 3)).off + 1, none⟩ = some (.int .u8 l[i].2.1) ∧ w.cell? ⟨(ad.add (i * 3)).block, (ad.add (i * 3)).off + 2, none⟩ = some (.bool l[i].2.2) := by
  obtain ⟨ad, rfl, hb, h0⟩ := Sl.elem (k := 3) (fun _ => rfl) h i 0 (by omega) hi (.int .u32 l[i].1) rfl
  obtain ⟨ad', he, _, h1⟩ := Sl.elem (k := 3) (fun _ => rfl) h i 1 (by omega) hi (.int .u8 l[i].2.1) rfl
  obtain ⟨ad2, he2, _, h2⟩ := Sl.elem (k := 3) (fun _ => rfl) h i 2 (by omega) hi (.bool l[i].2.2) rfl
  injection he with he
  injection he2 with he2
  subst he he2
  exact ⟨ad, rfl, hb, h0, cell_off h1, cell_off h2⟩

set_option maxHeartbeats 800000 in
theorem in_any (a : Option Addr) (l : List Pl) (c : Nat) (w : World) (hl : l.length ≤ 2000) (hs : Sl w w.heap.size a (l.flatMap enc3)) :
    Calls Try.prog 19 #[.slice a l.length c] w fun e w' => ∃ v, e = .returned v ∧ w'.ownsRow w.heap.size 63 3 v l.length (l.flatMap enc3) ∧ Below w.heap.size w w' := by
  obtain ⟨i0, hi, hz0, hz1, hz2⟩ := info_parts infoN
  have HS := Lib.hid hs
  clear hs
  go_enter Try.func19, Try.ntmps19
  go_wp2_with fail
  go_loopw [3, 8] (fun v k wr => ∃ n : Nat, n ≤ l.length ∧ k = .int .i64 n ∧ wr.ownsRow w.heap.size 63 3 v n ((l.take n).flatMap enc3) ∧ Hid (Below w.heap.size w wr)) (fun _ k _ => l.length - (intOf k).toNat)
  case atStart => exact ⟨0, by omega, rfl, ⟨by simp, .inl ⟨rfl, rfl⟩⟩, Lib.hid (Below.refl _ _)⟩
  case round =>
    obtain ⟨n, hnn, rfl, hown, HB⟩ := hrel
    have hbs := HB.out.size
    by_cases hlt : n < l.length
    · obtain ⟨ad, rfl, hab, c0, c1, c2⟩ := three_at (HS.out.below HB.out) n hlt
      have HN := Lib.hid (flat3_snoc l n hlt)
      generalize l[n] = p at *
      go_wp2_with (at_builtin; refine append1 _ _ rfl (.tmp 12) (.tmp 20) 44 rfl w.heap.size 63 i0 _ 3 8 Try.underlying44 hi hz0 hz1 hz2 rfl (by omega) rfl u3 n ((l.take n).flatMap enc3) rfl (hown.alloc _) (wr.heap.size + 1) (by simp) rfl (by simp [Value.oneCell']) (by unfold maxLen; omega) (by omega) (by simp; omega) ?_; intro v' w1 hown' hg' _)
      go_roundw
      case rel => exact ⟨n + 1, by omega, by go_num, by rw [HN.out]; exact hown', Lib.hid ((HB.out.alloc hbs _).grown hg' (by simp; omega) (own_block_ge hown))⟩
      case measure => simp [intOf]; omega
    · obtain rfl : n = l.length := by omega
      obtain ⟨a1, c1, rfl⟩ := own_value hown
      rw [List.take_length] at hown
      have HO := Lib.hid hown
      clear hown
      go_wp2
      go_ret
      exact ⟨_, rfl, HO.out, HB.out⟩

set_option maxHeartbeats 800000 in
theorem out_any (a : Option Addr) (l : List Pl) (c : Nat) (w : World) (hl : l.length ≤ 2000) (hs : Sl w w.heap.size a (l.flatMap enc3)) :
    Calls Try.prog 20 #[.slice a l.length c] w fun e w' => ∃ v, e = .returned v ∧ w'.ownsRow w.heap.size 29 3 v l.length (l.flatMap enc3) ∧ Below w.heap.size w w' := by
  obtain ⟨i0, hi, hz0, hz1, hz2⟩ := info_parts infoPl
  have HS := Lib.hid hs
  clear hs
  go_enter Try.func20, Try.ntmps20
  go_wp2_with fail
  go_loopw [3, 8] (fun v k wr => ∃ n : Nat, n ≤ l.length ∧ k = .int .i64 n ∧ wr.ownsRow w.heap.size 29 3 v n ((l.take n).flatMap enc3) ∧ Hid (Below w.heap.size w wr)) (fun _ k _ => l.length - (intOf k).toNat)
  case atStart => exact ⟨0, by omega, rfl, ⟨by simp, .inl ⟨rfl, rfl⟩⟩, Lib.hid (Below.refl _ _)⟩
  case round =>
    obtain ⟨n, hnn, rfl, hown, HB⟩ := hrel
    have hbs := HB.out.size
    by_cases hlt : n < l.length
    · obtain ⟨ad, rfl, hab, c0, c1, c2⟩ := three_at (HS.out.below HB.out) n hlt
      have HN := Lib.hid (flat3_snoc l n hlt)
      generalize l[n] = p at *
      go_wp2_with (at_builtin; refine append1 _ _ rfl (.tmp 12) (.tmp 20) 26 rfl w.heap.size 29 i0 _ 3 8 Try.underlying26 hi hz0 hz1 hz2 rfl (by omega) rfl u3 n ((l.take n).flatMap enc3) rfl (hown.alloc _) (wr.heap.size + 1) (by simp) rfl (by simp [Value.oneCell']) (by unfold maxLen; omega) (by omega) (by simp; omega) ?_; intro v' w1 hown' hg' _)
      go_roundw
      case rel => exact ⟨n + 1, by omega, by go_num, by rw [HN.out]; exact hown', Lib.hid ((HB.out.alloc hbs _).grown hg' (by simp; omega) (own_block_ge hown))⟩
      case measure => simp [intOf]; omega
    · obtain rfl : n = l.length := by omega
      obtain ⟨a1, c1, rfl⟩ := own_value hown
      rw [List.take_length] at hown
      have HO := Lib.hid hown
      clear hown
      go_wp2
      go_ret
      exact ⟨_, rfl, HO.out, HB.out⟩

/-- a new set -/
theorem newms_any (w : World) : Calls Try.prog 30 #[] w fun e w' => ∃ M v, e = .returned (.pointer (some ⟨M, 0, none⟩)) ∧ w.heap.size ≤ M ∧ MSt w' M w.heap.size v [] ∧ (∀ k, v.ownBlock = some k → w.heap.size ≤ k) ∧ Below w.heap.size w w' := by
  have H := Lib.hid (show MSt ((w.alloc (.cells #[] 63)).alloc (.cells #[.slice (some ⟨w.heap.size, 0, none⟩) 0 0] 67)) (w.heap.size + 1) w.heap.size (.slice (some ⟨w.heap.size, 0, none⟩) 0 0) [] from
    ⟨by
      have := Blk.new (w.alloc (.cells #[] 63)) 67 [.slice (some ⟨w.heap.size, 0, none⟩) 0 0]
      simpa using this, World.ownsRow.alloc ⟨rfl, .inr ⟨w.heap.size, 0, #[], rfl, Nat.le_refl _, heap_alloc_new w _, Nat.le_refl _, by simp [maxLen], by simp, by simp⟩⟩ _, fun p hp => by simp at hp⟩)
  have HB := Lib.hid (((Below.refl w.heap.size w).alloc (Nat.le_refl _) (.cells #[] 63)).alloc (by simp) (.cells #[.slice (some ⟨w.heap.size, 0, none⟩) 0 0] 67))
  have hmk : ∀ w : World, (Instr.makeSlice 44 (.int .i64 0) (.int .i64 0)).run Try.prog w = .ok (.slice (some ⟨w.heap.size, 0, none⟩) 0 0) (w.alloc (.cells #[] 63)) := fun _ => by kernel_rfl
  go_enter Try.func30, Try.ntmps30
  go_wp2
  try go_step3
  try go_wp2
  go_ret
  exact ⟨_, _, rfl, by omega, H.out, fun k hk => by simp [Value.ownBlock] at hk; omega, HB.out⟩

end Go.Proofs.Ytgblmafollhojaa
