/-
  levenshtein.ZzNormal, impl.Normal. Conditions: as stated.
-/
import Derived.Test.YtgblmafollhojaaNormB
namespace Go.Proofs.Ytgblmafollhojaa
open Go.ChangeShapes Go.WideShapes Go.ChangeAt Go.RowKit
set_option linter.unusedVariables false

/-- places added one by one -/
def addAll (l : List Pl) : List Pl := l.foldl addS []
theorem addS_len (l : List Pl) (n : Pl) : (addS l n).length ≤ l.length + 1 := by
  unfold addS
  split
  · omega
  · rw [List.length_append]
    have := List.length_filter_le (fun s => !impB n s) l
    simp
    omega
theorem addS_ne (l : List Pl) (n : Pl) : addS l n ≠ [] := by
  unfold addS
  split
  · rename_i h
    intro e
    rw [e] at h
    simp at h
  · simp
theorem addAll_snoc (l : List Pl) (i : Nat) (h : i < l.length) : addAll (l.take (i + 1)) = addS (addAll (l.take i)) l[i] := by
  unfold addAll
  rw [List.take_succ_eq_append_getElem h, List.foldl_append]
  rfl
theorem addAll_len (l : List Pl) : ∀ i, i ≤ l.length → (addAll (l.take i)).length ≤ i
  | 0, _ => by simp [addAll]
  | i + 1, h => by
    rw [addAll_snoc l i (by omega)]
    have := addAll_len l i (by omega)
    have := addS_len (addAll (l.take i)) l[i]
    omega
theorem addAll_ne (l : List Pl) (h : 0 < l.length) : addAll l ≠ [] := by
  have e : l.take (l.length - 1 + 1) = l := List.take_of_length_le (by omega)
  rw [← e, addAll_snoc l (l.length - 1) (by omega)]
  exact addS_ne _ _

/-- the set of the places, moved to begin at 0, rising -/
def Set0 (l l' : List Pl) : Prop := l'.Perm ((addAll l).map (shP (minO (addAll l)))) ∧ Srtd l'

set_option maxRecDepth 100000 in
set_option maxHeartbeats 1600000 in
theorem zz_any (a : Option Addr) (l : List Pl) (c : Nat) (w : World) (hl : l.length ≤ 60) (h0 : 0 < l.length) (hok : ∀ p ∈ l, okP p) (hs : Sl w w.heap.size a (l.flatMap enc3)) :
    Calls Try.prog 18 #[.slice a l.length c] w fun e w' => ∃ v l', e = .returned (.tuple #[.int .u32 (minO (addAll l)), v]) ∧ Set0 l l' ∧ l'.length ≤ 60 ∧ w'.ownsRow w.heap.size 63 3 v l'.length (l'.flatMap enc3) ∧ Below w.heap.size w w' := by
  have HS := Lib.hid hs
  have HOK := Lib.hid hok
  have CN := Lib.hid (newms_any w)
  clear hs hok
  go_enter Try.func18, Try.ntmps18
  go_wp2_with fail
  refine CN.out.mono ?_
  rintro e w1 ⟨M, v, rfl, hM, hMS, hat, hb1⟩
  have H1 := Lib.hid (show MSt w1 M w.heap.size v (addAll (l.take 0)) from by simpa [addAll] using hMS)
  have HA1 := Lib.hid hat
  have HB1 := Lib.hid hb1
  clear hMS hat hb1 CN
  go_wp2
  go_loopw [11] (fun vi wr => ∃ (i : Nat) (vk : Value), i ≤ l.length ∧ vi = .int .i64 i ∧ Hid (MSt wr M w.heap.size vk (addAll (l.take i))) ∧ Hid (∀ k, vk.ownBlock = some k → w.heap.size ≤ k) ∧ Hid (Below w.heap.size w wr)) (fun vi _ => l.length - (intOf vi).toNat)
  case atStart => exact ⟨0, v, by omega, rfl, H1, HA1, HB1⟩
  case round =>
    obtain ⟨i, vk, hil, rfl, HM, HA, HB⟩ := hrel
    have hbs := HB.out.size
    by_cases hlt : i < l.length
    · obtain ⟨ad, rfl, hab, c0, c1, c2⟩ := three_at (HS.out.below HB.out) i hlt
      have hpo := HOK.out l[i] (List.getElem_mem hlt)
      have HN := Lib.hid (addAll_snoc l i hlt)
      have hal := addAll_len l i (by omega)
      generalize l[i] = p at *
      have HB5 := (Below.refl wr.heap.size wr).alloc (Nat.le_refl _) (.cells #[.int .u32 p.1, .int .u8 p.2.1, .bool p.2.2] 63)
      have CA := add_any M w.heap.size vk (addAll (l.take i)) p _ (HM.out.below HB5) (by omega) hpo (by simp; omega)
      unfold agg3 at CA
      have HCA := Lib.hid CA
      have HB6 := Lib.hid HB5
      clear CA HB5 hpo
      go_wp2_with fail
      refine HCA.out.mono ?_
      rintro e w2 ⟨rfl, v2, hm2, hf2, ha2⟩
      have H2 := Lib.hid hm2
      have HF := Lib.hid (HB.out.trans ((HB6.out.mono hbs).trans (hf2.below hM (HA.out) (by simp; omega))))
      have HA2 := Lib.hid (fun k (hk : v2.ownBlock = some k) => show w.heap.size ≤ k from by
        rcases ha2 k hk with h | h
        · exact HA.out k h
        · simp at h
          omega)
      clear hm2 hf2 ha2 HCA
      go_wp2
      go_roundw
      case rel => exact ⟨i + 1, v2, by omega, by go_num, by rw [HN.out]; exact H2, HA2, HF⟩
      case measure => simp [intOf]; omega
    · obtain rfl : i = l.length := by omega
      rw [List.take_length] at HM
      have hne := addAll_ne l h0
      have hal := addAll_len l l.length (Nat.le_refl _)
      rw [List.take_length] at hal
      obtain ⟨g, cap, hv, -⟩ := HM.out.at_ 0 (by
        rcases Nat.eq_zero_or_pos (addAll l).length with h | h
        · exact absurd (List.eq_nil_of_length_eq_zero h) hne
        · exact h)
      subst hv
      have C := Lib.hid (norm_any M w.heap.size g cap (addAll l) wr HM.out (by omega) hne)
      clear hne
      go_wp2_with fail
      refine C.out.mono ?_
      rintro e w2 ⟨rfl, l', h1, h2, h3, h4, h5⟩
      have hm := h2.b.cell 0
      simp only [List.getElem?_cons_zero] at hm
      have H2 := Lib.hid h2.o
      have H3 := Lib.hid (show Set0 l l' from ⟨h3, h4⟩)
      have HL := Lib.hid h1
      have HBW := Lib.hid (HB.out.trans (h5.below hM HA.out hbs))
      clear h1 h2 h3 h4 h5 C
      go_wp2
      go_quiet (fail)
      go_wp2
      go_ret2
      exact ⟨_, l', rfl, H3.out, by have := HL.out; omega, own_below H2.out (below_drewN (Below.refl _ _) _), below_drewN HBW.out _⟩

set_option maxRecDepth 100000 in
set_option maxHeartbeats 800000 in
theorem inorm_any (a : Option Addr) (l : List Pl) (c : Nat) (w : World) (hl : l.length ≤ 60) (h0 : 0 < l.length) (hok : ∀ p ∈ l, okP p) (hs : Sl w w.heap.size a (l.flatMap enc3)) :
    Calls Try.prog 9 #[.slice a l.length c] w fun e w' => ∃ v l', e = .returned (.tuple #[.int .u32 (minO (addAll l)), v]) ∧ Set0 l l' ∧ w'.ownsRow w.heap.size 29 3 v l'.length (l'.flatMap enc3) ∧ Below w.heap.size w w' := by
  have CI := Lib.hid (in_any a l c w (by omega) hs)
  have HOK := Lib.hid hok
  clear hs hok
  go_enter Try.func9, Try.ntmps9
  go_wp2_with fail
  refine CI.out.mono ?_
  rintro e w1 ⟨v1, rfl, ho1, hb1⟩
  obtain ⟨a1, c1, rfl⟩ := own_value ho1
  have HB1 := Lib.hid hb1
  have CZ := Lib.hid (zz_any a1 l c1 w1 hl h0 HOK.out (sl_of_own ho1))
  clear ho1 hb1 CI
  go_wp2_with fail
  refine CZ.out.mono ?_
  rintro e w2 ⟨v2, l2, rfl, hs2, hl2, ho2, hb2⟩
  obtain ⟨a2, c2, rfl⟩ := own_value ho2
  have HB2 := Lib.hid (HB1.out.trans (hb2.mono HB1.out.size))
  have HS2 := Lib.hid hs2
  have CO := Lib.hid (out_any a2 l2 c2 w2 (by omega) (sl_of_own ho2))
  clear hs2 ho2 hb2 CZ
  go_wp2_with fail
  refine CO.out.mono ?_
  rintro e w3 ⟨v3, rfl, ho3, hb3⟩
  have HB3 := Lib.hid (HB2.out.trans (hb3.mono HB2.out.size))
  have HO3 := Lib.hid ho3
  have hsz := HB2.out.size
  clear ho3 hb3 CO
  go_wp2
  go_ret2
  refine ⟨v3, l2, rfl, HS2.out, ⟨HO3.out.1, ?_⟩, HB3.out⟩
  rcases HO3.out.2 with h | ⟨g, cap, cur, h1, h2, h3⟩
  · exact .inl h
  · exact .inr ⟨g, cap, cur, h1, by omega, h3⟩

end Go.Proofs.Ytgblmafollhojaa
