/-
  The sequences of ranges of bytes: spec.Letter. Conditions: as stated.
-/
import Derived.Test.YtobcgeonobgjpaaDoorSeqWH
import Derived.Test.YtobcgeonobgjpaaDoorSeqLt
namespace Go.Proofs.YtobcgeonobgjpaaDoor
open Go.ChangeShapes Go.WideShapes Go.ChangeAt Go.RowKit
set_option linter.unusedVariables false

/-- what Letter gives -/
def Told (zs : List Int) (w : World) (e : Ending) (w' : World) : Prop :=
  ∃ r k : Int, e = .returned (.tuple #[.int .i64 r, .int .i64 k]) ∧ LetP zs r k ∧ Below w.heap.size w w'
theorem told_zero {zs : List Int} {w w' : World} (h : LetP zs 0 0) (hb : Below w.heap.size w w') : Told zs w (.returned (.tuple #[.int .i64 0, .int .i64 0])) w' := ⟨0, 0, rfl, h, hb⟩

set_option maxHeartbeats 1600000 in
theorem letter_any (b : Option Addr) (zs : List Int) (d : Nat) (w : World) (hl2 : zs.length ≤ 2147483647) (hzb : ∀ z ∈ zs, 0 ≤ z ∧ z ≤ 255) (hz : Sl w w.heap.size b (zs.map (.int .u8))) :
    Calls Tryd.prog 8 #[.slice b zs.length d] w (Told zs w) := by
  have HZ := Lib.hid hz
  have HZB := Lib.hid hzb
  clear hz hzb
  by_cases h0 : zs.length = 0
  · obtain rfl : zs = [] := List.eq_nil_of_length_eq_zero h0
    clear h0 hl2 HZ HZB
    go_enter Tryd.func8, Tryd.ntmps8
    go_wp2
    go_ret2
    exact told_zero let_nil (Below.refl _ _)
  · have hpos : 0 < zs.length := by omega
    have he0 : ((zs.length : Int) == 0) = false := by rw [beq_eq_false_iff_ne]; omega
    clear h0
    obtain ⟨ad, rfl, hc0⟩ := HZ.out.ints 0 hpos
    have hc0' : w.cell? ad = some (.int .u8 (zs.getD 0 0)) := by simpa [Addr.add] using hc0
    have hcb := HZB.out (zs.getD 0 0) (by rw [List.getD_eq_getElem?_getD, List.getElem?_eq_getElem hpos]; exact List.getElem_mem _)
    have hwb := wide_bd (zs.getD 0 0) hcb
    have CW := Lib.hid (wide_any (zs.getD 0 0) w hcb)
    have HS := Lib.hid (let_short zs)
    obtain ⟨n, hn⟩ := Int.eq_ofNat_of_zero_le hwb.1
    have HN := Lib.hid hn
    have HI1 := Lib.hid (show numI zs 1 = (wideF (zs.getD 0 0)).2 from rfl)
    rw [hn] at CW hwb HS
    clear hn
    generalize (wideF (zs.getD 0 0)).2 = x0 at *
    generalize hcc : zs.getD 0 0 = c0 at *
    have HCC := Lib.hid hcc
    clear hcc
    have HN2 := Lib.hid (show (wideF (zs.getD 0 0)).1 = n by rw [HCC.out]; exact HN.out)
    have hn4 : n ≤ 4 := by omega
    clear hwb
    by_cases hn0 : n = 0
    · subst hn0
      have HL := Lib.hid (HS.out (.inl rfl))
      go_enter Tryd.func8, Tryd.ntmps8
      go_wp2_with fail
      refine CW.out.mono ?_
      rintro e w1 ⟨rfl, rfl⟩
      go_wp2
      go_ret2
      exact told_zero HL.out (Below.refl _ _)
    · have hb0 : ((n : Int) == 0) = false := by rw [beq_eq_false_iff_ne]; omega
      by_cases hn1 : zs.length < n
      · have HL := Lib.hid (HS.out (.inr (by omega)))
        go_enter Tryd.func8, Tryd.ntmps8
        go_wp2_with fail
        refine CW.out.mono ?_
        rintro e w1 ⟨rfl, rfl⟩
        go_wp2
        go_ret2
        exact told_zero HL.out (Below.refl _ _)
      · have hd1 : decide ((zs.length : Int) < (n : Int)) = false := by simp; omega
        go_enter Tryd.func8, Tryd.ntmps8
        go_wp2_with fail
        refine CW.out.mono ?_
        rintro e w1 ⟨rfl, rfl⟩
        go_wp2
        go_loopw [2, 3, 4] (fun s q k wr => ∃ i : Nat, 1 ≤ i ∧ i ≤ n ∧ q = .int .i64 n ∧ s = .int .i64 (numI zs i) ∧ k = .int .i64 i ∧ Hid (tails zs i) ∧ wr = w) (fun _ _ k _ => n - (intOf k).toNat)
        case atStart => exact ⟨1, by omega, by omega, rfl, by rw [HI1.out], rfl, Lib.hid (fun j h1 h2 => by omega), rfl⟩
        case round =>
          obtain ⟨i, hi1, hin, rfl, rfl, rfl, HT, rfl⟩ := hrel
          have hbd := numI_bd zs (by rw [HCC.out]; exact hcb) i hi1 (by omega) HT.out
          by_cases hlt : i < n
          · obtain ⟨ad2, had2, hci⟩ := HZ.out.ints i (by omega)
            injection had2 with had2
            subst had2
            have hib := HZB.out (zs.getD i 0) (by rw [List.getD_eq_getElem?_getD, List.getElem?_eq_getElem (show i < zs.length by omega)]; exact List.getElem_mem _)
            have CT := Lib.hid (tail_any (zs.getD i 0) wr hib)
            have HSU := Lib.hid (numI_succ zs i hi1)
            have HLT := Lib.hid (let_tail zs n i HN2.out hi1 hlt)
            have HT2 := Lib.hid (fun (h : 128 ≤ zs.getD i 0 ∧ zs.getD i 0 ≤ 191) => show tails zs (i + 1) from fun j h1 h2 => by
              by_cases hj : j = i
              · subst hj
                exact h
              · exact HT.out j h1 (by omega))
            generalize zs.getD i 0 = z at *
            by_cases ht : 128 ≤ z ∧ z ≤ 191
            · have HD := Lib.hid (decide_eq_true ht)
              have HT3 := Lib.hid (HT2.out ht)
              clear HT2 HLT
              obtain ⟨ht1, ht2⟩ := ht
              generalize numI zs i = s at *
              go_wp2_with fail
              refine CT.out.mono ?_
              rw [HD.out]
              rintro e w1 ⟨rfl, rfl⟩
              go_wp2
              go_roundw
              case rel => exact ⟨i + 1, by omega, by omega, rfl, by rw [HSU.out], by go_num, HT3, trivial⟩
              case measure => simp [intOf]; omega
            · have HD := Lib.hid (decide_eq_false ht)
              have HL := Lib.hid (HLT.out ht)
              clear HT2 HLT ht
              go_wp2_with fail
              refine CT.out.mono ?_
              rw [HD.out]
              rintro e w1 ⟨rfl, rfl⟩
              go_wp2
              go_ret2
              exact told_zero HL.out (Below.refl _ _)
          · obtain rfl : i = n := by omega
            have CI := Lib.hid (isl_any (numI zs i) wr (by omega))
            have HB := Lib.hid (let_bad zs i HN2.out)
            have HG := Lib.hid (let_good zs HZB.out i hi1 HN2.out HT.out)
            generalize numI zs i = s at *
            cases hs : isL s with
            | false =>
              have HS2 := Lib.hid hs
              have HL := Lib.hid (HB.out (by rw [hs]; simp))
              clear hs HB HG
              go_wp2_with fail
              refine CI.out.mono ?_
              rw [HS2.out]
              rintro e w1 ⟨rfl, rfl⟩
              go_wp2
              go_ret2
              exact told_zero HL.out (Below.refl _ _)
            | true =>
              have HS2 := Lib.hid hs
              obtain ⟨hs0, hs1, _⟩ := of_decide_eq_true hs
              have CB := Lib.hid (bytes_any s wr hs0 hs1)
              have HB2 := Lib.hid (fun (h : ¬ (ub s).length = i) => HB.out (fun q => h q.2))
              have HG2 := Lib.hid (HG.out hs)
              clear hs HB HG
              go_wp2_with fail
              refine CI.out.mono ?_
              rw [HS2.out]
              rintro e w1 ⟨rfl, rfl⟩
              go_wp2_with fail
              refine CB.out.mono ?_
              rintro e w2 ⟨v, rfl, ⟨a2, c2, rfl, hv⟩, hb2⟩
              have HBW := Lib.hid hb2
              clear hb2 hv CB
              by_cases hu : (ub s).length = i
              · have hne : (((ub s).length : Int) != (i : Int)) = false := by rw [bne_eq_false_iff_eq]; omega
                have HL := Lib.hid (HG2.out hu)
                clear hu
                go_wp2
                go_ret2
                exact ⟨_, _, rfl, HL.out, HBW.out⟩
              · have hne : (((ub s).length : Int) != (i : Int)) = true := by rw [bne_iff_ne]; omega
                have HL := Lib.hid (HB2.out hu)
                clear hu
                go_wp2
                go_ret2
                exact told_zero HL.out HBW.out

end Go.Proofs.YtobcgeonobgjpaaDoor
