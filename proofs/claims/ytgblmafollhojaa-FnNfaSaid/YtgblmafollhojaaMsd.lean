/-
  initialStates, multistateDistance. Conditions: as stated.
-/
import Derived.Test.YtgblmafollhojaaOsa
import Derived.Deep.QuietTactic
import Derived.Deep.CutRange
import Derived.Deep.DeepCutAuto
import Derived.Deep.RegionHeld3
namespace Go.Proofs.Ytgblmafollhojaa
open Go.ChangeShapes Go.WideShapes Go.ChangeAt Go.RowKit
set_option linter.unusedVariables false

theorem D_low (sw : Bool) (xs ys : List Int) : ∀ (N i k : Nat), i + k ≤ N → i ≤ eds sw xs ys i k + k
  | _, 0, k, _ => by omega
  | _, i + 1, 0, _ => by rw [eds_left]; omega
  | N + 1, i + 1, k + 1, h => by
    rcases D_cases sw xs ys i k with e | e | e | ⟨_, e⟩ | ⟨_, hi0, hk0, _, _, e⟩
    · have := D_low sw xs ys N i (k + 1) (by omega); omega
    · have := D_low sw xs ys N (i + 1) k (by omega); omega
    · have := D_low sw xs ys N i k (by omega); omega
    · have := D_low sw xs ys N i k (by omega); omega
    · have := D_low sw xs ys N (i - 1) (k - 1) (by omega); omega
  | 0, _ + 1, _ + 1, h => by omega

theorem dst_any (n o : Nat) (w : World) (hn : n ≤ 1000) (ho : o ≤ 1000) : Calls Try.prog 49 #[.int .u32 n, .int .u32 o] w fun e w' => e = .returned (.int .u32 (gap o n : Nat)) ∧ w' = w := by
  obtain ⟨G, hG⟩ : ∃ G : Nat, G = gap o n := ⟨_, rfl⟩
  rw [← hG]
  unfold gap at hG
  by_cases h : (o : Int) < n
  · have e : IntKind.u32.wrap ((n : Int) - o) = G := by rw [IntKind.wrap_u32]; omega
    clear hG
    go_enter Try.func49, Try.ntmps49
    go_wp2
    go_ret
    exact ⟨rfl, rfl⟩
  · have e : IntKind.u32.wrap ((o : Int) - n) = G := by rw [IntKind.wrap_u32]; omega
    clear hG
    go_enter Try.func49, Try.ntmps49
    go_wp2
    go_ret
    exact ⟨rfl, rfl⟩

theorem atl_any (R : Nat) (w : World) : Calls Try.prog 50 #[.agg #[.int .u8 R]] w fun e w' => e = .returned (.int .u8 R) ∧ Below w.heap.size w w' := by
  have HB := Lib.hid ((Below.refl w.heap.size w).alloc (Nat.le_refl _) (.cells #[.int .u8 R] 91))
  go_enter Try.func50, Try.ntmps50
  go_wp2
  go_ret
  exact ⟨rfl, HB.out⟩

theorem init_any (L : Nat) (w : World) : Calls Try.prog 44 #[.pointer (some ⟨L, 0, none⟩)] w fun e w' => ∃ M v, e = .returned (.pointer (some ⟨M, 0, none⟩)) ∧ w.heap.size ≤ M ∧ MSt w' M w.heap.size v [(0, 0, false)] ∧ Below w.heap.size w w' := by
  have hms : MSt ((w.alloc (.cells #[.slice none 0 0] 67)).alloc (.cells #[.int .u32 0, .int .u8 0, .bool false] 63)) w.heap.size w.heap.size (.slice none 0 0) [] :=
    ⟨(Blk.new w 67 [.slice none 0 0]).alloc _, ⟨rfl, .inl ⟨rfl, rfl⟩⟩, fun p hp => by simp at hp⟩
  have hb : Below w.heap.size w ((w.alloc (.cells #[.slice none 0 0] 67)).alloc (.cells #[.int .u32 0, .int .u8 0, .bool false] 63)) := ((Below.refl _ _).alloc (Nat.le_refl _) _).alloc (by simp) _
  have C := add_any w.heap.size w.heap.size (.slice none 0 0) [] (0, 0, false) _ hms (by simp) ⟨by simp, by simp⟩ (by simp; omega)
  unfold agg3 at C
  simp only at C
  have HC := Lib.hid C
  have HB := Lib.hid hb
  clear C hms hb
  go_enter Try.func44, Try.ntmps44
  go_wp2_with (fail)
  refine HC.out.mono ?_
  rintro e w1 ⟨rfl, v, h1, h2, h3⟩
  have H1 := Lib.hid (show MSt w1 w.heap.size w.heap.size v [(0, 0, false)] from h1)
  have H2 := Lib.hid (HB.out.trans (h2.below (Nat.le_refl _) (fun k hk => by simp [Value.ownBlock] at hk) (by simp; omega)))
  clear h1 h2 h3 HC
  go_wp2_with (fail)
  go_ret
  exact ⟨_, v, rfl, Nat.le_refl _, H1.out, H2.out⟩

theorem tells_snoc (m n : Nat) (ls : List Pl) (i : Nat) (h : i < ls.length) : tells m n (ls.take (i + 1)) = if ls[i].2.1 + gap ls[i].1 n ≤ m ∧ ls[i].2.1 + gap ls[i].1 n < tells m n (ls.take i) then ls[i].2.1 + gap ls[i].1 n else tells m n (ls.take i) := by
  unfold tells
  rw [List.take_succ_eq_append_getElem h, List.foldl_append]
  rfl
theorem tells_le (m n : Nat) (ls : List Pl) : tells m n ls ≤ m + 1 := (tells_fold m n ls (m + 1)).2.2

set_option maxRecDepth 100000 in
set_option maxHeartbeats 1600000 in
theorem msd_any (L C m n : Nat) (dam : Bool) (w : World) (hbL : Blk w L 78 [.int .u8 m, .bool dam]) (a : Option Addr) (ls : List Pl) (c : Nat) (hbC : Blk w C 67 [.slice a ls.length c]) (hs : Sl w w.heap.size a (ls.flatMap enc3))
    (hm : m ≤ 8) (hn : n ≤ 40) (hok : ∀ p ∈ ls, p.1 ≤ 60 ∧ p.2.1 ≤ m) (hlen : ls.length ≤ 2000) :
    Calls Try.prog 45 #[.pointer (some ⟨L, 0, none⟩), .pointer (some ⟨C, 0, none⟩), .int .u32 n] w fun e w' => e = .returned (.iface 91 (.agg #[.int .u8 (tells m n ls : Nat)])) ∧ Below w.heap.size w w' := by
  have HL := Lib.hid hbL
  have HC := Lib.hid hbC
  have HS := Lib.hid hs
  have HOK := Lib.hid hok
  have hl0 := hbL.cell 0
  have hc0 := hbC.cell 0
  simp only [List.getElem?_cons_zero] at hl0 hc0
  have hLl := hbL.lt
  have hCl := hbC.lt
  have m1 : IntKind.u8.wrap ((m : Int) + 1) = m + 1 := by rw [IntKind.wrap_u8]; omega
  have HB1 := Lib.hid ((Below.refl w.heap.size w).alloc (Nat.le_refl _) (.cells #[.int .u8 ((m : Int) + 1)] 91))
  have HX1 := Lib.hid (Blk.new w 91 [.int .u8 ((m : Int) + 1)])
  clear hbL hbC hs hok
  go_enter Try.func45, Try.ntmps45
  go_wp2_with (fail)
  go_loopw [22] (fun vi wr => ∃ i : Nat, i ≤ ls.length ∧ vi = .int .i64 i ∧ Hid (Blk wr w.heap.size 91 [.int .u8 (tells m n (ls.take i) : Nat)]) ∧ Hid (Below w.heap.size w wr)) (fun vi _ => ls.length - (intOf vi).toNat)
  case atStart => exact ⟨0, by omega, rfl, Lib.hid (by simpa [tells] using HX1.out), HB1⟩
  case round =>
    obtain ⟨i, hil, rfl, HX, HB⟩ := hrel
    have x0 := HX.out.cell 0
    simp only [List.getElem?_cons_zero] at x0
    have hXl := HX.out.lt
    have l0 := (HL.out.below HB.out hLl).cell 0
    simp only [List.getElem?_cons_zero] at l0
    clear hl0 hc0
    by_cases hlt : i < ls.length
    · obtain ⟨ad, rfl, -, c0, c1, c2⟩ := three_at (HS.out.below HB.out) i hlt
      have hpo := HOK.out ls[i] (List.getElem_mem hlt)
      have HT := Lib.hid (tells_snoc m n ls i hlt)
      have htl := tells_le m n (ls.take i)
      obtain ⟨R, hR⟩ : ∃ R, R = tells m n (ls.take i) := ⟨_, rfl⟩
      rw [← hR] at HX HT x0 htl
      clear hR
      generalize ls[i] = p at *
      obtain ⟨o, e, f⟩ := p
      simp only at c0 c1 c2 hpo HT
      have CG := Lib.hid (fun W => dst_any n o W (by omega) (by omega))
      have hg : gap o n ≤ 60 := by unfold gap; omega
      obtain ⟨G, hG⟩ : ∃ G, G = gap o n := ⟨_, rfl⟩
      rw [← hG] at CG HT hg
      clear hG
      have g1 : IntKind.u8.wrap (G : Int) = G := by rw [IntKind.wrap_u8]; omega
      have g2 : IntKind.u8.wrap ((e : Int) + G) = (e : Int) + G := by rw [IntKind.wrap_u8]; omega
      have HBS := Lib.hid ((Below.refl wr.heap.size wr).alloc (Nat.le_refl _) (.cells #[.int .u32 o, .int .u8 e, .bool f] 63))
      have CA := Lib.hid (fun W => atl_any R W)
      have la : ∀ o : Obj, (wr.alloc o).cell? ⟨L, 0, none⟩ = some (.int .u8 m) := fun o => (World.cell?_alloc_lt _ _ _ (Nat.lt_of_lt_of_le hLl HB.out.size)).trans l0
      have xa : ∀ o : Obj, (wr.alloc o).cell? ⟨w.heap.size, 0, none⟩ = some (.int .u8 R) := fun o => (World.cell?_alloc_lt _ _ _ hXl).trans x0
      go_upto_region 5 with (fail)
      go_quiet (first | (go_at_call 49; exact Calls.quiet_of_same (CG.out _)))
      have HBq := Lib.hid (fun q => show Below wr.heap.size wr ((wr.alloc (.cells #[.int .u32 o, .int .u8 e, .bool f] 63)).drewN q) from below_drewN HBS.out q)
      by_cases hm1 : e + G ≤ m
      · have hd1 : decide (e + G ≤ m) = true := decide_eq_true hm1
        have hd1' : decide ((e : Int) + G ≤ m) = true := decide_eq_true (by omega)
        go_wp2_with (fail)
        refine (CA.out _).mono ?_
        rintro en w5 ⟨rfl, h5⟩
        have HB5 := Lib.hid ((HBq.out _).trans (h5.mono (by simp)))
        clear h5 CA
        have HX5 := Lib.hid (HX.out.below HB5.out hXl)
        have y0 := HX5.out.cell 0
        have yf := HX5.out.frozen 0
        simp only [List.getElem?_cons_zero] at y0
        have HBW5 := Lib.hid (HB.out.trans (HB5.out.mono HB.out.size))
        by_cases hm2 : e + G < R
        · have hd2 : decide (e + G < R) = true := decide_eq_true hm2
          have hd2' : decide ((e : Int) + G < R) = true := decide_eq_true (by omega)
          go_wp2_with (fail)
          go_roundw
          case rel => exact ⟨i + 1, by omega, by go_num, Lib.hid (by rw [HT.out, if_pos ⟨hm1, hm2⟩]; exact (HX5.out.set_ 0 _)), Lib.hid (HBW5.out.setCell (Nat.le_refl _) _)⟩
          case measure => simp [intOf]; omega
        · have hd2 : decide (e + G < R) = false := decide_eq_false hm2
          have hd2' : decide ((e : Int) + G < R) = false := decide_eq_false (by omega)
          go_wp2_with (fail)
          go_roundw
          case rel => exact ⟨i + 1, by omega, by go_num, Lib.hid (by rw [HT.out, if_neg (by omega)]; exact HX5.out), HBW5⟩
          case measure => simp [intOf]; omega
      · have hd1 : decide (e + G ≤ m) = false := decide_eq_false hm1
        have hd1' : decide ((e : Int) + G ≤ m) = false := decide_eq_false (by omega)
        go_wp2_with (fail)
        go_roundw
        case rel => exact ⟨i + 1, by omega, by go_num, Lib.hid (by rw [HT.out, if_neg (by omega)]; exact HX.out.below (HBq.out _) hXl), Lib.hid (HB.out.trans ((HBq.out _).mono HB.out.size))⟩
        case measure => simp [intOf]; omega
    · obtain rfl : i = ls.length := by omega
      have htl := tells_le m n ls
      rw [List.take_length] at HX x0
      obtain ⟨R, hR⟩ : ∃ R, R = tells m n ls := ⟨_, rfl⟩
      have HR := Lib.hid hR
      rw [← hR] at HX x0 htl
      clear hR
      have CA := Lib.hid (fun W => atl_any R W)
      have hLw : L < wr.heap.size := Nat.lt_of_lt_of_le hLl HB.out.size
      obtain ⟨bb, hb⟩ : ∃ bb, ((R : Int) == (m : Int) + 1) = bb := ⟨_, rfl⟩
      have HBB := Lib.hid (show bb = true → ((m : Int) + 1) = (R : Int) from fun h => by rw [h, beq_iff_eq] at hb; omega)
      have HXW := Lib.hid (fun (W : World) (h : Below wr.heap.size wr W) => HX.out.below h hXl)
      go_upto_region 10 with (fail)
      go_cut [54] (fun s54 wx => s54 = .bool bb ∧ Hid (Below wr.heap.size wr wx))
      case first =>
        go_region_with (go_at_call 50; refine (CA.out _).mono ?_; rintro en w5 ⟨rfl, h5⟩; have l5 := (h5.cell (p := ⟨L, 0, none⟩) (show L < _ from hLw)).trans l0; have x5 := (h5.cell (p := ⟨w.heap.size, 0, none⟩) (show w.heap.size < _ from hXl)).trans x0; have HB5 := Lib.hid ((Below.refl wr.heap.size wr).drew.trans h5); clear h5)
        all_goals (go_wp2_with fail)
        all_goals go_meet
        all_goals exact ⟨rfl, HB5⟩
      case rest =>
        obtain ⟨rfl, HB5⟩ := hcut
        have l5 := (HB5.out.cell (p := ⟨L, 0, none⟩) hLw).trans l0
        have x5 := (HB5.out.cell (p := ⟨w.heap.size, 0, none⟩) hXl).trans x0
        have HB6 := Lib.hid (HB.out.trans (HB5.out.mono HB.out.size))
        clear hb
        cases bb with
        | true =>
          have HRm := Lib.hid (HBB.out rfl)
          go_wp2_with (fail)
          go_ret
          exact ⟨by rw [← HR.out, ← HRm.out]; rfl, HB6.out⟩
        | false =>
          go_wp2_with (fail)
          go_ret
          exact ⟨by rw [← HR.out]; rfl, HB6.out⟩

end Go.Proofs.Ytgblmafollhojaa
