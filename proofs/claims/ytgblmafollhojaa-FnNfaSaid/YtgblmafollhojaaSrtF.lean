/-
  Sorting through an interface value: pdqsort, sort.Sort: a permutation of the list, sorted. Conditions: as stated.
-/
import Derived.Test.YtgblmafollhojaaSrtE
namespace Go.Proofs.Ytgblmafollhojaa
open Go.ChangeShapes Go.WideShapes Go.ChangeAt Go.RowKit
open Go.Sort (swp PermIn SortedIn SWO)
set_option linter.unusedVariables false

/-- the part from a to b is sorted; all else is as it was -/
def Done {α : Type} [Inhabited α] (I : Itf α) (W : World) (d : Array α) (a b : Nat) (e : Ending) (w' : World) : Prop :=
  e = .returned (.tuple #[]) ∧ ∃ d', PermIn a b d d' ∧ SortedIn I.lt a b d' ∧ Hs I W d' w'

/-- where a round of the loop stands -/
structure Rnd {α : Type} [Inhabited α] (I : Itf α) (W : World) (d : Array α) (a b : Nat) (x y : Nat) (dk : Array α) (w : World) : Prop where
  ax : a ≤ x
  xy : x ≤ y
  yb : y ≤ b
  bel : Go.Sort.Below I.lt x y dk
  good : ∀ R, PermIn x y dk R → SortedIn I.lt x y R → PermIn a b d R ∧ SortedIn I.lt a b R
  hs : Hs I W dk w

section
variable {α : Type} [Inhabited α] {I : Itf α} {W w w' : World} {d dk dj : Array α} {a b x y : Nat}
theorem Rnd.on (h : Rnd I W d a b x y dk w) (hy : y ≤ dk.size) (hp : PermIn x y dk dj) (hs : Hs I W dj w') : Rnd I W d a b x y dj w' :=
  ⟨h.ax, h.xy, h.yb, h.bel.perm hy hp, fun R h1 h2 => h.good R (Go.Sort.permIn_trans _ _ _ x y hp h1) h2, hs⟩
end

/-- a smaller part is sorted -/
def Less {α : Type} [Inhabited α] (I : Itf α) (n : Nat) : Prop := ∀ (W : World) (d : Array α) (a b l : Nat) (x y z : Int), x = a → y = b → z = l → I.S W d → a ≤ b → b ≤ I.N → l < 4611686018427387904 → Go.Sort.Below I.lt a b d → b - a < n →
  Calls Try.prog 47 #[.iface I.T I.rv, .int .i64 x, .int .i64 y, .int .i64 z] W (Done I W d a b)

set_option maxRecDepth 100000 in
set_option maxHeartbeats 6400000 in
theorem pdq_round {α : Type} [Inhabited α] {I : Itf α} (O : I.Ok) (hO : SWO I.lt) (n : Nat) (IH : Less I n) (W : World) (d : Array α) (a b l : Nat) (h : I.S W d) (hab : a ≤ b) (hb : b ≤ I.N) (hl : l < 4611686018427387904) (hB : Go.Sort.Below I.lt a b d) (hn : b - a ≤ n) :
    Calls Try.prog 47 #[.iface I.T I.rv, .int .i64 a, .int .i64 b, .int .i64 l] W (Done I W d a b) := by
  have mL := O.mL
  have eL := O.eL
  have big := O.big
  have HR := Lib.hid (show Rnd I W d a b a b d W from ⟨Nat.le_refl _, hab, Nat.le_refl _, hB, fun R h1 h2 => ⟨h1, h2⟩, Hs.refl h⟩)
  have HO := Lib.hid O
  have HW := Lib.hid hO
  have HI := Lib.hid IH
  clear h O hO IH hB
  go_enter Try.func47, Try.ntmps47
  go_wp2
  go_loopw [1, 2, 3, 8, 9] (fun vx vy vl vb vp wr => ∃ (x y k : Nat) (p q : Bool) (dk : Array α), vx = .int .i64 x ∧ vy = .int .i64 y ∧ vl = .int .i64 k ∧ vb = .bool p ∧ vp = .bool q ∧ x ≤ y ∧ a ≤ x ∧ y ≤ b ∧ k ≤ l ∧ Hid (Rnd I W d a b x y dk wr)) (fun vx vy _ _ _ _ => (intOf vy).toNat - (intOf vx).toNat)
  case atStart => exact ⟨a, b, l, true, true, d, rfl, rfl, rfl, rfl, rfl, hab, Nat.le_refl _, Nat.le_refl _, Nat.le_refl _, HR⟩
  case round =>
    obtain ⟨x, y, k, p, q, dk, rfl, rfl, rfl, rfl, rfl, hxy, hax, hyb, hkl, HK⟩ := hrel
    clear HR
    by_cases h12 : y - x ≤ 12
    · have h12' : (y : Int) - x ≤ 12 := by omega
      have C := Lib.hid (ins_any HO.out wr dk x y HK.out.hs.s hxy (by omega))
      go_wp2_with fail
      refine C.out.mono ?_
      rintro e w1 ⟨rfl, hs1⟩
      have H1 := Lib.hid (HK.out.hs.on hs1)
      clear hs1 C
      go_wp2
      go_returns
      have hq := Go.Sort.insertionSort_holds HW.out dk x y hxy (by have := HO.out.siz HK.out.hs.s; omega)
      obtain ⟨g1, g2⟩ := HK.out.good _ hq.1 hq.2
      exact ⟨rfl, _, g1, g2, H1.out⟩
    · have h12' : ¬ (y : Int) - x ≤ 12 := by omega
      have h12d : decide ((y : Int) - x ≤ 12) = false := decide_eq_false h12'
      by_cases hk0 : k = 0
      · subst hk0
        have C := Lib.hid (heap_any HO.out wr dk x y HK.out.hs.s (by omega) (by omega))
        go_wp2_with fail
        refine C.out.mono ?_
        rintro e w1 ⟨rfl, hs1⟩
        have H1 := Lib.hid (HK.out.hs.on hs1)
        clear hs1 C
        go_wp2
        go_returns
        have hq := Go.Sort.heapSort_holds HW.out dk x y hxy (by have := HO.out.siz HK.out.hs.s; omega)
        obtain ⟨g1, g2⟩ := HK.out.good _ hq.1 hq.2
        exact ⟨rfl, _, g1, g2, H1.out⟩
      · have hk1 : 1 ≤ k := by omega
        have hkb : ((k : Int) == 0) = false := by rw [beq_eq_false_iff_ne]; omega
        have hxy12 : x + 12 < y := by omega
        clear h12 hk0
        go_upto_if 35 with (fail)
        go_cut [3] (fun s3 wx => ∃ (k1 : Nat) (d1 : Array α), s3 = .int .i64 k1 ∧ k1 ≤ l ∧ Hid (Rnd I W d a b x y d1 wx))
        case first =>
          cases p with
          | true =>
            go_wp2
            go_meet
            case rel => exact ⟨k, dk, rfl, hkl, HK⟩
          | false =>
            have C := Lib.hid (brk_any HO.out wr dk x y HK.out.hs.s hxy12 (by omega))
            go_wp2_with fail
            refine C.out.mono ?_
            rintro e w1 ⟨rfl, d1, hp1, hs1⟩
            have H1 := Lib.hid (HK.out.on (by have := HO.out.siz HK.out.hs.s; omega) hp1 (HK.out.hs.on hs1))
            clear hs1 hp1 C
            go_wp2
            go_meet
            case rel => exact ⟨k - 1, d1, by go_num, by omega, H1⟩
        case rest =>
          clear HK hkb
          obtain ⟨k1, d1, rfl, hk1l, HK1⟩ := hcut
          have C := Lib.hid (piv_any HO.out wc d1 x y HK1.out.hs.s hxy12 (by omega))
          go_wp2_with fail
          refine C.out.mono ?_
          rintro e w1 ⟨pv, hh, rfl, hpx, hpy, hh2, hs1⟩
          have H1 := Lib.hid (HK1.out.on (by have := HO.out.siz HK1.out.hs.s; omega) (Go.Sort.permIn_refl (α := α) d1 x y) (HK1.out.hs.on hs1))
          clear hs1 C HK1
          go_upto_if 50 with (fail)
          go_cut [11, 12] (fun s11 s12 wx => ∃ (pv hh : Nat) (d2 : Array α), s11 = .int .i64 pv ∧ s12 = .int .i64 hh ∧ x ≤ pv ∧ pv < y ∧ Hid (Rnd I W d a b x y d2 wx))
          case first =>
            by_cases h2 : hh = 2
            · subst h2
              have C := Lib.hid (rev_any HO.out w1 d1 x y H1.out.hs.s (by omega) (by omega))
              go_wp2_with fail
              refine C.out.mono ?_
              rintro e w2 ⟨rfl, hs2⟩
              have H2 := Lib.hid (H1.out.on (by have := HO.out.siz H1.out.hs.s; omega) (Go.Sort.reverseRange_holds d1 x y hxy (by have := HO.out.siz H1.out.hs.s; omega)) (H1.out.hs.on hs2))
              clear hs2 C
              go_wp2
              go_meet
              case rel => exact ⟨y - 1 - (pv - x), 1, _, by go_num, rfl, by omega, by omega, H2⟩
            · have hb2 : ((hh : Int) == 2) = false := by rw [beq_eq_false_iff_ne]; omega
              clear h2
              go_wp2
              go_meet
              case rel => exact ⟨pv, hh, d1, rfl, rfl, hpx, hpy, H1⟩
          case rest =>
            clear H1 hpx hpy hh2 w1 pv hh
            obtain ⟨pv, hh, d2, rfl, rfl, hpx, hpy, HK2⟩ := hcut
            go_upto_region 15 with (fail)
            go_cut [68] (fun s68 wx => ∃ t : Bool, s68 = .bool t ∧ Hid (Rnd I W d a b x y d2 wx))
            case first =>
              by_cases h1 : hh = 1
              · subst h1
                cases p <;> cases q
                all_goals
                  go_wp2
                  go_meet
                  case rel => exact ⟨_, rfl, HK2⟩
              · have hb1 : ((hh : Int) == 1) = false := by rw [beq_eq_false_iff_ne]; omega
                clear h1
                cases p <;> cases q
                all_goals
                  go_wp2
                  go_meet
                  case rel => exact ⟨_, rfl, HK2⟩
            case rest =>
              clear HK2
              obtain ⟨t, rfl, HK2⟩ := hcut
              go_upto_if 68 with (fail)
              go_cut [] (fun wx => ∃ d3 : Array α, Hid (Rnd I W d a b x y d3 wx))
              case first =>
                cases t with
                | false =>
                  go_wp2
                  go_meet
                  case rel => exact ⟨d2, HK2⟩
                | true =>
                  have C := Lib.hid (pis_any HO.out wc d2 x y HK2.out.hs.s (by omega) (by omega))
                  have HQ := Lib.hid (Go.Sort.partialInsertionSort_holds HW.out d2 x y (by omega) (by have := HO.out.siz HK2.out.hs.s; omega) HK2.out.bel)
                  have hsz := Lib.hid (HO.out.siz HK2.out.hs.s)
                  generalize Go.Sort.partialInsertionSort I.lt d2 x y = r at *
                  obtain ⟨dr, br⟩ := r
                  simp only at C HQ
                  cases br with
                  | true =>
                    go_wp2_with fail
                    refine C.out.mono ?_
                    rintro e w3 ⟨rfl, hs3⟩
                    have H3 := Lib.hid (HK2.out.hs.on hs3)
                    clear hs3 C
                    go_wp2
                    go_returns
                    obtain ⟨g1, g2⟩ := HK2.out.good _ HQ.out.1 (HQ.out.2 (by simp))
                    exact ⟨rfl, _, g1, g2, H3.out⟩
                  | false =>
                    go_wp2_with fail
                    refine C.out.mono ?_
                    rintro e w3 ⟨rfl, hs3⟩
                    have H3 := Lib.hid (HK2.out.on (by have := hsz.out; omega) HQ.out.1 (HK2.out.hs.on hs3))
                    clear hs3 C
                    go_wp2
                    go_meet
                    case rel => exact ⟨dr, H3⟩
              case rest =>
                clear HK2
                obtain ⟨d3, HK3⟩ := hcut
                have hsz := Lib.hid (HO.out.siz HK3.out.hs.s)
                go_upto_region 17 with (fail)
                go_cut [82] (fun s82 wx => ∃ t : Bool, s82 = .bool t ∧ (t = true → 0 < x ∧ I.lt d3[x - 1]! d3[pv]! = false) ∧ Hid (Rnd I W d a b x y d3 wx))
                case first =>
                  by_cases hx0 : 0 < x
                  · cases hlv : I.lt d3[x - 1]! d3[pv]! with
                    | true =>
                      have HLV := Lib.hid hlv
                      clear hlv
                      go_wp2_with fail
                      refine (HK3.out.hs.lessI HO.out _ _ (x - 1) pv (by omega) (by omega) (by omega) (by omega)).mono ?_
                      rw [HLV.out]
                      rintro e w4 ⟨rfl, hs4⟩
                      have H4 := Lib.hid (show Rnd I W d a b x y d3 w4 from { HK3.out with hs := hs4 })
                      clear hs4
                      go_wp2
                      go_meet
                      case rel => exact ⟨false, rfl, fun h => (by cases h), H4⟩
                    | false =>
                      have HLV := Lib.hid hlv
                      clear hlv
                      go_wp2_with fail
                      refine (HK3.out.hs.lessI HO.out _ _ (x - 1) pv (by omega) (by omega) (by omega) (by omega)).mono ?_
                      rw [HLV.out]
                      rintro e w4 ⟨rfl, hs4⟩
                      have H4 := Lib.hid (show Rnd I W d a b x y d3 w4 from { HK3.out with hs := hs4 })
                      clear hs4
                      go_wp2
                      go_meet
                      case rel => exact ⟨true, rfl, fun _ => ⟨hx0, HLV.out⟩, H4⟩
                  · go_wp2
                    go_meet
                    case rel => exact ⟨false, rfl, fun h => (by cases h), HK3⟩
                case rest =>
                  clear HK3
                  obtain ⟨t, rfl, hT, HK3⟩ := hcut
                  have HT := Lib.hid hT
                  clear hT
                  cases t with
                  | true =>
                    have hx0 : 0 < x := (HT.out rfl).1
                    have C := Lib.hid (peq_any HO.out wc d3 x y pv HK3.out.hs.s (by omega) (by omega) (by omega))
                    have HQ := Lib.hid (Go.Sort.round_eq (mid := (Go.Sort.partitionEqual I.lt d3 x y pv).1) (d4 := (Go.Sort.partitionEqual I.lt d3 x y pv).2) HW.out (Go.Sort.partitionEqual_holds I.lt) hx0 hpx hpy (by have := hsz.out; omega) HK3.out.bel (HT.out rfl).2 rfl)
                    generalize Go.Sort.partitionEqual I.lt d3 x y pv = r at *
                    obtain ⟨mid, d4⟩ := r
                    simp only at C HQ
                    have m1 := HQ.out.1
                    have m2 := HQ.out.2.1
                    go_wp2_with fail
                    refine C.out.mono ?_
                    rintro e w4 ⟨rfl, hs4⟩
                    have H4 := Lib.hid (show Rnd I W d a b mid y d4 w4 from ⟨by omega, by omega, hyb, HQ.out.2.2.2.1, fun R h1 h2 => by
                      obtain ⟨g1, g2⟩ := HQ.out.2.2.2.2 R h1 h2
                      exact HK3.out.good R g1 g2, HK3.out.hs.on hs4⟩)
                    clear hs4 C
                    go_wp2
                    go_roundw
                    case rel => exact ⟨mid, y, k1, p, q, d4, rfl, rfl, rfl, rfl, rfl, by omega, by omega, hyb, hk1l, H4⟩
                    case measure => simp [intOf]; omega
                  | false =>
                    have C := Lib.hid (part_any HO.out wc d3 x y pv HK3.out.hs.s (by omega) (by omega) (by omega))
                    have HQ := Lib.hid (Go.Sort.round_part (mid := (Go.Sort.partition I.lt d3 x y pv).1) (ap := (Go.Sort.partition I.lt d3 x y pv).2.1) (d4 := (Go.Sort.partition I.lt d3 x y pv).2.2) HW.out (Go.Sort.partition_holds I.lt) hpx hpy (by have := hsz.out; omega) HK3.out.bel rfl)
                    generalize Go.Sort.partition I.lt d3 x y pv = r at *
                    obtain ⟨mid, ap, d4⟩ := r
                    simp only at C HQ
                    have m1 := HQ.out.1
                    have m2 := HQ.out.2.1
                    by_cases hlr : mid - x < y - mid
                    · have hlr' : (mid : Int) - x < (y : Int) - mid := by omega
                      go_wp2_with fail
                      refine C.out.mono ?_
                      rintro e w4 ⟨rfl, hs4⟩
                      have C2 := Lib.hid (HI.out w4 d4 x mid k1)
                      have H4 := Lib.hid (HK3.out.hs.on hs4)
                      clear hs4 C
                      go_wp2_with fail
                      refine (C2.out _ _ _ rfl rfl rfl H4.out.s (by omega) (by omega) (by omega) HQ.out.2.2.2.1 (by omega)).mono ?_
                      rintro e w5 ⟨rfl, L, hp5, ho5, hs5⟩
                      have H5 := Lib.hid (show Rnd I W d a b (mid + 1) y L w5 from ⟨by omega, by omega, hyb, (HQ.out.2.2.2.2.2.1 L hp5 ho5).1, fun R h1 h2 => by
                        obtain ⟨g1, g2⟩ := (HQ.out.2.2.2.2.2.1 L hp5 ho5).2 R h1 h2
                        exact HK3.out.good R g1 g2, H4.out.on hs5⟩)
                      clear hp5 ho5 hs5 C2
                      go_wp2
                      go_roundw
                      case rel => exact ⟨mid + 1, y, k1, _, _, L, by go_num, rfl, rfl, rfl, rfl, by omega, by omega, hyb, hk1l, H5⟩
                      case measure => simp [intOf]; omega
                    · have hlr' : ¬ (mid : Int) - x < (y : Int) - mid := by omega
                      go_wp2_with fail
                      refine C.out.mono ?_
                      rintro e w4 ⟨rfl, hs4⟩
                      have C2 := Lib.hid (HI.out w4 d4 (mid + 1) y k1)
                      have H4 := Lib.hid (HK3.out.hs.on hs4)
                      clear hs4 C
                      go_wp2_with fail
                      refine (C2.out _ _ _ (by omega) rfl rfl H4.out.s (by omega) (by omega) (by omega) HQ.out.2.2.2.2.1 (by omega)).mono ?_
                      rintro e w5 ⟨rfl, L, hp5, ho5, hs5⟩
                      have H5 := Lib.hid (show Rnd I W d a b x mid L w5 from ⟨by omega, by omega, by omega, (HQ.out.2.2.2.2.2.2 L hp5 ho5).1, fun R h1 h2 => by
                        obtain ⟨g1, g2⟩ := (HQ.out.2.2.2.2.2.2 L hp5 ho5).2 R h1 h2
                        exact HK3.out.good R g1 g2, H4.out.on hs5⟩)
                      clear hp5 ho5 hs5 C2
                      go_wp2
                      go_roundw
                      case rel => exact ⟨x, mid, k1, _, _, L, rfl, rfl, rfl, rfl, rfl, by omega, by omega, by omega, hk1l, H5⟩
                      case measure => simp [intOf]; omega

theorem pdq_less {α : Type} [Inhabited α] {I : Itf α} (O : I.Ok) (hO : SWO I.lt) : ∀ n, Less I n
  | 0 => fun _ _ _ _ _ _ _ _ _ _ _ _ _ _ _ _ h => absurd h (Nat.not_lt_zero _)
  | n + 1 => fun W d a b l x y z hx hy hz h hab hb hl hB hn => by
    subst hx hy hz
    exact pdq_round O hO n (pdq_less O hO n) W d a b l h hab hb hl hB (by omega)

set_option maxRecDepth 100000 in
set_option maxHeartbeats 400000 in
/-- sort.Sort: a permutation of the list, sorted -/
theorem ssort_any {α : Type} [Inhabited α] {I : Itf α} (O : I.Ok) (hO : SWO I.lt) (W : World) (d : Array α) (h : I.S W d) :
    Calls Try.prog 39 #[.iface I.T I.rv] W (Done I W d 0 I.N) := by
  have mN := O.mN
  have eN := O.eN
  have big := O.big
  have HL := Lib.hid (O.len h)
  have HH := Lib.hid (Hs.refl h)
  have HO := Lib.hid O
  have hsz := O.siz h
  have HSZ := Lib.hid hsz
  by_cases h1 : I.N ≤ 1
  · have hD : Done I W d 0 I.N (.returned (.tuple #[])) W := ⟨rfl, d, Go.Sort.permIn_refl d 0 I.N, fun i j _ hij hj => by omega, Hs.refl h⟩
    clear h O hO hsz
    go_enter Try.func39, Try.ntmps39
    go_wp2_with fail
    refine HL.out.mono ?_
    rintro e w1 ⟨rfl, hb1⟩
    have H1 := Lib.hid (HH.out.below HO.out hb1)
    clear hb1 HL
    go_wp2
    go_returns
    exact ⟨rfl, d, Go.Sort.permIn_refl d 0 I.N, fun i j _ hij hj => by omega, H1.out⟩
  · have HP := Lib.hid (fun (W1 : World) (hs : I.S W1 d) (l : Nat) (hl : l < 4611686018427387904) => pdq_less O hO (I.N + 1) W1 d 0 I.N l 0 I.N l rfl rfl rfl hs (Nat.zero_le _) (Nat.le_refl _) hl (.inl rfl) (by omega))
    have hlim : Lib.bitLen I.N < 4611686018427387904 := Nat.lt_of_le_of_lt (Lib.bitLen_le I.N 62 (by omega) (by omega)) (by omega)
    have HLM := Lib.hid hlim
    have CB := Lib.hid (fun w => Try.bits_Len (I.N : Int) w (by omega) (by omega))
    rw [Int.toNat_natCast] at CB
    have hwr : IntKind.u64.wrap (I.N : Int) = I.N := by simp [IntKind.wrap, IntKind.bits, IntKind.signed]; omega
    clear h O hO hsz hlim
    go_enter Try.func39, Try.ntmps39
    go_wp2_with fail
    refine HL.out.mono ?_
    rintro e w1 ⟨rfl, hb1⟩
    have H1 := Lib.hid (HH.out.below HO.out hb1)
    clear hb1 HL
    go_wp2_with fail
    refine (CB.out _).mono ?_
    rintro e w2 ⟨rfl, rfl⟩
    go_wp2_with fail
    refine (HP.out _ H1.out.s _ HLM.out).mono ?_
    rintro e w3 ⟨rfl, d', hp, ho, hs⟩
    have H3 := Lib.hid (show Done I W d 0 I.N (.returned (.tuple #[])) w3 from ⟨rfl, d', hp, ho, H1.out.on hs⟩)
    clear hp ho hs HP CB
    go_wp2
    go_returns
    exact H3.out

end Go.Proofs.Ytgblmafollhojaa
