/-
  FnSortRunes: the same runes, rising. Conditions: none.
-/
import Derived.Test.YtgblmafollhojaaSrtG
import Derived.Deep.Upon
namespace Go.Proofs.Ytgblmafollhojaa.fnSortRunes
open Go.ChangeShapes Go.WideShapes Go.ChangeAt Go.RowKit
open Go.Sort (swp PermIn SortedIn SWO)
set_option linter.unusedVariables false

/-- the row in block g is sorted -/
def Sorted (g N c : Nat) (d : Array Int) (rest : List Value) (W : World) (e : Ending) (w' : World) : Prop :=
  e = .returned (.slice (some ⟨g, 0, none⟩) N c) ∧ ∃ d', PermIn 0 N d d' ∧ SortedIn ltR 0 N d' ∧ rowS g 21 runes rest N w' d' ∧ W.grownBy w' (some g)

theorem sr_any (g N c : Nat) (d : Array Int) (rest : List Value) (W : World) (hN : N < 4611686018427387904) (h : rowS g 21 runes rest N W d) :
    Calls Try.prog 29 #[.slice (some ⟨g, 0, none⟩) N c] W (Sorted g N c d rest W) := by
  have C := Lib.hid (ssort_any (runeI_ok g c N 21 rest hN) swoR W d h)
  unfold runeI at C
  simp only at C
  clear h
  go_enter Try.func29, Try.ntmps29
  go_wp2_with fail
  refine C.out.mono ?_
  rintro e w1 ⟨rfl, d', h1, h2, h3⟩
  have H1 := Lib.hid h1
  have H2 := Lib.hid h2
  have H3 := Lib.hid h3
  clear h1 h2 h3 C
  go_wp2
  go_ret
  exact ⟨rfl, d', H1.out, H2.out, H3.out.s, H3.out.g⟩

theorem zsr_any (g N c : Nat) (d : Array Int) (rest : List Value) (W : World) (hN : N < 4611686018427387904) (h : rowS g 21 runes rest N W d) :
    Calls Try.prog 17 #[.slice (some ⟨g, 0, none⟩) N c] W (Sorted g N c d rest W) := by
  have C := Lib.hid (sr_any g N c d rest W hN h)
  clear h
  go_enter Try.func17, Try.ntmps17
  go_wp2_with fail
  refine C.out.mono ?_
  rintro e w1 ⟨rfl, h⟩
  have H := Lib.hid h
  clear h C
  go_wp2
  go_ret
  exact ⟨rfl, H.out⟩

/-- the same runes, rising -/
def Rising (zs : List Int) (w : World) (e : Ending) (w' : World) : Prop :=
  ∃ (a' : Option Addr) (c' : Nat) (ys : List Int), e = .returned (.slice a' zs.length c') ∧ ys.Perm zs ∧ (∀ i j, i < j → j < ys.length → ys.getD i 0 ≤ ys.getD j 0) ∧ Sl w' w'.heap.size a' (ys.map (.int .i32)) ∧ Below w.heap.size w w'

theorem info21 : (Try.prog.info? 21).map (fun i => (i.zero, i.size, i.bytes)) = some (some (.int .i32 0), 1, 4) := by kernel_rfl

theorem flat_runes : ∀ (l : List Int), l.flatMap runes = l.map (.int .i32)
  | [] => rfl
  | x :: l => by rw [List.flatMap_cons, flat_runes l]; rfl

theorem rising_of {g N c : Nat} {zs : List Int} {rest : List Value} {w W : World} {e : Ending} {w' : World} (hN : zs.length = N) (hb : Below w.heap.size w W) (hg : w.heap.size ≤ g) (h : Sorted g N c zs.toArray rest W e w') : Rising zs w e w' := by
  obtain ⟨rfl, d', hp, hs, hr, hgr⟩ := h
  subst hN
  have hsz : d'.size = zs.length := hr.1
  have hlt := hr.2.lt
  refine ⟨_, c, d'.toList, rfl, ?_, ?_, ?_, hb.grown hgr hb.size (fun k e => by injection e with e; omega)⟩
  · have := hp.2.2
    rw [Array.toList_extract, Array.toList_extract] at this
    simp [List.extract, ← hsz] at this
    rwa [List.take_of_length_le (by simp), List.take_of_length_le (by omega)] at this
  · intro i j hij hj
    have hj' : j < zs.length := by simpa [hsz] using hj
    have := of_decide_eq_false (hs i j (Nat.zero_le _) hij hj')
    rw [getElem!_pos d' i (by omega), getElem!_pos d' j (by omega)] at this
    rw [List.getD_eq_getElem?_getD, List.getD_eq_getElem?_getD, List.getElem?_eq_getElem (by simpa using (by omega : i < d'.size)), List.getElem?_eq_getElem hj]
    simp
    omega
  · have h2 := hr.2
    rw [flat_runes] at h2
    intro j u hu
    exact (h2.sl hlt) j u (by rw [List.getElem?_append_left (List.getElem?_eq_some_iff.1 hu).1]; exact hu)

theorem run_nothing {P : Program} (w : World) (t ty e : TypeId) (i : TypeInfo) (ht : P.underlying t = some (.slice e)) (hi : P.info? e = some i) (A : Option Addr) (n k c : Nat) (hnk : n ≤ k) :
    (Builtin.append_ #[t, t] ty #[.slice A n k, .slice none 0 c]).run P w = .ok (.slice A n k) w := by
  cases A <;> simp [Builtin.append_, run_underlying ht, sizeOf, typeInfo, hi, Builtin.lenOf, Builtin.firstCells, hnk, storeCells]

theorem own_empty (w : World) (t : TypeId) (k : Nat) : (w.alloc (.cells #[] t)).ownsRow w.heap.size t k (.slice (some ⟨w.heap.size, 0, none⟩) 0 0) 0 [] :=
  ⟨by simp, .inr ⟨w.heap.size, 0, #[], rfl, Nat.le_refl _, heap_alloc_new w _, Nat.le_refl _, by simp [maxLen], by simp, by simp⟩⟩

/-- a row of the call's own as a list of runes -/
theorem row_of_own {w : World} {B : Nat} {v : Value} {zs : List Int} {N : Nat} (hN : zs.length = N) (h : w.ownsRow B 21 1 v N (zs.map (.int .i32))) (hv : v ≠ .slice none 0 0) :
    ∃ g c rest, v = .slice (some ⟨g, 0, none⟩) N c ∧ B ≤ g ∧ rowS g 21 runes rest N w zs.toArray := by
  subst hN
  rcases h.2 with ⟨h1, _⟩ | ⟨g, cap, cur, rfl, hg, hh, hn, hc, hs, ht⟩
  · exact absurd h1 hv
  · refine ⟨g, cap, cur.toList.drop zs.length, rfl, hg, by simp, ?_⟩
    rw [Nat.mul_one] at ht
    rw [flat_runes, ← ht, List.take_append_drop]
    exact hh

set_option maxRecDepth 100000 in
set_option maxHeartbeats 800000 in
theorem isr_any (a : Option Addr) (zs : List Int) (c : Nat) (w : World) (hl : zs.length ≤ 1000) (hs : Sl w w.heap.size a (zs.map (.int .i32))) :
    Calls Try.prog 7 #[.slice a zs.length c] w (Rising zs w) := by
  obtain ⟨i0, hi, hz0, hz1, hz2⟩ := info_parts info21
  cases a with
  | none =>
    obtain rfl : zs = [] := by
      cases zs with
      | nil => rfl
      | cons z zs =>
        obtain ⟨ad, h, _⟩ := hs 0 (.int .i32 z) rfl
        cases h
    have hrun := fun W => run_nothing (P := Try.prog) W 22 22 21 i0 Try.underlying22 hi (some ⟨w.heap.size, 0, none⟩) 0 0 c (Nat.le_refl _)
    have C := Lib.hid (fun W h => zsr_any w.heap.size 0 0 #[] [] W (by omega) h)
    have HR := Lib.hid (show rowS w.heap.size 21 runes [] 0 (w.alloc (.cells #[] 21)) #[] from ⟨rfl, Blk.new w 21 []⟩)
    clear hi hz0 hz1 hz2 hs
    go_enter Try.func7, Try.ntmps7
    go_wp2_with fail
    refine (C.out _ HR.out).mono ?_
    rintro e w1 hs1
    have H := Lib.hid (rising_of (zs := []) rfl ((Below.refl _ _).alloc (Nat.le_refl _) _) (Nat.le_refl _) hs1)
    obtain ⟨rfl, _⟩ := hs1
    clear C
    go_wp2
    go_ret
    exact H.out
  | some ad =>
    have HC := Lib.hid (show ∀ j u, (zs.map (Value.int .i32))[j]? = some u → (w.alloc (.cells #[] 21)).cell? (ad.add j) = some u from fun j u hu => by
      obtain ⟨ad', h, hb, hc⟩ := hs j u hu
      injection h with h
      subst h
      exact (((Below.refl w.heap.size w).alloc (Nat.le_refl _) _).cell (p := ad.add j) (by rw [block_add]; exact hb)).trans hc)
    clear hs
    go_enter Try.func7, Try.ntmps7
    go_wp2_with (at_builtin; refine wpList_append_own_at _ rfl (.tmp 3) (.tmp 4) 22 rfl w.heap.size 21 i0 _ 1 4 Try.underlying22 hi hz0 hz1 hz2 rfl (by omega) _ 0 [] rfl (own_empty w 21 1) ad zs.length c (zs.map (.int .i32)) rfl (by simp) HC.out (by simp [Value.oneCell']) (by unfold maxLen; omega) (by omega) (by simp) ?_; intro v' w1 hown' hg' hnil _)
    obtain ⟨g, c2, rest, rfl, hg2, hrow⟩ := row_of_own (N := zs.length) rfl (by simpa using hown') (fun e => by have := (hnil.1 e).1; cases this)
    have HB := Lib.hid (((Below.refl w.heap.size w).alloc (Nat.le_refl _) (.cells #[] 21)).grown hg' (by simp) (fun k hk => by have h2 : some w.heap.size = some k := hk; injection h2 with h2; omega))
    have C := Lib.hid (zsr_any g zs.length c2 zs.toArray rest w1 (by omega) hrow)
    clear hrow hown' hg' hnil HC hi hz0 hz1 hz2
    refine C.out.mono ?_
    rintro e w2 hs1
    have H := Lib.hid (rising_of (zs := zs) rfl HB.out hg2 hs1)
    obtain ⟨rfl, _⟩ := hs1
    clear C
    go_wp2
    go_ret
    exact H.out

def cnt (zs : List Int) (r : Int) : Nat := zs.countP (· == r)
theorem cnt_snoc (zs : List Int) (n : Nat) (h : n < zs.length) (r : Int) : cnt (zs.take (n + 1)) r = cnt (zs.take n) r + if zs.getD n 0 == r then 1 else 0 := by
  unfold cnt
  rw [List.take_succ_eq_append_getElem h, List.countP_append, List.getD_eq_getElem?_getD, List.getElem?_eq_getElem h]
  simp [List.countP_cons]
theorem cnt_le (zs : List Int) (r : Int) : cnt zs r ≤ zs.length := List.countP_le_length

set_option maxHeartbeats 400000 in
theorem count_any (a : Option Addr) (zs : List Int) (c : Nat) (r : Int) (w : World) (hl : zs.length ≤ 1000) (hs : Sl w w.heap.size a (zs.map (.int .i32))) :
    Calls Try.prog 8 #[.slice a zs.length c, .int .i32 r] w fun e w' => e = .returned (.int .i64 (cnt zs r : Nat)) ∧ w' = w := by
  have HS := Lib.hid hs
  clear hs
  go_enter Try.func8, Try.ntmps8
  go_wp2
  go_loop [5, 6] (fun vn vi => ∃ i n : Nat, i ≤ zs.length ∧ vi = .int .i64 i ∧ vn = .int .i64 n ∧ Hid (n = cnt (zs.take i) r) ∧ n ≤ i) (fun _ vi => zs.length - (intOf vi).toNat)
  case atStart => exact ⟨0, 0, by omega, rfl, rfl, Lib.hid (by simp [cnt]), Nat.le_refl _⟩
  case round =>
    obtain ⟨i, n, hi, rfl, rfl, HN, hn⟩ := hrel
    by_cases hlt : i < zs.length
    · obtain ⟨ad, rfl, hc⟩ := HS.out.ints i hlt
      have HC := Lib.hid (cnt_snoc zs i hlt r)
      generalize zs.getD i 0 = z at *
      by_cases hz : z = r
      · subst hz
        go_wp2
        go_round
        case rel => exact ⟨i + 1, n + 1, by omega, by go_num, by go_num, Lib.hid (by rw [HC.out, ← HN.out]; simp), by omega⟩
        case measure => simp [intOf]; omega
      · have hb : (z == r) = false := by simpa using hz
        have HB := Lib.hid hb
        clear hz
        go_wp2
        go_round
        case rel => exact ⟨i + 1, n, by omega, by go_num, rfl, Lib.hid (by rw [HC.out, ← HN.out, HB.out]; simp), by omega⟩
        case measure => simp [intOf]; omega
    · obtain rfl : i = zs.length := by omega
      go_wp2
      go_ret
      exact ⟨ret_i64 (by rw [HN.out, List.take_length]), rfl⟩

set_option maxRecDepth 100000 in
set_option maxHeartbeats 1600000 in
theorem law_any (a : Option Addr) (zs : List Int) (c : Nat) (w : World) (hm : zs.length ≤ maxLen) (hs : Sl w w.heap.size a (zs.map (.int .i32))) :
    Calls Try.prog 3 #[.slice a zs.length c] w fun e w' => e = .returned (.bool true) ∧ Below w.heap.size w w' := by
  unfold maxLen at hm
  have HS := Lib.hid hs
  clear hs
  by_cases h1 : zs.length ≤ 1000
  · have C := Lib.hid (isr_any a zs c w h1 HS.out)
    go_enter Try.func3, Try.ntmps3
    go_wp2_with fail
    refine C.out.mono ?_
    rintro e w1 ⟨a1, c1, ys, rfl, hp, hr, hsl, hb⟩
    have hlen := hp.length_eq
    have HP := Lib.hid hp
    have HR := Lib.hid hr
    have HSL := Lib.hid (show Sl w1 w1.heap.size a1 (ys.map (.int .i32)) from hsl)
    have HB := Lib.hid hb
    have HL := Lib.hid hlen
    have HSW := Lib.hid ((HS.out.below hb).more hb.size)
    have hne : ((zs.length : Int) != (zs.length : Int)) = false := by simp
    clear hp hr hsl hb hlen C
    go_wp2
    go_loopw [4] (fun vi wr => ∃ i n : Nat, 1 ≤ i ∧ (i ≤ zs.length ∨ i ≤ 1) ∧ vi = .int .i64 i ∧ wr = w1.drewN n) (fun vi _ => zs.length - (intOf vi).toNat)
    case atStart => exact ⟨1, 0, by omega, by omega, rfl, rfl⟩
    case round =>
      obtain ⟨i, n, hi1, hi2, rfl, rfl⟩ := hrel
      by_cases hlt : i < zs.length
      · obtain ⟨ad, rfl, hc1⟩ := HSL.out.ints (i - 1) (by have := HL.out; omega)
        obtain ⟨ad', had, hc2⟩ := HSL.out.ints i (by have := HL.out; omega)
        injection had with had
        subst had
        have hle := HR.out (i - 1) i (by omega) (by have := HL.out; omega)
        generalize ys.getD (i - 1) 0 = z1 at *
        generalize ys.getD i 0 = z2 at *
        have hi0 : (1 : Int) ≤ (i : Int) := by omega
        have hi3 : (i : Int) < (zs.length : Int) := by omega
        have hsub : ((i : Int) - 1).toNat = i - 1 := by omega
        have hpos : (0 : Int) ≤ (i : Int) - 1 := by omega
        have hlt1 : (i : Int) - 1 < (zs.length : Int) := by omega
        have hng : ¬ z2 < z1 := by omega
        have hgd : decide (z2 < z1) = false := decide_eq_false hng
        go_wp2
        go_quiet (fail)
        go_wp2
        go_roundw
        case rel => exact ⟨i + 1, _, by omega, by omega, by go_num, rfl⟩
        case measure => simp [intOf]; omega
      · have hlt' : ¬ (i : Int) < (zs.length : Int) := by omega
        go_wp2
        go_loopw [5] (fun vi wr => ∃ i n : Nat, i ≤ zs.length ∧ vi = .int .i64 i ∧ wr = w1.drewN n) (fun vi _ => zs.length - (intOf vi).toNat)
        case atStart => exact ⟨0, n, by omega, rfl, rfl⟩
        case round =>
          obtain ⟨k, m, hk, rfl, rfl⟩ := hrel
          by_cases hlk : k < zs.length
          · obtain ⟨ad, rfl, hc1⟩ := HSW.out.ints k hlk
            generalize zs.getD k 0 = z at *
            have hk0 : (0 : Int) ≤ (k : Int) := by omega
            have hk1 : (k : Int) < (zs.length : Int) := by omega
            have C1 := Lib.hid (fun q => count_any a1 ys c1 z (w1.drewN q) (by have := HL.out; omega) HSL.out)
            have C2 := Lib.hid (fun q => count_any (some ad) zs c z (w1.drewN q) h1 HSW.out)
            have HEQ := Lib.hid (show cnt ys z = cnt zs z from HP.out.countP_eq _)
            rw [HL.out, HEQ.out] at C1
            go_wp2
            go_quiet (first
              | (go_at_call_of 8 (Value.slice a1 zs.length c1); exact (C1.out _).mono fun _ _ ⟨he, hw⟩ => ⟨he, _, hw⟩)
              | (go_at_call_of 8 (Value.slice (some ad) zs.length c); exact (C2.out _).mono fun _ _ ⟨he, hw⟩ => ⟨he, _, hw⟩))
            go_wp2
            go_roundw
            case rel => exact ⟨k + 1, _, by omega, by go_num, rfl⟩
            case measure => simp [intOf]; omega
          · go_wp2
            go_ret
            exact ⟨rfl, below_drewN HB.out _⟩
  · go_enter Try.func3, Try.ntmps3
    go_wp2
    all_goals go_ret
    all_goals exact ⟨rfl, Below.refl _ _⟩

end Go.Proofs.Ytgblmafollhojaa.fnSortRunes
