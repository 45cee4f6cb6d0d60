/-
  ZzTransition, impl.StepPlaces, characteristicVector, impl.Characteristic. Conditions: as stated.
-/
import Derived.Test.YtgblmafollhojaaTrC
namespace Go.Proofs.Ytgblmafollhojaa
open Go.ChangeShapes Go.WideShapes Go.ChangeAt Go.RowKit
set_option linter.unusedVariables false

/-- the places behind a letter -/
def Stepped (m : Nat) (dam : Bool) (scv : Nat) (ls l' : List Pl) : Prop := l'.Perm (addAll (stepL m dam scv ls)) ∧ Srtd l'
theorem stepL_ok {m : Nat} {dam : Bool} {scv : Nat} {ls : List Pl} {p : Pl} (h : p ∈ stepL m dam scv ls) (N : Nat) (hs : ∀ s ∈ ls, s.1 ≤ N ∧ s.2.1 ≤ m) : p.1 ≤ N + m + 2 ∧ p.2.1 ≤ m := by
  obtain ⟨s, hs1, hp⟩ := List.mem_flatMap.1 h
  have h1 := hs s hs1
  have h2 := mvs_ok hp h1.2
  omega
theorem Stepped.ok {m : Nat} {dam : Bool} {scv : Nat} {ls l' : List Pl} (h : Stepped m dam scv ls l') (N : Nat) (hs : ∀ s ∈ ls, s.1 ≤ N ∧ s.2.1 ≤ m) : ∀ p ∈ l', p.1 ≤ N + m + 2 ∧ p.2.1 ≤ m := fun p hp => stepL_ok ((kept_all _).sub p (h.1.mem_iff.1 hp)) N hs
theorem Stepped.short {m : Nat} {dam : Bool} {scv : Nat} {ls l' : List Pl} (h : Stepped m dam scv ls l') (hm : m ≤ 8) (hs : ∀ s ∈ ls, s.1 ≤ 890 ∧ s.2.1 ≤ m) : l'.length ≤ 2000 := by
  rw [h.1.length_eq]
  exact addAll_short _ (fun p hp => by have := stepL_ok hp 890 hs; omega)

theorem own_mono {w : World} {B B' : Nat} {e : TypeId} {k n : Nat} {v : Value} {xs : List Value} (h : w.ownsRow B e k v n xs) (hB : B' ≤ B) : w.ownsRow B' e k v n xs := by
  refine ⟨h.1, ?_⟩
  rcases h.2 with h | ⟨g, cap, cur, h1, h2, h3⟩
  · exact .inl h
  · exact .inr ⟨g, cap, cur, h1, by omega, h3⟩

set_option maxRecDepth 100000 in
set_option maxHeartbeats 800000 in
theorem zztr_any (L m : Nat) (dam : Bool) (hm : m ≤ 8) (w : World) (hb : Blk w L 78 [.int .u8 m, .bool dam]) (a : Option Addr) (ls : List Pl) (c : Nat) (hs : Sl w w.heap.size a (ls.flatMap enc3)) (hok : ∀ s ∈ ls, s.1 ≤ 890 ∧ s.2.1 ≤ m) (hlen : ls.length ≤ 2000) (scv : Nat) (hscv : scv < 18446744073709551616) :
    Calls Try.prog 22 #[.pointer (some ⟨L, 0, none⟩), .slice a ls.length c, .int .u64 scv] w fun e w' => ∃ v l', e = .returned v ∧ Stepped m dam scv ls l' ∧ w'.ownsRow w.heap.size 63 3 v l'.length (l'.flatMap enc3) ∧ Below w.heap.size w w' := by
  have CN := Lib.hid (newms_any w)
  have HL := Lib.hid hb
  have hLl := hb.lt
  have HS := Lib.hid hs
  have HOK := Lib.hid hok
  have HSC := Lib.hid hscv
  clear hb hs hok hscv
  go_enter Try.func22, Try.ntmps22
  go_wp2_with fail
  refine CN.out.mono ?_
  rintro e w1 ⟨M, v, rfl, hM, hMS, hat, hb1⟩
  have CT := Lib.hid (show Calls Try.prog 33 #[.pointer (some ⟨L, 0, none⟩), .pointer (some ⟨w1.heap.size, 0, none⟩), .pointer (some ⟨M, 0, none⟩), .int .u64 scv] (w1.alloc (.cells #[.slice a ls.length c] 67)) (Moved (fun k => k < w.heap.size ∨ k = w1.heap.size) M w.heap.size m dam scv ls (w1.alloc (.cells #[.slice a ls.length c] 67))) from by
    have hbx : Below w1.heap.size w1 (w1.alloc (.cells #[.slice a ls.length c] 67)) := (Below.refl _ _).alloc (Nat.le_refl _) _
    have hMl := hMS.b.lt
    have hsz := hb1.size
    refine trans_any (Q := fun k => k < w.heap.size ∨ k = w1.heap.size) (L := L) (C := w1.heap.size) (hMS.below hbx) (fun k hk hq => ?_) (fun k hk => ?_) (fun hq => ?_) ?_ m dam hm (.inl hLl) ?_ a ls c (.inr rfl) (Blk.new w1 67 [.slice a ls.length c]) (Lst.of_sl (B := w.heap.size) ?_ (fun k hk => .inl hk)) HOK.out hlen scv HSC.out
    · have h1 := hat k hk
      have h2 := hMS.own_lt k hk
      omega
    · simp
      omega
    · omega
    · simp
      omega
    · have h1 := HL.out.below hb1 hLl
      exact h1.below hbx h1.lt
    · exact HS.out.below (hb1.trans (hbx.mono hsz)))
  have HB1 := Lib.hid hb1
  clear hMS hat hb1 CN
  go_wp2_with fail
  refine CT.out.mono ?_
  rintro e w2 ⟨rfl, v2, l', hms, hp, hsr, hk, hv⟩
  have hm0 := hms.b.cell 0
  simp only [List.getElem?_cons_zero] at hm0
  have HBW := Lib.hid (show Below w.heap.size w w2 from by
    have hsz := HB1.out.size
    have h1 : Below w.heap.size w (w1.alloc (.cells #[.slice a ls.length c] 67)) := HB1.out.alloc hsz _
    exact h1.trans ⟨hk.os, hk.tape, hk.output, hk.size, fun k hk2 => hk.block k (.inl hk2)⟩)
  have HO := Lib.hid hms.o
  have HST := Lib.hid (show Stepped m dam scv ls l' from ⟨hp, hsr⟩)
  clear hms hp hsr hk hv CT
  go_wp2
  go_ret
  exact ⟨_, l', rfl, HST.out, HO.out, HBW.out⟩

set_option maxRecDepth 100000 in
set_option maxHeartbeats 800000 in
theorem stepP_any (m : Nat) (dam : Bool) (hm : m ≤ 8) (w : World) (a : Option Addr) (ls : List Pl) (c : Nat) (hs : Sl w w.heap.size a (ls.flatMap enc3)) (hok : ∀ s ∈ ls, s.1 ≤ 890 ∧ s.2.1 ≤ m) (hlen : ls.length ≤ 2000) (scv : Nat) (hscv : scv < 18446744073709551616) :
    Calls Try.prog 11 #[.slice a ls.length c, .int .u64 scv, .int .u8 m, .bool dam] w fun e w' => ∃ v l', e = .returned v ∧ Stepped m dam scv ls l' ∧ w'.ownsRow w.heap.size 29 3 v l'.length (l'.flatMap enc3) ∧ Below w.heap.size w w' := by
  have CN := Lib.hid (zznfa_any m dam w)
  have HS := Lib.hid hs
  have HOK := Lib.hid hok
  have HSC := Lib.hid hscv
  clear hs hok hscv
  go_enter Try.func11, Try.ntmps11
  go_wp2_with fail
  refine CN.out.mono ?_
  rintro e w1 ⟨rfl, hbl, hb1⟩
  have HBL := Lib.hid hbl
  have HB1 := Lib.hid hb1
  have CI := Lib.hid (in_any a ls c w1 hlen (fun j u hj => by
    obtain ⟨ad, h1, h2, h3⟩ := HS.out.below hb1 j u hj
    exact ⟨ad, h1, Nat.lt_of_lt_of_le h2 hb1.size, h3⟩))
  clear hbl hb1 CN
  go_wp2_with fail
  refine CI.out.mono ?_
  rintro e w2 ⟨v2, rfl, ho2, hb2⟩
  obtain ⟨a2, c2, rfl⟩ := own_value ho2
  have HB2 := Lib.hid (HB1.out.trans (hb2.mono HB1.out.size))
  have HBL2 := Lib.hid (HBL.out.below hb2 HBL.out.lt)
  have CZ := Lib.hid (zztr_any w.heap.size m dam hm w2 HBL2.out a2 ls c2 (sl_of_own ho2) HOK.out hlen scv HSC.out)
  clear ho2 hb2 CI
  go_wp2_with fail
  refine CZ.out.mono ?_
  rintro e w3 ⟨v3, l', rfl, hst, ho3, hb3⟩
  obtain ⟨a3, c3, rfl⟩ := own_value ho3
  have HB3 := Lib.hid (HB2.out.trans (hb3.mono HB2.out.size))
  have HST := Lib.hid hst
  have CO := Lib.hid (out_any a3 l' c3 w3 (hst.short hm HOK.out) (sl_of_own ho3))
  clear ho3 hb3 hst CZ
  go_wp2_with fail
  refine CO.out.mono ?_
  rintro e w4 ⟨v4, rfl, ho4, hb4⟩
  have HB4 := Lib.hid (HB3.out.trans (hb4.mono HB3.out.size))
  have HO4 := Lib.hid (own_mono ho4 HB3.out.size)
  clear ho4 hb4 CO
  go_wp2
  go_ret
  exact ⟨v4, l', rfl, HST.out, HO4.out, HB4.out⟩

/-- the places of a letter among the first k ones of a query, as bits -/
def chiN (q : List Int) (c : Int) : Nat → Nat
  | 0 => 0
  | k + 1 => if q.getD k 0 = c then chiN q c k ||| 2 ^ k else chiN q c k
theorem chiN_lt (q : List Int) (c : Int) : ∀ k, chiN q c k < 2 ^ k
  | 0 => by simp [chiN]
  | k + 1 => by
    have h := chiN_lt q c k
    have h1 : chiN q c k < 2 ^ (k + 1) := Nat.lt_of_lt_of_le h (Nat.pow_le_pow_right (by omega) (by omega))
    unfold chiN
    split
    · exact Nat.or_lt_two_pow h1 (Nat.pow_lt_pow_right (by omega) (by omega))
    · exact h1
theorem chiN_bit (q : List Int) (c : Int) : ∀ k i, (chiN q c k).testBit i = (decide (i < k) && decide (q.getD i 0 = c))
  | 0, i => by simp [chiN]
  | k + 1, i => by
    unfold chiN
    by_cases hi : i = k
    · subst hi
      have h0 : (chiN q c i).testBit i = false := Nat.testBit_lt_two_pow (chiN_lt q c i)
      split
      · rename_i h
        rw [Nat.testBit_or, h0, Nat.testBit_two_pow_self, decide_eq_true h]
        simp
      · rename_i h
        rw [h0, decide_eq_false h]
        simp
    · have e : decide (i < k + 1) = decide (i < k) := by
        by_cases h : i < k
        · rw [decide_eq_true h, decide_eq_true (by omega)]
        · rw [decide_eq_false h, decide_eq_false (by omega)]
      rw [e]
      split
      · rw [Nat.testBit_or, chiN_bit q c k i, Nat.testBit_two_pow_of_ne (by omega)]
        simp
      · exact chiN_bit q c k i

theorem or64 (x k : Nat) (hx : x < 2 ^ k) (hk : k ≤ 40) : bits BinOp.or IntKind.u64 (x : Int) ((2 : Int) ^ k) = ((x ||| 2 ^ k : Nat) : Int) := by
  have e : ((2 : Int) ^ k) = ((2 ^ k : Nat) : Int) := by simp
  have h1 : 2 ^ k ≤ 2 ^ 40 := Nat.pow_le_pow_right (by omega) hk
  rw [e]
  exact u64_or_nat x (2 ^ k) (by omega) (by omega)
theorem wr64 (k : Nat) (hk : k ≤ 40) : IntKind.u64.wrap ((2 : Int) ^ k) = (2 : Int) ^ k := by
  have e : ((2 : Int) ^ k) = ((2 ^ k : Nat) : Int) := by simp
  have h1 : 2 ^ k ≤ 2 ^ 40 := Nat.pow_le_pow_right (by omega) hk
  rw [e, IntKind.wrap_u64]
  generalize 2 ^ k = P at *
  omega

set_option maxHeartbeats 800000 in
theorem cv_any (a : Option Addr) (zs : List Int) (c : Nat) (r : Int) (w : World) (hl : zs.length ≤ 40) (hs : Sl w w.heap.size a (zs.map (.int .i32))) :
    Calls Try.prog 35 #[.slice a zs.length c, .int .i32 r] w fun e w' => e = .returned (.int .u64 (chiN zs r zs.length)) ∧ Below w.heap.size w w' := by
  have HS := Lib.hid hs
  clear hs
  go_enter Try.func35, Try.ntmps35
  go_wp2_with fail
  go_loopw [5, 6] (fun vx vi wr => ∃ i : Nat, i ≤ zs.length ∧ vi = .int .i64 i ∧ vx = .int .u64 (chiN zs r i) ∧ Hid (Below w.heap.size w wr)) (fun _ vi _ => zs.length - (intOf vi).toNat)
  case atStart => exact ⟨0, by omega, rfl, rfl, Lib.hid (Below.refl _ _)⟩
  case round =>
    obtain ⟨i, hil, rfl, rfl, HB⟩ := hrel
    by_cases hlt : i < zs.length
    · obtain ⟨ad, rfl, hcell⟩ := (HS.out.below HB.out).ints i hlt
      have e64 : IntKind.u64.wrap (i : Int) = i := by rw [IntKind.wrap_u64]; omega
      have ew := wr64 i (by omega)
      have eo := or64 (chiN zs r i) i (chiN_lt zs r i) (by omega)
      have HR := Lib.hid (show chiN zs r (i + 1) = if zs.getD i 0 = r then chiN zs r i ||| 2 ^ i else chiN zs r i from rfl)
      generalize zs.getD i 0 = z at *
      by_cases hz : z = r
      · have hzb : (z == r) = true := by rw [beq_iff_eq]; exact hz
        go_wp2
        go_roundw
        case rel => exact ⟨i + 1, by omega, by go_num, by rw [HR.out, if_pos hz], HB⟩
        case measure => simp [intOf]; omega
      · have hzb : (z == r) = false := by rw [beq_eq_false_iff_ne]; exact hz
        go_wp2
        go_roundw
        case rel => exact ⟨i + 1, by omega, by go_num, by rw [HR.out, if_neg hz], HB⟩
        case measure => simp [intOf]; omega
    · obtain rfl : i = zs.length := by omega
      go_wp2
      go_ret
      exact ⟨rfl, HB.out⟩

theorem char_any (a : Option Addr) (zs : List Int) (c : Nat) (r : Int) (w : World) (hl : zs.length ≤ 40) (hs : Sl w w.heap.size a (zs.map (.int .i32))) :
    Calls Try.prog 12 #[.slice a zs.length c, .int .i32 r] w fun e w' => e = .returned (.int .u64 (chiN zs r zs.length)) ∧ Below w.heap.size w w' := by
  have C1 := Lib.hid (cv_any a zs c r w hl hs)
  have C2 : Calls Try.prog 24 #[.slice a zs.length c, .int .i32 r] w fun e w' => e = .returned (.int .u64 (chiN zs r zs.length)) ∧ Below w.heap.size w w' := by
    go_enter Try.func24, Try.ntmps24
    go_wp2_with fail
    refine C1.out.mono ?_
    rintro e w1 ⟨rfl, h1⟩
    have H1 := Lib.hid h1
    clear h1 C1
    go_wp2
    go_ret
    exact ⟨rfl, H1.out⟩
  have HC2 := Lib.hid C2
  clear C2 C1
  go_enter Try.func12, Try.ntmps12
  go_wp2_with fail
  refine HC2.out.mono ?_
  rintro e w1 ⟨rfl, h1⟩
  have H1 := Lib.hid h1
  clear h1 HC2
  go_wp2
  go_ret
  exact ⟨rfl, H1.out⟩

end Go.Proofs.Ytgblmafollhojaa
