/-
  MultiState.Clear, LevenshteinNFA.transition. Conditions: as stated.
-/
import Derived.Test.YtgblmafollhojaaTrB
namespace Go.Proofs.Ytgblmafollhojaa
open Go.ChangeShapes Go.WideShapes Go.ChangeAt Go.RowKit
set_option linter.unusedVariables false

theorem simple_any {Q : Nat → Prop} {B M L : Nat} {A : List Pl} {w0 w : World} (h : Tr Q B M A w0 w) (m : Nat) (dam : Bool) (hm : m ≤ 8) (hL : Q L) (hb : Blk w0 L 78 [.int .u8 m, .bool dam]) (s : Pl) (hs : s.1 ≤ 890 ∧ s.2.1 ≤ m) (x : Int) (sym : Nat) (hx : x = (sym : Nat)) (hsym : sym < 18446744073709551616) :
    Calls Try.prog 43 #[.pointer (some ⟨L, 0, none⟩), .agg #[.int .u32 s.1, .int .u8 s.2.1, .bool s.2.2], .int .u64 x, .pointer (some ⟨M, 0, none⟩)] w fun en w' => en = .returned (.tuple #[]) ∧ Tr Q B M (A ++ mvs m dam sym s) w0 w' := by
  subst hx
  obtain ⟨o, e, f⟩ := s
  have hb2 := h.k.blk hL hb
  have hbl : Below w.heap.size w (w.alloc (.cells #[.int .u32 o, .int .u8 e, .bool f] 63)) := (Below.refl _ _).alloc (Nat.le_refl _) _
  refine (simple_mid (Q := Also Q w.heap.size) m dam hm o e f hs.1 hs.2 sym hsym ⟨h.inner _, hb2.below hbl hb2.lt, Blk.new w 63 (enc3 (o, e, f)), .inl hL, .inr rfl⟩).mono fun en w' ⟨he, h2⟩ => ⟨he, h.outer h2.t⟩

set_option maxRecDepth 100000 in
theorem clear_any (M B : Nat) (v : Value) (l : List Pl) (w : World) (h : MSt w M B v l) :
    Calls Try.prog 41 #[.pointer (some ⟨M, 0, none⟩)] w fun e w' => e = .returned (.tuple #[]) ∧ ∃ v', MSt w' M B v' [] ∧ Fr w w' M v ∧ ∀ k, v'.ownBlock = some k → v.ownBlock = some k := by
  have hm := h.b.cell 0
  simp only [List.getElem?_cons_zero] at hm
  have hMl := h.b.lt
  have hfz := h.b.frozen 0
  have H := Lib.hid h
  have hne := h.ne
  have hfr : ∀ u, Fr w (w.setCell ⟨M, 0, none⟩ u) M v := fun u => ⟨rfl, rfl, rfl, by simp [World.setCell], fun k hk h1 _ => Below.heap_setCell w ⟨M, 0, none⟩ u k h1⟩
  have HF := Lib.hid hfr
  clear hfr
  rcases h.o.2 with ⟨rfl, h0⟩ | ⟨g, cap, cur, rfl, hg, hh, hn, hm2, hc, ht⟩
  · have HX := Lib.hid (show MSt (w.setCell ⟨M, 0, none⟩ (.slice none 0 0)) M B (.slice none 0 0) [] from MSt.put h.b ⟨rfl, .inl ⟨rfl, rfl⟩⟩ hne (fun p hp => by simp at hp))
    clear h hne
    go_enter Try.func41, Try.ntmps41
    go_wp2
    go_returns
    exact ⟨rfl, _, HX.out, HF.out _, fun k hk => hk⟩
  · have HX := Lib.hid (show MSt (w.setCell ⟨M, 0, none⟩ (.slice (some ⟨g, 0, none⟩) 0 cap)) M B (.slice (some ⟨g, 0, none⟩) 0 cap) [] from MSt.put h.b ⟨rfl, .inr ⟨g, cap, cur, rfl, hg, hh, Nat.zero_le _, hm2, hc, by simp⟩⟩ (fun e => hne e) (fun p hp => by simp at hp))
    clear h hne hh ht hc
    go_enter Try.func41, Try.ntmps41
    go_wp2
    go_returns
    exact ⟨rfl, _, HX.out, HF.out _, fun k hk => hk⟩

theorem cell_congr {w w' : World} {a : Addr} (h : w'.heap[a.block]? = w.heap[a.block]?) : w'.cell? a = w.cell? a := by
  unfold World.cell?
  rw [h]
/-- the bits from o on, 2m + 1 of them -/
def cvN (scv o m : Nat) : Nat := (scv / 2 ^ o) &&& (2 ^ (2 * m + 1) - 1)
theorem cvN_lt (scv o m : Nat) (h : scv < 18446744073709551616) : cvN scv o m < 18446744073709551616 := by
  unfold cvN
  have h1 : (scv / 2 ^ o) &&& (2 ^ (2 * m + 1) - 1) ≤ scv / 2 ^ o := Nat.and_le_left
  have h2 : scv / 2 ^ o ≤ scv := Nat.div_le_self _ _
  omega
theorem cvN_bit (scv o m i : Nat) : (cvN scv o m).testBit i = (scv.testBit (o + i) && decide (i < 2 * m + 1)) := by
  unfold cvN
  rw [Nat.testBit_and, Nat.testBit_two_pow_sub_one, ← Nat.shiftRight_eq_div_pow, Nat.testBit_shiftRight]
/-- the places behind a letter, as they are added -/
def stepL (m : Nat) (dam : Bool) (scv : Nat) (ls : List Pl) : List Pl := ls.flatMap (fun s => mvs m dam (cvN scv s.1 m) s)

/-- the places of a list, in blocks that are kept -/
structure Lst (Q : Nat → Prop) (w : World) (a : Option Addr) (ls : List Pl) : Prop where
  at_ : ∀ i (hi : i < ls.length), ∃ ad, a = some ad ∧ Q ad.block ∧ w.cell? (ad.add (i * 3)) = some (.int .u32 ls[i].1) ∧ w.cell? ⟨(ad.add (i * 3)).block, (ad.add (i * 3)).off + 1, none⟩ = some (.int .u8 ls[i].2.1) ∧ w.cell? ⟨(ad.add (i * 3)).block, (ad.add (i * 3)).off + 2, none⟩ = some (.bool ls[i].2.2)
theorem Lst.keep {Q : Nat → Prop} {w w' : World} {a : Option Addr} {ls : List Pl} (h : Lst Q w a ls) (hk : Keeps Q w w') : Lst Q w' a ls := by
  refine ⟨fun i hi => ?_⟩
  obtain ⟨ad, rfl, hq, h0, h1, h2⟩ := h.at_ i hi
  have hb := hk.block _ hq
  have hbl : (ad.add (i * 3)).block = ad.block := by
    unfold Addr.add
    split <;> rfl
  have h3 : ∀ x : Addr, x.block = ad.block → w'.cell? x = w.cell? x := fun x hx => cell_congr (by rw [hx]; exact hb)
  exact ⟨ad, rfl, hq, (h3 _ hbl).trans h0, (h3 ⟨_, _, none⟩ hbl).trans h1, (h3 ⟨_, _, none⟩ hbl).trans h2⟩
theorem Lst.of_sl {Q : Nat → Prop} {B : Nat} {w : World} {a : Option Addr} {ls : List Pl} (h : Sl w B a (ls.flatMap enc3)) (hQ : ∀ k, k < B → Q k) : Lst Q w a ls := by
  refine ⟨fun i hi => ?_⟩
  obtain ⟨ad, rfl, hb, h0, h1, h2⟩ := three_at h i hi
  exact ⟨ad, rfl, hQ _ hb, h0, h1, h2⟩

/-- a set of places has been moved on -/
def Moved (Q : Nat → Prop) (M B m : Nat) (dam : Bool) (scv : Nat) (ls : List Pl) (w : World) (e : Ending) (w' : World) : Prop :=
  e = .returned (.tuple #[]) ∧ ∃ v l', MSt w' M B v l' ∧ l'.Perm (addAll (stepL m dam scv ls)) ∧ Srtd l' ∧ Keeps Q w w' ∧ ∀ k, v.ownBlock = some k → ¬ Q k

theorem cv_eq (scv o m N : Nat) (hs : scv < 18446744073709551616) (hN : N = 2 ^ (2 * m + 1) - 1) (hb : N ≤ 131071) : bits BinOp.and IntKind.u64 ((scv : Int) / 2 ^ min o 64) (N : Int) = ((cvN scv o m : Nat) : Int) := by
  have e : ((scv : Int) / 2 ^ min o 64) = ((scv / 2 ^ min o 64 : Nat) : Int) := by simp
  have hle : scv / 2 ^ min o 64 ≤ scv := Nat.div_le_self _ _
  rw [e, u64_and_nat _ _ (by omega) (by omega)]
  unfold cvN
  rw [← hN]
  by_cases ho : o ≤ 64
  · rw [Nat.min_eq_left ho]
  · rw [Nat.min_eq_right (by omega)]
    have h1 : scv / 2 ^ 64 = 0 := Nat.div_eq_of_lt hs
    have h2 : scv / 2 ^ o = 0 := Nat.div_eq_of_lt (Nat.lt_of_lt_of_le hs (Nat.pow_le_pow_right (n := 2) (i := 64) (by omega) (by omega)))
    rw [h1, h2]

set_option maxRecDepth 100000 in
set_option maxHeartbeats 1600000 in
theorem trans_any {Q : Nat → Prop} {B M L C : Nat} {w : World} {v : Value} {l0 : List Pl} (h0 : MSt w M B v l0) (hv : ∀ k, v.ownBlock = some k → ¬ Q k) (hQ : ∀ k, Q k → k < w.heap.size) (hM : ¬ Q M) (hB : B ≤ w.heap.size)
    (m : Nat) (dam : Bool) (hm : m ≤ 8) (hL : Q L) (hb : Blk w L 78 [.int .u8 m, .bool dam]) (a : Option Addr) (ls : List Pl) (c : Nat) (hC : Q C) (hbC : Blk w C 67 [.slice a ls.length c]) (hls : Lst Q w a ls) (hok : ∀ s ∈ ls, s.1 ≤ 890 ∧ s.2.1 ≤ m) (hlen : ls.length ≤ 2000) (scv : Nat) (hs : scv < 18446744073709551616) :
    Calls Try.prog 33 #[.pointer (some ⟨L, 0, none⟩), .pointer (some ⟨C, 0, none⟩), .pointer (some ⟨M, 0, none⟩), .int .u64 scv] w (Moved Q M B m dam scv ls w) := by
  have CC := Lib.hid (clear_any M B v l0 w h0)
  have HC := Lib.hid hbC
  have HL := Lib.hid hb
  have HLS := Lib.hid hls
  have HOK := Lib.hid hok
  have HSC := Lib.hid hs
  have T0 := Lib.hid (fun (w1 : World) (h : ∃ v', MSt w1 M B v' [] ∧ Fr w w1 M v ∧ ∀ k, v'.ownBlock = some k → v.ownBlock = some k) => show Keeps Q w w1 ∧ Tr Q B M [] w1 w1 from by
    obtain ⟨v', h1, h2, h3⟩ := h
    have hk : Keeps Q w w1 := ⟨h2.os, h2.tape, h2.output, h2.size, fun k hk => h2.block k (hQ k hk) (fun e => hM (e ▸ hk)) (fun e => hv k e hk)⟩
    exact ⟨hk, ⟨v', h1, fun k hk => hv k (h3 k hk)⟩, Keeps.refl, fun k hk => Nat.lt_of_lt_of_le (hQ k hk) h2.size, hM, Nat.le_trans hB h2.size, fun p hp => by simp at hp⟩)
  clear h0 hv hQ hB hb hbC hls hok hs
  go_enter Try.func33, Try.ntmps33
  go_wp2_with (fail)
  refine CC.out.mono ?_
  rintro e w1 ⟨rfl, h1⟩
  have HK1 := Lib.hid (T0.out w1 h1).1
  have HT1 := Lib.hid (T0.out w1 h1).2
  clear h1 CC T0
  have HL1 := Lib.hid (HK1.out.blk hL HL.out)
  have HC1 := Lib.hid (HK1.out.blk hC HC.out)
  have HLS1 := Lib.hid (HLS.out.keep HK1.out)
  have CD := Lib.hid (fun W h => diam_any L m dam W h hm)
  go_wp2_with (fail)
  refine (CD.out _ HL1.out).mono ?_
  rintro e w2 ⟨rfl, rfl⟩
  obtain ⟨N, hN⟩ : ∃ N : Nat, N = 2 ^ (2 * m + 1) - 1 := ⟨_, rfl⟩
  have hNb : N ≤ 131071 ∧ 2 ^ (2 * m + 1) = N + 1 := by
    have : 2 ^ (2 * m + 1) ≤ 2 ^ 17 := Nat.pow_le_pow_right (by omega) (by omega)
    have : 0 < 2 ^ (2 * m + 1) := Nat.pow_pos (by omega)
    omega
  have hw1 : IntKind.u64.wrap ((2 : Int) ^ (2 * m + 1)) = (N : Int) + 1 := by
    have : ((2 : Int) ^ (2 * m + 1)) = ((2 ^ (2 * m + 1) : Nat) : Int) := by simp
    rw [this, hNb.2, IntKind.wrap_u64]
    omega
  have hw2 : IntKind.u64.wrap (N : Int) = N := by rw [IntKind.wrap_u64]; omega
  have HN := Lib.hid hN
  have hNb1 := hNb.1
  clear hN hNb
  have hc0 := HC1.out.cell 0
  simp only [List.getElem?_cons_zero] at hc0
  go_wp2_with (fail)
  simp only [hw1]
  go_loopw [23] (fun vi wr => ∃ i : Nat, i ≤ ls.length ∧ vi = .int .i64 i ∧ Hid (Tr Q B M (stepL m dam scv (ls.take i)) w1 wr)) (fun vi _ => ls.length - (intOf vi).toNat)
  case atStart => exact ⟨0, by omega, rfl, Lib.hid (HT1.out.same (by simp [stepL]))⟩
  case round =>
    obtain ⟨i, hil, rfl, HT⟩ := hrel
    by_cases hlt : i < ls.length
    · obtain ⟨ad, rfl, hq, c0, c1, c2⟩ := (HLS1.out.keep HT.out.k).at_ i hlt
      have HO := Lib.hid (HOK.out ls[i] (List.getElem_mem hlt))
      have HST := Lib.hid (show stepL m dam scv (ls.take (i + 1)) = stepL m dam scv (ls.take i) ++ mvs m dam (cvN scv ls[i].1 m) ls[i] by
        unfold stepL
        rw [List.take_succ_eq_append_getElem hlt, List.flatMap_append]
        simp)
      generalize ls[i] = p at *
      obtain ⟨o, e, f⟩ := p
      simp only at c0 c1 c2
      have HCV := Lib.hid (cv_eq scv o m N HSC.out HN.out hNb1)
      have HT5 := Lib.hid (HT.out.below ((Below.refl wr.heap.size wr).alloc (Nat.le_refl _) (.cells #[.int .u32 o, .int .u8 e, .bool f] 63)))
      have CS := Lib.hid (simple_any HT5.out m dam hm hL HL1.out (o, e, f) HO.out _ _ HCV.out (cvN_lt scv o m HSC.out))
      go_wp2_with (fail)
      refine CS.out.mono ?_
      rintro en w5 ⟨rfl, h5⟩
      have H5 := Lib.hid (h5.same HST.out.symm)
      clear h5 CS
      go_wp2_with (fail)
      go_roundw
      case rel => exact ⟨i + 1, by omega, by go_num, H5⟩
      case measure => simp [intOf]; omega
    · obtain rfl : i = ls.length := by omega
      rw [List.take_length] at HT
      obtain ⟨v', hms, hv'⟩ := HT.out.m
      have hm0 := hms.b.cell 0
      simp only [List.getElem?_cons_zero] at hm0
      obtain ⟨a', c', hv2⟩ := hms.form
      subst hv2
      have CS := Lib.hid (sort_ms M B _ _ wr hms (addAll_short _ HT.out.ok))
      have HV := Lib.hid hv'
      clear hv' hms
      go_wp2_with (fail)
      refine CS.out.mono ?_
      rintro en w6 ⟨rfl, l', g1, g2, g3, g4, g5⟩
      have HR := Lib.hid (show Moved Q M B m dam scv ls w (.returned (.tuple #[])) w6 from ⟨rfl, _, l', g2, g3, g4, (HK1.out.trans HT.out.k).trans ⟨g5.os, g5.tape, g5.output, g5.size, fun k hk => g5.block k (Nat.lt_of_lt_of_le (HT.out.lt k hk) HT.out.k.size) (fun e => hM (e ▸ hk)) (fun e => HV.out k e hk)⟩, HV.out⟩)
      clear g1 g2 g3 g4 g5 CS
      go_wp2_with (fail)
      go_returns
      exact HR.out

end Go.Proofs.Ytgblmafollhojaa
