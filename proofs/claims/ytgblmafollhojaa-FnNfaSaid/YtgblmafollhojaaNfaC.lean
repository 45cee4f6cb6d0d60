/-
  LevenshteinNFA.computeDistance. Conditions: as stated.
-/
import Derived.Test.YtgblmafollhojaaMsd
namespace Go.Proofs.Ytgblmafollhojaa
open Go.ChangeShapes Go.WideShapes Go.ChangeAt Go.RowKit
set_option linter.unusedVariables false

theorem MSt.blocks {w w' : World} {M B : Nat} {v : Value} {l : List Pl} (h : MSt w M B v l) (hM : w'.heap[M]? = w.heap[M]?) (hv : ∀ k, v.ownBlock = some k → w'.heap[k]? = w.heap[k]?) : MSt w' M B v l := by
  refine ⟨hM.trans h.b, ⟨h.o.1, ?_⟩, h.ok⟩
  rcases h.o.2 with h2 | ⟨g, cap, cur, rfl, hg, hh, h3⟩
  · exact .inl h2
  · exact .inr ⟨g, cap, cur, rfl, hg, (hv g rfl).trans hh, h3⟩
theorem MSt.own_ge {w : World} {M B : Nat} {v : Value} {l : List Pl} (h : MSt w M B v l) (k : Nat) (hk : v.ownBlock = some k) : B ≤ k := by
  rcases h.o.2 with ⟨rfl, _⟩ | ⟨g, cap, cur, rfl, hg, hh, _⟩
  · simp [Value.ownBlock] at hk
  · simp [Value.ownBlock] at hk
    omega

/-- two sets apart from each other -/
structure Two (w : World) (B M1 M2 : Nat) (l1 l2 : List Pl) : Prop where
  ex : ∃ v1 v2, MSt w M1 B v1 l1 ∧ MSt w M2 B v2 l2 ∧ (∀ k, v1.ownBlock = some k → v2.ownBlock ≠ some k) ∧ v1.ownBlock ≠ some M2 ∧ v2.ownBlock ≠ some M1
  ne : M1 ≠ M2
  b1 : B ≤ M1
  b2 : B ≤ M2
  hB : B ≤ w.heap.size

theorem Two.below {w w1 : World} {B M1 M2 : Nat} {l1 l2 : List Pl} (h : Two w B M1 M2 l1 l2) (hb : Below w.heap.size w w1) : Two w1 B M1 M2 l1 l2 := by
  obtain ⟨v1, v2, h1, h2, h3⟩ := h.ex
  exact ⟨⟨v1, v2, h1.below hb, h2.below hb, h3⟩, h.ne, h.b1, h.b2, Nat.le_trans h.hB hb.size⟩

theorem clear_two {w : World} {B M1 M2 : Nat} {l1 l2 : List Pl} (h : Two w B M1 M2 l1 l2) :
    Calls Try.prog 41 #[.pointer (some ⟨M2, 0, none⟩)] w fun e w' => e = .returned (.tuple #[]) ∧ Two w' B M1 M2 l1 [] ∧ Below B w w' := by
  obtain ⟨v1, v2, h1, h2, h3, h4, h5⟩ := h.ex
  refine (clear_any M2 B v2 l2 w h2).mono fun e w' ⟨he, v', g1, g2, g3⟩ => ⟨he, ⟨⟨v1, v', ?_, g1, fun k hk e => h3 k hk (g3 k e), h4, fun e => h5 (g3 _ e)⟩, h.ne, h.b1, h.b2, Nat.le_trans h.hB g2.size⟩, g2.below h.b2 (h2.own_ge) h.hB⟩
  exact h1.blocks (g2.block _ h1.b.lt h.ne (fun e => h5 e)) (fun k hk => g2.block k (h1.own_lt k hk) (fun e => h4 (e ▸ hk)) (h3 k hk))

theorem add0 (g j : Nat) : (⟨g, 0, none⟩ : Addr).add j = ⟨g, j, none⟩ := by
  unfold Addr.add
  by_cases h0 : j = 0 <;> simp [h0]

theorem turn_two {w : World} {B M1 M2 L : Nat} {l1 l2 : List Pl} (h : Two w B M1 M2 l1 l2) (m : Nat) (dam : Bool) (hm : m ≤ 8) (hL : L < B) (hb : Blk w L 78 [.int .u8 m, .bool dam]) (hok : ∀ s ∈ l1, s.1 ≤ 890 ∧ s.2.1 ≤ m) (hlen : l1.length ≤ 2000) (scv : Nat) (hs : scv < 18446744073709551616) :
    Calls Try.prog 33 #[.pointer (some ⟨L, 0, none⟩), .pointer (some ⟨M1, 0, none⟩), .pointer (some ⟨M2, 0, none⟩), .int .u64 scv] w fun e w' => e = .returned (.tuple #[]) ∧ ∃ l', Stepped m dam scv l1 l' ∧ Two w' B M2 M1 l' l1 ∧ Below B w w' := by
  obtain ⟨v1, v2, h1, h2, h3, h4, h5⟩ := h.ex
  obtain ⟨a, c, hv1⟩ := h1.form
  have hbC := h1.b
  rw [hv1] at hbC
  have hQlt : ∀ k, (k < B ∨ k = M1 ∨ v1.ownBlock = some k) → k < w.heap.size := fun k hk => by
    rcases hk with hk | rfl | hk
    · exact Nat.lt_of_lt_of_le hk h.hB
    · exact h1.b.lt
    · exact h1.own_lt k hk
  refine (trans_any (Q := fun k => k < B ∨ k = M1 ∨ v1.ownBlock = some k) (L := L) (C := M1) h2 (fun k hk hq => ?_) hQlt (fun hq => ?_) h.hB m dam hm (.inl hL) hb a l1 c (.inr (.inl rfl)) hbC ⟨fun i hi => ?_⟩ hok hlen scv hs).mono fun e w' ⟨he, v, l', g1, g2, g3, g4, g5⟩ => ⟨he, l', ⟨g2, g3⟩, ⟨⟨v, v1, g1, ?_, fun k hk e => g5 k hk (.inr (.inr e)), fun e => g5 _ e (.inr (.inl rfl)), h4⟩, fun e => h.ne e.symm, h.b2, h.b1, Nat.le_trans h.hB g4.size⟩, ⟨g4.os, g4.tape, g4.output, g4.size, fun k hk => g4.block k (.inl hk)⟩⟩
  · rcases hq with hq | rfl | hq
    · have := h2.own_ge k hk
      omega
    · exact h5 hk
    · exact h3 k hq hk
  · rcases hq with hq | hq | hq
    · have := h.b2
      omega
    · exact h.ne hq.symm
    · exact h4 hq
  · obtain ⟨g, cap, hv, hcap, c0, c1, c2⟩ := h1.at_ i hi
    rw [hv] at hv1
    injection hv1 with e1 e2 e3
    subst e1
    refine ⟨⟨g, 0, none⟩, rfl, .inr (.inr (by rw [hv]; rfl)), ?_⟩
    rw [add0]
    exact ⟨c0, c1, c2⟩
  · exact h1.blocks (g4.block _ (.inr (.inl rfl))) (fun k hk => g4.block k (.inr (.inr hk)))

theorem chain_ext {m : Nat} {sw : Bool} {xs ys : List Int} {K : Nat} {S : Nat → List Pl} (h : Chain m sw xs ys K S) {l' : List Pl} (hs : Stepped m sw (chiN xs (ys.getD K 0) xs.length) (S K) l') : ∃ S', Chain m sw xs ys (K + 1) S' ∧ S' (K + 1) = l' := by
  refine ⟨fun j => if j ≤ K then S j else l', ⟨?_, fun k hk => ?_⟩, ?_⟩
  · simp [h.z]
  · by_cases h1 : k < K
    · simp only [if_pos (show k ≤ K by omega), if_pos (show k + 1 ≤ K by omega)]
      exact h.s k h1
    · obtain rfl : k = K := by omega
      simp only [if_pos (Nat.le_refl k), if_neg (show ¬ k + 1 ≤ k by omega)]
      exact hs
  · exact if_neg (by omega)
theorem chain_ok {m : Nat} {sw : Bool} {xs ys : List Int} {K : Nat} {S : Nat → List Pl} (h : Chain m sw xs ys K S) : ∀ k, k ≤ K → ∀ p ∈ S k, p.1 ≤ k + m ∧ p.2.1 ≤ m := by
  have h2 : ∀ k, k ≤ K → ∀ p ∈ S k, p.2.1 ≤ m := by
    intro k
    induction k with
    | zero => exact fun _ p hp => by rw [h.z] at hp; simp at hp; subst hp; simp
    | succ k ih =>
      intro hk p hp
      have hm := (kept_all _).sub p ((h.s k (by omega)).1.mem_iff.1 hp)
      unfold stepL at hm
      obtain ⟨s, hs1, hp1⟩ := List.mem_flatMap.1 hm
      exact (mvs_ok hp1 (ih (by omega) s hs1)).2
  intro k hk p hp
  have h3 := h2 k hk p hp
  have h4 := (chain_snd h k hk).d p hp
  have h5 := D_low sw xs ys _ p.1 k (Nat.le_refl _)
  omega
theorem chain_len {m : Nat} {sw : Bool} {xs ys : List Int} {K : Nat} {S : Nat → List Pl} (h : Chain m sw xs ys K S) (hm : m ≤ 8) (hK : K ≤ 40) : (S K).length ≤ 2000 := by
  cases K with
  | zero => rw [h.z]; simp
  | succ K => exact (h.s K (by omega)).short hm (fun s hs => by have := chain_ok h K (by omega) s hs; omega)

/-- where the walk stands behind k letters -/
structure NfaAt (w wr : World) (B M1 M2 m : Nat) (dam : Bool) (xs ys : List Int) (k : Nat) (l1 l2 : List Pl) : Prop where
  two : Two wr B M1 M2 l1 l2
  b : Below B w wr
  ch : ∃ S, Chain m dam xs ys k S ∧ S k = l1

theorem NfaAt.ok {w wr : World} {B M1 M2 m : Nat} {dam : Bool} {xs ys : List Int} {k : Nat} {l1 l2 : List Pl} (h : NfaAt w wr B M1 M2 m dam xs ys k l1 l2) : ∀ p ∈ l1, p.1 ≤ k + m ∧ p.2.1 ≤ m := by
  obtain ⟨S, hc, rfl⟩ := h.ch
  exact chain_ok hc k (Nat.le_refl _)
theorem NfaAt.len {w wr : World} {B M1 M2 m : Nat} {dam : Bool} {xs ys : List Int} {k : Nat} {l1 l2 : List Pl} (h : NfaAt w wr B M1 M2 m dam xs ys k l1 l2) (hm : m ≤ 8) (hk : k ≤ 40) : l1.length ≤ 2000 := by
  obtain ⟨S, hc, rfl⟩ := h.ch
  exact chain_len hc hm hk
theorem chi64' (zs : List Int) (r : Int) (h : zs.length ≤ 40) : chiN zs r zs.length < 18446744073709551616 := by
  have h1 := chiN_lt zs r zs.length
  have h2 : 2 ^ zs.length ≤ 2 ^ 40 := Nat.pow_le_pow_right (by omega) h
  omega
theorem sl_on {w w1 : World} {B : Nat} {a : Option Addr} {xs : List Value} (h : Sl w B a xs) (hB : B ≤ w.heap.size) (hb : Below B w w1) : Sl w1 w1.heap.size a xs := fun j u hj => by
  obtain ⟨ad, h1, h2, h3⟩ := h.below hb j u hj
  exact ⟨ad, h1, Nat.lt_of_lt_of_le h2 (Nat.le_trans hB hb.size), h3⟩

set_option maxRecDepth 100000 in
set_option maxHeartbeats 1600000 in
theorem comp_any (L m : Nat) (dam : Bool) (w : World) (hbL : Blk w L 78 [.int .u8 m, .bool dam]) (hm : m ≤ 8) (a : Option Addr) (zs : List Int) (c : Nat) (a2 : Option Addr) (ts : List Int) (c2 : Nat) (hz : zs.length ≤ 40) (ht : ts.length ≤ 40)
    (hs : Sl w w.heap.size a (zs.map (.int .i32))) (hs2 : Sl w w.heap.size a2 (ts.map (.int .i32))) :
    Calls Try.prog 38 #[.pointer (some ⟨L, 0, none⟩), .slice a zs.length c, .slice a2 ts.length c2] w fun e w' => e = .returned (.iface 91 (.agg #[.int .u8 (min (eds dam zs ts zs.length ts.length) (m + 1) : Nat)])) ∧ Below w.heap.size w w' := by
  have HL := Lib.hid hbL
  have hLl := hbL.lt
  have HS := Lib.hid hs
  have HS2 := Lib.hid hs2
  have CI := Lib.hid (init_any L w)
  clear hbL hs hs2
  have n32 : IntKind.u32.wrap (zs.length : Int) = zs.length := by rw [IntKind.wrap_u32]; omega
  go_enter Try.func38, Try.ntmps38
  go_wp2_with (fail)
  refine CI.out.mono ?_
  rintro e w1 ⟨M1, v1, rfl, hM1, hms1, hb1⟩
  have H1 := Lib.hid hms1
  have HB1 := Lib.hid hb1
  have CN := Lib.hid (newms_any w1)
  clear hms1 hb1 CI
  go_wp2_with (fail)
  refine CN.out.mono ?_
  rintro e w2 ⟨M2, v2, rfl, hM2, hms2, hat2, hb2⟩
  have HN := Lib.hid (show NfaAt w w2 w.heap.size M1 M2 m dam zs ts 0 [(0, 0, false)] [] from by
    have hlt := H1.out.b.lt
    have hsz := HB1.out.size
    refine ⟨⟨⟨v1, v2, H1.out.below hb2, ⟨hms2.b, own_mono hms2.o hsz, hms2.ok⟩, fun k hk e => ?_, fun e => ?_, fun e => ?_⟩, by omega, hM1, by omega, Nat.le_trans hsz hb2.size⟩, HB1.out.trans (hb2.mono hsz), ⟨fun _ => [(0, 0, false)], ⟨rfl, fun k hk => absurd hk (Nat.not_lt_zero _)⟩, rfl⟩⟩
    · have := H1.out.own_lt k hk
      have := hat2 k e
      omega
    · have := H1.out.own_lt _ e
      omega
    · have := hat2 _ e
      omega)
  clear hms2 hat2 hb2 CN
  go_wp2_with (fail)
  go_loopw [7, 8, 17] (fun va vb vi wr => ∃ (k N1 N2 : Nat) (l1 l2 : List Pl), k ≤ ts.length ∧ vi = .int .i64 k ∧ va = .pointer (some ⟨N1, 0, none⟩) ∧ vb = .pointer (some ⟨N2, 0, none⟩) ∧ Hid (NfaAt w wr w.heap.size N1 N2 m dam zs ts k l1 l2)) (fun _ _ vi _ => ts.length - (intOf vi).toNat)
  case atStart => exact ⟨0, M1, M2, _, _, by omega, rfl, rfl, rfl, HN⟩
  case round =>
    obtain ⟨k, N1, N2, l1, l2, hk, rfl, rfl, rfl, HA⟩ := hrel
    by_cases hlt : k < ts.length
    · obtain ⟨ad, rfl, hcell⟩ := (HS2.out.below HA.out.b).ints k hlt
      obtain ⟨r, hr⟩ : ∃ r, r = ts.getD k 0 := ⟨_, rfl⟩
      rw [← hr] at hcell
      have HR := Lib.hid hr
      clear hr
      have CC := Lib.hid (clear_two HA.out.two)
      go_wp2_with (fail)
      refine CC.out.mono ?_
      rintro e w3 ⟨rfl, h3, hb3⟩
      have H3 := Lib.hid h3
      have HB3 := Lib.hid (HA.out.b.trans hb3)
      clear h3 hb3 CC
      have CV := Lib.hid (cv_any a zs c r w3 hz (sl_on HS.out (Nat.le_refl _) HB3.out))
      go_wp2_with (fail)
      refine CV.out.mono ?_
      rintro e w4 ⟨rfl, hb4⟩
      have HB4 := Lib.hid (HB3.out.trans (hb4.mono HB3.out.size))
      have H4 := Lib.hid (H3.out.below hb4)
      clear hb4 CV
      have CT := Lib.hid (turn_two H4.out m dam hm hLl (HL.out.below HB4.out hLl) (fun s hs => by have := HA.out.ok s hs; omega) (HA.out.len hm (by omega)) _ (chi64' zs r hz))
      go_wp2_with (fail)
      refine CT.out.mono ?_
      rintro e w5 ⟨rfl, l', hst, h5, hb5⟩
      have H5 := Lib.hid (show NfaAt w w5 w.heap.size N2 N1 m dam zs ts (k + 1) l' l1 from ⟨h5, HB4.out.trans hb5, by
        obtain ⟨S, hc, hS⟩ := HA.out.ch
        exact chain_ext hc (by rw [hS, ← HR.out]; exact hst)⟩)
      clear h5 hb5 hst CT
      go_wp2_with (fail)
      go_roundw
      case rel => exact ⟨k + 1, N2, N1, l', l1, by omega, by go_num, rfl, rfl, H5⟩
      case measure => simp [intOf]; omega
    · obtain rfl : k = ts.length := by omega
      have CM := Lib.hid (show Calls Try.prog 45 #[.pointer (some ⟨L, 0, none⟩), .pointer (some ⟨N1, 0, none⟩), .int .u32 zs.length] wr fun e w' => e = .returned (.iface 91 (.agg #[.int .u8 (min (eds dam zs ts zs.length ts.length) (m + 1) : Nat)])) ∧ Below wr.heap.size wr w' from by
        obtain ⟨u1, u2, g1, g2, g3⟩ := HA.out.two.ex
        obtain ⟨a1, c1, hu⟩ := g1.form
        subst hu
        have hT := HA.out.ch
        obtain ⟨S, hc, hS⟩ := hT
        have h := msd_any L N1 m zs.length dam wr (HL.out.below HA.out.b hLl) a1 l1 c1 g1.b (sl_of_own g1.o) hm hz (fun p hp => by have := HA.out.ok p hp; omega) (HA.out.len hm (by omega))
        rw [← hS, tells_eq hc] at h
        exact h)
      go_wp2_with (fail)
      refine CM.out.mono ?_
      rintro e w3 ⟨rfl, hb3⟩
      have HB3 := Lib.hid (HA.out.b.trans (hb3.mono HA.out.b.size))
      clear hb3 CM
      go_wp2_with (fail)
      go_ret
      exact ⟨rfl, HB3.out⟩

end Go.Proofs.Ytgblmafollhojaa
