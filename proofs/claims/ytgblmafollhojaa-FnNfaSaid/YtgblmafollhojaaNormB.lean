/-
  A set of places is sorted; MultiState.normalize. Conditions: as stated.
-/
import Derived.Test.YtgblmafollhojaaNormA
namespace Go.Proofs.Ytgblmafollhojaa
open Go.ChangeShapes Go.WideShapes Go.ChangeAt Go.RowKit
open Go.Sort (swp PermIn SortedIn SWO)
set_option linter.unusedVariables false

/-- rising -/
def Srtd (l : List Pl) : Prop := ∀ i j (hi : i < l.length) (hj : j < l.length), i < j → ltP l[j] l[i] = false

theorem perm_of_in {α : Type} [Inhabited α] {d d' : Array α} {N : Nat} (h : PermIn 0 N d d') (hN : d.size = N) : d'.toList.Perm d.toList := by
  have hs := h.1
  have := h.2.2
  rw [Array.toList_extract, Array.toList_extract] at this
  simp [List.extract, ← hN] at this
  rwa [List.take_of_length_le (by simp [hs]), List.take_of_length_le (by simp)] at this

theorem srtd_of {d : Array Pl} {N : Nat} (h : SortedIn ltP 0 N d) (hN : d.size = N) : Srtd d.toList := by
  intro i j hi hj hij
  have := h i j (Nat.zero_le _) hij (by simpa [hN] using hj)
  rw [getElem!_pos d i (by simpa using hi), getElem!_pos d j (by simpa using hj)] at this
  simpa using this

/-- the set has been sorted -/
def SortedMS (w : World) (M B : Nat) (v : Value) (l : List Pl) (e : Ending) (w' : World) : Prop :=
  e = .returned (.tuple #[]) ∧ ∃ l', l'.length = l.length ∧ MSt w' M B v l' ∧ l'.Perm l ∧ Srtd l' ∧ Fr w w' M v

/-- no list at all -/
def noneI (T : TypeId) (c M : Nat) (X : Option Obj) : Itf Pl := ⟨T, .slice none 0 c, 87, 88, 89, ltP, M, 0, fun W d => d.size = 0 ∧ M < W.heap.size ∧ W.heap[M]? = X⟩
theorem noneI_ok (c M : Nat) (X : Option Obj) : (noneI 74 c M X).Ok where
  mN := fun w => by kernel_rfl
  mL := fun w => by kernel_rfl
  mS := fun w => by kernel_rfl
  eN := fun args w => enters_of Try.func87 (by kernel_rfl) rfl args w
  eL := fun args w => enters_of Try.func88 (by kernel_rfl) rfl args w
  eS := fun args w => enters_of Try.func89 (by kernel_rfl) rfl args w
  loc := fun {W W' d} h he => ⟨h.1, by
    have hlt : M < W.heap.size := h.2.1
    have h1 : W.heap[M]? = some (W.heap[M]'hlt) := Array.getElem?_eq_getElem hlt
    have he' : W'.heap[M]? = W.heap[M]? := he
    rw [h1] at he'
    exact (Array.getElem?_eq_some_iff.1 he').1, he.trans h.2.2⟩
  inb := fun h => h.2.1
  siz := fun h => h.1
  big := by show 0 < _; decide
  len := fun {W d} h => plen_any _ _ _ W
  less := fun {W d} h i j hi hj => absurd hi (Nat.not_lt_zero _)
  swap := fun {W d} h i j hi hj => absurd hi (Nat.not_lt_zero _)

theorem sort_ms (M B : Nat) (v : Value) (l : List Pl) (w : World) (h : MSt w M B v l) (hl : l.length ≤ 2000) :
    Calls Try.prog 39 #[.iface 74 v] w (SortedMS w M B v l) := by
  rcases h.o.2 with ⟨rfl, h0⟩ | ⟨g, cap, cur, rfl, hg, hh, hn, hm, hc, ht⟩
  · obtain rfl : l = [] := List.eq_nil_of_length_eq_zero h0
    refine (ssort_any (noneI_ok 0 M w.heap[M]?) swoP w #[] ⟨rfl, h.b.lt, rfl⟩).mono fun e w' ⟨he, d', hp, hs, hh⟩ => ?_
    have hM : w'.heap[M]? = w.heap[M]? := hh.s.2.2
    exact ⟨he, [], rfl, ⟨hM.trans h.b, World.ownsRow_nil _ _ _ _, fun p hp => by simp at hp⟩, List.Perm.refl _, fun i j hi => by simp at hi, ⟨hh.g.os, hh.g.tape, hh.g.output, hh.g.size, fun k hk h1 _ => hh.g.block k hk (fun e => h1 (by injection e))⟩⟩
  · have hne := h.ne
    have hgM : g ≠ M := fun e => hne (by rw [← e]; rfl)
    have hrow : rowS g 63 enc3 (cur.toList.drop (l.length * 3)) l.length w l.toArray := by
      refine ⟨by simp, ?_⟩
      show w.heap[g]? = _
      rw [hh]
      simp only []
      rw [← ht, List.take_append_drop]
    refine (ssort_any (placeI_ok g cap l.length (cur.toList.drop (l.length * 3)) (by omega)) swoP w l.toArray hrow).mono fun e w' ⟨he, d', hp, hs, hh2⟩ => ?_
    have hr : rowS g 63 enc3 (cur.toList.drop (l.length * 3)) l.length w' d' := hh2.s
    have hgr : w.grownBy w' (some g) := hh2.g
    have hpl : d'.toList.Perm l := by
      have := perm_of_in (N := l.length) hp (by simp)
      simpa using this
    have hln : d'.toList.length = l.length := hpl.length_eq
    have hfl : (d'.toList.flatMap enc3).length = l.length * 3 := by rw [flat_len enc3 3 (fun _ => rfl), hln]
    refine ⟨he, d'.toList, hln, ⟨h.b.grown hgr (by intro e; injection e with e; exact hgM e.symm), ?_, fun p hp => h.ok p (hpl.mem_iff.1 hp)⟩, hpl, srtd_of (N := l.length) hs hr.1, ⟨hgr.os, hgr.tape, hgr.output, hgr.size, fun k hk _ h2 => hgr.block k hk (fun e => h2 (by injection e with e; rw [e]; rfl))⟩⟩
    rw [hln]
    refine ⟨hfl, .inr ⟨g, cap, _, rfl, hg, hr.2, hn, hm, ?_, ?_⟩⟩
    · have hle : l.length * 3 ≤ cap * 3 := Nat.mul_le_mul_right 3 hn
      simp only [List.size_toArray, List.length_append, hfl, List.length_drop, Array.length_toList, hc]
      omega
    · simp only []
      rw [List.take_append_of_le_length (by rw [hfl]; exact Nat.le_refl _), List.take_of_length_le (by rw [hfl]; exact Nat.le_refl _)]

def mo (l : List Pl) : Int := l.foldl (fun m p => min m (p.1 : Int)) 4294967295
theorem mo_snoc (l : List Pl) (i : Nat) (h : i < l.length) : mo (l.take (i + 1)) = min (mo (l.take i)) (l[i].1 : Int) := by
  unfold mo
  rw [List.take_succ_eq_append_getElem h, List.foldl_append]
  rfl
theorem mo_le (l : List Pl) (m : Int) : l.foldl (fun m p => min m (p.1 : Int)) m ≤ m ∧ ∀ p ∈ l, l.foldl (fun m p => min m (p.1 : Int)) m ≤ p.1 := by
  induction l generalizing m with
  | nil => exact ⟨Int.le_refl _, fun p hp => by simp at hp⟩
  | cons q l ih =>
    simp only [List.foldl_cons]
    obtain ⟨h1, h2⟩ := ih (min m q.1)
    refine ⟨by omega, fun p hp => ?_⟩
    rcases List.mem_cons.1 hp with rfl | hp
    · omega
    · exact h2 p hp
theorem mo_ge (l : List Pl) (m : Int) (h : 0 ≤ m) : 0 ≤ l.foldl (fun m p => min m (p.1 : Int)) m := by
  induction l generalizing m with
  | nil => exact h
  | cons q l ih => exact ih _ (show 0 ≤ min m (q.1 : Int) by omega)
/-- the least number -/
def minO (l : List Pl) : Int := if l = [] then 0 else mo l
def shP (m : Int) (p : Pl) : Pl := ((p.1 - m).toNat, p.2)

theorem own_setCell {w : World} {B : Nat} {e : TypeId} {g n cap k : Nat} {xs : List Value} (h : w.ownsRow B e k (.slice (some ⟨g, 0, none⟩) n cap) n xs) (j : Nat) (hj : j < n * k) (u : Value) :
    (w.setCell ⟨g, j, none⟩ u).ownsRow B e k (.slice (some ⟨g, 0, none⟩) n cap) n (xs.set j u) := by
  rcases h.2 with ⟨h0, _⟩ | ⟨g', cap', cur, hv, hg, hh, hn, hm, hc, ht⟩
  · cases h0
  · injection hv with h1 h2 h3
    injection h1 with h1
    injection h1 with h1
    subst h1 h3
    refine ⟨by rw [List.length_set]; exact h.1, .inr ⟨g, cap, cur.setIfInBounds j u, rfl, hg, ?_, hn, hm, by simpa using hc, ?_⟩⟩
    · simp [World.setCell, Array.getElem?_modify, hh]
    · rw [Array.toList_setIfInBounds, ← ht, List.take_set]

theorem flat_set (l : List Pl) (i : Nat) (hi : i < l.length) (o : Nat) : (l.flatMap enc3).set (i * 3) (.int .u32 o) = (l.set i (o, l[i].2)).flatMap enc3 := by
  have hfl : ∀ m : List Pl, (m.flatMap enc3).length = m.length * 3 := fun m => flat_len enc3 3 (fun _ => rfl) m
  have e : l = l.take i ++ l[i] :: l.drop (i + 1) := by rw [← List.drop_eq_getElem_cons hi, List.take_append_drop]
  have e2 : l.set i (o, l[i].2) = l.take i ++ (o, l[i].2) :: l.drop (i + 1) := by rw [List.set_eq_take_append_cons_drop, if_pos hi]
  rw [e2]
  conv => lhs; rw [e]
  rw [List.flatMap_append, List.flatMap_append, List.flatMap_cons, List.flatMap_cons, List.set_append_right _ _ (by rw [hfl, List.length_take]; omega), hfl, List.length_take]
  rw [show i * 3 - min i l.length * 3 = 0 by omega]
  rfl

/-- the set has been moved to begin at 0, and sorted -/
def Normed (w : World) (M B : Nat) (v : Value) (l : List Pl) (e : Ending) (w' : World) : Prop :=
  e = .returned (.int .u32 (minO l)) ∧ ∃ l', l'.length = l.length ∧ MSt w' M B v l' ∧ l'.Perm (l.map (shP (minO l))) ∧ Srtd l' ∧ Fr w w' M v

/-- the first k have been moved -/
def part (m : Int) (l : List Pl) (k : Nat) : List Pl := (l.take k).map (shP m) ++ l.drop k
theorem part_len (m : Int) (l : List Pl) (k : Nat) (h : k ≤ l.length) : (part m l k).length = l.length := by
  unfold part
  rw [List.length_append, List.length_map, List.length_take, List.length_drop]
  omega
theorem part_get (m : Int) (l : List Pl) (k : Nat) (h : k < l.length) : (part m l k)[k]'(by rw [part_len m l k (by omega)]; exact h) = l[k] := by
  unfold part
  rw [List.getElem_append_right (by rw [List.length_map, List.length_take]; omega)]
  simp
  congr 1
  omega
theorem part_set (m : Int) (l : List Pl) (k : Nat) (h : k < l.length) : (part m l k).set k (shP m l[k]) = part m l (k + 1) := by
  unfold part
  rw [List.set_append_right _ _ (by rw [List.length_map, List.length_take]; omega), List.length_map, List.length_take, show k - min k l.length = 0 by omega, List.take_succ_eq_append_getElem h, List.map_append]
  simp
  rw [List.drop_eq_getElem_cons h]
  rfl

theorem own_frozen {w : World} {B : Nat} {e : TypeId} {g n cap k : Nat} {xs : List Value} (h : w.ownsRow B e k (.slice (some ⟨g, 0, none⟩) n cap) n xs) (j : Nat) : w.frozen? ⟨g, j, none⟩ = false := by
  rcases h.2 with ⟨h0, _⟩ | ⟨g', cap', cur, hv, hg, hh, hn, hm, hc, ht⟩
  · cases h0
  · injection hv with h1 h2 h3
    injection h1 with h1
    injection h1 with h1
    subst h1
    simp [World.frozen?, hh]
theorem Fr.own {w w' : World} {M g n cap : Nat} (h : Fr w w' M (.slice (some ⟨g, 0, none⟩) n cap)) (j : Nat) (u : Value) : Fr w (w'.setCell ⟨g, j, none⟩ u) M (.slice (some ⟨g, 0, none⟩) n cap) :=
  ⟨h.os, h.tape, h.output, by simpa [World.setCell] using h.size, fun k hk h1 h2 => (Below.heap_setCell w' ⟨g, j, none⟩ u k (fun e => h2 (by rw [e]; rfl))).trans (h.block k hk h1 h2)⟩
theorem part_all (m : Int) (l : List Pl) : part m l l.length = l.map (shP m) := by
  unfold part
  rw [List.take_length, List.drop_length, List.append_nil]

theorem MSt.move {w : World} {M B : Nat} {g n cap : Nat} {l : List Pl} (hn : l.length = n) (h : MSt w M B (.slice (some ⟨g, 0, none⟩) n cap) l) (i : Nat) (hi : i < l.length) (o : Nat) (ho : o ≤ 100000) :
    MSt (w.setCell ⟨g, i * 3, none⟩ (.int .u32 o)) M B (.slice (some ⟨g, 0, none⟩) n cap) (l.set i (o, l[i].2)) := by
  subst hn
  have hgM : g ≠ M := fun e => h.ne (by rw [← e]; rfl)
  refine ⟨h.b.far (fun e => hgM e.symm) _, ?_, fun p hp => ?_⟩
  · rw [List.length_set, ← flat_set l i hi o]
    exact own_setCell h.o (i * 3) (by omega) _
  · rcases List.mem_or_eq_of_mem_set hp with h1 | rfl
    · exact h.ok p h1
    · exact ⟨ho, (h.ok l[i] (List.getElem_mem hi)).2⟩

set_option maxRecDepth 100000 in
set_option maxHeartbeats 1600000 in
theorem norm_any (M B g cap : Nat) (l : List Pl) (w : World) (h : MSt w M B (.slice (some ⟨g, 0, none⟩) l.length cap) l) (hl : l.length ≤ 2000) (hne : l ≠ []) :
    Calls Try.prog 32 #[.pointer (some ⟨M, 0, none⟩)] w (Normed w M B (.slice (some ⟨g, 0, none⟩) l.length cap) l) := by
  have hm := h.b.cell 0
  simp only [List.getElem?_cons_zero] at hm
  have H0 := Lib.hid h
  clear h
  go_enter Try.func32, Try.ntmps32
  go_wp2
  go_loopw [3, 12] (fun vm vi wr => ∃ (i : Nat) (m : Int), i ≤ l.length ∧ vi = .int .i64 i ∧ vm = .int .u32 m ∧ Hid (m = mo (l.take i)) ∧ Hid (Below w.heap.size w wr)) (fun _ vi _ => l.length - (intOf vi).toNat)
  case atStart => exact ⟨0, _, by omega, rfl, rfl, Lib.hid rfl, Lib.hid (Below.refl _ _)⟩
  case round =>
    obtain ⟨i, m, hil, rfl, rfl, HMO, HB⟩ := hrel
    have HR := Lib.hid (H0.out.below HB.out)
    by_cases hlt : i < l.length
    · obtain ⟨g', cap', hv, hcap, c0, c1, c2⟩ := HR.out.at_ i hlt
      injection hv with hv1 hv2 hv3
      injection hv1 with hv1
      injection hv1 with hv1
      subst hv1 hv3
      have HS := Lib.hid (mo_snoc l i hlt)
      generalize l[i] = p at *
      by_cases hc : (p.1 : Int) < m
      · go_wp2
        go_roundw
        case rel => exact ⟨i + 1, _, by omega, by go_num, rfl, Lib.hid (by rw [HS.out, ← HMO.out]; omega), Lib.hid (HB.out.alloc HB.out.size _)⟩
        case measure => simp [intOf]; omega
      · go_wp2
        go_roundw
        case rel => exact ⟨i + 1, _, by omega, by go_num, rfl, Lib.hid (by rw [HS.out, ← HMO.out]; omega), Lib.hid (HB.out.alloc HB.out.size _)⟩
        case measure => simp [intOf]; omega
    · obtain rfl : i = l.length := by omega
      rw [List.take_length] at HMO
      have hm1 : m ≤ 100000 := by
        have hp : 0 < l.length := by
          rcases Nat.eq_zero_or_pos l.length with h | h
          · exact absurd (List.eq_nil_of_length_eq_zero h) hne
          · exact h
        have h1 := (mo_le l 4294967295).2 l[0] (List.getElem_mem hp)
        have h2 := (H0.out.ok l[0] (List.getElem_mem hp)).1
        rw [HMO.out]
        unfold mo
        omega
      have hmb : (m == 4294967295) = false := by rw [beq_eq_false_iff_ne]; omega
      have H1 := Lib.hid (show MSt wr M B (.slice (some ⟨g, 0, none⟩) l.length cap) (part (minO l) l 0) from by unfold part; simpa using HR.out)
      have hge : ∀ p ∈ l, minO l ≤ p.1 := fun p hp => (by rw [show minO l = mo l from if_neg hne]; exact (mo_le l _).2 p hp)
      have h0 : 0 ≤ minO l := (by rw [show minO l = mo l from if_neg hne]; exact mo_ge l _ (by omega))
      have HGE := Lib.hid hge
      have HMN := Lib.hid (show minO l = m from (if_neg hne).trans HMO.out.symm)
      clear hge
      go_wp2
      go_loopw [6] (fun vi wx => ∃ k : Nat, k ≤ l.length ∧ vi = .int .i64 k ∧ Hid (MSt wx M B (.slice (some ⟨g, 0, none⟩) l.length cap) (part (minO l) l k)) ∧ Hid (Fr w wx M (.slice (some ⟨g, 0, none⟩) l.length cap))) (fun vi _ => l.length - (intOf vi).toNat)
      case atStart => exact ⟨0, by omega, rfl, H1, Lib.hid (Fr.of_below HB.out)⟩
      case round =>
        obtain ⟨k, hk, rfl, HP, HF⟩ := hrel
        have hlen := part_len (minO l) l k hk
        have hmc := HP.out.b.cell 0
        simp only [List.getElem?_cons_zero] at hmc
        by_cases hlk : k < l.length
        · obtain ⟨g', cap', hv, hcap, c0, c1, c2⟩ := HP.out.at_ k (by rw [hlen]; exact hlk)
          injection hv with hv1 hv2 hv3
          injection hv1 with hv1
          injection hv1 with hv1
          subst hv1 hv3
          rw [part_get (minO l) l k hlk] at c0 c1 c2
          have hpm := HGE.out l[k] (List.getElem_mem hlk)
          have hpo := H0.out.ok l[k] (List.getElem_mem hlk)
          have hfz := own_frozen (n := l.length) (k := 3) (by have h9 := HP.out.o; rw [hlen] at h9; exact h9) (k * 3)
          have HMV := Lib.hid (HP.out.move hlen k (by rw [hlen]; exact hlk) ((l[k].1 : Int) - minO l).toNat (by have := hpo.1; omega))
          rw [part_get (minO l) l k hlk, show (((((l[k].1 : Int) - minO l).toNat : Nat)) : Int) = (l[k].1 : Int) - minO l by omega] at HMV
          have HST := Lib.hid (part_set (minO l) l k hlk)
          unfold shP at HST
          rw [HST.out] at HMV
          clear hlen HST
          have hpo1 := hpo.1
          clear hpo
          rw [HMN.out] at HMV hpm h0
          generalize l[k] = p at *
          go_wp2
          go_roundw
          case rel => exact ⟨k + 1, by omega, by go_num, by rw [HMN.out]; exact HMV, Lib.hid (HF.out.own (k * 3) _)⟩
          case measure => simp [intOf]; omega
        · obtain rfl : k = l.length := by omega
          rw [part_all] at HP
          have C := Lib.hid (sort_ms M B _ (l.map (shP (minO l))) wr HP.out (by rw [List.length_map]; exact hl))
          clear hlen
          go_wp2_with fail
          refine C.out.mono ?_
          rintro e w2 ⟨rfl, l', h1, h2, h3, h4, h5⟩
          have HQ := Lib.hid (show Normed w M B (.slice (some ⟨g, 0, none⟩) l.length cap) l (.returned (.int .u32 (minO l))) w2 from ⟨rfl, l', by rw [h1, List.length_map], h2, h3, h4, HF.out.trans h5 (fun k hk => .inl hk)⟩)
          clear h1 h2 h3 h4 h5 C
          go_wp2
          go_ret
          have h9 := HQ.out
          rw [HMN.out] at h9
          exact h9

end Go.Proofs.Ytgblmafollhojaa
