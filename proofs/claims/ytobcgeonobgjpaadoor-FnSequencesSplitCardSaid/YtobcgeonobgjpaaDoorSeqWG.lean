/-
  The sequences of ranges of bytes: NewSequences, impl.Sequences. Conditions: as stated.
-/
import Derived.Test.YtobcgeonobgjpaaDoorSeqWF
namespace Go.Proofs.YtobcgeonobgjpaaDoor
open Go.ChangeShapes Go.WideShapes Go.ChangeAt Go.RowKit
set_option linter.unusedVariables false

theorem news_any (fr up : Int) (w : World) (h0 : 0 ≤ fr) (h1 : fr ≤ up) (h2 : up ≤ 1114111) (hN : Nils w) :
    Calls Tryd.prog 9 #[.int .i32 fr, .int .i32 up] w fun e w' => ∃ rv L, e = .returned (.tuple #[rv, .nilIface]) ∧ Got w w' rv L fr up := by
  have C := Lib.hid (pre_any fr up w h0 h1 h2 hN)
  clear h0 h1 h2 hN
  go_enter Tryd.func9, Tryd.ntmps9
  go_wp2_with fail
  refine C.out.mono ?_
  rintro e w1 ⟨rv, sk, L, rfl, hg⟩
  have HG := Lib.hid hg
  clear hg C
  go_wp2
  go_ret2
  exact ⟨_, L, rfl, HG.out⟩

theorem prvs_snoc (ps : List (Int × Int)) (n : Nat) (h : n < ps.length) : prvs (ps.take (n + 1)) = prvs (ps.take n) ++ [.int .u8 ps[n].1, .int .u8 ps[n].2] := by
  unfold prvs
  rw [List.take_succ_eq_append_getElem h, List.flatMap_append]
  rfl
theorem pair_at {w : World} {B : Nat} {a : Option Addr} {ps : List (Int × Int)} (h : Sl w B a (prvs ps)) (i : Nat) (hi : i < ps.length) :
    ∃ ad, a = some ad ∧ w.cell? (ad.add (i * 2)) = some (.int .u8 ps[i].1) ∧ w.cell? ⟨(ad.add (i * 2)).block, (ad.add (i * 2)).off + 1, none⟩ = some (.int .u8 ps[i].2) := by
  obtain ⟨ad, rfl, hb, h0⟩ := Sl.elem prv_len h i 0 (by omega) hi (.int .u8 ps[i].1) rfl
  obtain ⟨ad', he, hb', h1⟩ := Sl.elem prv_len h i 1 (by omega) hi (.int .u8 ps[i].2) rfl
  injection he with he
  subst he
  exact ⟨ad, rfl, h0, cell_off h1⟩
theorem infoArr : (Tryd.prog.info? 53).map (fun i => (i.zero, i.size, i.bytes)) = some (some (.agg #[.int .u8 0, .int .u8 0]), 2, 2) := by kernel_rfl
theorem infoRow : (Tryd.prog.info? 40).map (fun i => (i.zero, i.size, i.bytes)) = some (some (.slice none 0 0), 1, 24) := by kernel_rfl

set_option maxHeartbeats 400000 in
theorem bof_any (a : Option Addr) (ps : List (Int × Int)) (c : Nat) (w : World) (hl1 : ps.length ≤ 2147483647) (hs : Sl w w.heap.size a (prvs ps)) :
    Calls Tryd.prog 10 #[.slice a ps.length c] w fun e w' => ∃ v, e = .returned v ∧ w'.ownsRow w.heap.size 53 2 v ps.length (prvs ps) ∧ Below w.heap.size w w' := by
  obtain ⟨i0, hi, hz0, hz1, hz2⟩ := info_parts infoArr
  have HS := Lib.hid hs
  clear hs
  go_enter Tryd.func10, Tryd.ntmps10
  go_wp2_with fail
  go_loopw [3, 5, 8] (fun v _ k wr => ∃ n : Nat, n ≤ ps.length ∧ k = .int .i64 n ∧ wr.ownsRow w.heap.size 53 2 v n (prvs (ps.take n)) ∧ Below w.heap.size w wr) (fun _ _ k _ => ps.length - (intOf k).toNat)
  case atStart => exact ⟨0, by omega, rfl, ⟨by simp [prvs], .inl ⟨rfl, rfl⟩⟩, Below.refl _ _⟩
  case round =>
    obtain ⟨n, hnn, rfl, hown, hbw⟩ := hrel
    by_cases hlt : n < ps.length
    · obtain ⟨ad, rfl, hc0, hc1⟩ := pair_at (HS.out.below hbw) n hlt
      have HN := Lib.hid (prvs_snoc ps n hlt)
      generalize ps[n] = q at *
      obtain ⟨lo, hi'⟩ := q
      simp only at hc0 hc1
      go_wp2_with (at_builtin; refine append1 _ _ rfl (.tmp 12) (.tmp 18) 40 rfl w.heap.size 53 i0 _ 2 2 Tryd.underlying40 hi hz0 hz1 hz2 rfl (by omega) rfl u3 n (prvs (ps.take n)) rfl (hown.alloc _) (wr.heap.size + 1) (by simp) rfl (by simp [Value.oneCell']) (by unfold maxLen; omega) (by omega) (by have := hbw.size; simp; omega) ?_; intro v' w1 hown' hg' _)
      go_roundw
      case rel => exact ⟨n + 1, by omega, by go_num, by rw [HN.out]; exact hown', (hbw.alloc hbw.size _).grown hg' (by have := hbw.size; simp; omega) (own_block_ge hown)⟩
      case measure => simp [intOf]; omega
    · obtain rfl : n = ps.length := by omega
      obtain ⟨a1, c1, rfl⟩ := own_value hown
      rw [List.take_length] at hown
      have HO := Lib.hid hown
      clear hown
      go_wp2
      go_ret
      exact ⟨_, rfl, HO.out, hbw⟩

/-- lists of ranges, as the program hands them on -/
structure Lists (w : World) (B : Nat) (v : Value) (Ls : List (Value × List (Int × Int))) : Prop where
  o : w.ownsRow B 40 1 v Ls.length (Ls.map (·.1))
  r : ∀ x ∈ Ls, w.ownsRow B 53 2 x.1 x.2.length (prvs x.2)
theorem Lists.below {w w' : World} {B : Nat} {v : Value} {Ls : List (Value × List (Int × Int))} (h : Lists w B v Ls) (hb : Below w.heap.size w w') : Lists w' B v Ls := ⟨own_below h.o hb, fun x hx => own_below (h.r x hx) hb⟩
theorem Lists.app {w w' : World} {B : Nat} {v v' u : Value} {Ls : List (Value × List (Int × Int))} {ps : List (Int × Int)} (h : Lists w B v Ls) (hu : w.ownsRow B 53 2 u ps.length (prvs ps)) (ho : w'.ownsRow B 40 1 v' (Ls.length + 1) (Ls.map (·.1) ++ [u]))
    (hg : w.grownBy w' v.ownBlock) : Lists w' B v' (Ls ++ [(u, ps)]) := by
  refine ⟨by simpa using ho, fun x hx => ?_⟩
  rcases List.mem_append.1 hx with hx | hx
  · exact (h.r x hx).kept hg (rows_apart (h.r x hx) h.o (by decide)).kept
  · simp at hx
    subst hx
    exact hu.kept hg (rows_apart hu h.o (by decide)).kept
theorem own_less {w : World} {B B' : Nat} {e : TypeId} {size n : Nat} {v : Value} {xs : List Value} (h : w.ownsRow B e size v n xs) (hB : B' ≤ B) : w.ownsRow B' e size v n xs := by
  refine ⟨h.1, ?_⟩
  rcases h.2 with h | ⟨g, cap, cur, rfl, hg, rest⟩
  · exact .inl h
  · exact .inr ⟨g, cap, cur, rfl, by omega, rest⟩

set_option maxHeartbeats 800000 in
theorem seqs_any (fr up : Int) (w : World) (h0 : 0 ≤ fr) (h1 : fr ≤ up) (h2 : up ≤ 1114111) (hN : Nils w) :
    Calls Tryd.prog 6 #[.int .i32 fr, .int .i32 up] w fun e w' => ∃ v Ls, e = .returned (.tuple #[v, .bool true]) ∧ Lists w' w.heap.size v Ls ∧ Ls.length ≤ 8912895 ∧ (∀ x ∈ Ls, x.2.length ≤ 4) ∧
      (∀ b, cntL (Ls.map (·.2)) b = cov fr up b) ∧ Below w.heap.size w w' := by
  have C := Lib.hid (news_any fr up w h0 h1 h2 hN)
  obtain ⟨i0, hi, hz0, hz1, hz2⟩ := info_parts infoRow
  clear h0 h1 h2 hN
  go_enter Tryd.func6, Tryd.ntmps6
  go_wp2_with fail
  refine C.out.mono ?_
  rintro e w1 ⟨rv, L, rfl, hg⟩
  obtain ⟨a1, c1, rfl⟩ := own_value hg.rv
  have HG := Lib.hid hg
  have hLn := hg.n
  have HRV := Lib.hid (sl_of_own hg.rv)
  clear hg C
  go_wp2
  go_loopw [4, 9, 18] (fun v _ k wr => ∃ (n : Nat) (Ls : List (Value × List (Int × Int))), n ≤ L.length ∧ k = .int .i64 n ∧ Ls.length = n ∧ Hid (Ls.map (·.2) = (L.take n).map (·.2.2)) ∧ Hid (Lists wr w1.heap.size v Ls) ∧ Below w1.heap.size w1 wr) (fun _ _ k _ => L.length - (intOf k).toNat)
  case atStart => exact ⟨0, [], by omega, rfl, rfl, Lib.hid (by simp), Lib.hid ⟨World.ownsRow_nil _ _ _ _, fun x hx => by simp at hx⟩, Below.refl _ _⟩
  case round =>
    obtain ⟨n, Ls, hnn, rfl, rfl, HM, HLs, hbw⟩ := hrel
    by_cases hlt : Ls.length < L.length
    · obtain ⟨ad, rfl, had, hc⟩ := HRV.out Ls.length (seqv L[Ls.length]) (by rw [List.getElem?_map, List.getElem?_eq_getElem hlt]; rfl)
      have hc' := (hbw.cell (p := ad.add Ls.length) (by rw [block_add]; exact had)).trans hc
      have hx := HG.out.sq L[Ls.length] (List.getElem_mem hlt)
      have hxl := HG.out.len L[Ls.length] (List.getElem_mem hlt)
      have HT := Lib.hid (show (L.take (Ls.length + 1)).map (·.2.2) = (L.take Ls.length).map (·.2.2) ++ [L[Ls.length].2.2] by rw [List.take_succ_eq_append_getElem hlt, List.map_append]; rfl)
      have HU := Lib.hid hbw
      generalize L[Ls.length] = x at *
      obtain ⟨g, cx, ps⟩ := x
      simp only [seqv] at hc hc'
      simp only at hx hxl
      have CB := Lib.hid (bof_any (some ⟨g, 0, none⟩) ps cx wr (by omega) ((hx.below hbw hx.lt).sl (hx.below hbw hx.lt).lt))
      clear hx had hc hbw
      go_wp2_with fail
      refine CB.out.mono ?_
      rintro e w2 ⟨v2, rfl, ho2, hb2⟩
      obtain ⟨a2, c2, rfl⟩ := own_value ho2
      have HO2 := Lib.hid (own_less ho2 HU.out.size)
      have HL2 := Lib.hid (HLs.out.below hb2)
      have HB2 := Lib.hid (HU.out.trans (hb2.mono HU.out.size))
      have hs2 := HB2.out.size
      clear ho2 hb2 CB hc'
      go_wp2_with (at_builtin; refine append1 w2 #[.slice a2 ps.length c2] rfl (.tmp 22) (.tmp 25) 24 rfl w1.heap.size 40 i0 _ 1 24 Tryd.underlying24 hi hz0 hz1 hz2 rfl (by omega) rfl u4 Ls.length (Ls.map (·.1)) rfl HL2.out.o w2.heap.size rfl rfl (by simp [Value.oneCell']) (by unfold maxLen; omega) (by omega) hs2 ?_; intro v' w3 hown' hg' _)
      go_roundw
      case rel => exact ⟨Ls.length + 1, Ls ++ [(.slice a2 ps.length c2, ps)], by omega, by go_num, by simp, Lib.hid (by rw [List.map_append, HM.out, HT.out]; rfl), Lib.hid (HL2.out.app HO2.out hown' hg'), HB2.out.grown hg' HB2.out.size (own_block_ge HL2.out.o)⟩
      case measure => simp [intOf]; omega
    · have hLs : Ls.length = L.length := by omega
      have HE := Lib.hid hLs
      have HB := Lib.hid hbw
      clear hLs hbw
      go_wp2
      go_quiet (fail)
      go_wp2
      go_ret2
      have hm : Ls.map (·.2) = L.map (·.2.2) := by rw [HM.out, HE.out, List.take_length]
      have hsz := HG.out.bel.size
      refine ⟨_, Ls, rfl, (show Lists _ _ _ _ from ⟨own_less HLs.out.o hsz, fun x hx => own_less (HLs.out.r x hx) hsz⟩).below (by repeat (first | exact Below.refl _ _ | apply Below.drew | apply below_drewN)), by have := HE.out; omega, fun x hx => ?_, fun b => ?_, ?_⟩
      · have hx2 : x.2 ∈ L.map (·.2.2) := hm ▸ List.mem_map_of_mem hx
        obtain ⟨y, hy, hyx⟩ := List.mem_map.1 hx2
        rw [← hyx]
        exact (HG.out.len y hy).2
      · rw [hm]
        exact HG.out.cnt b
      · exact below_drewN (HG.out.bel.trans (HB.out.mono hsz)) _

end Go.Proofs.YtobcgeonobgjpaaDoor
