/-
  FnTablePath: a table with Can and Always told. Conditions: as stated.
-/
import Derived.Test.YtobcgeonobgjpaaTabC
import Derived.Test.YtobcgeonobgjpaaTabA
namespace Go.Proofs.Ytobcgeonobgjpaa.fnTablePath
open Go.ChangeShapes Go.WideShapes Go.ChangeAt Go.RowKit
set_option linter.unusedVariables false

theorem infoBD : (Try.prog.info? 4).map (fun i => (i.zero, i.size, i.bytes)) = some (some (.bool false), 1, 1) := by kernel_rfl
theorem infoID : (Try.prog.info? 3).map (fun i => (i.zero, i.size, i.bytes)) = some (some (.int .i64 0), 1, 8) := by kernel_rfl

theorem blk_new_at (w : World) (t : TypeId) (l : List Value) (n : Nat) (hn : n = w.heap.size) : Blk (w.alloc (.cells l.toArray t)) n t l := by subst hn; exact Blk.new w t l

/-- what has been seen, and in which order -/
structure Seen (n k : Nat) (ls : List Int) (sn : List Bool) : Prop where
  hl : ls.length = k
  hs : sn.length = n
  hc : sn.count true = k
  hb : ∀ x ∈ ls, 0 ≤ x ∧ x < n

theorem Seen.le {n k : Nat} {ls : List Int} {sn : List Bool} (h : Seen n k ls sn) : k ≤ n := by
  rw [← h.hc, ← h.hs]; exact List.count_le_length
theorem Seen.first {n s : Nat} (hs : s < n) : Seen n 1 [(s : Int)] ((List.replicate n false).set s true) := by
  refine ⟨rfl, by simp, ?_, ?_⟩
  · rw [List.count_set (by simpa using hs)]
    simp [List.count_replicate]
  · intro x hx
    simp at hx
    omega
theorem Seen.more {n k t : Nat} {ls : List Int} {sn : List Bool} (h : Seen n k ls sn) (ht : t < n) (hf : sn[t]? = some false) : Seen n (k + 1) (ls ++ [(t : Int)]) (sn.set t true) := by
  have hlt : t < sn.length := by rw [h.hs]; exact ht
  refine ⟨by rw [List.length_append, h.hl]; rfl, by rw [List.length_set, h.hs], ?_, ?_⟩
  · rw [List.count_set hlt]
    rw [List.getElem?_eq_getElem hlt] at hf
    injection hf with hf
    rw [hf, h.hc]
    simp
  · intro x hx
    rcases List.mem_append.1 hx with hx | hx
    · exact h.hb x hx
    · simp at hx
      omega

theorem _root_.Go.Proofs.Ytobcgeonobgjpaa.R3.set_below {w : World} {B : Nat} {e : TypeId} {v1 v2 v3 : Value} {n1 n2 n3 : Nat} {x1 x2 x3 : List Value} (h : R3 w B e v1 v2 v3 n1 n2 n3 x1 x2 x3) {p : Addr} (hp : p.block < B) (u : Value) : R3 (w.setCell p u) B e v1 v2 v3 n1 n2 n3 x1 x2 x3 :=
  ⟨ownsRow_setCell_below h.o1 hp u, ownsRow_setCell_below h.o2 hp u, ownsRow_setCell_below h.o3 hp u, h.p12, h.p13, h.p23⟩

/-- the two blocks below, and what is older, where a row above them has grown -/
theorem told_step {w W W' : World} {t1 t2 : TypeId} {l1 l2 : List Value} {v : Value} (hG : Blk W w.heap.size t1 l1) (hR : Blk W (w.heap.size + 1) t2 l2) (hl : Below w.heap.size w W) (hge : ∀ k, v.ownBlock = some k → w.heap.size + 2 ≤ k) (hg : W.grownBy W' v.ownBlock) :
    Hid (Blk W' w.heap.size t1 l1) ∧ Hid (Blk W' (w.heap.size + 1) t2 l2) ∧ Hid (Below w.heap.size w W') :=
  ⟨Lib.hid (hG.grown hg (fun e => by have := hge _ e.symm; omega)), Lib.hid (hR.grown hg (fun e => by have := hge _ e.symm; omega)), Lib.hid (hl.grown hg hl.size (fun k hk => by have := hge k hk; omega))⟩

theorem made_one (z : Value) (n : Nat) : madeCells #[z] n = (List.replicate n z).toArray := by
  apply Array.ext'
  apply List.ext_getElem
  · simp [madeCells]
  · intro i h1 h2
    simp [madeCells, Nat.mod_one]

set_option maxRecDepth 20000 in
set_option maxHeartbeats 1600000 in
theorem told_any (st : Int) (a0 a1 a2 : Option Addr) (n0 c0 c1 c2 n3 n4 c3 c4 n : Nat) (a3 a4 : Option Addr) (ra : Nat → Option Addr) (rc : Nat → Nat) (nx : Nat → List Int) (mt : List Bool) (w : World) (hn1 : 1 ≤ n) (hn : n ≤ 300)
    (h1 : Sl w w.heap.size a1 ((List.range n).map fun i => .slice (ra i) 5 (rc i))) (hx : ∀ i, i < n → Sl w w.heap.size (ra i) ((nx i).map (.int .i64))) (hxl : ∀ i, i < n → (nx i).length = 5) (hxb : ∀ i, i < n → ∀ x ∈ nx i, 0 ≤ x ∧ x < n)
    (hm : Sl w w.heap.size a2 (mt.map .bool)) (hml : mt.length = n) :
    Calls Try.prog 25 #[.agg #[.int .i64 st, .slice a0 n0 c0, .slice a1 n c1, .slice a2 n c2, .slice a3 n3 c3, .slice a4 n4 c4]] w fun e w' =>
      ∃ (b3 b4 : Option Addr) (d3 d4 : Nat) (cn al : List Bool), e = .returned (.agg #[.int .i64 st, .slice a0 n0 c0, .slice a1 n c1, .slice a2 n c2, .slice b3 n d3, .slice b4 n d4]) ∧ cn.length = n ∧ al.length = n ∧
        w'.ownsRow (w.heap.size + 2) 4 1 (.slice b3 n d3) n (cn.map .bool) ∧ w'.ownsRow (w.heap.size + 2) 4 1 (.slice b4 n d4) n (al.map .bool) ∧ Below w.heap.size w w' := by
  obtain ⟨i0, hi, hz0, hz1, hz2⟩ := info_parts infoBD
  obtain ⟨j0, ji, jz0, jz1, jz2⟩ := info_parts infoID
  have hmk : ∀ u : World, (Instr.makeSlice 39 (.int .i64 (n : Int)) (.int .i64 (n : Int))).run Try.prog u =
      .ok (.slice (some ⟨u.heap.size, 0, none⟩) n n) (u.alloc (.cells ((List.replicate n false).map Value.bool).toArray 4)) := fun u => by
    have h := run_make (P := Try.prog) u 39 4 i0 (.bool false) Try.underlying39 hi hz0 .i64 .i64 (n : Int) (n : Int) (by omega) (Int.le_refl _) (by rw [hz2]; omega) (by omega)
    rw [List.map_replicate, ← made_one]
    simpa [hz1, Value.cells] using h
  have H1 := Lib.hid h1
  have HX := Lib.hid hx
  have HXL := Lib.hid hxl
  have HXB := Lib.hid hxb
  have HM := Lib.hid hm
  have HML := Lib.hid hml
  clear h1 hx hxl hxb hm hml
  go_enter Try.func25, Try.ntmps25
  go_wp2_with fail
  go_loopw [4, 5, 6, 7, 8, 9, 10, 11] (fun k _ _ _ _ _ _ _ wr => ∃ (s : Nat) (b3 b4 : Option Addr) (d3 d4 : Nat) (cn al : List Bool), s ≤ n ∧ k = .int .i64 s ∧ cn.length = s ∧ al.length = s ∧
    Blk wr w.heap.size 41 [.int .i64 st, .slice a0 n0 c0, .slice a1 n c1, .slice a2 n c2, .slice b3 s d3, .slice b4 s d4] ∧
    Blk wr (w.heap.size + 1) 41 [.int .i64 0, .slice none 0 0, .slice none 0 0, .slice none 0 0, .slice none 0 0, .slice none 0 0] ∧
    R3 wr (w.heap.size + 2) 4 (.slice b3 s d3) (.slice b4 s d4) (.slice none 0 0) s s 0 (cn.map .bool) (al.map .bool) [] ∧ Below w.heap.size w wr) (fun k _ _ _ _ _ _ _ _ => n - (intOf k).toNat)
  case atStart =>
    exact ⟨0, none, none, 0, 0, [], [], by omega, rfl, rfl, rfl, (Blk.new w 41 [_, _, _, _, _, _]).alloc _, blk_new_at _ 41 [_, _, _, _, _, _] _ (by simp),
      ⟨⟨by simp, .inl ⟨rfl, rfl⟩⟩, ⟨by simp, .inl ⟨rfl, rfl⟩⟩, ⟨by simp, .inl ⟨rfl, rfl⟩⟩, Apart.none_, Apart.none_, Apart.none_⟩, ((Below.refl _ _).alloc (Nat.le_refl _) _).alloc (by simp) _⟩
  case round =>
    obtain ⟨s, b3, b4, d3, d4, cn, al, hsn, rfl, hcl, hal, hG, hR, q0, l0⟩ := hrel
    obtain ⟨wo, hwo⟩ : ∃ wo : World, wo = wr := ⟨_, rfl⟩
    subst hwo
    have HG := Lib.hid hG
    have HR := Lib.hid hR
    have k2 : wo.cell? ⟨w.heap.size, 2, none⟩ = some (.slice a1 n c1) := hG.cell 2
    have k3 : wo.cell? ⟨w.heap.size, 3, none⟩ = some (.slice a2 n c2) := hG.cell 3
    by_cases hlt : s < n
    · clear hG hR
      have hs1 : ∀ o, ((wo.alloc (.cells ((List.replicate n false).map Value.bool).toArray 4)).alloc o).cell? ⟨wo.heap.size, s, none⟩ = some (.bool false) := fun o => by
        rw [((Blk.new wo 4 ((List.replicate n false).map Value.bool)).alloc o).cell s]
        simp [hlt]
      have hs2 : ∀ o, ((wo.alloc (.cells ((List.replicate n false).map Value.bool).toArray 4)).alloc o).frozen? ⟨wo.heap.size, s, none⟩ = false := fun o => ((Blk.new wo 4 ((List.replicate n false).map Value.bool)).alloc o).frozen s
      generalize hREP : (((List.replicate n false).map Value.bool).toArray) = REP at *
      go_wp2_with fail
      go_loopw [6, 7, 8, 9, 10, 11] (fun lv b1 b2 k _ _ wr => ∃ (i m : Nat) (la : Option Addr) (lc : Nat) (ls : List Int) (sn : List Bool) (bb1 bb2 : Bool), b1 = .bool bb1 ∧ b2 = .bool bb2 ∧ k = .int .i64 i ∧ i ≤ m ∧ lv = .slice la m lc ∧
        wr.ownsRow (wo.heap.size + 1) 3 1 (.slice la m lc) m (ls.map (.int .i64)) ∧ Blk wr wo.heap.size 4 (sn.map .bool) ∧ Seen n m ls sn ∧ Below wo.heap.size wo wr) (fun _ _ _ k _ _ _ => n - (intOf k).toNat)
      case atStart =>
        subst hREP
        rw [List.setIfInBounds_toArray, ← List.map_set]
        refine ⟨0, 1, some ⟨wo.heap.size + 1, 0, none⟩, 1, [(s : Int)], (List.replicate n false).set s true, false, true, rfl, rfl, rfl, by omega, rfl, ?_, ?_, Seen.first hlt, ?_⟩
        · exact ⟨rfl, .inr ⟨wo.heap.size + 1, 1, #[.int .i64 s], rfl, Nat.le_refl _, blk_new_at _ 3 [.int .i64 s] _ (by simp), Nat.le_refl _, by simp [maxLen], rfl, rfl⟩⟩
        · exact (Blk.new wo 4 _).alloc _
        · exact ((Below.refl _ _).alloc (Nat.le_refl _) _).alloc (by simp) _
      case round =>
        obtain ⟨i, m, la, lc, ls, sn, bb1, bb2, rfl, rfl, rfl, him, rfl, own, hS, seen, l1⟩ := hrel
        have hmn := seen.le
        have k2m : wr.cell? ⟨w.heap.size, 2, none⟩ = some (.slice a1 n c1) := (l1.cell HG.out.lt).trans k2
        have k3m : wr.cell? ⟨w.heap.size, 3, none⟩ = some (.slice a2 n c2) := (l1.cell HG.out.lt).trans k3
        have l2 := l0.trans (l1.mono l0.size)
        by_cases hlm : i < m
        · have hil : i < ls.length := by rw [seen.hl]; exact hlm
          obtain ⟨ld, rfl, hle⟩ := (sl_of_own own).ints i hil
          have hxb := seen.hb _ (List.getElem_mem hil)
          have hgd : ls.getD i 0 = ls[i] := by rw [List.getD_eq_getElem?_getD, List.getElem?_eq_getElem hil]; rfl
          rw [hgd] at hle
          obtain ⟨x, hx⟩ : ∃ x : Nat, ls[i] = (x : Int) := ⟨ls[i].toNat, by omega⟩
          rw [hx] at hle hxb
          have hxn : x < n := by omega
          obtain ⟨md, rfl, hmb, hme⟩ := Sl.bool (HM.out.below l2) x (by rw [HML.out]; exact hxn)
          obtain ⟨ad, rfl, hab, hae⟩ := rows_at (H1.out.below l2) x hxn
          have hmx : x < mt.length := by rw [HML.out]; exact hxn
          generalize mt[x] = mx at *
          have OWN := Lib.hid own
          have HS := Lib.hid hS
          clear own hS
          cases bb1 <;> cases bb2
          all_goals
            go_wp2_with fail
            go_quiet (fail)
            go_wp2_with fail
            go_quiet (fail)
            go_wp2_with fail
            obtain ⟨wi, hwi⟩ : ∃ wi : World, wi = wr := ⟨_, rfl⟩
            subst hwi
            go_loopw [6, 10, 11] (fun lv k _ wr => ∃ (c m' : Nat) (la' : Option Addr) (lc' : Nat) (ls' : List Int) (sn' : List Bool), c ≤ 5 ∧ k = .int .i64 c ∧ lv = .slice la' m' lc' ∧
              wr.ownsRow (wo.heap.size + 1) 3 1 (.slice la' m' lc') m' (ls'.map (.int .i64)) ∧ Blk wr wo.heap.size 4 (sn'.map .bool) ∧ Seen n m' ls' sn' ∧ ls'[i]? = some (x : Int) ∧ m ≤ m' ∧ Below wo.heap.size wo wr) (fun _ k _ _ => 5 - (intOf k).toNat)
            case atStart => exact ⟨0, m, some ld, lc, ls, sn, by omega, rfl, rfl, OWN.out, HS.out, seen, by rw [List.getElem?_eq_getElem hil, hx], Nat.le_refl _, below_drewN (below_drewN l1 _) _⟩
            case round =>
              obtain ⟨c, m', la', lc', ls', sn', hc5, rfl, rfl, own', hS', seen', hxi, hmm, l3⟩ := hrel
              have hmn' := seen'.le
              have k2i : wr.cell? ⟨w.heap.size, 2, none⟩ = some (.slice (some ad) n c1) := (l3.cell HG.out.lt).trans k2
              have l4 := l0.trans (l3.mono l0.size)
              have hil' : i < ls'.length := (List.getElem?_eq_some_iff.1 hxi).1
              obtain ⟨ld', rfl, hle'⟩ := (sl_of_own own').ints i hil'
              have hgd' : ls'.getD i 0 = (x : Int) := by rw [List.getD_eq_getElem?_getD, hxi]; rfl
              rw [hgd'] at hle'
              obtain ⟨ad', hade, -, hae'⟩ := rows_at (H1.out.below l4) x hxn
              obtain rfl : ad = ad' := by injection hade
              by_cases hlc : c < 5
              · obtain ⟨rd, hra, hre⟩ := ((HX.out x hxn).below l4).ints c (by rw [HXL.out x hxn]; exact hlc)
                rw [hra] at hae'
                have hyb := HXB.out x hxn ((nx x).getD c 0) (by rw [List.getD_eq_getElem?_getD, List.getElem?_eq_getElem (by rw [HXL.out x hxn]; exact hlc)]; exact List.getElem_mem _)
                obtain ⟨y, hy⟩ : ∃ y : Nat, (nx x).getD c 0 = (y : Int) := ⟨((nx x).getD c 0).toNat, by omega⟩
                rw [hy] at hre hyb
                have hyn : y < n := by omega
                have hys : y < sn'.length := by rw [seen'.hs]; exact hyn
                have hsc : wr.cell? ⟨wo.heap.size, y, none⟩ = some (.bool sn'[y]) := by rw [hS'.cell y]; simp [hys]
                have hsf : wr.frozen? ⟨wo.heap.size, y, none⟩ = false := hS'.frozen y
                have S1 := Lib.hid (fun (h : sn'[y] = false) => seen'.more hyn (by rw [List.getElem?_eq_getElem hys, h]))
                have OWN' := Lib.hid own'
                have HS' := Lib.hid hS'
                have LL3 := Lib.hid l3
                have XI := Lib.hid hxi
                clear own' hS' l3 l4 hxi
                generalize sn'[y] = sy at *
                cases sy with
                | true =>
                  go_wp2_with fail
                  go_quiet (fail)
                  go_wp2_with fail
                  go_quiet (fail)
                  go_wp2_with fail
                  refine ⟨⟨c + 1, m', some ld', lc', ls', sn', by omega, by go_num, rfl, OWN'.out, HS'.out, seen', XI.out, hmm, below_drewN LL3.out _⟩, ?_⟩
                  simp [intOf]
                  omega
                | false =>
                  go_wp2_with fail
                  go_quiet (fail)
                  go_wp2_with fail
                  go_quiet (fail)
                  go_wp2_with (at_builtin; (refine append1 _ _ rfl (.tmp 89) (.tmp 91) 37 rfl (wo.heap.size + 1) 3 j0 _ 1 8 Try.underlying37 ji jz0 jz1 jz2 rfl (by omega) rfl (.slice (some ld') m' lc') m' _ rfl (ownsRow_setCell_below (w := wr) OWN'.out (a := ⟨wo.heap.size, y, none⟩) (by simp) (.bool true)) wr.heap.size (by simp [World.setCell, World.drewN]) rfl (by simp [Value.oneCell']) (by unfold maxLen; omega) (by omega) (by have := LL3.out.size; have := HS'.out.lt; simp [World.setCell, World.drewN]; omega) ?_); intro u1 w1 ho hg _)
                  obtain ⟨la2, lc2, rfl⟩ := own_value ho
                  refine ⟨⟨c + 1, m' + 1, la2, lc2, ls' ++ [(y : Int)], sn'.set y true, by omega, by go_num, rfl, by simpa using ho, ?_, S1.out trivial, ?_, by omega, ?_⟩, ?_⟩
                  · rw [List.map_set]
                    exact ((HS'.out.drewN _).set_ y (.bool true)).grown hg (fun e => by have := own_block_ge OWN'.out _ e.symm; omega)
                  · rw [List.getElem?_append_left hil']
                    exact XI.out
                  · refine ((below_drewN LL3.out _).setCell (p := ⟨wo.heap.size, y, none⟩) (Nat.le_refl _) _).grown hg ?_ (fun k hk => by have := own_block_ge OWN'.out k hk; omega)
                    have := LL3.out.size
                    simpa [World.setCell, World.drewN] using this
                  · simp [intOf]
                    omega
              · obtain rfl : c = 5 := by omega
                have OWN' := Lib.hid own'
                have HS' := Lib.hid hS'
                have LL3 := Lib.hid l3
                clear own' hS' l3 l4
                go_wp2_with fail
                go_quiet (fail)
                go_wp2_with fail
                refine ⟨⟨i + 1, m', some ld', lc', ls', sn', _, _, rfl, rfl, by go_num, by omega, rfl, OWN'.out, HS'.out, seen', below_drewN LL3.out _⟩, ?_⟩
                change n - ((i : Int) + 1).toNat < n - (i : Int).toNat
                omega
        · have hGm := HG.out.below l1 HG.out.lt
          have HRm := Lib.hid (HR.out.below l1 HR.out.lt)
          have QM := Lib.hid (q0.below l1)
          have L2 := Lib.hid l2
          have c4 : wr.cell? ⟨w.heap.size, 4, none⟩ = some (.slice b3 s d3) := hGm.cell 4
          have HGm := Lib.hid hGm
          clear hGm l1 l2 own hS
          go_wp2_with (first
            | (at_builtin
               refine append1_at _ _ rfl (.tmp 94) (.tmp 96) 39 rfl (w.heap.size + 2) 4 i0 _ 1 1 Try.underlying39 hi hz0 hz1 hz2 rfl (by omega) rfl (.slice b3 s d3) s _ rfl QM.out.o1 wr.heap.size rfl rfl (by simp [Value.oneCell']) (by unfold maxLen; omega) (by omega) (by have := HGm.out.lt; have := HRm.out.lt; omega) ?_
               intro u1 w1 ho1 hg1 hne1 hat1
               obtain ⟨b3', d3', rfl⟩ := own_value ho1
               obtain ⟨hG1, hR1, hL1⟩ := told_step (v := .slice b3 s d3) HGm.out HRm.out (L2.out) (fun k => own_block_ge QM.out.o1 k) hg1
               have HQ1 := Lib.hid ((QM.out.app1 ho1 hg1 hat1).set_below (p := ⟨w.heap.size, 4, none⟩) (by simp) (.slice b3' (s + 1) d3'))
               have HG2 := Lib.hid (hG1.out.set_ 4 (.slice b3' (s + 1) d3'))
               have HR2 := Lib.hid (hR1.out.far (p := ⟨w.heap.size, 4, none⟩) (by simp) (.slice b3' (s + 1) d3'))
               have HL2 := Lib.hid (hL1.out.setCell (p := ⟨w.heap.size, 4, none⟩) (by simp) (.slice b3' (s + 1) d3'))
               have k52 : (w1.setCell ⟨w.heap.size, 4, none⟩ (.slice b3' (s + 1) d3')).cell? ⟨w.heap.size, 5, none⟩ = some (.slice b4 s d4) := HG2.out.cell 5
               have hsz2 : (w1.setCell ⟨w.heap.size, 4, none⟩ (.slice b3' (s + 1) d3')).heap.size = w1.heap.size := by simp [World.setCell]
               have k41 : w1.cell? ⟨w.heap.size, 4, none⟩ = some (.slice b3 s d3) := hG1.out.cell 4
               have f41 : w1.frozen? ⟨w.heap.size, 4, none⟩ = false := hG1.out.frozen 4)
            | (at_builtin; refine append1_at _ _ rfl (.tmp 100) (.tmp 102) 39 rfl (w.heap.size + 2) 4 i0 _ 1 1 Try.underlying39 hi hz0 hz1 hz2 rfl (by omega) rfl (.slice b4 s d4) s _ rfl HQ1.out.o2 w1.heap.size hsz2 rfl (by simp [Value.oneCell']) (by unfold maxLen; omega) (by omega) (by have := HG2.out.lt; have := HR2.out.lt; omega) ?_
               intro u2 w2 ho2 hg2 hne2 hat2
               obtain ⟨b4', d4', rfl⟩ := own_value ho2
               obtain ⟨hG3, hR3, hL3⟩ := told_step (v := .slice b4 s d4) HG2.out HR2.out (HL2.out) (fun k => own_block_ge HQ1.out.o2 k) hg2
               have k42 : w2.cell? ⟨w.heap.size, 5, none⟩ = some (.slice b4 s d4) := hG3.out.cell 5
               have f42 : w2.frozen? ⟨w.heap.size, 5, none⟩ = false := hG3.out.frozen 5))
          refine ⟨⟨s + 1, b3', b4', d3', d4', cn ++ [bb1], al ++ [bb2], by omega, by go_num, by simp [hcl], by simp [hal], hG3.out.set_ 5 _, hR3.out.far (p := ⟨w.heap.size, 5, none⟩) (by simp) _, ?_, hL3.out.setCell (p := ⟨w.heap.size, 5, none⟩) (by simp) _⟩, ?_⟩
          · have h := (HQ1.out.app2 ho2 hg2 hat2).set_below (p := ⟨w.heap.size, 5, none⟩) (by simp) (.slice b4' (s + 1) d4')
            simpa using h
          · change n - ((s : Int) + 1).toNat < n - (s : Int).toNat
            omega
    · obtain rfl : s = n := by omega
      have g0 : wo.cell? ⟨w.heap.size, 0, none⟩ = some (.int .i64 st) := hG.cell 0
      have g1 : wo.cell? ⟨w.heap.size, 1, none⟩ = some (.slice a0 n0 c0) := hG.cell 1
      have g4 : wo.cell? ⟨w.heap.size, 4, none⟩ = some (.slice b3 s d3) := hG.cell 4
      have g5 : wo.cell? ⟨w.heap.size, 5, none⟩ = some (.slice b4 s d4) := hG.cell 5
      have r0 : wo.cell? ⟨w.heap.size + 1, 0, none⟩ = some (.int .i64 0) := hR.cell 0
      have f0 : wo.frozen? ⟨w.heap.size + 1, 0, none⟩ = false := hR.frozen 0
      have r1 : wo.cell? ⟨w.heap.size + 1, 1, none⟩ = some (.slice none 0 0) := hR.cell 1
      have f1 : wo.frozen? ⟨w.heap.size + 1, 1, none⟩ = false := hR.frozen 1
      have r2 : wo.cell? ⟨w.heap.size + 1, 2, none⟩ = some (.slice none 0 0) := hR.cell 2
      have f2 : wo.frozen? ⟨w.heap.size + 1, 2, none⟩ = false := hR.frozen 2
      have r3 : wo.cell? ⟨w.heap.size + 1, 3, none⟩ = some (.slice none 0 0) := hR.cell 3
      have f3 : wo.frozen? ⟨w.heap.size + 1, 3, none⟩ = false := hR.frozen 3
      have r4 : wo.cell? ⟨w.heap.size + 1, 4, none⟩ = some (.slice none 0 0) := hR.cell 4
      have f4 : wo.frozen? ⟨w.heap.size + 1, 4, none⟩ = false := hR.frozen 4
      have r5 : wo.cell? ⟨w.heap.size + 1, 5, none⟩ = some (.slice none 0 0) := hR.cell 5
      have f5 : wo.frozen? ⟨w.heap.size + 1, 5, none⟩ = false := hR.frozen 5
      have z : ∀ {W : World} {v : Value} {m : Nat} {xs : List Value} (i : Nat) (u : Value), W.ownsRow (w.heap.size + 2) 4 1 v m xs → (W.setCell ⟨w.heap.size + 1, i, none⟩ u).ownsRow (w.heap.size + 2) 4 1 v m xs :=
        fun i u h => ownsRow_setCell_below h (by simp) u
      have y : ∀ {W : World} (i : Nat) (u : Value), Below w.heap.size w W → Below w.heap.size w (W.setCell ⟨w.heap.size + 1, i, none⟩ u) := fun i u h => h.setCell (p := ⟨w.heap.size + 1, i, none⟩) (by simp) u
      have B6 : Blk ((((((wo.setCell ⟨w.heap.size + 1, 0, none⟩ (.int .i64 st)).setCell ⟨w.heap.size + 1, 1, none⟩ (.slice a0 n0 c0)).setCell ⟨w.heap.size + 1, 2, none⟩ (.slice a1 s c1)).setCell ⟨w.heap.size + 1, 3, none⟩ (.slice a2 s c2)).setCell ⟨w.heap.size + 1, 4, none⟩ (.slice b3 s d3)).setCell ⟨w.heap.size + 1, 5, none⟩ (.slice b4 s d4)) (w.heap.size + 1) 41 [.int .i64 st, .slice a0 n0 c0, .slice a1 s c1, .slice a2 s c2, .slice b3 s d3, .slice b4 s d4] := ((((((hR.set_ 0 _).set_ 1 _).set_ 2 _).set_ 3 _).set_ 4 _).set_ 5 _)
      have e0 : ((((((wo.setCell ⟨w.heap.size + 1, 0, none⟩ (.int .i64 st)).setCell ⟨w.heap.size + 1, 1, none⟩ (.slice a0 n0 c0)).setCell ⟨w.heap.size + 1, 2, none⟩ (.slice a1 s c1)).setCell ⟨w.heap.size + 1, 3, none⟩ (.slice a2 s c2)).setCell ⟨w.heap.size + 1, 4, none⟩ (.slice b3 s d3)).setCell ⟨w.heap.size + 1, 5, none⟩ (.slice b4 s d4)).cell? ⟨w.heap.size + 1, 0, none⟩ = some (.int .i64 st) := B6.cell 0
      have e1 : ((((((wo.setCell ⟨w.heap.size + 1, 0, none⟩ (.int .i64 st)).setCell ⟨w.heap.size + 1, 1, none⟩ (.slice a0 n0 c0)).setCell ⟨w.heap.size + 1, 2, none⟩ (.slice a1 s c1)).setCell ⟨w.heap.size + 1, 3, none⟩ (.slice a2 s c2)).setCell ⟨w.heap.size + 1, 4, none⟩ (.slice b3 s d3)).setCell ⟨w.heap.size + 1, 5, none⟩ (.slice b4 s d4)).cell? ⟨w.heap.size + 1, 1, none⟩ = some (.slice a0 n0 c0) := B6.cell 1
      have e2 : ((((((wo.setCell ⟨w.heap.size + 1, 0, none⟩ (.int .i64 st)).setCell ⟨w.heap.size + 1, 1, none⟩ (.slice a0 n0 c0)).setCell ⟨w.heap.size + 1, 2, none⟩ (.slice a1 s c1)).setCell ⟨w.heap.size + 1, 3, none⟩ (.slice a2 s c2)).setCell ⟨w.heap.size + 1, 4, none⟩ (.slice b3 s d3)).setCell ⟨w.heap.size + 1, 5, none⟩ (.slice b4 s d4)).cell? ⟨w.heap.size + 1, 2, none⟩ = some (.slice a1 s c1) := B6.cell 2
      have e3 : ((((((wo.setCell ⟨w.heap.size + 1, 0, none⟩ (.int .i64 st)).setCell ⟨w.heap.size + 1, 1, none⟩ (.slice a0 n0 c0)).setCell ⟨w.heap.size + 1, 2, none⟩ (.slice a1 s c1)).setCell ⟨w.heap.size + 1, 3, none⟩ (.slice a2 s c2)).setCell ⟨w.heap.size + 1, 4, none⟩ (.slice b3 s d3)).setCell ⟨w.heap.size + 1, 5, none⟩ (.slice b4 s d4)).cell? ⟨w.heap.size + 1, 3, none⟩ = some (.slice a2 s c2) := B6.cell 3
      have e4 : ((((((wo.setCell ⟨w.heap.size + 1, 0, none⟩ (.int .i64 st)).setCell ⟨w.heap.size + 1, 1, none⟩ (.slice a0 n0 c0)).setCell ⟨w.heap.size + 1, 2, none⟩ (.slice a1 s c1)).setCell ⟨w.heap.size + 1, 3, none⟩ (.slice a2 s c2)).setCell ⟨w.heap.size + 1, 4, none⟩ (.slice b3 s d3)).setCell ⟨w.heap.size + 1, 5, none⟩ (.slice b4 s d4)).cell? ⟨w.heap.size + 1, 4, none⟩ = some (.slice b3 s d3) := B6.cell 4
      have e5 : ((((((wo.setCell ⟨w.heap.size + 1, 0, none⟩ (.int .i64 st)).setCell ⟨w.heap.size + 1, 1, none⟩ (.slice a0 n0 c0)).setCell ⟨w.heap.size + 1, 2, none⟩ (.slice a1 s c1)).setCell ⟨w.heap.size + 1, 3, none⟩ (.slice a2 s c2)).setCell ⟨w.heap.size + 1, 4, none⟩ (.slice b3 s d3)).setCell ⟨w.heap.size + 1, 5, none⟩ (.slice b4 s d4)).cell? ⟨w.heap.size + 1, 5, none⟩ = some (.slice b4 s d4) := B6.cell 5
      clear B6
      go_wp2_with fail
      refine bodyPost_ret (by simp [results, Try.results25, go_sem, e0, e1, e2, e3, e4, e5]; try rfl) rfl ?_
      exact ⟨b3, b4, d3, d4, cn, al, rfl, hcl, hal, z _ _ (z _ _ (z _ _ (z _ _ (z _ _ (z _ _ q0.o1))))), z _ _ (z _ _ (z _ _ (z _ _ (z _ _ (z _ _ q0.o2))))), y _ _ (y _ _ (y _ _ (y _ _ (y _ _ (y _ _ l0)))))⟩

end Go.Proofs.Ytobcgeonobgjpaa.fnTablePath
