/-
  MultiState.addStates. Conditions: as stated.
-/
import Derived.Test.YtgblmafollhojaaAddA
import Derived.Deep.LoopGhost
namespace Go.Proofs.Ytgblmafollhojaa
open Go.ChangeShapes Go.WideShapes Go.ChangeAt Go.RowKit
set_option linter.unusedVariables false

/-- a place has been added -/
def Added (w : World) (M B : Nat) (v : Value) (l : List Pl) (n : Pl) (e : Ending) (w' : World) : Prop :=
  e = .returned (.tuple #[]) ∧ ∃ v', MSt w' M B v' (addS l n) ∧ Fr w w' M v ∧ (∀ k, v'.ownBlock = some k → v.ownBlock = some k ∨ w.heap.size ≤ k)

theorem infoN : (Try.prog.info? 63).map (fun i => (i.zero, i.size, i.bytes)) = some (some (.agg #[.int .u32 0, .int .u8 0, .bool false]), 3, 8) := by kernel_rfl
theorem addS_yes {l : List Pl} {n : Pl} (i : Nat) (hi : i < l.length) (h : impB l[i] n = true) : addS l n = l := by
  unfold addS
  rw [if_pos]
  exact List.any_eq_true.2 ⟨l[i], List.getElem_mem hi, h⟩
theorem addS_no {l : List Pl} {n : Pl} (h : ∀ i (hi : i < l.length), impB l[i] n = false) : addS l n = l.filter (fun s => !impB n s) ++ [n] := by
  unfold addS
  rw [if_neg]
  intro h2
  obtain ⟨x, hx, h3⟩ := List.any_eq_true.1 h2
  obtain ⟨i, hi, rfl⟩ := List.getElem_of_mem hx
  rw [h i hi] at h3
  cases h3

/-- where the second loop stands -/
structure InAdd (w : World) (M B : Nat) (l : List Pl) (v : Value) (n : Pl) (i : Nat) (lk : List Pl) (v2 : Value) (wx : World) : Prop where
  m : MSt wx M B v2 lk
  fr : Fr w wx M v
  at_ : ∀ k, v2.ownBlock = some k → v.ownBlock = some k ∨ w.heap.size ≤ k
  flt : lk.take i ++ (lk.drop i).filter (fun s => !impB n s) = l.filter (fun s => !impB n s)
  box : Blk wx w.heap.size 63 (enc3 n)
  far : ∀ k, v2.ownBlock = some k → k ≠ w.heap.size
theorem InAdd.below {w : World} {M B : Nat} {l : List Pl} {v : Value} {n : Pl} {i : Nat} {lk : List Pl} {v2 : Value} {wx wy : World} (h : InAdd w M B l v n i lk v2 wx) (hb : Below wx.heap.size wx wy) : InAdd w M B l v n i lk v2 wy :=
  { m := h.m.below hb, fr := h.fr.trans (Fr.of_below hb (v := v)) (fun k hk => .inl hk), at_ := h.at_, flt := h.flt, box := h.box.below hb h.box.lt, far := h.far }

/-- an append whose run is known, in a region that draws its order -/
theorem step_run {P : Program} {ops : Array Oper} {o : Oper} {a : Act} {K : Act → World → Prop} {Q : Exit → Act → World → Prop} {E : Prop} {W W' : World} (hgd : o.guard = none) (s x : Operand) (t : TypeId)
    (ho : o.op = .call { callee := .builtin .append, args := #[s, x], argTypes := #[t, t] }) {u v r : Value} (hs : a.eval s = u) (hx : a.eval x = v) (hrun : (Builtin.append_ #[t, t] o.type #[u, v]).run P W = .ok r W') (h : K (a.put o.dst r) W') :
    if Region.wanted o (yielded ops a.tmps) = true then Oper.wp P o a W K Q else E := by
  have hw : Region.wanted o (yielded ops a.tmps) = true := by simp [Region.wanted, hgd]
  rw [if_pos hw]
  unfold Oper.wp execOp
  simp only [ho, resolve, invoke, builtin, Sem.run_bind, Sem.run_pure, Result.andThen_ok, List.map_toArray, List.map_cons, List.map_nil, hs, hx, hrun]
  exact h

theorem MSt.put {w : World} {M B : Nat} {v v' : Value} {l' : List Pl} (hb : Blk w M 67 [v]) (ho : w.ownsRow B 63 3 v' l'.length (l'.flatMap enc3)) (hne : v'.ownBlock ≠ some M) (hok : ∀ p ∈ l', okP p) :
    MSt (w.setCell ⟨M, 0, none⟩ v') M B v' l' :=
  ⟨hb.set_ 0 v', ho.kept (only_set (World.grownBy.refl w _) 0 v') (.inr hne), hok⟩
theorem InAdd.cut {w : World} {M B : Nat} {l : List Pl} {v : Value} {n : Pl} {k : Nat} {lk : List Pl} {g c2 : Nat} {wx w3 : World} (h : InAdd w M B l v n k lk (.slice (some ⟨g, 0, none⟩) lk.length c2) wx) (hM : M < w.heap.size) (hk : k < lk.length) (hp : impB n lk[k] = true)
    (ho : w3.ownsRow B 63 3 (.slice (some ⟨g, 0, none⟩) (lk.length - 1) c2) (lk.length - 1) ((lk.take k ++ lk.drop (k + 1)).flatMap enc3)) (hg : wx.grownBy w3 (some g)) :
    InAdd w M B l v n k (lk.take k ++ lk.drop (k + 1)) (.slice (some ⟨g, 0, none⟩) (lk.length - 1) c2) (w3.setCell ⟨M, 0, none⟩ (.slice (some ⟨g, 0, none⟩) (lk.length - 1) c2)) := by
  have hne := h.m.ne
  have hgM : g ≠ M := fun e => hne (by rw [← e]; rfl)
  have hgw : g ≠ w.heap.size := h.far g rfl
  have hlen : (lk.take k ++ lk.drop (k + 1)).length = lk.length - 1 := by rw [List.length_append, List.length_take, List.length_drop]; omega
  have hb3 := h.m.b.grown hg (by intro e; injection e with e; exact hgM e.symm)
  refine { m := MSt.put hb3 (by rw [hlen]; exact ho) (by intro e; injection e with e; exact hgM e) (fun q hq => h.m.ok q ?_), fr := ?_, at_ := h.at_, flt := ?_, box := ?_, far := h.far }
  · rcases List.mem_append.1 hq with h1 | h1
    · exact List.mem_of_mem_take h1
    · exact List.mem_of_mem_drop h1
  · refine h.fr.trans (v' := .slice (some ⟨g, 0, none⟩) lk.length c2) (w' := wx) ⟨hg.os, hg.tape, hg.output, by simpa [World.setCell] using hg.size, fun j hj h1 h2 => ?_⟩ h.at_
    exact (Below.heap_setCell w3 ⟨M, 0, none⟩ _ j h1).trans (hg.block j hj (fun e => h2 (by injection e with e; rw [e]; rfl)))
  · rw [← h.flt, List.take_append_of_le_length (by rw [List.length_take]; omega), List.take_of_length_le (by rw [List.length_take]; omega), List.drop_append_of_le_length (by rw [List.length_take]; omega), List.drop_of_length_le (by rw [List.length_take]; omega), List.nil_append]
    conv => rhs; rw [List.drop_eq_getElem_cons hk, List.filter_cons, hp]
    simp
  · exact (h.box.grown hg (by intro e; injection e with e; exact hgw e.symm)).far (by show w.heap.size ≠ M; omega) _

set_option maxRecDepth 100000 in
set_option maxHeartbeats 3200000 in
theorem add_any (M B : Nat) (v : Value) (l : List Pl) (n : Pl) (w : World) (h : MSt w M B v l) (hl : l.length ≤ 2000) (hn : okP n) (hB : B ≤ w.heap.size) :
    Calls Try.prog 31 #[.pointer (some ⟨M, 0, none⟩), agg3 n] w (Added w M B v l n) := by
  obtain ⟨i0, hi0, hz0, hi1, hi2⟩ := info_parts infoN
  have hm := h.b.cell 0
  simp only [List.getElem?_cons_zero] at hm
  have hMl := h.b.lt
  obtain ⟨av, capv, hv⟩ := h.form
  subst hv
  have HN0 := Lib.hid (Blk.new w 63 (enc3 n))
  have H0 := Lib.hid h
  have HB0 := Lib.hid ((Below.refl w.heap.size w).alloc (Nat.le_refl _) (.cells #[.int .u32 n.1, .int .u8 n.2.1, .bool n.2.2] 63))
  have HM1 := Lib.hid (h.below HB0.out)
  obtain ⟨w1, hw1⟩ : ∃ w1, w1 = w.alloc (.cells #[.int .u32 n.1, .int .u8 n.2.1, .bool n.2.2] 63) := ⟨_, rfl⟩
  have HW1 := Lib.hid hw1
  have HN := Lib.hid (show Blk w1 w.heap.size 63 (enc3 n) by rw [hw1]; exact HN0.out)
  rw [← hw1] at HB0 HM1
  have hz1 : w.heap.size + 1 ≤ w1.heap.size := by rw [hw1]; simp
  clear h HN0 hw1
  unfold agg3
  go_enter Try.func31, Try.ntmps31
  go_wp2_with fail
  rw [← HW1.out]
  go_loopw [12] (fun vi wr => ∃ i : Nat, i ≤ l.length ∧ vi = .int .i64 i ∧ Hid (∀ j (hj : j < l.length), j < i → impB l[j] n = false) ∧ Hid (Below w1.heap.size w1 wr)) (fun vi _ => l.length - (intOf vi).toNat)
  case atStart => exact ⟨0, by omega, rfl, Lib.hid (fun j _ h => by omega), Lib.hid (Below.refl _ _)⟩
  case round =>
    obtain ⟨i, hil, rfl, HNO, HBW⟩ := hrel
    have HMR := Lib.hid (HM1.out.below HBW.out)
    have hzr : w.heap.size < wr.heap.size := by have := HBW.out.size; omega
    by_cases hlt : i < l.length
    · obtain ⟨g, cap, hv, hcap, c0, c1, c2⟩ := HMR.out.at_ i hlt
      injection hv with hv1 hv2 hv3
      subst hv1 hv3
      have hpok := HMR.out.ok l[i] (List.getElem_mem hlt)
      have hnb := HN.out.below HBW.out HN.out.lt
      have n0 := hnb.cell 0
      have n1 := hnb.cell 1
      have n2 := hnb.cell 2
      simp only [enc3, List.getElem?_cons_zero, List.getElem?_cons_succ] at n0 n1 n2
      have HP := Lib.hid (show l[i] = l[i] from rfl)
      obtain ⟨p, hp⟩ : ∃ p, p = l[i] := ⟨_, rfl⟩
      rw [← hp] at c0 c1 c2 hpok
      have HPI := Lib.hid hp
      have B5 := Blk.new wr 63 (enc3 p)
      have CI := imply_any wr.heap.size p n (wr.alloc (.cells #[.int .u32 p.1, .int .u8 p.2.1, .bool p.2.2] 63)) hpok hn (B5.cell 0) (B5.cell 1) (B5.cell 2)
      unfold agg3 at CI
      have HCI := Lib.hid CI
      clear hp HP hnb B5 CI
      cases him : impB p n with
      | true =>
        have HIM := Lib.hid him
        clear him
        go_wp2_with fail
        refine HCI.out.mono ?_
        rw [HIM.out]
        rintro e w2 ⟨rfl, hb2⟩
        have HB2 := Lib.hid ((((Below.refl wr.heap.size wr).alloc (Nat.le_refl _) _).trans (hb2.mono (by simp))))
        clear hb2 HCI
        go_wp2
        go_returns
        have hb := HB0.out.trans ((HBW.out.trans (HB2.out.mono HBW.out.size)).mono (by omega))
        refine ⟨rfl, _, by rw [addS_yes i hlt (by rw [← HPI.out]; exact HIM.out)]; exact H0.out.below hb, Fr.of_below hb, fun k hk => .inl hk⟩
      | false =>
        have HIM := Lib.hid him
        clear him
        go_wp2_with fail
        refine HCI.out.mono ?_
        rw [HIM.out]
        rintro e w2 ⟨rfl, hb2⟩
        have HB2 := Lib.hid (HBW.out.trans ((((Below.refl wr.heap.size wr).alloc (Nat.le_refl _) _).trans (hb2.mono (by simp))).mono HBW.out.size))
        clear hb2 HCI
        go_wp2
        go_roundw
        case rel => exact ⟨i + 1, by omega, by go_num, Lib.hid (fun j hj h => by
          by_cases e : j = i
          · subst e
            rw [← HPI.out]
            exact HIM.out
          · exact HNO.out j hj (by omega)), HB2⟩
        case measure => simp [intOf]; omega
    · have HE := Lib.hid (addS_no (fun j hj => HNO.out j hj (by omega)))
      have hsz := HBW.out.size
      go_wp2
      go_loopg [6] l.length (fun gm vi wx => ∃ (i : Nat) (lk : List Pl) (a2 : Option Addr) (c2 : Nat), i ≤ lk.length ∧ lk.length ≤ 2000 ∧ lk.length ≤ gm + i ∧ vi = .int .i64 i ∧ Hid (InAdd w M B l (.slice av l.length capv) n i lk (.slice a2 lk.length c2) wx))
      case atStart =>
        have hb := HB0.out.trans (HBW.out.mono (by omega))
        exact ⟨0, l, av, capv, by omega, hl, by omega, rfl, Lib.hid { m := H0.out.below hb, fr := Fr.of_below hb, at_ := fun k hk => .inl hk, flt := by simp, box := HN.out.below HBW.out HN.out.lt, far := fun k hk => (by have := own_block_lt H0.out.o k hk; omega) }⟩
      case round =>
        obtain ⟨k, lk, a2, c2, hk, hk2, hgm, rfl, HI⟩ := hrel
        have hm := HI.out.m.b.cell 0
        simp only [List.getElem?_cons_zero] at hm
        by_cases hlk : k < lk.length
        · obtain ⟨g, cap, hv, hcap, c0, c1, c2'⟩ := HI.out.m.at_ k hlk
          injection hv with hv1 hv2 hv3
          subst hv1 hv3
          have hpok := HI.out.m.ok lk[k] (List.getElem_mem hlk)
          have n0 := HI.out.box.cell 0
          have n1 := HI.out.box.cell 1
          have n2 := HI.out.box.cell 2
          simp only [enc3, List.getElem?_cons_zero, List.getElem?_cons_succ] at n0 n1 n2
          obtain ⟨p, hp⟩ : ∃ p, p = lk[k] := ⟨_, rfl⟩
          rw [← hp] at c0 c1 c2' hpok
          have HPI := Lib.hid hp
          have CI := imply_any w.heap.size n p wr hn hpok n0 n1 n2
          unfold agg3 at CI
          have HCI := Lib.hid CI
          clear hp CI
          cases him : impB n p with
          | true =>
            have HIM := Lib.hid him
            clear him
            go_wp2_with fail
            refine HCI.out.mono ?_
            rw [HIM.out]
            rintro e w2 ⟨rfl, hb2⟩
            have HI2 := Lib.hid (HI.out.below hb2)
            clear hb2 HCI
            have hmS : w2.drew.cell? ⟨M, 0, none⟩ = some (.slice (some ⟨g, 0, none⟩) lk.length c2) := by
              have := HI2.out.m.b.cell 0
              simpa using this
            have hlen : (lk.take k ++ lk.drop (k + 1)).length = lk.length - 1 := by rw [List.length_append, List.length_take, List.length_drop]; omega
            obtain ⟨A, hA, hAA⟩ : ∃ A, (if c2 = k + 1 then some (⟨g, 0, none⟩ : Addr) else some ⟨g, (k + 1) * 3, none⟩) = some A ∧ (lk.length = k + 1 ∨ A = ⟨g, (k + 1) * 3, none⟩) := by
              by_cases h : c2 = k + 1
              · exact ⟨_, if_pos h, .inl (by omega)⟩
              · exact ⟨_, if_neg h, .inr rfl⟩
            obtain ⟨w3, hrun, ho3, hg3⟩ := run_out (P := Try.prog) (w := w2.drew) (ty := 44) Try.underlying44 hi0 hi1 rfl (own_below HI2.out.m.o (below_drewN (Below.refl _ _) 1)) k hlk A hAA (c2 - (k + 1))
            have hne := HI2.out.m.ne
            have hgM : g ≠ M := fun e => hne (by rw [← e]; rfl)
            have hb3 := Lib.hid ((show Blk w2.drew M 67 _ from HI2.out.m.b).grown hg3 (by intro e; injection e with e; exact hgM e.symm))
            have hm3 : w3.cell? ⟨M, 0, none⟩ = some (.slice (some ⟨g, 0, none⟩) lk.length c2) := by
              have := hb3.out.cell 0
              simpa using this
            have hf3 : w3.frozen? ⟨M, 0, none⟩ = false := hb3.out.frozen 0
            have HI4 := Lib.hid (HI2.out.cut hMl hlk (by rw [← HPI.out]; exact HIM.out) ho3 ⟨hg3.os, hg3.tape, hg3.output, hg3.size, hg3.block⟩)
            have HLEN := Lib.hid hlen
            clear hne hgM hAA ho3 hg3 hlen
            have hkc : k ≤ c2 := by omega
            have hk1 : k + 1 ≤ lk.length := by omega
            have hk0 : (0 : Int) ≤ (k : Int) := by omega
            have hk3 : (k : Int) < (lk.length : Int) := by omega
            have hwk : IntKind.i64.wrap ((k : Int) + 1) = (k : Int) + 1 := by rw [IntKind.wrap_i64]; omega
            have hwp : (0 : Int) ≤ (k : Int) + 1 := by omega
            have hwl : (k : Int) + 1 ≤ (lk.length : Int) := by omega
            have hwt : ((k : Int) + 1).toNat = k + 1 := by omega
            go_upto_region 9 with (fail)
            refine wp_region_upto (fun W => W.cell? ⟨M, 0, none⟩ = some (.slice (some ⟨g, 0, none⟩) lk.length c2)) 17 (by kernel_rfl) ?_
            simp only [List.size_toArray, List.length_cons, List.length_nil, Nat.reduceAdd]
            refine upto_take (i := 0) (oi := ?oi0) (v := ?v0) ?hi0 (by kernel_rfl) (by kernel_rfl) (by kernel_rfl) (by kernel_rfl) ?hQ0 ?hS0 ?hy0 ?rest0
            case hi0 =>
              simp only [List.getElem?_toArray, List.getElem?_cons_zero]
              rfl
            case hQ0 => exact fun _ _ _ h => h
            case hS0 => exact hmS
            case hy0 =>
              refine yields_if (by rfl) (fun W hW => ?_)
              try dsimp only at hW
              go_simp
              first | done | with_reducible rfl
            simp only [Act.put, List.setIfInBounds_toArray, List.set_cons_zero, List.set_cons_succ]
            refine upto_take (i := 1) (oi := ?oi1) (v := ?v1) ?hi1 (by kernel_rfl) (by kernel_rfl) (by kernel_rfl) (by kernel_rfl) ?hQ1 ?hS1 ?hy1 ?rest1
            case hi1 =>
              simp only [List.getElem?_toArray, List.getElem?_cons_succ, List.getElem?_cons_zero]
              rfl
            case hQ1 => exact fun _ _ _ h => h
            case hS1 => exact hmS
            case hy1 =>
              refine yields_if (by rfl) (fun W hW => ?_)
              try dsimp only at hW
              go_simp
              first | done | with_reducible rfl
            simp only [Act.put, List.setIfInBounds_toArray, List.set_cons_zero, List.set_cons_succ]
            refine upto_take (i := 2) (oi := ?oi2) (v := ?v2) ?hi2 (by kernel_rfl) (by kernel_rfl) (by kernel_rfl) (by kernel_rfl) ?hQ2 ?hS2 ?hy2 ?rest2
            case hi2 =>
              simp only [List.getElem?_toArray, List.getElem?_cons_succ, List.getElem?_cons_zero]
              rfl
            case hQ2 => exact fun _ _ _ h => h
            case hS2 => exact hmS
            case hy2 =>
              refine yields_if (by rfl) (fun W hW => ?_)
              try dsimp only at hW
              go_simp
              first | done | with_reducible rfl
            simp only [Act.put, List.setIfInBounds_toArray, List.set_cons_zero, List.set_cons_succ]
            refine upto_take (i := 3) (oi := ?oi3) (v := ?v3) ?hi3 (by kernel_rfl) (by kernel_rfl) (by kernel_rfl) (by kernel_rfl) ?hQ3 ?hS3 ?hy3 ?rest3
            case hi3 =>
              simp only [List.getElem?_toArray, List.getElem?_cons_succ, List.getElem?_cons_zero]
              rfl
            case hQ3 => exact fun _ _ _ h => h
            case hS3 => exact hmS
            case hy3 =>
              refine yields_if (by rfl) (fun W hW => ?_)
              try dsimp only at hW
              go_simp
              first | done | with_reducible rfl
            simp only [Act.put, List.setIfInBounds_toArray, List.set_cons_zero, List.set_cons_succ]
            refine upto_take (i := 4) (oi := ?oi4) (v := ?v4) ?hi4 (by kernel_rfl) (by kernel_rfl) (by kernel_rfl) (by kernel_rfl) ?hQ4 ?hS4 ?hy4 ?rest4
            case hi4 =>
              simp only [List.getElem?_toArray, List.getElem?_cons_succ, List.getElem?_cons_zero]
              rfl
            case hQ4 => exact fun _ _ _ h => h
            case hS4 => exact hmS
            case hy4 =>
              refine yields_if (by rfl) (fun W hW => ?_)
              try dsimp only at hW
              go_simp
              first | done | with_reducible rfl
            simp only [Act.put, List.setIfInBounds_toArray, List.set_cons_zero, List.set_cons_succ]
            refine upto_take (i := 5) (oi := ?oi5) (v := ?v5) ?hi5 (by kernel_rfl) (by kernel_rfl) (by kernel_rfl) (by kernel_rfl) ?hQ5 ?hS5 ?hy5 ?rest5
            case hi5 =>
              simp only [List.getElem?_toArray, List.getElem?_cons_succ, List.getElem?_cons_zero]
              rfl
            case hQ5 => exact fun _ _ _ h => h
            case hS5 => exact hmS
            case hy5 =>
              refine yields_if (by rfl) (fun W hW => ?_)
              try dsimp only at hW
              go_simp
              first | done | with_reducible rfl
            simp only [Act.put, List.setIfInBounds_toArray, List.set_cons_zero, List.set_cons_succ]
            refine upto_take (i := 6) (oi := ?oi6) (v := ?v6) ?hi6 (by kernel_rfl) (by kernel_rfl) (by kernel_rfl) (by kernel_rfl) ?hQ6 ?hS6 ?hy6 ?rest6
            case hi6 =>
              simp only [List.getElem?_toArray, List.getElem?_cons_succ, List.getElem?_cons_zero]
              rfl
            case hQ6 => exact fun _ _ _ h => h
            case hS6 => exact hmS
            case hy6 =>
              refine yields_if (by rfl) (fun W hW => ?_)
              try dsimp only at hW
              go_simp
              first | done | with_reducible rfl
            simp only [Act.put, List.setIfInBounds_toArray, List.set_cons_zero, List.set_cons_succ]
            refine upto_take (i := 7) (oi := ?oi7) (v := ?v7) ?hi7 (by kernel_rfl) (by kernel_rfl) (by kernel_rfl) (by kernel_rfl) ?hQ7 ?hS7 ?hy7 ?rest7
            case hi7 =>
              simp only [List.getElem?_toArray, List.getElem?_cons_succ, List.getElem?_cons_zero]
              rfl
            case hQ7 => exact fun _ _ _ h => h
            case hS7 => exact hmS
            case hy7 =>
              refine yields_if (by rfl) (fun W hW => ?_)
              try dsimp only at hW
              go_simp
              first | done | with_reducible rfl
            simp only [Act.put, List.setIfInBounds_toArray, List.set_cons_zero, List.set_cons_succ]
            refine upto_take (i := 8) (oi := ?oi8) (v := ?v8) ?hi8 (by kernel_rfl) (by kernel_rfl) (by kernel_rfl) (by kernel_rfl) ?hQ8 ?hS8 ?hy8 ?rest8
            case hi8 =>
              simp only [List.getElem?_toArray, List.getElem?_cons_succ, List.getElem?_cons_zero]
              rfl
            case hQ8 => exact fun _ _ _ h => h
            case hS8 => exact hmS
            case hy8 =>
              refine yields_if (by rfl) (fun W hW => ?_)
              try dsimp only at hW
              go_simp
              first | done | with_reducible rfl
            simp only [Act.put, List.setIfInBounds_toArray, List.set_cons_zero, List.set_cons_succ]
            refine upto_take (i := 9) (oi := ?oi9) (v := ?v9) ?hi9 (by kernel_rfl) (by kernel_rfl) (by kernel_rfl) (by kernel_rfl) ?hQ9 ?hS9 ?hy9 ?rest9
            case hi9 =>
              simp only [List.getElem?_toArray, List.getElem?_cons_succ, List.getElem?_cons_zero]
              rfl
            case hQ9 => exact fun _ _ _ h => h
            case hS9 => exact hmS
            case hy9 =>
              refine yields_if (by rfl) (fun W hW => ?_)
              try dsimp only at hW
              go_simp
              first | done | with_reducible rfl
            simp only [Act.put, List.setIfInBounds_toArray, List.set_cons_zero, List.set_cons_succ]
            refine upto_take (i := 10) (oi := ?oi10) (v := ?v10) ?hi10 (by kernel_rfl) (by kernel_rfl) (by kernel_rfl) (by kernel_rfl) ?hQ10 ?hS10 ?hy10 ?rest10
            case hi10 =>
              simp only [List.getElem?_toArray, List.getElem?_cons_succ, List.getElem?_cons_zero]
              rfl
            case hQ10 => exact fun _ _ _ h => h
            case hS10 => exact hmS
            case hy10 =>
              refine yields_if (by rfl) (fun W hW => ?_)
              try dsimp only at hW
              go_simp
              first | done | with_reducible rfl
            simp only [Act.put, List.setIfInBounds_toArray, List.set_cons_zero, List.set_cons_succ]
            refine upto_take (i := 11) (oi := ?oi11) (v := ?v11) ?hi11 (by kernel_rfl) (by kernel_rfl) (by kernel_rfl) (by kernel_rfl) ?hQ11 ?hS11 ?hy11 ?rest11
            case hi11 =>
              simp only [List.getElem?_toArray, List.getElem?_cons_succ, List.getElem?_cons_zero]
              rfl
            case hQ11 => exact fun _ _ _ h => h
            case hS11 => exact hmS
            case hy11 =>
              refine yields_if (by rfl) (fun W hW => ?_)
              try dsimp only at hW
              go_simp
              first | done | with_reducible rfl
            simp only [Act.put, List.setIfInBounds_toArray, List.set_cons_zero, List.set_cons_succ]
            refine upto_take (i := 12) (oi := ?oi12) (v := ?v12) ?hi12 (by kernel_rfl) (by kernel_rfl) (by kernel_rfl) (by kernel_rfl) ?hQ12 ?hS12 ?hy12 ?rest12
            case hi12 =>
              simp only [List.getElem?_toArray, List.getElem?_cons_succ, List.getElem?_cons_zero]
              rfl
            case hQ12 => exact fun _ _ _ h => h
            case hS12 => exact hmS
            case hy12 =>
              refine yields_if (by rfl) (fun W hW => ?_)
              try dsimp only at hW
              go_simp
              first | done | with_reducible rfl
            simp only [Act.put, List.setIfInBounds_toArray, List.set_cons_zero, List.set_cons_succ]
            refine upto_take (i := 13) (oi := ?oi13) (v := ?v13) ?hi13 (by kernel_rfl) (by kernel_rfl) (by kernel_rfl) (by kernel_rfl) ?hQ13 ?hS13 ?hy13 ?rest13
            case hi13 =>
              simp only [List.getElem?_toArray, List.getElem?_cons_succ, List.getElem?_cons_zero]
              rfl
            case hQ13 => exact fun _ _ _ h => h
            case hS13 => exact hmS
            case hy13 =>
              refine yields_if (by rfl) (fun W hW => ?_)
              try dsimp only at hW
              go_simp
              first | done | with_reducible rfl
            simp only [Act.put, List.setIfInBounds_toArray, List.set_cons_zero, List.set_cons_succ]
            refine upto_one (i := 14) (o := ?o14) ?ho14 (by kernel_rfl) (fun K hK => ?_)
            case ho14 =>
              simp only [List.getElem?_toArray, List.getElem?_cons_succ, List.getElem?_cons_zero]
              rfl
            refine step_run (u := .slice (some ⟨g, 0, none⟩) k c2) (v := .slice (some A) (lk.length - (k + 1)) (c2 - (k + 1))) rfl (.tmp 40) (.tmp 47) 44 rfl rfl rfl hrun ?_
            refine hK _ _ (.inr hm3) ?_
            clear hK K
            try simp only [Act.put, List.setIfInBounds_toArray, List.set_cons_zero, List.set_cons_succ]
            refine upto_one (i := 15) (o := ?o15) ?ho15 (by kernel_rfl) (fun K hK => ?_)
            case ho15 =>
              simp only [List.getElem?_toArray, List.getElem?_cons_succ, List.getElem?_cons_zero]
              rfl
            go_simp
            refine hK _ _ (.inr hm3) ?_
            clear hK K
            try simp only [Act.put, List.setIfInBounds_toArray, List.set_cons_zero, List.set_cons_succ]
            refine upto_one (i := 16) (o := ?o16) ?ho16 (by kernel_rfl) (fun K hK => ?_)
            case ho16 =>
              simp only [List.getElem?_toArray, List.getElem?_cons_succ, List.getElem?_cons_zero]
              rfl
            go_simp
            refine hK _ _ (.inr hm3) ?_
            clear hK K
            try simp only [Act.put, List.setIfInBounds_toArray, List.set_cons_zero, List.set_cons_succ]
            refine upto_one (i := 17) (o := ?o17) ?ho17 (by kernel_rfl) (fun K hK => ?_)
            case ho17 =>
              simp only [List.getElem?_toArray, List.getElem?_cons_succ, List.getElem?_cons_zero]
              rfl
            go_simp
            refine hK _ _ (.inl rfl) ?_
            clear hK K
            try simp only [Act.put, List.setIfInBounds_toArray, List.set_cons_zero, List.set_cons_succ]
            refine upto_done (by kernel_rfl) ?_ _
            clear hwk hwt hrun hA hmS
            have hlen := HLEN.out
            go_wp2_with fail
            go_roundg (gk - 1)
            case measure => omega
            case rel => exact ⟨k, lk.take k ++ lk.drop (k + 1), _, _, by rw [hlen]; omega, by rw [hlen]; omega, by rw [hlen]; omega, rfl, by rw [hlen]; exact HI4⟩
          | false =>
            have HIM := Lib.hid him
            clear him
            go_wp2_with fail
            refine HCI.out.mono ?_
            rw [HIM.out]
            rintro e w2 ⟨rfl, hb2⟩
            have HI2 := Lib.hid (HI.out.below hb2)
            clear hb2 HCI
            go_wp2
            go_roundg (gk - 1)
            case measure => omega
            case rel => exact ⟨k + 1, lk, _, _, by omega, hk2, by omega, by go_num, Lib.hid { HI2.out with flt := (by rw [← HI2.out.flt, List.take_succ_eq_append_getElem hlk, List.drop_eq_getElem_cons hlk, List.filter_cons, ← HPI.out, HIM.out]; simp) }⟩
        · obtain rfl : k = lk.length := by omega
          have hmS : wr.drew.cell? ⟨M, 0, none⟩ = some (.slice a2 lk.length c2) ∧ wr.drew.cell? ⟨w.heap.size, 0, none⟩ = some (.int .u32 n.1) ∧ wr.drew.cell? ⟨w.heap.size, 1, none⟩ = some (.int .u8 n.2.1) ∧ wr.drew.cell? ⟨w.heap.size, 2, none⟩ = some (.bool n.2.2) := by
            have h0 := HI.out.m.b.cell 0
            have h1 := HI.out.box.cell 0
            have h2 := HI.out.box.cell 1
            have h3 := HI.out.box.cell 2
            exact ⟨h0, h1, h2, h3⟩
          have HWD : Below wr.heap.size wr (wr.drew.alloc (.cells #[.int .u32 n.1, .int .u8 n.2.1, .bool n.2.2] 63)) := (below_drewN (Below.refl _ _) 1).alloc (by simp) _
          have HIW := HI.out.below HWD
          have hNB := Blk.new wr.drew 63 (enc3 n)
          obtain ⟨v3, w3, hrun, ho3, hg3, _, hat3⟩ := run_append_own_at (P := Try.prog) (wr.drew.alloc (.cells #[.int .u32 n.1, .int .u8 n.2.1, .bool n.2.2] 63)) B 44 44 63 i0 _ 3 8 Try.underlying44 hi0 hz0 hi1 hi2 rfl (by omega)
            _ lk.length _ HIW.m.o ⟨wr.heap.size, 0, none⟩ 1 1 (enc3 n) rfl (fun j u hu => by
              have e1 : ((⟨wr.heap.size, 0, none⟩ : Addr).add j) = ⟨wr.heap.size, j, none⟩ := by
                unfold Addr.add
                by_cases h0 : j = 0 <;> simp [h0]
              rw [e1]
              exact (hNB.cell j).trans hu) (fun u hu => by
              simp [enc3] at hu
              rcases hu with rfl | rfl | rfl <;> rfl) (by unfold maxLen; omega) (by omega) (by have := HI.out.fr.size; simp; omega)
          obtain ⟨a3, c3, hv3⟩ := own_value ho3
          subst hv3
          have hgM : (Value.slice a2 lk.length c2).ownBlock ≠ some M := HI.out.m.ne
          have hMr : M < wr.heap.size := HI.out.m.b.lt
          have hb3 := Lib.hid (HIW.m.b.grown hg3 (fun e => hgM e.symm))
          have hm3 : w3.cell? ⟨M, 0, none⟩ = some (.slice a2 lk.length c2) := by
            have := hb3.out.cell 0
            simpa using this
          have hf3 : w3.frozen? ⟨M, 0, none⟩ = false := hb3.out.frozen 0
          have hx3 := HIW.box.grown hg3 (fun e => HI.out.far _ e.symm rfl)
          have x0 := hx3.cell 0
          have x1 := hx3.cell 1
          have x2 := hx3.cell 2
          have b0 := HIW.m.b.cell 0
          have y0 := HIW.box.cell 0
          have y1 := HIW.box.cell 1
          have y2 := HIW.box.cell 2
          simp only [enc3, List.getElem?_cons_zero, List.getElem?_cons_succ] at x0 x1 x2 b0 y0 y1 y2
          have hm3 : w3.cell? ⟨M, 0, none⟩ = some (.slice a2 lk.length c2) ∧ w3.cell? ⟨w.heap.size, 0, none⟩ = some (.int .u32 n.1) ∧ w3.cell? ⟨w.heap.size, 1, none⟩ = some (.int .u8 n.2.1) ∧ w3.cell? ⟨w.heap.size, 2, none⟩ = some (.bool n.2.2) := ⟨hm3, x0, x1, x2⟩
          have hmA := And.intro b0 (And.intro y0 (And.intro y1 y2))
          have hne3 : (Value.slice a3 (lk.length + 1) c3).ownBlock ≠ some M := by
            rcases hat3 with h | h
            · rw [h]; exact hgM
            · rw [h]
              intro e
              injection e with e
              simp at e
              omega
          have hl4 : addS l n = lk ++ [n] := by
            rw [HE.out, ← HI.out.flt, List.take_length, List.drop_length]
            simp
          have HF := Lib.hid (show Added w M B (.slice av l.length capv) l n (.returned (.tuple #[])) (w3.setCell ⟨M, 0, none⟩ (.slice a3 (lk.length + 1) c3)) from ⟨rfl, .slice a3 (lk.length + 1) c3, by
            rw [hl4]
            refine MSt.put hb3.out (by rw [List.length_append, List.flatMap_append]; simpa using ho3) hne3 (fun q hq => ?_)
            rcases List.mem_append.1 hq with h1 | h1
            · exact HI.out.m.ok q h1
            · simp at h1
              subst h1
              exact hn, by
            refine HIW.fr.trans (v' := .slice a2 lk.length c2) ⟨hg3.os, hg3.tape, hg3.output, by simpa [World.setCell] using hg3.size, fun j hj h1 h2 => ?_⟩ HI.out.at_
            exact (Below.heap_setCell w3 ⟨M, 0, none⟩ _ j h1).trans (hg3.block j hj (fun e => h2 e.symm)), fun j hj => by
            rcases hat3 with h | h
            · exact HI.out.at_ j (by rw [← h]; exact hj)
            · right
              rw [h] at hj
              injection hj with hj
              have := HI.out.fr.size
              simp at hj
              omega⟩)
          clear HIW hNB ho3 hg3 hat3 hgM hb3 hx3 x0 x1 x2 b0 y0 y1 y2 hne3 hl4 HWD
          go_upto_region 11 with (fail)
          refine wp_region_upto (fun W => W.cell? ⟨M, 0, none⟩ = some (.slice a2 lk.length c2) ∧ W.cell? ⟨w.heap.size, 0, none⟩ = some (.int .u32 n.1) ∧ W.cell? ⟨w.heap.size, 1, none⟩ = some (.int .u8 n.2.1) ∧ W.cell? ⟨w.heap.size, 2, none⟩ = some (.bool n.2.2)) 10 (by kernel_rfl) ?_
          simp only [List.size_toArray, List.length_cons, List.length_nil, Nat.reduceAdd]
          refine upto_take (i := 0) (oi := ?oi0b) (v := ?v0b) ?hi0b (by kernel_rfl) (by kernel_rfl) (by kernel_rfl) (by kernel_rfl) ?hQ0b ?hS0b ?hy0b ?rest0b
          case hi0b =>
            simp only [List.getElem?_toArray, List.getElem?_cons_zero]
            rfl
          case hQ0b => exact fun _ _ _ h => h
          case hS0b => exact hmS
          case hy0b =>
            refine yields_if (by rfl) (fun W hW => ?_)
            try dsimp only at hW
            go_simp
            first | done | with_reducible rfl
          simp only [Act.put, List.setIfInBounds_toArray, List.set_cons_zero, List.set_cons_succ]
          refine upto_take (i := 1) (oi := ?oi1b) (v := ?v1b) ?hi1b (by kernel_rfl) (by kernel_rfl) (by kernel_rfl) (by kernel_rfl) ?hQ1b ?hS1b ?hy1b ?rest1b
          case hi1b =>
            simp only [List.getElem?_toArray, List.getElem?_cons_succ, List.getElem?_cons_zero]
            rfl
          case hQ1b => exact fun _ _ _ h => h
          case hS1b => exact hmS
          case hy1b =>
            refine yields_if (by rfl) (fun W hW => ?_)
            try dsimp only at hW
            go_simp
            first | done | with_reducible rfl
          simp only [Act.put, List.setIfInBounds_toArray, List.set_cons_zero, List.set_cons_succ]
          refine upto_take (i := 2) (oi := ?oi2b) (v := ?v2b) ?hi2b (by kernel_rfl) (by kernel_rfl) (by kernel_rfl) (by kernel_rfl) ?hQ2b ?hS2b ?hy2b ?rest2b
          case hi2b =>
            simp only [List.getElem?_toArray, List.getElem?_cons_succ, List.getElem?_cons_zero]
            rfl
          case hQ2b => exact fun _ _ _ h => h
          case hS2b => exact hmS
          case hy2b =>
            refine yields_if (by rfl) (fun W hW => ?_)
            try dsimp only at hW
            go_simp
            first | done | with_reducible rfl
          simp only [Act.put, List.setIfInBounds_toArray, List.set_cons_zero, List.set_cons_succ]
          refine upto_take (i := 3) (oi := ?oi3b) (v := ?v3b) ?hi3b (by kernel_rfl) (by kernel_rfl) (by kernel_rfl) (by kernel_rfl) ?hQ3b ?hS3b ?hy3b ?rest3b
          case hi3b =>
            simp only [List.getElem?_toArray, List.getElem?_cons_succ, List.getElem?_cons_zero]
            rfl
          case hQ3b => exact fun _ _ _ h => h
          case hS3b => exact hmS
          case hy3b =>
            refine yields_if (by rfl) (fun W hW => ?_)
            try dsimp only at hW
            go_simp
            first | done | with_reducible rfl
          simp only [Act.put, List.setIfInBounds_toArray, List.set_cons_zero, List.set_cons_succ]
          refine upto_take (i := 4) (oi := ?oi4b) (v := ?v4b) ?hi4b (by kernel_rfl) (by kernel_rfl) (by kernel_rfl) (by kernel_rfl) ?hQ4b ?hS4b ?hy4b ?rest4b
          case hi4b =>
            simp only [List.getElem?_toArray, List.getElem?_cons_succ, List.getElem?_cons_zero]
            rfl
          case hQ4b => exact fun _ _ _ h => h
          case hS4b => exact hmS
          case hy4b =>
            refine yields_if (by rfl) (fun W hW => ?_)
            try dsimp only at hW
            go_simp
            first | done | with_reducible rfl
          simp only [Act.put, List.setIfInBounds_toArray, List.set_cons_zero, List.set_cons_succ]
          refine upto_take (i := 5) (oi := ?oi5b) (v := ?v5b) ?hi5b (by kernel_rfl) (by kernel_rfl) (by kernel_rfl) (by kernel_rfl) ?hQ5b ?hS5b ?hy5b ?rest5b
          case hi5b =>
            simp only [List.getElem?_toArray, List.getElem?_cons_succ, List.getElem?_cons_zero]
            rfl
          case hQ5b => exact fun _ _ _ h => h
          case hS5b => exact hmS
          case hy5b =>
            refine yields_if (by rfl) (fun W hW => ?_)
            try dsimp only at hW
            go_simp
            first | done | with_reducible rfl
          simp only [Act.put, List.setIfInBounds_toArray, List.set_cons_zero, List.set_cons_succ]
          refine upto_one (i := 6) (o := ?o6b) ?ho6b (by kernel_rfl) (fun K hK => ?_)
          case ho6b =>
            simp only [List.getElem?_toArray, List.getElem?_cons_succ, List.getElem?_cons_zero]
            rfl
          go_simp
          refine hK _ _ (.inr hmA) ?_
          clear hK K
          try simp only [Act.put, List.setIfInBounds_toArray, List.set_cons_zero, List.set_cons_succ]
          refine upto_one (i := 7) (o := ?o7b) ?ho7b (by kernel_rfl) (fun K hK => ?_)
          case ho7b =>
            simp only [List.getElem?_toArray, List.getElem?_cons_succ, List.getElem?_cons_zero]
            rfl
          refine step_run (u := .slice a2 lk.length c2) (v := .slice (some ⟨wr.heap.size, 0, none⟩) 1 1) rfl (.tmp 57) (.tmp 59) 44 rfl rfl rfl hrun ?_
          refine hK _ _ (.inr hm3) ?_
          clear hK K
          try simp only [Act.put, List.setIfInBounds_toArray, List.set_cons_zero, List.set_cons_succ]
          refine upto_one (i := 8) (o := ?o8b) ?ho8b (by kernel_rfl) (fun K hK => ?_)
          case ho8b =>
            simp only [List.getElem?_toArray, List.getElem?_cons_succ, List.getElem?_cons_zero]
            rfl
          go_simp
          refine hK _ _ (.inr hm3) ?_
          clear hK K
          try simp only [Act.put, List.setIfInBounds_toArray, List.set_cons_zero, List.set_cons_succ]
          refine upto_one (i := 9) (o := ?o9b) ?ho9b (by kernel_rfl) (fun K hK => ?_)
          case ho9b =>
            simp only [List.getElem?_toArray, List.getElem?_cons_succ, List.getElem?_cons_zero]
            rfl
          go_simp
          refine hK _ _ (.inr hm3) ?_
          clear hK K
          try simp only [Act.put, List.setIfInBounds_toArray, List.set_cons_zero, List.set_cons_succ]
          refine upto_one (i := 10) (o := ?o10b) ?ho10b (by kernel_rfl) (fun K hK => ?_)
          case ho10b =>
            simp only [List.getElem?_toArray, List.getElem?_cons_succ, List.getElem?_cons_zero]
            rfl
          go_simp
          refine hK _ _ (.inl rfl) ?_
          clear hK K
          try simp only [Act.put, List.setIfInBounds_toArray, List.set_cons_zero, List.set_cons_succ]
          refine upto_done (by kernel_rfl) ?_ _
          clear hrun hmS hmA hm3
          go_wp2_with fail
          go_returns
          exact HF.out

end Go.Proofs.Ytgblmafollhojaa
