/-
  The sequences of ranges of bytes: NewSequencesPrealloc. Conditions: as stated.
-/
import Derived.Test.YtobcgeonobgjpaaDoorSeqRC
import Derived.Deep.LoopGhost
import Derived.WalkMore
import Derived.Deep.CutRange
import Derived.Deep.DeepCutAuto
namespace Go.Proofs.YtobcgeonobgjpaaDoor
open Go.ChangeShapes Go.WideShapes Go.ChangeAt Go.RowKit
set_option linter.unusedVariables false

/-- the sequences that are made -/
structure Got (w w' : World) (rv : Value) (L : List Sq) (fr up : Int) : Prop where
  rv : w'.ownsRow w.heap.size 39 1 rv L.length (L.map seqv)
  sq : ∀ x ∈ L, Blk w' x.1 52 (prvs x.2.2)
  len : ∀ x ∈ L, 1 ≤ x.2.2.length ∧ x.2.2.length ≤ 4
  cnt : ∀ b, cntL (L.map (·.2.2)) b = cov fr up b
  n : L.length ≤ 8912895
  bel : Below w.heap.size w w'

theorem st_start {w w1 w2 : World} {v : Value} {fr up : Int} {l1 l2 : List Value} (hN : Nils w) (h1 : l1.length = 4) (h2 : l2.length = 4) (hg : ((w.alloc (.cells l1.toArray 5)).alloc (.cells l2.toArray 5)).grownBy w1 none) (hb : Below w1.heap.size w1 w2)
    (ho : w2.ownsRow w.heap.size 56 2 v 0 []) :
    St w.heap.size w (w2.alloc (.cells #[.int .i32 fr, .int .i32 up] 56)) w2.heap.size w.heap.size (w.heap.size + 1) fr up (.slice none 0 0) [] v [] := by
  have s1 : w.heap.size + 1 + 1 ≤ w1.heap.size := Nat.le_trans (by simp) hg.size
  have s2 := hb.size
  have b0 : Below w.heap.size w ((w.alloc (.cells l1.toArray 5)).alloc (.cells l2.toArray 5)) := ((Below.refl w.heap.size w).alloc (Nat.le_refl _) _).alloc (by simp) _
  have b1 : Below w.heap.size w w1 := b0.trans (below_grown hg (by simp; omega) (fun k e => by cases e))
  have b3 : Below w.heap.size w (w2.alloc (.cells #[.int .i32 fr, .int .i32 up] 56)) := (b1.trans (hb.mono (by omega))).alloc (by omega) _
  have f1 : Blk (w2.alloc (.cells #[.int .i32 fr, .int .i32 up] 56)) w.heap.size 5 l1 := (((((Blk.new w _ l1).alloc _).grown hg (by simp)).below hb (by omega))).alloc _
  have f2' := Blk.new (w.alloc (.cells l1.toArray 5)) 5 l2
  have f2'' : Blk ((w.alloc (.cells l1.toArray 5)).alloc (.cells l2.toArray 5)) (w.heap.size + 1) 5 l2 := by simpa using f2'
  have f2 : Blk (w2.alloc (.cells #[.int .i32 fr, .int .i32 up] 56)) (w.heap.size + 1) 5 l2 := ((f2''.grown hg (by simp)).below hb (by omega)).alloc _
  exact { nils := hN.below b3 hN.lt, hB := hN.lt, r := Blk.new w2 56 [.int .i32 fr, .int .i32 up], fp := Four.of f1 h1, fq := Four.of f2 h2, orv := World.ownsRow_nil _ _ _ _, osk := ho.alloc _,
          sq := fun x hx => by simp at hx
          pq := by omega
          rs := fun e => by have := (World.ownsRow.lt ho _ e).2; omega
          hR := by omega
          hp := Nat.le_refl _
          hq := by omega
          bel := b3
          hw := Nat.le_refl _ }

set_option maxRecDepth 20000 in
set_option maxHeartbeats 6400000 in
theorem pre_any (fr up : Int) (w : World) (h0 : 0 ≤ fr) (h1 : fr ≤ up) (h2 : up ≤ 1114111) (hN : Nils w) :
    Calls Tryd.prog 16 #[.int .i32 fr, .int .i32 up, .slice none 0 0, .slice none 0 0, .slice none 0 0, .slice none 0 0] w fun e w' =>
      ∃ rv sk L, e = .returned (.tuple #[rv, sk, .nilIface]) ∧ Got w w' rv L fr up := by
  have hmk : ∀ w : World, (Instr.makeSlice 22 (.int .i64 4) (.int .i64 4)).run Tryd.prog w = .ok (.slice (some ⟨w.heap.size, 0, none⟩) 4 4) (w.alloc (.cells #[.int .u8 0, .int .u8 0, .int .u8 0, .int .u8 0] 5)) := fun _ => by kernel_rfl
  have CP := Lib.hid (fun (W : World) (hW : w.heap.size ≤ W.heap.size) => push_any (.slice none 0 0) [] fr up w.heap.size W hW (by simp) (World.ownsRow_nil _ _ _ _))
  have HN := Lib.hid hN
  have HI := Lib.hid (inv_start h0 h1 h2)
  clear hN h0 h1 h2
  go_enter Tryd.func16, Tryd.ntmps16
  go_wp2
  go_step3
  go_wp2_with fail
  refine (CP.out _ (by simp; omega)).mono ?_
  rintro e w1 ⟨v1, rfl, ho1, hg1, hat1⟩
  have CQ := Lib.hid (pop_some v1 [] fr up w.heap.size w1 (by simp) ho1)
  have HG := Lib.hid hg1
  clear ho1 hg1 hat1 CP
  go_wp2_with fail
  refine CQ.out.mono ?_
  rintro e w2 ⟨v2, rfl, he2, ho2, hb2⟩
  have HO := Lib.hid (own_below ho2 hb2)
  have HB := Lib.hid hb2
  clear ho2 hb2 he2 CQ
  go_wp2
  go_step3
  go_wp2
  have HS := Lib.hid (st_start (fr := fr) (up := up) (l1 := [.int .u8 0, .int .u8 0, .int .u8 0, .int .u8 0]) (l2 := [.int .u8 0, .int .u8 0, .int .u8 0, .int .u8 0]) HN.out rfl rfl HG.out HB.out HO.out)
  clear HG HB HO HN
  go_loopg [15, 18] (mu (fr, up) []) (fun g s15 s18 wx => ∃ (a z : Int) (L : List Sq) (T : List (Int × Int)), Hid (St w.heap.size w wx w2.heap.size w.heap.size (w.heap.size + 1) a z s15 L s18 T ∧ Inv fr up (L.map (·.2.2)) T (a, z) ∧ mu (a, z) T = g))
  case atStart => exact ⟨fr, up, [], [], Lib.hid ⟨HS.out, HI.out, rfl⟩⟩
  case round =>
    obtain ⟨a, z, L, T, H⟩ := hrel
    by_cases hnil : (a, z) = nilR
    · obtain ⟨rfl, rfl⟩ : a = 65535 ∧ z = 0 := by
        unfold nilR at hnil
        injection hnil with e1 e2
        exact ⟨e1, e2⟩
      have r0 := H.out.1.r.cell 0
      have r1 := H.out.1.r.cell 1
      have n0 := H.out.1.nils.s0
      have n1 := H.out.1.nils.s1
      simp only [List.getElem?_cons_zero, List.getElem?_cons_succ] at r0 r1
      clear hnil HS HI
      go_wp2
      rw [Exit.noGoto_ret]
      go_returns
      have HL := H.out.2.1.cv.len
      exact ⟨_, _, L, rfl, { rv := H.out.1.orv, sq := H.out.1.sq, len := fun x hx => HL _ (List.mem_map_of_mem hx), cnt := inv_end H.out.2.1, n := by have := H.out.2.1.cv.llen; simpa using this, bel := H.out.1.bel }⟩
    · have r0 := H.out.1.r.cell 0
      have r1 := H.out.1.r.cell 1
      have n0 := H.out.1.nils.s0
      have n1 := H.out.1.nils.s1
      simp only [List.getElem?_cons_zero, List.getElem?_cons_succ] at r0 r1
      have HNE := Lib.hid hnil
      clear hnil HS HI
      go_upto_region 13 with fail
      go_cut [61] from 59 to 217 (fun s61 wx => s61 = .bool true ∧ wr = wx)
      case first =>
        go_wp2
        all_goals go_meet
        · exfalso
          exact HNE.out (by rw [show a = 65535 by assumption, show z = 0 by assumption]; rfl)
        · exact ⟨rfl, rfl⟩
        · exact ⟨rfl, rfl⟩
      case rest =>
        obtain ⟨rfl, rfl⟩ := hcut
        obtain ⟨go, hgo⟩ : ∃ n : Nat, n = gk := ⟨_, rfl⟩
        subst hgo
        obtain ⟨wo, hwo⟩ : ∃ wo : World, wo = wr := ⟨_, rfl⟩
        subst hwo
        clear r0 r1 n0 n1
        go_wp2
        go_step3
        go_wp2
        go_step3
        go_wp2
        go_loopg [15, 18] go (fun g s15 s18 wx => ∃ (a z : Int) (L : List Sq) (T : List (Int × Int)), Hid (St w.heap.size w wx w2.heap.size w.heap.size (w.heap.size + 1) a z s15 L s18 T ∧ Inv fr up (L.map (·.2.2)) T (a, z) ∧ mu (a, z) T = g ∧ (a, z) ≠ nilR ∧ g ≤ go))
        case atStart => exact ⟨a, z, L, T, Lib.hid ⟨H.out.1, H.out.2.1, H.out.2.2, HNE.out, Nat.le_refl _⟩⟩
        case round =>
          clear H HNE
          clear a z L T
          obtain ⟨a, z, L, T, H⟩ := hrel
          have HH := Lib.hid (⟨H.out.1, H.out.2.1, H.out.2.2.2.1⟩ : St w.heap.size w wr w2.heap.size w.heap.size (w.heap.size + 1) a z _ L _ T ∧ Inv fr up (L.map (·.2.2)) T (a, z) ∧ (a, z) ≠ nilR)
          have HM1 := H.out.2.2.1
          have HM2 := H.out.2.2.2.2
          refine inner_round _ _ _ _ _ _ _ _ _ _ _ _ _ _ _ _ _ _ _ _ _ _ _ _ _ _ _ _ _ _ _ _ _ _ _ _ _ _ _ _ _ _ _ _ _ _ _ _ _ _ _ _ _ _ _ _ _ _ _ _ _ _ _ _ _ _ _ _ _ _ _ _ _ _ _ _ _ _ _ _ _ _ _ _ _ _ _ _ _ _ _ _ _ _ _ _ _ _ _ _ _ _ _ _ _ _ _ _ _ _ _ _ _ _ _ _ _ _ _ _ _ _ _ _ _ _ _ _ _ _ _ _ _ _ _ _ _ _ _ _ _ _ _ _ _ _ _ _ _ _ _ _ _ _ _ _ _ _ _ _ _ _ _ _ _ _ _ _ _ _ _ _ _ _ _ _ _ _ _ _ _ _ _ _ _ _ _ _ _ _ _ _ _ _ _ _ _ _ _ _ _ _ _ _ _ _ _ _ _ _ _ _ _ _ _ _ _ w wr w2.heap.size w.heap.size (w.heap.size + 1) fr up a z L T _ HH (Lib.hid ?_) (Lib.hid ?_)
          · intro _ _ _ _ _ _ _ _ _ _ _ _ _ _ _ _ _ _ _ _ _ _ _ _ _ _ _ _ _ _ _ _ _ _ _ _ _ _ _ _ _ _ _ _ _ _ _ _ _ _ _ _ _ _ _ _ _ _ _ _ _ _ _ _ _ _ _ _ _ _ _ _ _ _ _ _ _ _ _ _ _ _ _ _ _ _ _ _ _ _ _ _ _ _ _ _ _ _ _ _ _ _ _ _ _ _ _ _ _ _ _ _ _ _ _ _ _ _ _ _ _ _ _ _ _ _ _ _ _ _ _ _ _ _ _ _ _ _ _ _ _ _ _ _ _ _ _ _ _ _ _ _ _ _ _ _ _ _ _ _ _ _ _ _ _ _ _ _ _ _ t15 t18 w3 a2 z2 L2 T2 h1 h2 h3 h4
            have HR := Lib.hid (⟨h1, h2, h3, by omega⟩ : St w.heap.size w w3 w2.heap.size w.heap.size (w.heap.size + 1) a2 z2 t15 L2 t18 T2 ∧ Inv fr up (L2.map (·.2.2)) T2 (a2, z2) ∧ (a2, z2) ≠ nilR ∧ mu (a2, z2) T2 ≤ go)
            have HLT := Lib.hid (show mu (a2, z2) T2 < gk by omega)
            clear h1 h2 h3 h4 HM1 HM2 HH H
            go_wp2
            go_roundg (mu (a2, z2) T2)
            case measure => exact HLT.out
            case rel => exact ⟨a2, z2, L2, T2, Lib.hid ⟨HR.out.1, HR.out.2.1, rfl, HR.out.2.2⟩⟩
          · intro _ _ _ _ _ _ _ _ _ _ _ _ _ _ _ _ _ _ _ _ _ _ _ _ _ _ _ _ _ _ _ _ _ _ _ _ _ _ _ _ _ _ _ _ _ _ _ _ _ _ _ _ _ _ _ _ _ _ _ _ _ _ _ _ _ _ _ _ _ _ _ _ _ _ _ _ _ _ _ _ _ _ _ _ _ _ _ _ _ _ _ _ _ _ _ _ _ _ _ _ _ _ _ _ _ _ _ _ _ _ _ _ _ _ _ _ _ _ _ _ _ _ _ _ _ _ _ _ _ _ _ _ _ _ _ _ _ _ _ _ _ _ _ _ _ _ _ _ _ _ _ _ _ _ _ _ _ _ _ _ _ _ _ _ _ _ _ _ _ _ t15 t18 w3 a2 z2 L2 T2 h1 h2 h4
            have HR := Lib.hid (⟨h1, h2⟩ : St w.heap.size w w3 w2.heap.size w.heap.size (w.heap.size + 1) a2 z2 t15 L2 t18 T2 ∧ Inv fr up (L2.map (·.2.2)) T2 (a2, z2))
            have HLT := Lib.hid (show mu (a2, z2) T2 < go by omega)
            clear h1 h2 h4 HM1 HM2 HH H
            go_wp2
            try simp only [Exit.noGoto, Exit.inBlock, Exit.then]
            try go_wp2
            go_roundg (mu (a2, z2) T2)
            case measure => exact HLT.out
            case rel => exact ⟨a2, z2, L2, T2, Lib.hid ⟨HR.out.1, HR.out.2, rfl⟩⟩

end Go.Proofs.YtobcgeonobgjpaaDoor
