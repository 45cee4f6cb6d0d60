/-
  FnStateFor: states are encoded, one behind the other: impl.encoded. Conditions: the tables of short codes, as listed; states that can be built.
-/
import Derived.Test.YtjonmfaeonldcaaDoorStR
import Derived.Test.YtjonmfaeonldcaaDoorStY
import Derived.Test.YtjonmfaeonldcaaDoorStS
namespace Go.Proofs.YtjonmfaeonldcaaDoor.fnStateFor
open Go.ChangeShapes Go.WideShapes Go.ChangeAt Go.RowKit
set_option linter.unusedVariables false

/-- the bytes of a Buffer that has only been written -/
theorem bytes_any {W : World} {b : Nat} {ao : Option Addr} {l c : Nat} (h : Bs W b (.slice ao l c)) (hl : l ≤ c) (hc : c ≤ maxLen) (hz : ao = none → l = 0 ∧ c = 0) :
    Calls Tryd.prog 18 #[.pointer (some ⟨b, 0, none⟩)] W fun e w' => e = .returned (.slice ao l c) ∧ ∃ n, w' = W.drewN n := by
  obtain ⟨c0, c1, -⟩ := h.cells
  have mixed : Tryd.prog.follows .mixedOrders = true := by kernel_rfl
  unfold maxLen at hc
  clear h
  match ao, hz with
  | none, hz =>
    obtain ⟨rfl, rfl⟩ := hz rfl
    go_enter Tryd.func18, Tryd.ntmps18
    go_wp2
    go_quiet (fail)
    go_wp2
    go_ret
    exact ⟨rfl, _, rfl⟩
  | some ad, _ =>
    clear hz
    have h0 : (0 : Int) ≤ (l : Int) := by omega
    have h1 : (l : Int) ≤ (c : Int) := by omega
    go_enter Tryd.func18, Tryd.ntmps18
    go_wp2
    go_quiet (fail)
    go_wp2
    go_ret
    exact ⟨rfl, _, rfl⟩

/-- how far the states are encoded: the writer, the encoder, the addresses -/
structure Lp (w wr : World) (x : Wb) (eb : Nat) (rv : Value) (out : List Int) (v : Value) (As : List Int) : Prop where
  en : En wr x rv out
  ec : Ec wr x eb rv
  row : wr.ownsRow w.heap.size 3 1 v As.length (As.map (.int .i64))
  lo : ∀ k, Own x rv k → w.heap.size ≤ k
  bl : Below w.heap.size w wr

theorem rows_ne {W : World} {B B' : Nat} {e e' : TypeId} {k k' n n' : Nat} {v v' : Value} {xs xs' : List Value} (h : W.ownsRow B e k v n xs) (h' : W.ownsRow B' e' k' v' n' xs') (hne : e ≠ e') : ∀ g, v.ownBlock = some g → v'.ownBlock ≠ some g := by
  intro g hv hv'
  rcases h'.2 with ⟨rfl, -⟩ | ⟨g1, c1, r1, rfl, -, hh1, -⟩
  · simp [Value.ownBlock] at hv'
  · simp [Value.ownBlock] at hv'
    subst hv'
    exact row_ne h (g := g1) (t := e') (l := r1.toList) (by unfold Blk; simpa using hh1) hne hv

theorem En.own_ne {W : World} {x : Wb} {rv : Value} {out : List Int} (h : En W x rv out) {B n : Nat} {v : Value} {xs : List Value} (o : W.ownsRow B 3 1 v n xs) : ∀ k, v.ownBlock = some k → ¬ Own x rv k := by
  obtain ⟨fl, bu, rest, _, hE⟩ := h
  intro k hk hO
  obtain ⟨lr, hb⟩ := hE.b
  rcases hO with rfl | rfl | rfl | rfl | e
  · exact row_ne o hb (by decide) hk
  · exact row_ne o hE.w (by decide) hk
  · exact row_ne o hE.f (by decide) hk
  · exact row_ne o hE.u (by decide) hk
  · exact rows_ne o hE.row (by decide) k hk e

theorem En.keep {O : Nat → Prop} {W W' : World} {x : Wb} {rv : Value} {out : List Int} (h : En W x rv out) (hf : Fr O W W') (hO : ∀ k, Own x rv k → ¬ O k) : En W' x rv out := by
  obtain ⟨fl, bu, rest, ho, hE⟩ := h
  exact ⟨fl, bu, rest, ho, hE.keep hf hO⟩
theorem En.lt {W : World} {x : Wb} {rv : Value} {out : List Int} (h : En W x rv out) (k : Nat) (hk : Own x rv k) : k < W.heap.size := by
  obtain ⟨fl, bu, rest, ho, hE⟩ := h
  exact hE.lt k hk

/-- what is new leaves all as it was -/
theorem Lp.new {w wr wx : World} {x : Wb} {eb : Nat} {rv : Value} {out : List Int} {v : Value} {As : List Int} (h : Lp w wr x eb rv out v As) (hb : Below wr.heap.size wr wx) : Lp w wx x eb rv out v As where
  en := h.en.keep (O := fun _ => False) (Fr.of_below hb) (fun _ _ h => h)
  ec := ⟨(Fr.of_below (O := fun _ => False) hb).blk h.ec.e (fun h => h), h.ec.o⟩
  row := (Fr.of_below (O := fun _ => False) hb).own h.row (fun _ _ h => h)
  lo := h.lo
  bl := h.bl.trans (hb.mono h.bl.size)

/-- the writer goes on -/
theorem Lp.go {w wr wx : World} {x : Wb} {eb : Nat} {rv rv' : Value} {out out' : List Int} {v : Value} {As : List Int} (h : Lp w wr x eb rv out v As) (he : En wx x rv' out') (hv : Ev x wr rv wx rv') : Lp w wx x eb rv' out' v As where
  en := he
  ec := h.ec.go hv
  row := hv.fr.own h.row (h.en.own_ne h.row)
  lo := fun k hk => by
    rcases hk with e | e | e | e | e
    · exact h.lo k (.inl e)
    · exact h.lo k (.inr (.inl e))
    · exact h.lo k (.inr (.inr (.inl e)))
    · exact h.lo k (.inr (.inr (.inr (.inl e))))
    · rcases hv.sub k e with e | e
      · exact h.lo k (.inr (.inr (.inr (.inr e))))
      · exact Nat.le_trans h.bl.size e
  bl := h.bl.trans (hv.fr.below (fun k hk hO => by have := h.lo k hO; omega) h.bl.size)

/-- an address is put behind the others -/
theorem Lp.app {w wr wx : World} {x : Wb} {eb : Nat} {rv : Value} {out : List Int} {v v' : Value} {As : List Int} {z : Int} (h : Lp w wr x eb rv out v As) (ho : wx.ownsRow w.heap.size 3 1 v' (As.length + 1) (As.map (.int .i64) ++ [.int .i64 z])) (hg : wr.grownBy wx v.ownBlock) : Lp w wx x eb rv out v' (As ++ [z]) where
  en := h.en.keep (Fr.of_grown (O := fun k => v.ownBlock = some k) hg (fun k hk => hk)) (fun k hk e => h.en.own_ne h.row k e hk)
  ec := ⟨(Fr.of_grown (O := fun k => v.ownBlock = some k) hg (fun k hk => hk)).blk h.ec.e (row_ne h.row h.ec.e (by decide)), h.ec.o⟩
  row := by simpa using ho
  lo := h.lo
  bl := h.bl.grown hg h.bl.size (own_block_ge h.row)

theorem Lp.tabs {w wr wx : World} {x : Wb} {eb : Nat} {rv rv' : Value} {out : List Int} {v : Value} {As : List Int} (h : Lp w wr x eb rv out v As) (hT : Tabs w) (hv : Ev x wr rv wx rv') : Tabs wx :=
  hT.below (h.bl.trans (hv.fr.below (fun k hk hO => by have := h.lo k hO; omega) h.bl.size)) (Nat.le_refl _)

/-- an arc with its address -/
def adr (As : List Int) (t : Int) : Int := if t < 0 then 0 else As.getD t.toNat 0
theorem arcsOf_eq (As : List Int) (s : LS) : arcsOf As s.sta = s.l.map fun x => (x.1, x.2.1, adr As x.2.2) := rfl
theorem arcsOf_len (As : List Int) (s : Sta) : (arcsOf As s).length = s.2.2.length := by simp [arcsOf]

/-- all states can be built -/
def oksL (ls : List LS) : Prop := ∀ j (h : j < ls.length), okSt j ls[j].sta
/-- the states up to i -/
def E (ls : List LS) (i : Nat) : List Int × List Int := encL cd ((ls.map LS.sta).take i)
theorem E_zero (ls : List LS) : E ls 0 = (hdr, []) := rfl
theorem E_succ (ls : List LS) (i : Nat) (h : i < ls.length) : E ls (i + 1) = encS cd (E ls i) ls[i].sta := by
  unfold E
  rw [List.take_succ_eq_append_getElem (by simpa using h), encL_snoc]
  simp
theorem E_P (ls : List LS) (h : oksL ls) (i : Nat) (hi : i ≤ ls.length) : EncP cd ((ls.map LS.sta).take i) (E ls i).1 (E ls i).2 := by
  refine encP cd _ (fun j hj => ?_)
  have hj' : j < ls.length := by simp at hj; omega
  rw [List.getElem_take, List.getElem_map]
  exact h j hj'


/-- what is known of a state that is next -/
structure It (ls : List LS) (i : Nat) (s : LS) : Prop where
  n : (E ls i).2.length = i
  d : (E ls i).1.length ≤ 10000000
  b : ∀ k, k < i → 16 ≤ (E ls i).2.getD k 0 ∧ (E ls i).2.getD k 0 < (E ls i).1.length
  ok : Ok (E ls i).1.length s.o (arcsOf (E ls i).2 s.sta)
  bt : ∀ y ∈ s.l, -1 ≤ y.2.2 ∧ y.2.2 < i
theorem mem_getD {l : List Int} {k : Nat} (h : k < l.length) : l.getD k 0 ∈ l := by
  rw [List.getD_eq_getElem?_getD, List.getElem?_eq_getElem h]
  exact List.getElem_mem _
theorem it_of {w : World} {B : Nat} {ls : List LS} (hl : ls.length ≤ 2000) (hok : oksL ls) {i : Nat} (hi : i < ls.length) (hg : goodLS w B ls[i]) : It ls i ls[i] := by
  have P := E_P ls hok i (by omega)
  have hn : (E ls i).2.length = i := by have := P.n; simp at this; omega
  have hd : (E ls i).1.length ≤ 10000000 := by have := P.dmax; simp at this; omega
  have hb : ∀ k, k < i → 16 ≤ (E ls i).2.getD k 0 ∧ (E ls i).2.getD k 0 < (E ls i).1.length := fun k hk => P.lo _ (mem_getD (by omega))
  obtain ⟨o1, o2, o3, o4, o5⟩ := hok i hi
  refine ⟨hn, hd, hb, ⟨?_, hg.ob, ?_, ?_, hd⟩, o4⟩
  · rw [arcsOf_len]; exact o1
  · intro y hy
    rw [arcsOf_eq] at hy
    obtain ⟨x, hx, rfl⟩ := List.mem_map.1 hy
    have g := hg.g x hx
    have t := o4 x hx
    refine ⟨g.1, g.2.1, ?_⟩
    show 0 ≤ adr _ x.2.2 ∧ adr _ x.2.2 ≤ _
    unfold adr
    split
    · omega
    · have := hb x.2.2.toNat (by omega)
      omega
  · intro h
    rw [arcsOf_len] at h
    exact o2 h

theorem arcs_get (As : List Int) (s : LS) (n : Nat) (h : n < s.l.length) : (arcsOf As s.sta)[n]'(by rw [arcsOf_len]; exact h) = ((s.l[n]).1, (s.l[n]).2.1, adr As (s.l[n]).2.2) := by
  simp [arcsOf, LS.sta, adr]

/-- the end of all -/
def EncR (w : World) (ls : List LS) (e : Ending) (w' : World) : Prop :=
  ∃ (g cap : Nat) (aa : Option Addr) (ca : Nat) (F : List Int), e = .returned (.tuple #[.slice (some ⟨g, 0, none⟩) ((E ls ls.length).1 ++ F).length cap, .slice aa (E ls ls.length).2.length ca, .bool true]) ∧
    Dt w' g ((E ls ls.length).1 ++ F) ∧ F.length = 16 ∧ ((E ls ls.length).1 ++ F).length ≤ cap ∧ Sl w' w'.heap.size aa ((E ls ls.length).2.map (.int .i64)) ∧ g < w'.heap.size ∧ Below w.heap.size w w'

theorem lp_start {w w1 w2 : World} {x : Wb} {eb : Nat} {rv : Value} (hw : Below w.heap.size w w1) (he : En w1 x (.slice none 0 0) []) (hc : Ec w1 x eb (.slice none 0 0)) (hb : x.b = w.heap.size) (h1 : w.heap.size ≤ x.w) (h2 : w.heap.size ≤ x.f) (h3 : w.heap.size ≤ x.u)
    (he2 : En w2 x rv hdr) (hv : Ev x w1 (.slice none 0 0) w2 rv) : Lp w w2 x eb rv (E [] 0).1 (.slice none 0 0) [] := by
  refine Lp.go (rv := .slice none 0 0) (wr := w1) (out := []) ⟨he, hc, World.ownsRow_nil _ _ _ _, ?_, hw⟩ he2 hv
  rintro k (rfl | rfl | rfl | rfl | e)
  · omega
  · exact h1
  · exact h2
  · exact h3
  · simp [Value.ownBlock] at e

/-- the node whose arcs are laid, and its row of arcs -/
structure Nr (w wx : World) (G : Nat) (f : Bool) (o : Int) (a : Option Addr) (n c : Nat) (l : List Arc) : Prop where
  b : Blk wx G 70 [.int .u64 o, .slice a n c, .bool f, .pointer none]
  r : wx.ownsRow (G + 1) 72 3 (.slice a n c) n (l.flatMap tc)
  w : Below w.heap.size w wx

theorem nr_cx {w wo wx : World} {x : Wb} {eb G : Nat} {rv : Value} {out : List Int} {v : Value} {As : List Int} {f : Bool} {o : Int} {a : Option Addr} {n c : Nat} {l : List Arc} (h : Lp w wo x eb rv out v As) (hn : Nr wo wx G f o a n c l) (hT : Tabs w) (hl : l.length = n) (hG : wo.heap.size ≤ G) :
    Cx x ⟨eb, G, f, o, a, c, l⟩ wx rv out := by
  have hx := h.new hn.w
  exact ⟨hx.en, hx.ec, by show Blk wx G _ [_, .slice a l.length c, _, _]; rw [hl]; exact hn.b, fun hO => by have := h.en.lt G hO; omega, sl_of_own hn.r,
    fun ad e h0 hO => by
      have := own_block_ge hn.r ad.block (by have e2 : a = some ad := e; rw [e2]; rfl)
      have := h.en.lt _ hO
      omega,
    fun W' rv' hv => hx.tabs hT hv⟩

/-- one state more -/
theorem E_1 {ls : List LS} {i : Nat} {s : LS} (h : E ls (i + 1) = encS cd (E ls i) s.sta) : (E ls (i + 1)).1 = (E ls i).1 ++ stB cd (E ls i).1.length s.f s.o (arcsOf (E ls i).2 s.sta) (lastOf (E ls i).2) ∧ (E ls (i + 1)).2 = (E ls i).2 ++ [((E ls (i + 1)).1.length : Int) - 1] := by
  rw [h]
  exact ⟨rfl, by simp [encS, LS.sta]⟩

theorem blk_new_at (w : World) (t : TypeId) (l : List Value) (n : Nat) (hn : n = w.heap.size) : Blk (w.alloc (.cells l.toArray t)) n t l := by subst hn; exact Blk.new w t l

theorem dt_of {W : World} {g : Nat} {D : List Int} {cur : List Value} (hB : Blk W g 5 cur) (ht : cur.take D.length = by8 D) : Dt W g D := ⟨fun i hi => by
  rw [hB.cell i, ← List.getElem?_take_of_lt hi, ht]
  simp [by8, List.getD_eq_getElem?_getD, List.getElem?_eq_getElem hi]⟩

theorem last_nat (ls : List LS) (hl : ls.length ≤ 2000) (hok : oksL ls) : ∃ r : Nat, lastOf (E ls ls.length).2 = r ∧ r ≤ 1000000000 := by
  have P := E_P ls hok ls.length (Nat.le_refl _)
  by_cases h : (E ls ls.length).2 = []
  · exact ⟨1, by rw [h]; rfl, by omega⟩
  · have h1 := P.last h
    have h2 := P.d16
    have h3 := P.dmax
    simp at h3
    exact ⟨(E ls ls.length).1.length - 1, by rw [h1]; omega, by omega⟩
theorem E_len (ls : List LS) (hl : ls.length ≤ 2000) (hok : oksL ls) : (E ls ls.length).1.length ≤ 100000000 := by
  have P := E_P ls hok ls.length (Nat.le_refl _)
  have h3 := P.dmax
  simp at h3
  omega

theorem enc_end {w wo w4 w5 : World} {x : Wb} {eb : Nat} {rv rv4 : Value} {ls : List LS} {aa : Option Addr} {ca g cap cnt n5 nn rr : Nat} {rest : List Int} {cur : List Value} {ct : Int} (h : Lp w wo x eb rv (E ls ls.length).1 (.slice aa (E ls ls.length).2.length ca) (E ls ls.length).2)
    (hV : Ev x wo rv w4 rv4) (h5 : w5 = w4.drewN n5) (hB : Blk w4 g 5 cur) (hc : ((E ls ls.length).1 ++ (le8 nn ++ le8 rr)).length ≤ cap) (ht : cur.take ((E ls ls.length).1 ++ (le8 nn ++ le8 rr)).length = by8 ((E ls ls.length).1 ++ (le8 nn ++ le8 rr))) :
    EncR w ls (.returned (.tuple #[.slice (some ⟨g, 0, none⟩) ((E ls ls.length).1 ++ (le8 nn ++ le8 rr)).length cap, .slice aa (E ls ls.length).2.length ca, .bool true])) w5 := by
  subst h5
  refine ⟨g, cap, aa, ca, le8 nn ++ le8 rr, rfl, dt_of (hB.drewN n5) ht, by rw [List.length_append, le8_len, le8_len], hc, ?_, hB.lt, ?_⟩
  · exact sl_of_own ((hV.fr.drewN n5).own h.row (h.en.own_ne h.row))
  · exact h.bl.trans ((hV.fr.drewN n5).below (fun k hk hO => by have := h.lo k hO; omega) h.bl.size)

theorem info_int : (Tryd.prog.info? 3).map (fun i => (i.zero, i.size, i.bytes)) = some (some (.int .i64 0), 1, 8) := by kernel_rfl

set_option maxRecDepth 100000 in
set_option maxHeartbeats 6400000 in
theorem encd_any (a : Option Addr) (c : Nat) (ls : List LS) (w : World) (hl : ls.length ≤ 2000) (hg : ∀ s ∈ ls, goodLS w w.heap.size s) (hs : Sl w w.heap.size a (ls.flatMap lsc)) (hok : oksL ls) (hT : Tabs w) :
    Calls Tryd.prog 8 #[.slice a ls.length c] w (EncR w ls) := by
  obtain ⟨i0, hi, hz0, hz1, hz2⟩ := info_parts info_int
  have HG := Lib.hid hg
  have HS := Lib.hid hs
  have HOK := Lib.hid hok
  have HT := Lib.hid hT
  have B0 := Blk.new w 52 [.slice none 0 0, .int .i64 0, .int .i8 0]
  have hb1 : Below w.heap.size w (w.alloc (.cells #[.slice none 0 0, .int .i64 0, .int .i8 0] 52)) := (Below.refl _ _).alloc (Nat.le_refl _) _
  have BF : Bf (w.alloc (.cells #[.slice none 0 0, .int .i64 0, .int .i8 0] 52)) w.heap.size (.slice none 0 0) [] := ⟨⟨0, B0⟩, World.ownsRow_nil _ _ _ _, fun _ => rfl⟩
  have CE := Lib.hid (zenc_any BF)
  have HB1 := Lib.hid hb1
  have hsz : (w.alloc (.cells #[.slice none 0 0, .int .i64 0, .int .i8 0] 52)).heap.size = w.heap.size + 1 := by simp
  clear hg hs hok hT B0 BF hb1
  go_enter Tryd.func8, Tryd.ntmps8
  go_wp2_with (first
    | (go_at_call 12; refine CE.out.mono ?_; rintro e w1 ⟨x, eb, hxb, rfl, hEn, hEc, hbl, hw, hf, hu, heb⟩; have CST := Lib.hid (zstart_any hEn hEc); have LS1 := Lib.hid (fun w2 rv h1 h2 => lp_start (w2 := w2) (rv := rv) (HB1.out.trans (hbl.mono (by omega))) hEn hEc hxb (by omega) (by omega) (by omega) h1 h2); have HXB := Lib.hid hxb; clear hEn hEc hbl hw hf hu heb hxb CE HB1)
    | (go_at_call 13; refine CST.out.mono ?_; rintro e w2 ⟨rv1, rfl, hE2, hV2⟩; have HLP := Lib.hid (LS1.out w2 rv1 hE2 hV2); clear hE2 hV2 LS1 CST)
    | fail)
  go_loopw [3, 7, 8, 9, 10, 12, 13, 14, 15, 23] (fun v last _ _ _ _ _ _ _ k wr => ∃ (i : Nat) (rv : Value), i ≤ ls.length ∧ k = .int .i64 i ∧ last = .int .i64 (lastOf (E ls i).2) ∧ Hid (Lp w wr x eb rv (E ls i).1 v (E ls i).2)) (fun _ _ _ _ _ _ _ _ _ k _ => ls.length - (intOf k).toNat)
  case atStart => exact ⟨0, rv1, by omega, rfl, rfl, HLP⟩
  case round =>
    obtain ⟨i, rv, hii, rfl, rfl, hLp⟩ := hrel
    clear HLP
    obtain ⟨wo, hwo⟩ : ∃ wo : World, wo = wr := ⟨wr, rfl⟩
    subst hwo
    by_cases hlt : i < ls.length
    · obtain ⟨ad, rfl, hb, hc0, hc1, hc2⟩ := three_at lsc_len (HS.out.below hLp.out.bl) i hlt _ _ _ rfl
      have HGI := Lib.hid (HG.out _ (List.getElem_mem hlt))
      have HIT := Lib.hid (it_of hl HOK.out hlt HGI.out)
      have HES := Lib.hid (E_1 (E_succ ls i hlt))
      have HLT := Lib.hid hlt
      generalize ls[i] = s at *
      obtain ⟨f, o, sa, sc, l⟩ := s
      simp only at hc0 hc1 hc2
      have hl256 : l.length ≤ 256 := by
        have := HIT.out.ok.n
        rw [arcsOf_len] at this
        exact this
      have hin : (E ls i).2.length ≤ 2000 := by have := HIT.out.n; omega
      obtain ⟨aa, ca, rfl⟩ := own_value hLp.out.row
      have CN := Lib.hid (fun W => node_any f o W)
      have hi2 : i ≤ 2000 := by omega
      have hAi : (E ls i).2.length = i := HIT.out.n
      have HBI := Lib.hid HIT.out.b
      have HOKI := Lib.hid HIT.out.ok
      have HBT := Lib.hid (fun y (hy : y ∈ l) => HIT.out.bt y hy)
      have HSA := Lib.hid (show Sl w w.heap.size sa (l.flatMap ac) from HGI.out.s)
      have HGA := Lib.hid (fun x (hx : x ∈ l) => HGI.out.g x hx)
      have HAL := Lib.hid (show (arcsOf (E ls i).2 (LS.sta ⟨f, o, sa, sc, l⟩)).length = l.length from by rw [arcsOf_len]; rfl)
      have HAG : Hid (∀ n (h : n < l.length) (h' : n < (arcsOf (E ls i).2 (LS.sta ⟨f, o, sa, sc, l⟩)).length), (arcsOf (E ls i).2 (LS.sta ⟨f, o, sa, sc, l⟩))[n] = (l[n].1, l[n].2.1, adr (E ls i).2 l[n].2.2)) := Lib.hid (fun n h h' => arcs_get (E ls i).2 ⟨f, o, sa, sc, l⟩ n h)
      clear HIT HGI
      generalize hla : lastOf (E ls i).2 = la at *
      generalize (E ls i).2 = As at *
      have HLA := Lib.hid hla
      clear hla
      generalize arcsOf As (LS.sta ⟨f, o, sa, sc, l⟩) = arcs at *
      go_wp2_with (go_at_call 14; refine (CN.out _).mono ?_; rintro e w0 ⟨rfl, rfl⟩)
      go_loopw [3, 12, 13, 36] (fun u3 _ _ k wx => ∃ (n : Nat) (a' : Option Addr) (c' : Nat), n ≤ l.length ∧ u3 = .slice aa i ca ∧ k = .int .i64 n ∧ Hid (Nr wo wx (wo.heap.size + 1) f o a' n c' (arcs.take n))) (fun _ _ _ k _ => l.length - (intOf k).toNat)
      case atStart => exact ⟨0, none, 0, by omega, rfl, rfl, Lib.hid ⟨blk_new_at _ _ [_, _, _, _] _ (by simp), ⟨by simp, .inl ⟨rfl, rfl⟩⟩, ((Below.refl _ _).alloc (Nat.le_refl _) _).alloc (by simp) _⟩⟩
      case round =>
        obtain ⟨n, a1, c1, hnn, rfl, rfl, hNr⟩ := hrel
        by_cases hln : n < l.length
        · obtain ⟨ad2, rfl, hb2, hd0, hd1, hd2⟩ := three_at ac_len (HSA.out.below (hLp.out.bl.trans (hNr.out.w.mono hLp.out.bl.size))) n hln _ _ _ rfl
          have hbt := HBT.out _ (List.getElem_mem hln)
          have HN := Lib.hid (tcs_snoc arcs n (by rw [HAL.out]; exact hln))
          have HG2 := Lib.hid (HAG.out n hln (by rw [HAL.out]; exact hln))
          generalize l[n] = q at *
          obtain ⟨xi, xo, xt⟩ := q
          simp only at hd0 hd1 hd2 hbt
          obtain ⟨hbt1, hbt2⟩ := hbt
          have hq1 : ¬ xt < -1 := by omega
          have hq2 : ¬ (i : Int) ≤ xt := by omega
          have HC := Lib.hid (fun (W : World) z h h' => arc_any (wo.heap.size + 1) n o f a1 c1 ((arcs.take n).flatMap tc) (xi, xo, z) W h h' (by omega))
          by_cases hneg : xt < 0
          · have HZ := Lib.hid (show adr As xt = 0 from if_pos hneg)
            go_wp2_with (go_at_call 15; refine (HC.out _ 0 (hNr.out.b.alloc _) (hNr.out.r.alloc _)).mono ?_; rintro e w1 ⟨⟨r, rfl⟩, ⟨a2, c2, hB2, hown2⟩, hb2⟩)
            go_roundw
            case rel => exact ⟨n + 1, a2, c2, by omega, rfl, by go_num, Lib.hid ⟨hB2, by rw [HN.out, HG2.out, HZ.out]; exact hown2, (hNr.out.w.alloc hNr.out.w.size _).trans (hb2.mono (by omega))⟩⟩
            case measure => simp [intOf]; omega
          · obtain ⟨t, rfl⟩ : ∃ t : Nat, xt = t := ⟨xt.toNat, by omega⟩
            have HZ := Lib.hid (show adr As t = As.getD t 0 from by unfold adr; rw [if_neg hneg]; rfl)
            obtain ⟨ad3, e3, hb3, hg3⟩ := (sl_of_own hLp.out.row).below hNr.out.w t (.int .i64 (As.getD t 0)) (by rw [List.getElem?_map, List.getD_eq_getElem?_getD, List.getElem?_eq_getElem (by omega)]; rfl)
            subst e3
            have hb4 : ad3.block < wr.heap.size := Nat.lt_of_lt_of_le hb3 hNr.out.w.size
            have hg4 : (wr.alloc (.cells #[.int .u8 xi, .int .u64 xo, .int .i64 (t : Int)] 31)).cell? (ad3.add t) = some (.int .i64 (As.getD t 0)) := (((Below.refl _ wr).alloc (Nat.le_refl _) _).cell (by rw [block_add]; exact hb4)).trans hg3
            generalize As.getD t 0 = z at *
            go_wp2_with (go_at_call 15; refine (HC.out _ z (hNr.out.b.alloc _) (hNr.out.r.alloc _)).mono ?_; rintro e w1 ⟨⟨r, rfl⟩, ⟨a2, c2, hB2, hown2⟩, hb2⟩)
            go_roundw
            case rel => exact ⟨n + 1, a2, c2, by omega, rfl, by go_num, Lib.hid ⟨hB2, by rw [HN.out, HG2.out, HZ.out]; exact hown2, (hNr.out.w.alloc hNr.out.w.size _).trans (hb2.mono (by omega))⟩⟩
            case measure => simp [intOf]; omega
        · obtain rfl : n = l.length := by omega
          have hNr2 := hNr.out
          rw [← HAL.out, List.take_length, HAL.out] at hNr2
          have CX := Lib.hid (nr_cx hLp.out hNr2 HT.out HAL.out (by omega))
          have CZ := Lib.hid (zes_any CX.out _ rfl HOKI.out la)
          have HX2 := Lib.hid (hLp.out.new hNr2.w)
          have CZ2 : Hid (Calls Tryd.prog 16 #[.pointer (some ⟨eb, 0, none⟩), .pointer (some ⟨wo.heap.size + 1, 0, none⟩), .int .i64 la] wr (Wd x ⟨eb, wo.heap.size + 1, f, o, a1, c1, arcs⟩ wr rv (E ls (i + 1)).1)) := Lib.hid (by rw [HES.out.1]; exact CZ.out)
          have HE2 := Lib.hid HES.out.2
          clear HES CZ
          generalize hO1 : (E ls (i + 1)).1 = out1 at *
          have HO1 := Lib.hid hO1
          clear hO1
          go_wp2_with (first
            | (go_at_call 16; refine CZ2.out.mono ?_; rintro e w3 ⟨rv3, rfl, hC3, hV3⟩; have HL3 := Lib.hid (HX2.out.go hC3.en hV3); have HROW := HL3.out.row; rw [hAi] at HROW; have HROW := Lib.hid HROW; clear hC3 hV3)
            | (at_builtin; refine append1 _ _ rfl (.tmp 75) (.tmp 77) 35 rfl w.heap.size 3 i0 _ 1 8 Tryd.underlying35 hi hz0 hz1 hz2 rfl (by omega) rfl (.slice aa i ca) i (As.map (.int .i64)) rfl HROW.out w3.heap.size rfl rfl (by simp [Value.oneCell']) (by unfold maxLen; omega) (by omega) HL3.out.bl.size ?_; intro v4 w4 hown4 hg4 _; have HOWN4 := Lib.hid hown4; have HGR4 := Lib.hid hg4; clear hown4 hg4)
            | fail)
          go_roundw
          case rel => exact ⟨i + 1, rv3, HLT.out, by go_num, by rw [HE2.out]; simp [lastOf], Lib.hid (by
            rw [HO1.out, HE2.out]
            have q1 := HL3.out
            have q2 := HOWN4.out
            rw [hAi] at q1
            exact q1.app (by rw [hAi]; exact q2) HGR4.out)⟩
          case measure => simp [intOf]; omega
    · obtain rfl : i = ls.length := by omega
      obtain ⟨r, hr, hr2⟩ := last_nat ls hl HOK.out
      obtain ⟨aa, ca, rfl⟩ := own_value hLp.out.row
      have CF := Lib.hid (zfinish_any hLp.out.en hLp.out.ec ls.length r (by omega) hr2 (E_len ls hl HOK.out))
      have HXB2 := HXB.out
      rw [hr]
      clear hr
      obtain ⟨F, hF⟩ : ∃ F, F = (E ls ls.length).1 ++ (le8 ls.length ++ le8 r) := ⟨_, rfl⟩
      have HF := Lib.hid hF
      rw [← hF] at CF
      have hF1 : 1 ≤ F.length := by rw [hF, List.length_append, List.length_append, le8_len]; omega
      clear hF
      have CB := Lib.hid (fun (W : World) (v : Value) (h : Bf W x.b v F) => show ∃ g cap cur, v = .slice (some ⟨g, 0, none⟩) F.length cap ∧ Blk W g 5 cur ∧ F.length ≤ cap ∧ cur.take F.length = by8 F ∧ Calls Tryd.prog 18 #[.pointer (some ⟨w.heap.size, 0, none⟩)] W (fun e w' => e = .returned (.slice (some ⟨g, 0, none⟩) F.length cap) ∧ ∃ n, w' = W.drewN n) from by
        rcases h.cases with ⟨-, h2⟩ | ⟨g, cap, cur, rfl, h2, h3, h4, h5, h6, h7, h8⟩
        · rw [h2] at hF1; simp at hF1
        · refine ⟨g, cap, cur, rfl, h2, h5, h6, ?_⟩
          have hq := bytes_any h.s h5 h4 (fun e => by cases e)
          rw [HXB2] at hq
          exact hq)
      have HE2 := Lib.hid (fun (w4 w5 : World) (rv4 : Value) (g cap n5 : Nat) (cur : List Value) hV h5 hB hc ht => enc_end (w4 := w4) (w5 := w5) (rv4 := rv4) (g := g) (cap := cap) (n5 := n5) (cnt := 0) (rest := []) (ct := 0) (nn := ls.length) (rr := r) (cur := cur) hLp.out hV h5 hB hc ht)
      rw [← HF.out] at HE2
      go_wp2_with (first
        | (go_at_call 17; refine CF.out.mono ?_; rintro e w4 ⟨cnt, rv4, rest4, rfl, hE4, hV4⟩; obtain ⟨g, cap, cur, hv4, hB4, hc4, ht4, CB4⟩ := CB.out w4 rv4 (by have h := hE4.bf; simpa using h); have CB5 := Lib.hid CB4; have HV4 := Lib.hid hV4; have HB4 := Lib.hid (And.intro hB4 (And.intro hc4 ht4)); clear CB4 hV4 hB4 hc4 ht4 hE4 hv4)
        | (go_at_call 18; refine CB5.out.mono ?_; rintro e w5 ⟨rfl, n5, h5⟩; have H5 := Lib.hid h5; clear h5)
        | fail)
      go_returns
      exact HE2.out _ _ _ _ _ _ _ HV4.out H5.out HB4.out.1 HB4.out.2.1 HB4.out.2.2

end Go.Proofs.YtjonmfaeonldcaaDoor.fnStateFor
