/-
  The sequences of ranges of bytes: the state of the loop, and what each of its steps keeps. Conditions: as stated.
-/
import Derived.Test.YtobcgeonobgjpaaDoorSeqWD
import Derived.Test.YtobcgeonobgjpaaDoorSeqWE
import Derived.Test.YtobcgeonobgjpaaDoorSeqOne
import Derived.Test.YtobcgeonobgjpaaDoorSeqBit
namespace Go.Proofs.YtobcgeonobgjpaaDoor
open Go.ChangeShapes Go.WideShapes Go.ChangeAt Go.RowKit
set_option linter.unusedVariables false

/-- a sequence: its block, its capacity, its ranges -/
abbrev Sq := Nat × Nat × List (Int × Int)
def seqv (x : Sq) : Value := .slice (some ⟨x.1, 0, none⟩) x.2.2.length x.2.1

section
variable {w w' : World} {B B2 : Nat} {e e2 t : TypeId} {k k2 n n2 g : Nat} {v v2 : Value} {xs ys l : List Value} {row : Option Nat}
theorem row_blk (h : w.ownsRow B e k v n xs) (hb : Blk w g t l) (hne : e ≠ t) : v.ownBlock ≠ some g := by
  intro hv
  rcases h.2 with ⟨rfl, -⟩ | ⟨g1, c1, r1, rfl, -, hh1, -⟩
  · simp [Value.ownBlock] at hv
  · simp [Value.ownBlock] at hv
    subst hv
    unfold Blk at hb
    rw [hh1] at hb
    injection hb with hb
    injection hb with _ ht
    exact hne ht
theorem rows_apart (h : w.ownsRow B e k v n xs) (h2 : w.ownsRow B2 e2 k2 v2 n2 ys) (hne : e ≠ e2) : Apart v v2 := by
  intro j hu hv
  rcases h2.2 with ⟨rfl, -⟩ | ⟨g2, c2, r2, rfl, -, hh2, -⟩
  · simp [Value.ownBlock] at hv
  rcases h.2 with ⟨rfl, -⟩ | ⟨g1, c1, r1, rfl, -, hh1, -⟩
  · simp [Value.ownBlock] at hu
  simp [Value.ownBlock] at hu hv
  subst hu
  subst hv
  rw [hh1] at hh2
  injection hh2 with hh2
  injection hh2 with _ ht
  exact hne ht
theorem below_grown (hg : w.grownBy w' row) (hB : B ≤ w.heap.size) (hr : ∀ k, row = some k → B ≤ k) : Below B w w' :=
  ⟨hg.os, hg.tape, hg.output, hg.size, fun k hk => hg.block k (by omega) (fun e => by have := hr k e.symm; omega)⟩
theorem Nils.below (h : Nils w) (hb : Below B w w') (hB : 2 ≤ B) : Nils w' :=
  ⟨(hb.cell (p := ⟨0, 0, none⟩) (by simp; omega)).trans h.s0, (hb.cell (p := ⟨0, 1, none⟩) (by simp; omega)).trans h.s1,
    (hb.cell (p := ⟨1, 0, none⟩) (by simp; omega)).trans h.r0, (hb.cell (p := ⟨1, 1, none⟩) (by simp; omega)).trans h.r1⟩
end

/-- four bytes of the call's own -/
def Four (w : World) (p : Nat) : Prop := ∃ x0 x1 x2 x3, Blk w p 5 [x0, x1, x2, x3]

/-- the loop's state: the range r, the two buffers, the sequences that are made, the stack -/
structure St (B : Nat) (w0 w : World) (R p q : Nat) (a z : Int) (rv : Value) (L : List Sq) (sk : Value) (T : List (Int × Int)) : Prop where
  nils : Nils w
  hB : 2 ≤ B
  r : Blk w R 56 [.int .i32 a, .int .i32 z]
  fp : Four w p
  fq : Four w q
  orv : w.ownsRow B 39 1 rv L.length (L.map seqv)
  osk : w.ownsRow B 56 2 sk T.length (rngs T)
  sq : ∀ x ∈ L, Blk w x.1 52 (prvs x.2.2)
  pq : p ≠ q
  rs : sk.ownBlock ≠ some R
  hR : B ≤ R
  hp : B ≤ p
  hq : B ≤ q
  bel : Below B w0 w
  hw : B ≤ w0.heap.size

section
variable {B : Nat} {w0 w w' : World} {R p q : Nat} {a z a' z' : Int} {rv rv' sk sk' : Value} {L L' : List Sq} {T T' : List (Int × Int)}
theorem Four.grown {row : Option Nat} (h : Four w p) (hg : w.grownBy w' row) (hne : some p ≠ row) : Four w' p := by
  obtain ⟨x0, x1, x2, x3, h⟩ := h
  exact ⟨_, _, _, _, h.grown hg hne⟩
theorem Four.below (h : Four w p) (hb : Below w.heap.size w w') : Four w' p := by
  obtain ⟨x0, x1, x2, x3, h⟩ := h
  exact ⟨_, _, _, _, h.below hb h.lt⟩
theorem Four.of {xs : List Value} (h : Blk w p 5 xs) (hl : xs.length = 4) : Four w p := by
  match xs, hl with
  | [_, _, _, _], _ => exact ⟨_, _, _, _, h⟩
theorem Four.ne_row {e : TypeId} {k n : Nat} {v : Value} {xs : List Value} (h : Four w p) (ho : w.ownsRow B e k v n xs) (hne : e ≠ 5) : some p ≠ v.ownBlock := by
  obtain ⟨x0, x1, x2, x3, h⟩ := h
  exact fun e => row_blk ho h hne e.symm
theorem Four.ne_blk {g : Nat} {t : TypeId} {l : List Value} (h : Four w p) (hb : Blk w g t l) (hne : t ≠ 5) : g ≠ p := by
  obtain ⟨x0, x1, x2, x3, h⟩ := h
  exact hb.ne_ h hne

theorem St.size (h : St B w0 w R p q a z rv L sk T) : B ≤ w.heap.size := by have := h.r.lt; have := h.hR; omega

theorem St.below (h : St B w0 w R p q a z rv L sk T) (hb : Below w.heap.size w w') : St B w0 w' R p q a z rv L sk T :=
  { nils := h.nils.below hb h.nils.lt, hB := h.hB, r := h.r.below hb h.r.lt, fp := h.fp.below hb, fq := h.fq.below hb, orv := own_below h.orv hb, osk := own_below h.osk hb,
    sq := fun x hx => (h.sq x hx).below hb (h.sq x hx).lt, pq := h.pq, rs := h.rs, hR := h.hR, hp := h.hp, hq := h.hq, bel := h.bel.trans (hb.mono h.size), hw := h.hw }

theorem St.push (h : St B w0 w R p q a z rv L sk T) (ho : w'.ownsRow B 56 2 sk' T'.length (rngs T')) (hg : w.grownBy w' sk.ownBlock) (hat : ∀ k, sk'.ownBlock = some k → sk.ownBlock = some k ∨ w.heap.size ≤ k) :
    St B w0 w' R p q a z rv L sk' T' :=
  have hb : Below B w w' := below_grown hg h.size (own_block_ge h.osk)
  { nils := h.nils.below hb h.hB, hB := h.hB, r := h.r.grown hg (fun e => h.rs e.symm), fp := h.fp.grown hg (h.fp.ne_row h.osk (by decide)), fq := h.fq.grown hg (h.fq.ne_row h.osk (by decide)),
    orv := h.orv.kept hg (rows_apart h.orv h.osk (by decide)).kept, osk := ho, sq := fun x hx => (h.sq x hx).grown hg (fun e => row_blk h.osk (h.sq x hx) (by decide) e.symm), pq := h.pq,
    rs := fun e => by
      rcases hat R e with h1 | h1
      · exact h.rs h1
      · have := h.r.lt
        omega
    hR := h.hR, hp := h.hp, hq := h.hq, bel := h.bel.trans hb, hw := h.hw }

theorem St.pop (h : St B w0 w R p q a z rv L sk T) (ho : w.ownsRow B 56 2 sk' T'.length (rngs T')) (he : sk'.ownBlock = sk.ownBlock) : St B w0 w R p q a z rv L sk' T' :=
  { h with osk := ho, rs := he ▸ h.rs }

theorem St.setR (h : St B w0 w R p q a z rv L sk T) (hg : w.grownBy w' (some R)) (hr : Blk w' R 56 [.int .i32 a', .int .i32 z']) : St B w0 w' R p q a' z' rv L sk T :=
  have hb : Below B w w' := below_grown hg h.size (fun k e => by injection e with e; have := h.hR; omega)
  { nils := h.nils.below hb h.hB, hB := h.hB, r := hr, fp := h.fp.grown hg (fun e => h.fp.ne_blk h.r (by decide) (by injection e with e; exact e.symm)), fq := h.fq.grown hg (fun e => h.fq.ne_blk h.r (by decide) (by injection e with e; exact e.symm)),
    orv := h.orv.kept hg (.inr (row_blk h.orv h.r (by decide))), osk := h.osk.kept hg (.inr h.rs), sq := fun x hx => (h.sq x hx).grown hg (fun e => (h.sq x hx).ne_ h.r (by decide) (by injection e)), pq := h.pq, rs := h.rs,
    hR := h.hR, hp := h.hp, hq := h.hq, bel := h.bel.trans hb, hw := h.hw }
theorem St.set0 (h : St B w0 w R p q a z rv L sk T) (a' : Int) : St B w0 (w.setCell ⟨R, 0, none⟩ (.int .i32 a')) R p q a' z rv L sk T := h.setR (only_set (World.grownBy.refl w _) _ _) (h.r.set_ 0 _)
theorem St.set1 (h : St B w0 w R p q a z rv L sk T) (z' : Int) : St B w0 (w.setCell ⟨R, 1, none⟩ (.int .i32 z')) R p q a z' rv L sk T := h.setR (only_set (World.grownBy.refl w _) _ _) (h.r.set_ 1 _)

theorem St.app (h : St B w0 w R p q a z rv L sk T) {x : Sq} (hx : Blk w x.1 52 (prvs x.2.2)) (ho : w'.ownsRow B 39 1 rv' (L.length + 1) (L.map seqv ++ [seqv x])) (hg : w.grownBy w' rv.ownBlock) :
    St B w0 w' R p q a z rv' (L ++ [x]) sk T :=
  have hb : Below B w w' := below_grown hg h.size (own_block_ge h.orv)
  { nils := h.nils.below hb h.hB, hB := h.hB, r := h.r.grown hg (fun e => row_blk h.orv h.r (by decide) e.symm), fp := h.fp.grown hg (h.fp.ne_row h.orv (by decide)), fq := h.fq.grown hg (h.fq.ne_row h.orv (by decide)),
    orv := by simpa using ho, osk := h.osk.kept hg (rows_apart h.osk h.orv (by decide)).kept,
    sq := fun y hy => by
      rcases List.mem_append.1 hy with hy | hy
      · exact (h.sq y hy).grown hg (fun e => row_blk h.orv (h.sq y hy) (by decide) e.symm)
      · simp at hy
        subst hy
        exact hx.grown hg (fun e => row_blk h.orv hx (by decide) e.symm)
    pq := h.pq, rs := h.rs, hR := h.hR, hp := h.hp, hq := h.hq, bel := h.bel.trans hb, hw := h.hw }

theorem St.fill {g : Nat} (h : St B w0 w R p q a z rv L sk T) (hg : w.grownBy w' (some g)) (hh : g = p ∨ g = q) (hf : Four w' g) : St B w0 w' R p q a z rv L sk T := by
  have hG : Four w g := by rcases hh with rfl | rfl; exact h.fp; exact h.fq
  have hBg : B ≤ g := by rcases hh with rfl | rfl; exact h.hp; exact h.hq
  have hb : Below B w w' := below_grown hg h.size (fun k e => by injection e with e; omega)
  have hpp : Four w' p := by
    by_cases e : p = g
    · exact e ▸ hf
    · exact h.fp.grown hg (fun e2 => e (by injection e2))
  have hqq : Four w' q := by
    by_cases e : q = g
    · exact e ▸ hf
    · exact h.fq.grown hg (fun e2 => e (by injection e2))
  have hr := h.r.grown hg (fun e => hG.ne_blk h.r (by decide) (Option.some.inj e))
  have hsq : ∀ x ∈ L, Blk w' x.1 52 (prvs x.2.2) := fun x hx => (h.sq x hx).grown hg (fun e => hG.ne_blk (h.sq x hx) (by decide) (Option.some.inj e))
  have hrv := h.orv.kept hg (.inr (fun e => hG.ne_row h.orv (by decide) e.symm))
  have hsk := h.osk.kept hg (.inr (fun e => hG.ne_row h.osk (by decide) e.symm))
  exact { nils := h.nils.below hb h.hB, hB := h.hB, r := hr, fp := hpp, fq := hqq, orv := hrv, osk := hsk, sq := hsq, pq := h.pq, rs := h.rs, hR := h.hR, hp := h.hp, hq := h.hq, bel := h.bel.trans hb, hw := h.hw }
end

/-! ### what is covered -/

def nilR : Int × Int := (65535, 0)
def okR (r : Int × Int) : Prop := 0 ≤ r.1 ∧ r.1 ≤ 1114111 ∧ 0 ≤ r.2 ∧ r.2 ≤ 1114111 ∧ r ≠ nilR ∧ (r.1 ≤ r.2 ∨ 57344 ≤ r.1 ∨ r.2 ≤ 55295)
def cntL (L : List (List (Int × Int))) (b : List Int) : Nat := (L.map fun l => if covB l b then 1 else 0).sum
noncomputable def covT (T : List (Int × Int)) (b : List Int) : Nat := (T.map fun r => cov r.1 r.2 b).sum
theorem cntL_snoc (L : List (List (Int × Int))) (l : List (Int × Int)) (b : List Int) : cntL (L ++ [l]) b = cntL L b + (if covB l b then 1 else 0) := by simp [cntL]
theorem covT_snoc (T : List (Int × Int)) (r : Int × Int) (b : List Int) : covT (T ++ [r]) b = covT T b + cov r.1 r.2 b := by simp [covT]
theorem wgtAll_snoc (T : List (Int × Int)) (r : Int × Int) : wgtAll (T ++ [r]) = wgtAll T + wgt r := by simp [wgtAll]
theorem okR.two {r : Int × Int} (h : okR r) : 2 ≤ wgt r := by
  have hn : ¬ r = (65535, 0) := h.2.2.2.2.1
  unfold wgt
  rw [if_neg hn]
  split <;> omega
theorem len_wgt : ∀ (T : List (Int × Int)), (∀ r ∈ T, okR r) → T.length ≤ wgtAll T
  | [], _ => by simp [wgtAll]
  | r :: T, h => by
    have h1 := len_wgt T (fun x hx => h x (by simp [hx]))
    have h2 := (h r (by simp)).two
    simp only [wgtAll, List.map_cons, List.sum_cons, List.length_cons] at h1 ⊢
    omega

/-- what the sequences and the ranges cover together; X: what the range at hand covers, m: its weight -/
structure Cv (fr to : Int) (L : List (List (Int × Int))) (T : List (Int × Int)) (X : List Int → Nat) (m : Nat) : Prop where
  all : ∀ b, cntL L b + X b + covT T b = cov fr to b
  ok : ∀ r ∈ T, okR r
  len : ∀ l ∈ L, 1 ≤ l.length ∧ l.length ≤ 4
  wt : L.length + m + wgtAll T ≤ 8912895
/-- .. with a range at hand -/
structure Inv (fr to : Int) (L : List (List (Int × Int))) (T : List (Int × Int)) (r : Int × Int) : Prop where
  cv : Cv fr to L T (cov r.1 r.2) (wgt r)
  cur : (r = nilR ∧ T = []) ∨ okR r
/-- .. without one: the next one is taken from the stack -/
abbrev InvP (fr to : Int) (L : List (List (Int × Int))) (T : List (Int × Int)) : Prop := Cv fr to L T (fun _ => 0) 0
def mu (r : Int × Int) (T : List (Int × Int)) : Nat := wgt r + wgtAll T

section
variable {fr to a z : Int} {L : List (List (Int × Int))} {T : List (Int × Int)} {r : Int × Int} {X : List Int → Nat} {m : Nat}
theorem Cv.tlen (h : Cv fr to L T X m) : T.length ≤ 8912895 := by
  have := len_wgt T h.ok
  have := h.wt
  omega
theorem Cv.llen (h : Cv fr to L T X m) : L.length ≤ 8912895 := by
  have := h.wt
  omega
theorem inv_start (h0 : 0 ≤ fr) (h1 : fr ≤ to) (h2 : to ≤ 1114111) : Inv fr to [] [] (fr, to) := by
  refine ⟨⟨fun b => by simp [cntL, covT], fun r hr => by simp at hr, fun l hl => by simp at hl, ?_⟩, .inr ⟨h0, by omega, by omega, h2, ?_, .inl h1⟩⟩
  · simp only [wgtAll, wgt, List.map_nil, List.sum_nil, List.length_nil]
    split
    · omega
    · split <;> omega
  · intro e
    unfold nilR at e
    injection e
    omega
theorem Inv.ok (h : Inv fr to L T r) (hne : r ≠ nilR) : okR r := h.cur.resolve_left (fun e => hne e.1)
theorem inv_cut (h : Inv fr to L T (a, z)) (hne : (a, z) ≠ nilR) (k : Int) (h1 : a ≤ k) (h2 : k < z) : Inv fr to L (T ++ [(k + 1, z)]) (a, k) ∧ mu (a, k) (T ++ [(k + 1, z)]) < mu (a, z) T := by
  obtain ⟨o0, o1, o2, o3, o4, o5⟩ := h.ok hne
  simp only at o0 o1 o2 o3 o5
  have hw := wgt_cut a k z h1 h2
  refine ⟨⟨⟨fun b => ?_, fun r hr => ?_, h.cv.len, ?_⟩, .inr ⟨o0, o1, by simp; omega, by simp; omega, fun e => ?_, .inl h1⟩⟩, ?_⟩
  · have := h.cv.all b
    have := cov_cut a k z b (by omega) (by omega)
    rw [covT_snoc]
    simp only at *
    omega
  · rcases List.mem_append.1 hr with hr | hr
    · exact h.cv.ok r hr
    · simp at hr
      subst hr
      refine ⟨by simp; omega, by simp; omega, o2, o3, fun e => ?_, .inl (by simp; omega)⟩
      unfold nilR at e
      injection e
      omega
  · have := h.cv.wt
    rw [wgtAll_snoc]
    omega
  · unfold nilR at e
    injection e
    omega
  · unfold mu
    rw [wgtAll_snoc]
    omega
theorem inv_split (h : Inv fr to L T (a, z)) (hne : (a, z) ≠ nilR) (h1 : a < 57344) (h2 : 55295 < z) : Inv fr to L (T ++ [(57344, z)]) (a, 55295) ∧ mu (a, 55295) (T ++ [(57344, z)]) < mu (a, z) T := by
  obtain ⟨o0, o1, o2, o3, o4, o5⟩ := h.ok hne
  simp only at o0 o1 o2 o3 o5
  have hw := wgt_split a z (by omega) h1 h2
  refine ⟨⟨⟨fun b => ?_, fun r hr => ?_, h.cv.len, ?_⟩, .inr ⟨o0, o1, by simp, by simp, fun e => ?_, .inr (.inr (by simp))⟩⟩, ?_⟩
  · have := h.cv.all b
    have := cov_split a z b (by omega) (by omega)
    rw [covT_snoc]
    simp only at *
    omega
  · rcases List.mem_append.1 hr with hr | hr
    · exact h.cv.ok r hr
    · simp at hr
      subst hr
      refine ⟨by simp, by simp, o2, o3, fun e => ?_, .inr (.inl (by simp))⟩
      unfold nilR at e
      injection e
      omega
  · have := h.cv.wt
    rw [wgtAll_snoc]
    omega
  · unfold nilR at e
    injection e
    omega
  · unfold mu
    rw [wgtAll_snoc]
    omega
theorem inv_drop (h : Inv fr to L T (a, z)) (hza : z < a) : InvP fr to L T := by
  refine ⟨fun b => ?_, h.cv.ok, h.cv.len, ?_⟩
  · have := h.cv.all b
    rw [cov_empty a z b hza] at this
    exact this
  · have := h.cv.wt
    omega
theorem inv_add (h : Inv fr to L T (a, z)) (hne : (a, z) ≠ nilR) (l : List (Int × Int)) (hl : 1 ≤ l.length ∧ l.length ≤ 4) (hc : ∀ b, covB l b = true ↔ InR a z b) : InvP fr to (L ++ [l]) T := by
  have hw := (h.ok hne).two
  refine ⟨fun b => ?_, h.cv.ok, fun x hx => ?_, ?_⟩
  · have h1 := h.cv.all b
    have h2 : (if covB l b = true then 1 else 0) = cov a z b := by
      unfold cov
      by_cases hb : covB l b = true
      · rw [if_pos hb, if_pos ((hc b).1 hb)]
      · rw [if_neg hb, if_neg (fun e => hb ((hc b).2 e))]
    rw [cntL_snoc, h2]
    simp only at h1 ⊢
    omega
  · rcases List.mem_append.1 hx with hx | hx
    · exact h.cv.len x hx
    · simp at hx
      subst hx
      exact hl
  · have := h.cv.wt
    simp only [List.length_append, List.length_cons, List.length_nil]
    omega
theorem inv_pop (h : InvP fr to L (T ++ [r])) : Inv fr to L T r ∧ mu r T = wgtAll (T ++ [r]) := by
  refine ⟨⟨⟨fun b => ?_, fun x hx => h.ok x (by simp [hx]), h.len, ?_⟩, .inr (h.ok r (by simp))⟩, ?_⟩
  · have := h.all b
    rw [covT_snoc] at this
    omega
  · have := h.wt
    rw [wgtAll_snoc] at this
    omega
  · rw [wgtAll_snoc]
    unfold mu
    omega
theorem inv_pop0 (h : InvP fr to L []) : Inv fr to L [] nilR ∧ mu nilR [] = 0 := by
  have hw : wgt nilR = 0 := by unfold wgt nilR; simp
  refine ⟨⟨⟨fun b => ?_, h.ok, h.len, ?_⟩, .inl ⟨rfl, rfl⟩⟩, ?_⟩
  · have := h.all b
    rw [show cov nilR.1 nilR.2 b = 0 from cov_empty _ _ _ (by unfold nilR; simp)]
    exact this
  · have := h.wt
    omega
  · unfold mu
    rw [hw]
    rfl
theorem inv_end (h : Inv fr to L T nilR) (b : List Int) : cntL L b = cov fr to b := by
  rcases h.cur with ⟨_, rfl⟩ | h1
  · have := h.cv.all b
    rw [show cov nilR.1 nilR.2 b = 0 from cov_empty _ _ _ (by unfold nilR; simp)] at this
    simpa [covT] using this
  · exact absurd rfl h1.2.2.2.2.1
theorem mu_pop (h : Inv fr to L T (a, z)) (hne : (a, z) ≠ nilR) : wgtAll T < mu (a, z) T := by
  have := (h.ok hne).two
  unfold mu
  omega
end

end Go.Proofs.YtobcgeonobgjpaaDoor
