/-
  FnStateFor: the buffered writer over a bytes.Buffer: how it lies in memory, and how it goes on. Conditions: none.
-/
import Derived.Test.YtjonmfaeonldcaaDoorStE
import Derived.Handy
namespace Go.Proofs.YtjonmfaeonldcaaDoor.fnStateFor
open Go.ChangeShapes Go.WideShapes Go.ChangeAt Go.RowKit
set_option linter.unusedVariables false

/-! the writer -/
/-- the blocks of the writer: the buffer's struct, the writer's, the bufio.Writer's, its 4096 bytes -/
structure Wb where
  (b w f u : Nat)
def Own (x : Wb) (rv : Value) (k : Nat) : Prop := k = x.b ∨ k = x.w ∨ k = x.f ∨ k = x.u ∨ rv.ownBlock = some k

/-- the writer lies so: rv: the Buffer's bytes fl; bu: what is buffered -/
structure En0 (W : World) (x : Wb) (rv : Value) (fl bu rest : List Int) (cnt : Int) : Prop where
  bf : Bf W x.b rv fl
  w : Blk W x.w 97 [.pointer (some ⟨x.f, 0, none⟩), .int .i64 cnt]
  f : Blk W x.f 115 [.nilIface, .slice (some ⟨x.u, 0, none⟩) 4096 4096, .int .i64 bu.length, .iface 55 (.pointer (some ⟨x.b, 0, none⟩))]
  u : Blk W x.u 5 (by8 (bu ++ rest))
  len : bu.length + rest.length = 4096
  ru : rv.ownBlock ≠ some x.u

section
variable {W W' : World} {x : Wb} {rv rv' : Value} {fl bu rest : List Int} {cnt : Int}
theorem En0.b (h : En0 W x rv fl bu rest cnt) : ∃ lr : Int, Blk W x.b 52 [rv, .int .i64 0, .int .i8 lr] := h.bf.s
theorem En0.row (h : En0 W x rv fl bu rest cnt) : W.ownsRow 0 5 1 rv fl.length (by8 fl) := h.bf.row
theorem En0.bw (h : En0 W x rv fl bu rest cnt) : x.b ≠ x.w := by obtain ⟨lr, hb⟩ := h.b; exact hb.ne_ h.w (by decide)
theorem En0.bf_ (h : En0 W x rv fl bu rest cnt) : x.b ≠ x.f := by obtain ⟨lr, hb⟩ := h.b; exact hb.ne_ h.f (by decide)
theorem En0.bu_ (h : En0 W x rv fl bu rest cnt) : x.b ≠ x.u := by obtain ⟨lr, hb⟩ := h.b; exact hb.ne_ h.u (by decide)
theorem En0.wf (h : En0 W x rv fl bu rest cnt) : x.w ≠ x.f := h.w.ne_ h.f (by decide)
theorem En0.wu (h : En0 W x rv fl bu rest cnt) : x.w ≠ x.u := h.w.ne_ h.u (by decide)
theorem En0.fu (h : En0 W x rv fl bu rest cnt) : x.f ≠ x.u := h.f.ne_ h.u (by decide)
theorem En0.rb (h : En0 W x rv fl bu rest cnt) : rv.ownBlock ≠ some x.b := by obtain ⟨lr, hb⟩ := h.b; exact row_ne h.row hb (by decide)
theorem En0.rw_ (h : En0 W x rv fl bu rest cnt) : rv.ownBlock ≠ some x.w := row_ne h.row h.w (by decide)
theorem En0.rf (h : En0 W x rv fl bu rest cnt) : rv.ownBlock ≠ some x.f := row_ne h.row h.f (by decide)
theorem En0.lt (h : En0 W x rv fl bu rest cnt) (k : Nat) (hk : Own x rv k) : k < W.heap.size := by
  rcases hk with rfl | rfl | rfl | rfl | hk
  · obtain ⟨lr, hb⟩ := h.b; exact hb.lt
  · exact h.w.lt
  · exact h.f.lt
  · exact h.u.lt
  · rcases h.row.2 with ⟨rfl, -⟩ | ⟨g1, c1, r1, rfl, -, hh1, -⟩
    · simp [Value.ownBlock] at hk
    · simp [Value.ownBlock] at hk
      subst hk
      exact (Array.getElem?_eq_some_iff.1 hh1).1
/-- what leaves the own blocks alone -/
theorem En0.keep {O : Nat → Prop} (h : En0 W x rv fl bu rest cnt) (hf : Fr O W W') (hO : ∀ k, Own x rv k → ¬ O k) : En0 W' x rv fl bu rest cnt := by
  obtain ⟨lr, hb⟩ := h.b
  exact { bf := ⟨⟨lr, hf.blk hb (hO _ (.inl rfl))⟩, hf.own h.row (fun k hk => hO k (.inr (.inr (.inr (.inr hk))))), h.bf.z⟩, w := hf.blk h.w (hO _ (.inr (.inl rfl))), f := hf.blk h.f (hO _ (.inr (.inr (.inl rfl)))), u := hf.blk h.u (hO _ (.inr (.inr (.inr (.inl rfl))))), len := h.len, ru := h.ru }
theorem En0.drewN (h : En0 W x rv fl bu rest cnt) (n : Nat) : En0 (W.drewN n) x rv fl bu rest cnt := h.keep (O := fun _ => False) ((Fr.refl _ _).drewN n) (fun _ _ h => h)
/-- a byte is put behind what is buffered -/
theorem En0.put {r : Int} (h : En0 W x rv fl bu (r :: rest) cnt) (c : Int) : En0 ((W.setCell ⟨x.u, bu.length, none⟩ (.int .u8 c)).setCell ⟨x.f, 2, none⟩ (.int .i64 ((bu ++ [c]).length : Nat))) x rv fl (bu ++ [c]) rest cnt := by
  obtain ⟨lr, hb⟩ := h.b
  refine { bf := ⟨⟨lr, (hb.far h.bu_ _).far h.bf_ _⟩, own_set (own_set h.row _ _ h.ru) _ _ h.rf, h.bf.z⟩, w := (h.w.far h.wu _).far h.wf _, f := ?_, u := ?_, len := by have := h.len; simp at this ⊢; omega, ru := h.ru }
  · exact (h.f.far h.fu _).set_ 2 _
  · have h1 := h.u.set_ bu.length (.int .u8 c)
    have e : (by8 (bu ++ r :: rest)).set bu.length (.int .u8 c) = by8 (bu ++ [c] ++ rest) := by simp [by8]
    rw [e] at h1
    exact h1.far (fun e => h.fu e.symm) _
theorem En0.count (h : En0 W x rv fl bu rest cnt) (n : Int) : En0 (W.setCell ⟨x.w, 1, none⟩ (.int .i64 n)) x rv fl bu rest n := by
  obtain ⟨lr, hb⟩ := h.b
  exact { bf := ⟨⟨lr, hb.far h.bw _⟩, own_set h.row _ _ h.rw_, h.bf.z⟩, w := h.w.set_ 1 _, f := h.f.far (fun e => h.wf e.symm) _, u := h.u.far (fun e => h.wu e.symm) _, len := h.len, ru := h.ru }
end

/-- how the writer has gone on: its own blocks are of the old ones or new -/
structure Ev (x : Wb) (W : World) (rv : Value) (W' : World) (rv' : Value) : Prop where
  fr : Fr (Own x rv) W W'
  sub : ∀ k, rv'.ownBlock = some k → rv.ownBlock = some k ∨ W.heap.size ≤ k
theorem Ev.refl (x : Wb) (W : World) (rv : Value) : Ev x W rv W rv := ⟨Fr.refl _ _, fun k h => .inl h⟩
theorem Ev.refl_fr {x : Wb} {W W' : World} {rv : Value} (h : Fr (Own x rv) W W') : Ev x W rv W' rv := ⟨h, fun k h => .inl h⟩
theorem Ev.trans {x : Wb} {a b c : World} {u v t : Value} (h : Ev x a u b v) (h2 : Ev x b v c t) : Ev x a u c t :=
  ⟨h.fr.trans h2.fr (fun k hk hO => by
    rcases hO with e | e | e | e | e
    · exact .inl e
    · exact .inr (.inl e)
    · exact .inr (.inr (.inl e))
    · exact .inr (.inr (.inr (.inl e)))
    · rcases h.sub k e with e | e
      · exact .inr (.inr (.inr (.inr e)))
      · omega), fun k hk => by
    rcases h2.sub k hk with e | e
    · exact h.sub k e
    · exact .inr (Nat.le_trans h.fr.size e)⟩
theorem Ev.fr_ {x : Wb} {W W' W2 : World} {rv rv' : Value} (h : Ev x W rv W' rv') (h2 : Fr (Own x rv') W' W2) : Ev x W rv W2 rv' := h.trans ⟨h2, fun k hk => .inl hk⟩
/-- a block that is not the writer's stands, and is not the writer's -/
theorem Ev.blk {x : Wb} {W W' : World} {rv rv' : Value} {g : Nat} {t : TypeId} {l : List Value} (h : Ev x W rv W' rv') (hb : Blk W g t l) (hn : ¬ Own x rv g) : Blk W' g t l ∧ ¬ Own x rv' g :=
  ⟨h.fr.blk hb hn, fun hO => hn (by
    rcases hO with e | e | e | e | e
    · exact .inl e
    · exact .inr (.inl e)
    · exact .inr (.inr (.inl e))
    · exact .inr (.inr (.inr (.inl e)))
    · rcases h.sub g e with e | e
      · exact .inr (.inr (.inr (.inr e)))
      · have := hb.lt; omega)⟩

/-- the writer has taken the bytes out -/
def En (W : World) (x : Wb) (rv : Value) (out : List Int) : Prop := ∃ fl bu rest, out = fl ++ bu ∧ En0 W x rv fl bu rest (out.length : Nat)

/-- a call at the writer: it takes bytes, and ends so -/
def Wr (x : Wb) (W : World) (rv : Value) (out : List Int) (r : Value) (e : Ending) (W' : World) : Prop := ∃ rv', e = .returned r ∧ En W' x rv' out ∧ Ev x W rv W' rv'
/-- the same of bufio.Writer alone: the number of bytes is not counted yet -/
def Wr0 (x : Wb) (W : World) (rv : Value) (out : List Int) (cnt : Int) (r : Value) (e : Ending) (W' : World) : Prop := ∃ rv' fl bu rest, e = .returned r ∧ out = fl ++ bu ∧ En0 W' x rv' fl bu rest cnt ∧ Ev x W rv W' rv'

end Go.Proofs.YtjonmfaeonldcaaDoor.fnStateFor
