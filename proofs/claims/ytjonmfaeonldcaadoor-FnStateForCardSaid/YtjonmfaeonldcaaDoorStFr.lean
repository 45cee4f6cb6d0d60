/-
  FnStateFor: a frame: which blocks stand. Conditions: none.
-/
import Derived.Test.YtjonmfaeonldcaaDoorStP
import Derived.Handy
namespace Go.Proofs.YtjonmfaeonldcaaDoor.fnStateFor
open Go.ChangeShapes Go.WideShapes Go.ChangeAt Go.RowKit
set_option linter.unusedVariables false

/-! a frame: the blocks that are not of O stand -/
structure Fr (O : Nat → Prop) (w w' : World) : Prop where
  os : w'.os = w.os
  tape : w'.tape = w.tape
  output : w'.output = w.output
  size : w.heap.size ≤ w'.heap.size
  block : ∀ k, k < w.heap.size → ¬ O k → w'.heap[k]? = w.heap[k]?
section
variable {O O' : Nat → Prop} {a w w' w2 : World}
theorem Fr.refl (O : Nat → Prop) (w : World) : Fr O w w := ⟨rfl, rfl, rfl, Nat.le_refl _, fun _ _ _ => rfl⟩
theorem Fr.trans (h : Fr O w w') (h2 : Fr O' w' w2) (hs : ∀ k, k < w.heap.size → O' k → O k) : Fr O w w2 :=
  ⟨h2.os.trans h.os, h2.tape.trans h.tape, h2.output.trans h.output, Nat.le_trans h.size h2.size, fun k hk hn => (h2.block k (Nat.lt_of_lt_of_le hk h.size) (fun e => hn (hs k hk e))).trans (h.block k hk hn)⟩
theorem Fr.mono (h : Fr O w w') (hs : ∀ k, k < w.heap.size → O k → O' k) : Fr O' w w' := ⟨h.os, h.tape, h.output, h.size, fun k hk hn => h.block k hk (fun e => hn (hs k hk e))⟩
theorem Fr.of_below (h : Below w.heap.size w w') : Fr O w w' := ⟨h.os, h.tape, h.output, h.size, fun k hk _ => h.block k hk⟩
theorem Fr.of_grown {row : Option Nat} (h : w.grownBy w' row) (hr : ∀ k, row = some k → O k) : Fr O w w' := ⟨h.os, h.tape, h.output, h.size, fun k hk hn => h.block k hk (fun e => hn (hr k e.symm))⟩
theorem Fr.set (h : Fr O a w) (p : Addr) (u : Value) (hp : O p.block) : Fr O a (w.setCell p u) :=
  ⟨h.os, h.tape, h.output, by simpa [World.setCell] using h.size, fun k hk hn => (Below.heap_setCell w p u k (by rintro rfl; exact hn hp)).trans (h.block k hk hn)⟩
theorem Fr.drew (h : Fr O a w) : Fr O a w.drew := ⟨h.os, h.tape, h.output, h.size, h.block⟩
theorem Fr.drewN (h : Fr O a w) (n : Nat) : Fr O a (w.drewN n) := ⟨h.os, h.tape, h.output, h.size, h.block⟩
theorem Fr.alloc (h : Fr O a w) (o : Obj) : Fr O a (w.alloc o) := ⟨h.os, h.tape, h.output, Nat.le_trans h.size (by simp), fun k hk hn => (Below.heap_alloc w o k (Nat.lt_of_lt_of_le hk h.size)).trans (h.block k hk hn)⟩
theorem Fr.setCells (h : Fr O a w) (g : Nat) (hg : O g) : ∀ (vs : List Value) (o : Nat), Fr O a (w.setCells g o vs) := fun vs => by
  induction vs generalizing w with
  | nil => exact fun _ => h
  | cons v vs ih => exact fun o => ih (h.set ⟨g, o, none⟩ v hg) (o + 1)
theorem Fr.below {B : Nat} (h : Fr O w w') (hB : ∀ k, k < B → ¬ O k) (hs : B ≤ w.heap.size) : Below B w w' := ⟨h.os, h.tape, h.output, h.size, fun k hk => h.block k (by omega) (hB k hk)⟩
theorem Fr.blk {g : Nat} {t : TypeId} {l : List Value} (h : Fr O w w') (hb : Blk w g t l) (hg : ¬ O g) : Blk w' g t l := (h.block g hb.lt hg).trans hb
theorem Fr.own {B : Nat} {e : TypeId} {size n : Nat} {v : Value} {xs : List Value} (h : Fr O w w') (o : w.ownsRow B e size v n xs) (hv : ∀ k, v.ownBlock = some k → ¬ O k) : w'.ownsRow B e size v n xs := by
  rcases o with ⟨h1, h2 | ⟨g, c, cur, rfl, h3, h4, h5⟩⟩
  · exact ⟨h1, .inl h2⟩
  · exact ⟨h1, .inr ⟨g, c, cur, rfl, h3, (h.block g (Array.getElem?_eq_some_iff.1 h4).1 (hv g rfl)).trans h4, h5⟩⟩
theorem Fr.sl {B : Nat} {x : Option Addr} {xs : List Value} (h : Fr O w w') (hx : Sl w B x xs) (hB : ∀ a, x = some a → ¬ O a.block) (hs : B ≤ w.heap.size) : Sl w' B x xs := fun j v hv => by
  obtain ⟨ad, e, hb, hc⟩ := hx j v hv
  refine ⟨ad, e, hb, ?_⟩
  rw [World.cell?_of_block (w := w)]
  · exact hc
  · exact h.block _ (by rw [block_add]; omega) (by rw [block_add]; exact hB ad e)
end

/-! the writer -/
def by8 (l : List Int) : List Value := l.map (.int .u8)
theorem by8_len (l : List Int) : (by8 l).length = l.length := by simp [by8]

section
variable {W : World}
theorem row_ne {B : Nat} {e : TypeId} {k n g : Nat} {v : Value} {xs : List Value} {t : TypeId} {l : List Value} (h : W.ownsRow B e k v n xs) (hb : Blk W g t l) (hne : e ≠ t) : v.ownBlock ≠ some g := by
  intro hv
  rcases h.2 with ⟨rfl, -⟩ | ⟨g1, c1, r1, rfl, -, hh1, -⟩
  · simp [Value.ownBlock] at hv
  · simp [Value.ownBlock] at hv
    subst hv
    unfold Blk at hb
    rw [hh1] at hb
    injection hb with hb
    injection hb with _ ht
    exact hne ht
theorem own_set {B : Nat} {e : TypeId} {size n : Nat} {v : Value} {xs : List Value} (o : W.ownsRow B e size v n xs) (p : Addr) (u : Value) (hp : v.ownBlock ≠ some p.block) : (W.setCell p u).ownsRow B e size v n xs :=
  ((Fr.refl (fun k => k = p.block) W).set p u rfl).own o (fun k hk e => hp (e ▸ hk))
end

end Go.Proofs.YtjonmfaeonldcaaDoor.fnStateFor
