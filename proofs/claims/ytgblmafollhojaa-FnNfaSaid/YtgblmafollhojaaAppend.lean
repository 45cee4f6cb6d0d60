/-
  append to one of several rows of the call's own. Conditions: as stated.
-/
import Derived.Test.YtgblmafollhojaaBase
import Derived.Maps.AppendAt
namespace Go.Proofs.Ytgblmafollhojaa
open Go.ChangeShapes Go.WideShapes Go.ChangeAt Go.RowKit
set_option linter.unusedVariables false

/-- append of one element that has just been laid in a block of its own; where the row lies then -/
theorem append1_at {P : Program} {ops : Array Oper} {rest : List Oper} {o : Oper} {a : Act} {Q : Exit → Act → World → Prop} (W : World) (cs : Array Value) (hgd : o.guard = none) (s x : Operand) (t : TypeId)
    (ho : o.op = .call { callee := .builtin .append, args := #[s, x], argTypes := #[t, t] })
    (base : Nat) (e : TypeId) (i : TypeInfo) (z : Value) (size bytes : Nat) (ht : P.underlying t = some (.slice e)) (hi : P.info? e = some i) (hz : i.zero = some z)
    (hsize : i.size = size) (hby : i.bytes = bytes) (hzs : z.cells.size = size) (hsz : 0 < size) (hcs : cs.size = size)
    (v : Value) (n : Nat) (xs : List Value) (hs : a.eval s = v) (hown : W.ownsRow base e size v n xs)
    (N : Nat) (hN : W.heap.size = N) (hx : a.eval x = .slice (some ⟨N, 0, none⟩) 1 1) (h1 : ∀ u ∈ cs.toList, u.oneCell' = true)
    (h63 : n + 1 ≤ maxLen) (hbytes : (n + 1) * bytes ≤ 140737488355328) (hbase : base ≤ W.heap.size)
    (h : ∀ v' w', w'.ownsRow base e size v' (n + 1) (xs ++ cs.toList) → W.grownBy w' v.ownBlock → v' ≠ .slice none 0 0 → (∀ k, v'.ownBlock = some k → v.ownBlock = some k ∨ W.heap.size ≤ k) → wpList P ops Q rest (a.put o.dst v') w') : wpList P ops Q (o :: rest) a (W.alloc (.cells cs e)) := by
  subst hN
  have hb : (W.alloc (.cells cs e)).heap[W.heap.size]? = some (.cells cs e (0, 0)) := heap_alloc_new W _
  refine wpList_append_own_at (W.alloc (.cells cs e)) hgd s x t ho base e i z size bytes ht hi hz hsize hby hzs hsz v n xs hs (hown.alloc _) ⟨W.heap.size, 0, none⟩ 1 1 cs.toList hx (by simpa using hcs) ?_ h1 h63 hbytes (by simp; omega) ?_
  · intro j u hu
    have hj : ((⟨W.heap.size, 0, none⟩ : Addr).add j) = ⟨W.heap.size, j, none⟩ := by
      unfold Addr.add
      by_cases h0 : j = 0 <;> simp [h0]
    rw [hj, cell_of_row _ _ j cs e (0, 0) hb, ← Array.getElem?_toList]
    exact hu
  · intro v' w' hown' hg hne hat
    refine h v' w' hown' ⟨hg.os, hg.tape, hg.output, Nat.le_trans (by simp) hg.size, fun k hk hne' => ?_⟩ (fun e => ?_) (fun k hk => ?_)
    · exact (hg.block k (by simp; omega) hne').trans (Below.heap_alloc W _ k hk)
    · have := (hne.1 e).2
      omega
    · rcases hat with hat | hat
      · exact Or.inl (hat ▸ hk)
      · rw [hk] at hat
        injection hat with hat
        exact Or.inr (by rw [hat]; simp)

theorem own_block_lt {w : World} {base : Nat} {e : TypeId} {size n : Nat} {v : Value} {xs : List Value} (h : w.ownsRow base e size v n xs) : ∀ k, v.ownBlock = some k → k < w.heap.size := by
  intro k hk
  rcases h.2 with ⟨rfl, rfl⟩ | ⟨g, cap, cur, rfl, hg, hh, _⟩
  · simp [Value.ownBlock] at hk
  · simp [Value.ownBlock] at hk
    subst hk
    exact (Array.getElem?_eq_some_iff.1 hh).1

/-- two rows that do not lie in one block -/
def Apart (u v : Value) : Prop := ∀ k, u.ownBlock = some k → v.ownBlock ≠ some k
theorem Apart.symm {u v : Value} (h : Apart u v) : Apart v u := fun k hk e => h k e hk
theorem Apart.none_ {v : Value} : Apart (.slice none 0 0) v := fun k hk => by simp [Value.ownBlock] at hk
/-- u's row stands where v's grows -/
theorem Apart.kept {u v : Value} (h : Apart u v) : u.ownBlock = none ∨ u.ownBlock ≠ v.ownBlock := by
  cases hu : u.ownBlock with
  | none => exact Or.inl rfl
  | some k => exact Or.inr (fun e => h k hu e.symm)
theorem Apart.next {u v v' : Value} {n : Nat} (h : Apart u v) (hu : ∀ k, u.ownBlock = some k → k < n) (hv : ∀ k, v'.ownBlock = some k → v.ownBlock = some k ∨ n ≤ k) : Apart u v' := fun k hk e => by
  rcases hv k e with h1 | h1
  · exact h k hk h1
  · have := hu k hk
    omega

/-- three rows of the call's own, apart from each other -/
structure R3 (w : World) (B : Nat) (e : TypeId) (v1 v2 v3 : Value) (n1 n2 n3 : Nat) (x1 x2 x3 : List Value) : Prop where
  o1 : w.ownsRow B e 1 v1 n1 x1
  o2 : w.ownsRow B e 1 v2 n2 x2
  o3 : w.ownsRow B e 1 v3 n3 x3
  p12 : Apart v1 v2
  p13 : Apart v1 v3
  p23 : Apart v2 v3

theorem grown_none {w w' : World} (h : Below w.heap.size w w') : w.grownBy w' none := ⟨h.os, h.tape, h.output, h.size, fun k hk _ => h.block k hk⟩
theorem own_below {w w' : World} {B : Nat} {e : TypeId} {size n : Nat} {v : Value} {xs : List Value} (o : w.ownsRow B e size v n xs) (h : Below w.heap.size w w') : w'.ownsRow B e size v n xs :=
  o.kept (grown_none h) (by cases v.ownBlock <;> simp)

section
variable {w w' : World} {B : Nat} {e : TypeId} {v1 v2 v3 v : Value} {n1 n2 n3 : Nat} {x1 x2 x3 y : List Value}
theorem R3.below (h : R3 w B e v1 v2 v3 n1 n2 n3 x1 x2 x3) (hb : Below w.heap.size w w') : R3 w' B e v1 v2 v3 n1 n2 n3 x1 x2 x3 :=
  ⟨own_below h.o1 hb, own_below h.o2 hb, own_below h.o3 hb, h.p12, h.p13, h.p23⟩
theorem R3.app1 (h : R3 w B e v1 v2 v3 n1 n2 n3 x1 x2 x3) (ho : w'.ownsRow B e 1 v (n1 + 1) (x1 ++ y)) (hg : w.grownBy w' v1.ownBlock) (hat : ∀ k, v.ownBlock = some k → v1.ownBlock = some k ∨ w.heap.size ≤ k) :
    R3 w' B e v v2 v3 (n1 + 1) n2 n3 (x1 ++ y) x2 x3 :=
  ⟨ho, h.o2.kept hg h.p12.symm.kept, h.o3.kept hg h.p13.symm.kept, (h.p12.symm.next (own_block_lt h.o2) hat).symm, (h.p13.symm.next (own_block_lt h.o3) hat).symm, h.p23⟩
theorem R3.app2 (h : R3 w B e v1 v2 v3 n1 n2 n3 x1 x2 x3) (ho : w'.ownsRow B e 1 v (n2 + 1) (x2 ++ y)) (hg : w.grownBy w' v2.ownBlock) (hat : ∀ k, v.ownBlock = some k → v2.ownBlock = some k ∨ w.heap.size ≤ k) :
    R3 w' B e v1 v v3 n1 (n2 + 1) n3 x1 (x2 ++ y) x3 :=
  ⟨h.o1.kept hg h.p12.kept, ho, h.o3.kept hg h.p23.symm.kept, h.p12.next (own_block_lt h.o1) hat, h.p13, (h.p23.symm.next (own_block_lt h.o3) hat).symm⟩
theorem R3.app3 (h : R3 w B e v1 v2 v3 n1 n2 n3 x1 x2 x3) (ho : w'.ownsRow B e 1 v (n3 + 1) (x3 ++ y)) (hg : w.grownBy w' v3.ownBlock) (hat : ∀ k, v.ownBlock = some k → v3.ownBlock = some k ∨ w.heap.size ≤ k) :
    R3 w' B e v1 v2 v n1 n2 (n3 + 1) x1 x2 (x3 ++ y) :=
  ⟨h.o1.kept hg h.p13.kept, h.o2.kept hg h.p23.kept, ho, h.p12, h.p13.next (own_block_lt h.o1) hat, h.p23.next (own_block_lt h.o2) hat⟩
end

end Go.Proofs.Ytgblmafollhojaa
