/-
  append to one of several rows of the call's own, in a region that draws its order. Conditions: as stated.
-/
import Derived.Test.YtobcgeonobgjpaaDoorAppend
import Derived.Deep.AppendLies
namespace Go.Proofs.YtobcgeonobgjpaaDoor
open Go.ChangeShapes Go.WideShapes Go.ChangeAt Go.RowKit
set_option linter.unusedVariables false

/-- append of one element that has just been laid in a block of its own; where the row lies then -/
theorem step_append1 {P : Program} {ops : Array Oper} {o : Oper} {a : Act} {K : Act → World → Prop} {Q : Exit → Act → World → Prop} {E : Prop} (W : World) (cs : Array Value) (hgd : o.guard = none) (s x : Operand) (t : TypeId)
    (ho : o.op = .call { callee := .builtin .append, args := #[s, x], argTypes := #[t, t] })
    (base : Nat) (e : TypeId) (i : TypeInfo) (z : Value) (size bytes : Nat) (ht : P.underlying t = some (.slice e)) (hi : P.info? e = some i) (hz : i.zero = some z)
    (hsize : i.size = size) (hby : i.bytes = bytes) (hzs : z.cells.size = size) (hsz : 0 < size) (hcs : cs.size = size)
    (v : Value) (n : Nat) (xs : List Value) (hs : a.eval s = v) (hown : W.ownsRow base e size v n xs)
    (N : Nat) (hN : W.heap.size = N) (hx : a.eval x = .slice (some ⟨N, 0, none⟩) 1 1) (h1 : ∀ u ∈ cs.toList, u.oneCell' = true)
    (h63 : n + 1 ≤ maxLen) (hbytes : (n + 1) * bytes ≤ 140737488355328) (hbase : base ≤ W.heap.size)
    (h : ∀ g cap w', w'.ownsRow base e size (.slice (some ⟨g, 0, none⟩) (n + 1) cap) (n + 1) (xs ++ cs.toList) → W.grownBy w' v.ownBlock → (∀ k, (Value.slice (some ⟨g, 0, none⟩) (n + 1) cap).ownBlock = some k → v.ownBlock = some k ∨ W.heap.size ≤ k) → K (a.put o.dst (.slice (some ⟨g, 0, none⟩) (n + 1) cap)) w') :
    if Region.wanted o (yielded ops a.tmps) = true then Oper.wp P o a (W.alloc (.cells cs e)) K Q else E := by
  subst hN
  have hb : (W.alloc (.cells cs e)).heap[W.heap.size]? = some (.cells cs e (0, 0)) := heap_alloc_new W _
  refine step_append_lies (W.alloc (.cells cs e)) hgd s x t ho base e i z size bytes ht hi hz hsize hby hzs hsz v n xs hs (hown.alloc _) ⟨W.heap.size, 0, none⟩ 1 1 cs.toList hx (by simpa using hcs) ?_ h1 (by omega) h63 hbytes (by simp; omega) _ rfl ?_
  · intro j u hu
    have hj : ((⟨W.heap.size, 0, none⟩ : Addr).add j) = ⟨W.heap.size, j, none⟩ := by
      unfold Addr.add
      by_cases h0 : j = 0 <;> simp [h0]
    rw [hj, cell_of_row _ _ j cs e (0, 0) hb, ← Array.getElem?_toList]
    exact hu
  · intro g cap w' hown' hg hat _
    refine h g cap w' hown' ⟨hg.os, hg.tape, hg.output, Nat.le_trans (by simp) hg.size, fun k hk hne' => ?_⟩ (fun k hk => ?_)
    · exact (hg.block k (by simp; omega) hne').trans (Below.heap_alloc W _ k hk)
    · simp [Value.ownBlock] at hk
      subst hk
      rcases hat with hat | hat
      · exact Or.inl hat
      · exact Or.inr (by rw [hat]; simp)

end Go.Proofs.YtobcgeonobgjpaaDoor
