/-
  A set of places in memory (MultiState): what addStates does to it, in plain Lean; one place taken out of the row. Conditions: as stated.
-/
import Derived.Test.YtgblmafollhojaaPlc
import Derived.Test.YtgblmafollhojaaAppend
import Derived.Test.YtgblmafollhojaaLastStore
namespace Go.Proofs.Ytgblmafollhojaa
open Go.ChangeShapes Go.WideShapes Go.ChangeAt Go.RowKit
set_option linter.unusedVariables false

/-- a place is added: those that it makes needless go -/
def addS (l : List Pl) (n : Pl) : List Pl := if l.any (fun s => impB s n) then l else l.filter (fun s => !impB n s) ++ [n]

/-- block M holds a slice of places, a row of the call's own -/
structure MSt (w : World) (M B : Nat) (v : Value) (l : List Pl) : Prop where
  b : Blk w M 67 [v]
  o : w.ownsRow B 63 3 v l.length (l.flatMap enc3)
  ok : ∀ p ∈ l, okP p

/-- nothing else has turned -/
structure Fr (w w' : World) (M : Nat) (v : Value) : Prop where
  os : w'.os = w.os
  tape : w'.tape = w.tape
  output : w'.output = w.output
  size : w.heap.size ≤ w'.heap.size
  block : ∀ k, k < w.heap.size → k ≠ M → v.ownBlock ≠ some k → w'.heap[k]? = w.heap[k]?

section
variable {w w' w2 : World} {M B : Nat} {v v' : Value} {l : List Pl}
theorem MSt.below (h : MSt w M B v l) (hb : Below w.heap.size w w') : MSt w' M B v l := ⟨h.b.below hb h.b.lt, own_below h.o hb, h.ok⟩
theorem MSt.ne (h : MSt w M B v l) : v.ownBlock ≠ some M := by
  intro e
  rcases h.o.2 with ⟨rfl, _⟩ | ⟨g, cap, cur, rfl, hg, hh, _⟩
  · simp [Value.ownBlock] at e
  · simp [Value.ownBlock] at e
    subst e
    have := h.b
    unfold Blk at this
    rw [this] at hh
    simp at hh
theorem Fr.refl : Fr w w M v := ⟨rfl, rfl, rfl, Nat.le_refl _, fun _ _ _ _ => rfl⟩
theorem Fr.of_below (h : Below w.heap.size w w') : Fr w w' M v := ⟨h.os, h.tape, h.output, h.size, fun k hk _ _ => h.block k hk⟩
theorem Fr.trans (h : Fr w w' M v) (h' : Fr w' w2 M v') (hv : ∀ k, v'.ownBlock = some k → v.ownBlock = some k ∨ w.heap.size ≤ k) : Fr w w2 M v :=
  ⟨h'.os.trans h.os, h'.tape.trans h.tape, h'.output.trans h.output, Nat.le_trans h.size h'.size, fun k hk h1 h2 =>
    (h'.block k (Nat.lt_of_lt_of_le hk h.size) h1 (fun e => by
      rcases hv k e with h3 | h3
      · exact h2 h3
      · omega)).trans (h.block k hk h1 h2)⟩
theorem Fr.below {b : Nat} (h : Fr w w' M v) (hM : b ≤ M) (hv : ∀ k, v.ownBlock = some k → b ≤ k) (hb : b ≤ w.heap.size) : Below b w w' := ⟨h.os, h.tape, h.output, h.size, fun k hk => h.block k (by omega) (by omega) (fun e => by have := hv k e; omega)⟩
end

/-- what is read of a row of places -/
theorem MSt.at_ {w : World} {M B : Nat} {v : Value} {l : List Pl} (h : MSt w M B v l) (i : Nat) (hi : i < l.length) :
    ∃ g cap, v = .slice (some ⟨g, 0, none⟩) l.length cap ∧ l.length ≤ cap ∧ w.cell? ⟨g, i * 3, none⟩ = some (.int .u32 l[i].1) ∧ w.cell? ⟨g, i * 3 + 1, none⟩ = some (.int .u8 l[i].2.1) ∧ w.cell? ⟨g, i * 3 + 2, none⟩ = some (.bool l[i].2.2) := by
  rcases h.o.2 with ⟨_, h0⟩ | ⟨g, cap, cur, rfl, hg, hh, hn, _, hc, ht⟩
  · omega
  · have key : ∀ j, j < 3 → w.cell? ⟨g, i * 3 + j, none⟩ = (enc3 l[i])[j]? := by
      intro j hj
      rw [cell_of_row w g (i * 3 + j) cur _ (0, 0) hh, ← Array.getElem?_toList]
      have hlt : i * 3 + j < l.length * 3 := by omega
      rw [← List.getElem?_take_of_lt hlt, ht, flat_get enc3 3 (fun _ => rfl) l i j hj, List.getElem?_eq_getElem hi]
      rfl
    exact ⟨g, cap, rfl, hn, key 0 (by omega), key 1 (by omega), key 2 (by omega)⟩

theorem MSt.form {w : World} {M B : Nat} {v : Value} {l : List Pl} (h : MSt w M B v l) : ∃ a cap, v = .slice a l.length cap := own_value h.o

/-- one place taken out -/
theorem run_out {P : Program} {w : World} {t ty e : TypeId} {i : TypeInfo} (ht : P.underlying t = some (.slice e)) (hi : P.info? e = some i) (hsz : i.size = 3) {B g n cap : Nat} {l : List Pl} (hl : l.length = n)
    (h : w.ownsRow B e 3 (.slice (some ⟨g, 0, none⟩) n cap) n (l.flatMap enc3)) (k : Nat) (hk : k < n) (A : Addr) (hA : n = k + 1 ∨ A = ⟨g, (k + 1) * 3, none⟩) (c : Nat) :
    ∃ w', (Builtin.append_ #[t, t] ty #[.slice (some ⟨g, 0, none⟩) k cap, .slice (some A) (n - (k + 1)) c]).run P w = .ok (.slice (some ⟨g, 0, none⟩) (n - 1) cap) w' ∧
      w'.ownsRow B e 3 (.slice (some ⟨g, 0, none⟩) (n - 1) cap) (n - 1) ((l.take k ++ l.drop (k + 1)).flatMap enc3) ∧ w.grownBy w' (some g) := by
  rcases h.2 with ⟨h0, _⟩ | ⟨g', cap', cur, hv, hg, hh, hn, hm, hc, htk⟩
  · cases h0
  · injection hv with h1 h2 h3
    injection h1 with h1
    injection h1 with h1
    subst h1 h3
    have hfl : ∀ m : List Pl, (m.flatMap enc3).length = m.length * 3 := fun m => flat_len enc3 3 (fun _ => rfl) m
    have hnews : ((l.drop (k + 1)).flatMap enc3).length = (n - (k + 1)) * i.size := by rw [hfl, List.length_drop, hl, hsz]
    have hcl : n * 3 ≤ cur.toList.length := by rw [Array.length_toList, hc]; exact Nat.mul_le_mul_right _ hn
    have hpre : (l.take k).flatMap enc3 = cur.toList.take (k * 3) := by
      have : (l.flatMap enc3).take (k * 3) = (l.take k).flatMap enc3 := by
        conv => lhs; rw [← List.take_append_drop k l, List.flatMap_append]
        rw [List.take_append_of_le_length (by rw [hfl, List.length_take]; omega), List.take_of_length_le (by rw [hfl, List.length_take]; omega)]
      rw [← this, ← htk, List.take_take]
      congr 1
      omega
    have hrun := run_append_room (P := P) w t ty e i ht hi g k cap cur hh A (n - (k + 1)) c ((l.drop (k + 1)).flatMap enc3) hnews (fun j u hu => by
      rcases hA with hA | rfl
      · have := (List.getElem?_eq_some_iff.1 hu).1
        rw [hnews] at this
        have : n - (k + 1) = 0 := by omega
        simp [this] at *
      · have hj := (List.getElem?_eq_some_iff.1 hu).1
        rw [hnews, hsz] at hj
        have e1 : ((⟨g, (k + 1) * 3, none⟩ : Addr).add j) = ⟨g, (k + 1) * 3 + j, none⟩ := by
          unfold Addr.add
          by_cases h0 : j = 0 <;> simp [h0]
        rw [e1, cell_of_row w g _ cur e (0, 0) hh, ← Array.getElem?_toList, ← List.getElem?_take_of_lt (show (k + 1) * 3 + j < n * 3 by omega), htk, ← hu]
        conv => lhs; rw [← List.take_append_drop (k + 1) l, List.flatMap_append]
        rw [List.getElem?_append_right (by rw [hfl, List.length_take]; omega)]
        congr 1
        rw [hfl, List.length_take]
        omega) (fun u hu => by
          obtain ⟨p, _, hp⟩ := List.mem_flatMap.1 hu
          simp [enc3] at hp
          rcases hp with rfl | rfl | rfl <;> rfl) (by omega) (by rw [hnews, hsz, ← Nat.add_mul]; rw [← Array.length_toList]; exact Nat.le_trans (Nat.mul_le_mul_right 3 (by omega)) hcl)
    rw [show k + (n - (k + 1)) = n - 1 by omega] at hrun
    generalize harr : (cur.toList.take (k * i.size) ++ (l.drop (k + 1)).flatMap enc3 ++ cur.toList.drop (k * i.size + ((l.drop (k + 1)).flatMap enc3).length)).toArray = arr at hrun
    have hsize : arr.size = cap * 3 := by
      rw [← harr]
      simp only [List.size_toArray, List.length_append, List.length_take, List.length_drop, hnews, hsz, ← hc]
      rw [← Array.length_toList]
      omega
    have htake : arr.toList.take ((n - 1) * 3) = (l.take k ++ l.drop (k + 1)).flatMap enc3 := by
      rw [← harr]
      simp only []
      rw [List.take_append_of_le_length (by rw [List.length_append, hnews, hsz, List.length_take]; omega), List.take_of_length_le (by rw [List.length_append, hnews, hsz, List.length_take]; omega), hsz, ← hpre, List.flatMap_append]
    have hlen : ((l.take k ++ l.drop (k + 1)).flatMap enc3).length = (n - 1) * 3 := by rw [hfl, List.length_append, List.length_take, List.length_drop]; omega
    have hrow := setRow_heap w g cur arr e (0, 0) hh
    have hgr : w.grownBy (w.setRow g arr) (some g) := ⟨rfl, rfl, rfl, by simp [World.setRow], fun j hj hne => setRow_other w g j arr (fun e => hne (by rw [e]))⟩
    generalize w.setRow g arr = W at *
    exact ⟨W, hrun, ⟨hlen, .inr ⟨g, cap, arr, rfl, hg, hrow, by omega, hm, hsize, htake⟩⟩, hgr⟩

end Go.Proofs.Ytgblmafollhojaa
