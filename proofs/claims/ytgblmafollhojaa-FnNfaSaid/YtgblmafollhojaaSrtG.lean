/-
  Sorting through an interface value: a row of memory as the list; []rune. Conditions: as stated.
-/
import Derived.Test.YtgblmafollhojaaSrtF
namespace Go.Proofs.Ytgblmafollhojaa
open Go.ChangeShapes Go.WideShapes Go.ChangeAt Go.RowKit
open Go.Sort (swp PermIn SortedIn SWO)
set_option linter.unusedVariables false

theorem grown_setCells (g : Nat) : ∀ (vs : List Value) (o : Nat) (W : World), W.grownBy (W.setCells g o vs) (some g)
  | [], _, W => World.grownBy.refl W _
  | v :: vs, o, W => (only_set (World.grownBy.refl W _) o v).trans (grown_setCells g vs (o + 1) _)

/-- block g holds the list d, each element by its cells, and then the rest -/
def rowS {α : Type} [Inhabited α] (g : Nat) (t : TypeId) (enc : α → List Value) (rest : List Value) (N : Nat) (W : World) (d : Array α) : Prop := d.size = N ∧ Blk W g t (d.toList.flatMap enc ++ rest)

section
variable {α : Type} [Inhabited α] {g k : Nat} {t : TypeId} {enc : α → List Value} {rest : List Value} {N : Nat} {W W' : World} {d : Array α}
theorem rowS.loc (h : rowS g t enc rest N W d) (he : W'.heap[g]? = W.heap[g]?) : rowS g t enc rest N W' d := ⟨h.1, he.trans h.2⟩
theorem rowS.at (hk : ∀ x, (enc x).length = k) (h : rowS g t enc rest N W d) (i j : Nat) (hi : i < N) (hj : j < k) : W.cell? ⟨g, i * k + j, none⟩ = (enc d[i]!)[j]? := by
  have hid : i < d.toList.length := by simpa [h.1] using hi
  have hlen : i * k + j < (d.toList.flatMap enc).length := by
    rw [flat_len enc k hk]
    have : (i + 1) * k ≤ d.toList.length * k := Nat.mul_le_mul_right k hid
    rw [Nat.succ_mul] at this
    omega
  rw [h.2.cell, List.getElem?_append_left hlen, flat_get enc k hk _ _ _ hj, List.getElem?_eq_getElem hid]
  have : d.toList[i] = d[i]! := by
    rw [getElem!_pos d i (by rw [h.1]; exact hi)]
    simp
  rw [← this]
  rfl
theorem rowS.frozen (h : rowS g t enc rest N W d) (i : Nat) : W.frozen? ⟨g, i, none⟩ = false := h.2.frozen i
theorem rowS.put (hk : ∀ x, (enc x).length = k) (h : rowS g t enc rest N W d) (i : Nat) (hi : i < N) (y : α) : rowS g t enc rest N (W.setCells g (i * k) (enc y)) (d.setIfInBounds i y) := by
  have hid : i < d.toList.length := by simpa [h.1] using hi
  refine ⟨by simpa using h.1, ?_⟩
  have e : d.toList = d.toList.take i ++ d.toList[i] :: d.toList.drop (i + 1) := by
    rw [← List.drop_eq_getElem_cons hid, List.take_append_drop]
  have e2 : (d.setIfInBounds i y).toList = d.toList.take i ++ y :: d.toList.drop (i + 1) := by
    rw [Array.toList_setIfInBounds, List.set_eq_take_append_cons_drop, if_pos hid]
  have hb := h.2
  rw [e, List.flatMap_append, List.flatMap_cons] at hb
  have hl : ((d.toList.take i).flatMap enc).length = i * k := by rw [flat_len enc k hk, List.length_take]; congr 1; omega
  have hb2 : Blk W g t ((d.toList.take i).flatMap enc ++ enc d.toList[i] ++ ((d.toList.drop (i + 1)).flatMap enc ++ rest)) := by simpa [List.append_assoc] using hb
  have hb3 := hb2.setCells (vs := enc y) (by rw [hk, hk])
  rw [hl] at hb3
  rw [e2, List.flatMap_append, List.flatMap_cons]
  simpa [List.append_assoc] using hb3
theorem rowS.swap (hk : ∀ x, (enc x).length = k) (h : rowS g t enc rest N W d) (i j : Nat) (hi : i < N) (hj : j < N) : rowS g t enc rest N ((W.setCells g (i * k) (enc d[j]!)).setCells g (j * k) (enc d[i]!)) (swp d i j) :=
  (h.put hk i hi d[j]!).put hk j hj d[i]!
end

def runes (x : Int) : List Value := [.int .i32 x]
def ltR (x y : Int) : Bool := decide (x < y)
theorem swoR : SWO ltR where
  irrefl := fun x => by simp [ltR]
  trans := fun x y z h1 h2 => decide_eq_true (by have := of_decide_eq_true h1; have := of_decide_eq_true h2; omega)
  ntrans := fun x y z h1 h2 => decide_eq_false (by have := of_decide_eq_false h1; have := of_decide_eq_false h2; omega)

theorem rlen_any (a : Option Addr) (N c : Nat) (W : World) : Calls Try.prog 84 #[.slice a N c] W fun e w' => e = .returned (.int .i64 N) ∧ Below W.heap.size W w' := by
  go_enter Try.func84, Try.ntmps84
  go_wp2
  go_ret
  exact ⟨rfl, Below.refl _ _⟩

set_option maxHeartbeats 400000 in
theorem rless_any (g N c : Nat) (W : World) (i j : Nat) (x y : Int) (hi : i < N) (hj : j < N) (hN : N < 4611686018427387904) (hx : W.cell? ⟨g, i, none⟩ = some (.int .i32 x)) (hy : W.cell? ⟨g, j, none⟩ = some (.int .i32 y)) :
    Calls Try.prog 85 #[.slice (some ⟨g, 0, none⟩) N c, .int .i64 i, .int .i64 j] W fun e w' => e = .returned (.bool (ltR x y)) ∧ Below W.heap.size W w' := by
  unfold ltR
  go_enter Try.func85, Try.ntmps85
  go_wp2
  go_quiet (fail)
  go_wp2
  go_ret
  exact ⟨rfl, below_drewN (Below.refl _ _) _⟩

set_option maxHeartbeats 1000000 in
theorem rswap_any (g N c : Nat) (W : World) (i j : Nat) (x y : Int) (hi : i < N) (hj : j < N) (hN : N < 4611686018427387904) (hx : W.cell? ⟨g, i, none⟩ = some (.int .i32 x)) (hy : W.cell? ⟨g, j, none⟩ = some (.int .i32 y))
    (fx : W.frozen? ⟨g, i, none⟩ = false) (fy : W.frozen? ⟨g, j, none⟩ = false) :
    Calls Try.prog 86 #[.slice (some ⟨g, 0, none⟩) N c, .int .i64 i, .int .i64 j] W fun e w' => e = .returned (.tuple #[]) ∧ ∃ n, w' = ((W.setCell ⟨g, i, none⟩ (.int .i32 y)).setCell ⟨g, j, none⟩ (.int .i32 x)).drewN n := by
  obtain ⟨v', hy'⟩ : ∃ v, (W.setCell ⟨g, i, none⟩ (.int .i32 y)).cell? ⟨g, j, none⟩ = some v := by
    by_cases hij : j = i
    · subst hij
      exact ⟨_, World.cell?_setCell_same _ _ _ hx⟩
    · exact ⟨_, (World.cell?_setCell_other _ _ _ _ (by intro e; injection e; omega)).trans hy⟩
  go_enter Try.func86, Try.ntmps86
  go_wp2
  go_region
  all_goals (try go_wp2)
  all_goals go_returns
  all_goals exact ⟨rfl, 1, rfl⟩

/-- []rune as a list -/
def runeI (T : TypeId) (g c N : Nat) (t : TypeId) (rest : List Value) : Itf Int := ⟨T, .slice (some ⟨g, 0, none⟩) N c, 84, 85, 86, ltR, g, N, rowS g t runes rest N⟩

theorem runeI_ok (g c N : Nat) (t : TypeId) (rest : List Value) (hN : N < 4611686018427387904) : (runeI 72 g c N t rest).Ok where
  mN := fun w => by kernel_rfl
  mL := fun w => by kernel_rfl
  mS := fun w => by kernel_rfl
  eN := fun args w => enters_of Try.func84 (by kernel_rfl) rfl args w
  eL := fun args w => enters_of Try.func85 (by kernel_rfl) rfl args w
  eS := fun args w => enters_of Try.func86 (by kernel_rfl) rfl args w
  loc := fun h he => rowS.loc h he
  inb := fun h => h.2.lt
  siz := fun h => h.1
  big := hN
  len := fun {W d} h => rlen_any _ _ _ W
  less := fun {W d} h i j hi hj => by
    have h1 := rowS.at (k := 1) (fun _ => rfl) h i 0 hi (by omega)
    have h2 := rowS.at (k := 1) (fun _ => rfl) h j 0 hj (by omega)
    simp only [Nat.mul_one, Nat.add_zero, runes, List.getElem?_cons_zero] at h1 h2
    exact rless_any g N c W i j _ _ hi hj hN h1 h2
  swap := fun {W d} h i j hi hj => by
    have h1 := rowS.at (k := 1) (fun _ => rfl) h i 0 hi (by omega)
    have h2 := rowS.at (k := 1) (fun _ => rfl) h j 0 hj (by omega)
    simp only [Nat.mul_one, Nat.add_zero, runes, List.getElem?_cons_zero] at h1 h2
    refine (rswap_any g N c W i j _ _ hi hj hN h1 h2 (h.frozen i) (h.frozen j)).mono fun e w' ⟨he, n, hw⟩ => ⟨he, ?_, ?_⟩
    · subst hw
      have h3 := rowS.swap (k := 1) (fun _ => rfl) h i j hi hj
      simp only [Nat.mul_one, runes, World.setCells] at h3
      exact h3
    · subst hw
      exact only_drewN (only_set (only_set (World.grownBy.refl W _) _ _) _ _) n

end Go.Proofs.Ytgblmafollhojaa
