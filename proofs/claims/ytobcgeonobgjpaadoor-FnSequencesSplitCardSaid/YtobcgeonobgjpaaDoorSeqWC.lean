/-
  The sequences of ranges of bytes: Push, Pop, ranged. Conditions: as stated.
-/
import Derived.Test.YtobcgeonobgjpaaDoorSeqWA
import Derived.Test.YtobcgeonobgjpaaDoorAppend
import Derived.Test.YtobcgeonobgjpaaDoorStepApp
import Derived.Deep.RegionLaw
import Derived.Handy
namespace Go.Proofs.YtobcgeonobgjpaaDoor
open Go.ChangeShapes Go.WideShapes Go.ChangeAt Go.RowKit
set_option linter.unusedVariables false

def rngv (p : Int × Int) : List Value := [.int .i32 p.1, .int .i32 p.2]
def rngs (T : List (Int × Int)) : List Value := T.flatMap rngv
theorem rngv_len (p : Int × Int) : (rngv p).length = 2 := rfl
theorem rngs_len (T : List (Int × Int)) : (rngs T).length = T.length * 2 := flat_len rngv 2 rngv_len T
theorem rngs_snoc (T : List (Int × Int)) (p : Int × Int) : rngs (T ++ [p]) = rngs T ++ rngv p := by simp [rngs]
theorem infoR : (Tryd.prog.info? 56).map (fun i => (i.zero, i.size, i.bytes)) = some (some (.agg #[.int .i32 0, .int .i32 0]), 2, 8) := by kernel_rfl

/-- the variables of the package: no range -/
structure Nils (w : World) : Prop where
  s0 : w.cell? ⟨0, 0, none⟩ = some (.int .i32 65535)
  s1 : w.cell? ⟨0, 1, none⟩ = some (.int .i32 0)
  r0 : w.cell? ⟨1, 0, none⟩ = some (.int .u8 255)
  r1 : w.cell? ⟨1, 1, none⟩ = some (.int .u8 0)
theorem Nils.lt {w : World} (h : Nils w) : 2 ≤ w.heap.size := by
  have h1 := World.block_lt_of_cell? w _ h.r0
  have h2 := World.block_lt_of_cell? w _ h.s0
  simp only at h1 h2
  omega

theorem push_any (v : Value) (T : List (Int × Int)) (a z : Int) (B : Nat) (w : World) (hB : B ≤ w.heap.size) (hT : T.length ≤ 16777216) (hown : w.ownsRow B 56 2 v T.length (rngs T)) :
    Calls Tryd.prog 17 #[v, .agg #[.int .i32 a, .int .i32 z]] w fun e w' => ∃ v', e = .returned v' ∧ w'.ownsRow B 56 2 v' (T ++ [(a, z)]).length (rngs (T ++ [(a, z)])) ∧
      w.grownBy w' v.ownBlock ∧ (∀ k, v'.ownBlock = some k → v.ownBlock = some k ∨ w.heap.size ≤ k) := by
  obtain ⟨i0, hi, hz0, hz1, hz2⟩ := info_parts infoR
  have HO := Lib.hid hown
  have HS := Lib.hid (rngs_snoc T (a, z))
  generalize hn : T.length = n at *
  clear hown
  go_enter Tryd.func17, Tryd.ntmps17
  go_wp2_with (at_builtin; refine append1_at (w.alloc (.cells #[.int .i32 a, .int .i32 z] 56)) #[.int .i32 a, .int .i32 z] rfl (.tmp 5) (.tmp 7) 48 rfl B 56 i0 _ 2 8 Tryd.underlying48 hi hz0 hz1 hz2 rfl (by omega) rfl v n (rngs T) rfl (HO.out.alloc _) (w.heap.size + 1) (by simp) rfl (by simp [Value.oneCell']) (by unfold maxLen; omega) (by omega) (by simp; omega) ?_; intro v' w1 hown' hg' _ hat')
  go_ret
  refine ⟨v', rfl, ?_, ?_, ?_⟩
  · rw [HS.out]
    exact hown'
  · exact ⟨hg'.os, hg'.tape, hg'.output, Nat.le_trans (by simp) hg'.size, fun k hk hne => (hg'.block k (by simp; omega) hne).trans (Below.heap_alloc w _ k hk)⟩
  · intro k hk
    rcases hat' k hk with h | h
    · exact .inl h
    · exact .inr (Nat.le_trans (by simp) h)

theorem ranged_any (a z : Int) (w : World) (ha : -2147483648 ≤ a ∧ a ≤ 2147483647) (hz : -2147483648 ≤ z ∧ z ≤ 2147483647) :
    Calls Tryd.prog 5 #[.int .i32 a, .int .i32 z] w fun e w' => e = .returned (.bool (decide (0 ≤ a ∧ a ≤ 1114111 ∧ 0 ≤ z ∧ z ≤ 1114111))) ∧ w = w' := by
  by_cases h1 : 0 ≤ a
  · by_cases h2 : a ≤ 1114111
    · by_cases h3 : 0 ≤ z
      · by_cases h4 : z ≤ 1114111
        · rw [decide_eq_true (⟨h1, h2, h3, h4⟩)]
          go_enter Tryd.func5, Tryd.ntmps5
          go_wp2
          go_returns
          exact ⟨rfl, rfl⟩
        · rw [decide_eq_false (by omega)]
          go_enter Tryd.func5, Tryd.ntmps5
          go_wp2
          go_returns
          exact ⟨rfl, rfl⟩
      · rw [decide_eq_false (by omega)]
        go_enter Tryd.func5, Tryd.ntmps5
        go_wp2
        go_returns
        exact ⟨rfl, rfl⟩
    · rw [decide_eq_false (by omega)]
      go_enter Tryd.func5, Tryd.ntmps5
      go_wp2
      go_returns
      exact ⟨rfl, rfl⟩
  · rw [decide_eq_false (by omega)]
    go_enter Tryd.func5, Tryd.ntmps5
    go_wp2
    go_returns
    exact ⟨rfl, rfl⟩

/-- an empty stack: no range -/
theorem pop_none (v : Value) (B : Nat) (w : World) (hN : Nils w) (hown : w.ownsRow B 56 2 v 0 []) :
    Calls Tryd.prog 18 #[v] w fun e w' => e = .returned (.tuple #[v, .agg #[.int .i32 65535, .int .i32 0]]) ∧ Below w.heap.size w w' := by
  obtain ⟨a, c, rfl⟩ := own_value hown
  have hlt := hN.lt
  have s0 : ∀ o, (w.alloc o).cell? ⟨0, 0, none⟩ = some (.int .i32 65535) := fun o => ((Below.refl w.heap.size w).alloc (Nat.le_refl _) o).cell (by simp; omega) |>.trans hN.s0
  have s1 : ∀ o, (w.alloc o).cell? ⟨0, 1, none⟩ = some (.int .i32 0) := fun o => ((Below.refl w.heap.size w).alloc (Nat.le_refl _) o).cell (by simp; omega) |>.trans hN.s1
  clear hN hown
  go_enter Tryd.func18, Tryd.ntmps18
  go_wp2
  go_region
  all_goals
    go_wp2
    go_returns
    exact ⟨rfl, by repeat (first | exact Below.refl _ _ | apply Below.drew | refine Below.setCell ?_ (by simp) _ | refine Below.alloc ?_ (by simp) _)⟩

/-- the topmost range of the stack -/
theorem pop_some (v : Value) (T : List (Int × Int)) (a z : Int) (B : Nat) (w : World) (hT : T.length ≤ 16777216) (hown : w.ownsRow B 56 2 v (T ++ [(a, z)]).length (rngs (T ++ [(a, z)]))) :
    Calls Tryd.prog 18 #[v] w fun e w' => ∃ v', e = .returned (.tuple #[v', .agg #[.int .i32 a, .int .i32 z]]) ∧ v'.ownBlock = v.ownBlock ∧ w.ownsRow B 56 2 v' T.length (rngs T) ∧ Below w.heap.size w w' := by
  obtain ⟨g, cap, rfl, hbg, hgl⟩ := World.ownsRow.form hown (by simp)
  have hsmall : w.ownsRow B 56 2 (.slice (some ⟨g, 0, none⟩) T.length cap) T.length (rngs T) := by
    rcases hown.2 with ⟨h, _⟩ | ⟨g', cap', cur, he, h1, h2, h3, h4, h5, h6⟩
    · cases h
    · cases he
      refine ⟨rngs_len T, .inr ⟨g, cap, cur, rfl, h1, h2, by simp at h3; omega, h4, h5, ?_⟩⟩
      rw [rngs_snoc] at h6
      have h7 := congrArg (List.take (T.length * 2)) h6
      rw [List.take_take, List.take_left' (rngs_len T), Nat.min_eq_left (by simp; omega)] at h7
      exact h7
  have hcap : T.length + 1 ≤ cap := by
    rcases hown.2 with ⟨h, _⟩ | ⟨g', cap', cur, he, h1, h2, h3, h4, h5, h6⟩
    · cases h
    · cases he
      simpa using h3
  have c0' : w.cell? ((⟨g, 0, none⟩ : Addr).add (T.length * 2)) = some (.int .i32 a) := by
    refine World.ownsRow.cells hown rfl (T.length * 2) _ ?_
    rw [rngs_snoc, List.getElem?_append_right (by rw [rngs_len]; omega), rngs_len, Nat.sub_self]
    rfl
  have c1' : w.cell? ((⟨g, 0, none⟩ : Addr).add (T.length * 2 + 1)) = some (.int .i32 z) := by
    refine World.ownsRow.cells hown rfl (T.length * 2 + 1) _ ?_
    rw [rngs_snoc, List.getElem?_append_right (by rw [rngs_len]; omega), rngs_len, show T.length * 2 + 1 - T.length * 2 = 1 by omega]
    rfl
  have c2' := cell_off c1'
  have HS := Lib.hid hsmall
  rw [show (T ++ [(a, z)]).length = T.length + 1 by simp]
  generalize T.length = n at *
  have hb0 : ((⟨g, 0, none⟩ : Addr).add (n * 2)).block < w.heap.size := by rw [block_add]; exact hgl
  clear hown hsmall hbg c1'
  have HG : Hid ((Value.slice (some ⟨g, 0, none⟩) n cap).ownBlock = (Value.slice (some ⟨g, 0, none⟩) (n + 1) cap).ownBlock) := Lib.hid rfl
  generalize (⟨g, 0, none⟩ : Addr) = ad at *
  have c0 : ∀ o, (w.alloc o).cell? (ad.add (n * 2)) = some (.int .i32 a) := fun o => ((Below.refl w.heap.size w).alloc (Nat.le_refl _) o).cell hb0 |>.trans c0'
  have c1 : ∀ o, (w.alloc o).cell? ⟨(ad.add (n * 2)).block, (ad.add (n * 2)).off + 1, none⟩ = some (.int .i32 z) := fun o => ((Below.refl w.heap.size w).alloc (Nat.le_refl _) o).cell (p := ⟨(ad.add (n * 2)).block, (ad.add (n * 2)).off + 1, none⟩) hb0 |>.trans c2'
  have hidx : (((n + 1 : Nat) : Int) - 1) = (n : Int) := by omega
  clear c0' c2'
  go_enter Tryd.func18, Tryd.ntmps18
  go_wp2
  go_region
  all_goals
    go_wp2
    go_returns
    exact ⟨_, rfl, HG.out, HS.out, by repeat (first | exact Below.refl _ _ | apply Below.drew | refine Below.setCell ?_ (by simp) _ | refine Below.alloc ?_ (by simp) _)⟩

end Go.Proofs.YtobcgeonobgjpaaDoor
