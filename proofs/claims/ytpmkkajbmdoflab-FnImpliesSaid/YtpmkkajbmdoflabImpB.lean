/-
  FnImplies: letters as numbers; whether a place implies another one. Conditions: as stated.
-/
import Derived.Test.YtpmkkajbmdoflabAppend
import Derived.Handy
namespace Go.Proofs.Ytpmkkajbmdoflab.fnImplies
open Go.ChangeShapes Go.WideShapes Go.ChangeAt Go.RowKit
set_option linter.unusedVariables false

def isL (r : Int) : Bool := decide (0 ≤ r ∧ r ≤ 1114111 ∧ (r < 55296 ∨ 57343 < r))

theorem isl_any (r : Int) (w : World) (hr : -2147483648 ≤ r ∧ r ≤ 2147483647) : Calls Try.prog 26 #[.int .i64 r] w fun e w' => e = .returned (.bool (isL r)) ∧ w = w' := by
  by_cases h0 : 0 ≤ r
  · by_cases h1 : r ≤ 1114111
    · by_cases h2 : r < 55296
      · have e : isL r = true := decide_eq_true ⟨h0, h1, .inl h2⟩
        rw [e]; clear e
        go_enter Try.func26, Try.ntmps26
        go_wp2
        go_ret
        exact ⟨rfl, rfl⟩
      · by_cases h3 : 57343 < r
        · have e : isL r = true := decide_eq_true ⟨h0, h1, .inr h3⟩
          rw [e]; clear e
          go_enter Try.func26, Try.ntmps26
          go_wp2
          go_ret
          exact ⟨rfl, rfl⟩
        · have e : isL r = false := decide_eq_false (by omega)
          rw [e]; clear e
          go_enter Try.func26, Try.ntmps26
          go_wp2
          go_ret
          exact ⟨rfl, rfl⟩
    · have e : isL r = false := decide_eq_false (by omega)
      rw [e]; clear e
      go_enter Try.func26, Try.ntmps26
      go_wp2
      go_ret
      exact ⟨rfl, rfl⟩
  · have e : isL r = false := decide_eq_false (by omega)
    rw [e]; clear e
    go_enter Try.func26, Try.ntmps26
    go_wp2
    go_ret
    exact ⟨rfl, rfl⟩

theorem infoI : (Try.prog.info? 3).map (fun i => (i.zero, i.size, i.bytes)) = some (some (.int .i64 0), 1, 8) := by kernel_rfl

/-- at most so many letters -/
def numOk (zs : List Int) : Bool := decide (zs.length ≤ 40) && zs.all isL
/-- what letters as numbers give back -/
def NumGives (zs : List Int) (ok : Bool) (e : Ending) (w' : World) : Prop :=
  match ok with
  | true => ∃ a c, e = .returned (.tuple #[.slice a zs.length c, .bool true]) ∧ Sl w' w'.heap.size a (zs.map (.int .i64)) ∧ zs.length ≤ c ∧ (a = none → zs.length = 0 ∧ c = 0)
  | false => e = .returned (.tuple #[.slice none 0 0, .bool false])

theorem not_all {zs : List Int} {n : Nat} (hn : n < zs.length) (h : isL zs[n] = false) : numOk zs = false := by
  unfold numOk
  rw [Bool.and_eq_false_iff]
  refine .inr ?_
  rw [List.all_eq_false]
  exact ⟨_, List.getElem_mem hn, by simp [h]⟩
theorem is_all {zs : List Int} (h0 : zs.length ≤ 40) (h : ∀ i (hi : i < zs.length), isL zs[i] = true) : numOk zs = true := by
  unfold numOk
  rw [Bool.and_eq_true, decide_eq_true h0, List.all_eq_true]
  refine ⟨rfl, fun x hx => ?_⟩
  obtain ⟨i, hi, rfl⟩ := List.getElem_of_mem hx
  exact h i hi

set_option maxHeartbeats 800000 in
theorem numbers_any (a : Option Addr) (c : Nat) (zs : List Int) (w : World) (hl : zs.length ≤ maxLen) (hs : Sl w w.heap.size a (zs.map (.int .i32))) (hb : ∀ z ∈ zs, -2147483648 ≤ z ∧ z ≤ 2147483647) :
    Calls Try.prog 17 #[.slice a zs.length c, .int .i64 40] w fun e w' => NumGives zs (numOk zs) e w' ∧ Below w.heap.size w w' := by
  unfold maxLen at hl
  obtain ⟨i0, hi, hz0, hz1, hz2⟩ := info_parts infoI
  have HS := Lib.hid hs
  have HB := Lib.hid hb
  clear hs hb
  by_cases h40 : zs.length ≤ 40
  · go_enter Try.func17, Try.ntmps17
    go_wp2_with fail
    go_loopw [6, 7] (fun v k wr => ∃ (n : Nat) (a' : Option Addr) (c' : Nat), n ≤ zs.length ∧ k = .int .i64 n ∧ v = .slice a' n c' ∧ Hid (∀ i (hi : i < zs.length), i < n → isL zs[i] = true) ∧ Hid (wr.ownsRow w.heap.size 3 1 (.slice a' n c') n ((zs.take n).map (.int .i64))) ∧ Hid (Below w.heap.size w wr)) (fun _ k _ => zs.length - (intOf k).toNat)
    case atStart => exact ⟨0, none, 0, by omega, rfl, rfl, Lib.hid (fun i _ h => absurd h (by omega)), Lib.hid ⟨by simp, .inl ⟨rfl, rfl⟩⟩, Lib.hid (Below.refl _ _)⟩
    case round =>
      obtain ⟨n, a', c', hn, rfl, rfl, AL, OWN, BL⟩ := hrel
      by_cases hlt : n < zs.length
      · obtain ⟨ad, rfl, hcell⟩ := (HS.out.below BL.out).ints n hlt
        have hz := HB.out _ (List.getElem_mem hlt)
        have hgd : zs.getD n 0 = zs[n] := by rw [List.getD_eq_getElem?_getD, List.getElem?_eq_getElem hlt]; rfl
        rw [hgd] at hcell
        have C := Lib.hid (fun W => isl_any zs[n] W hz)
        have ew : IntKind.i64.wrap zs[n] = zs[n] := by rw [IntKind.wrap_i64]; omega
        have NA := Lib.hid (@not_all zs n hlt)
        have TK := Lib.hid (show (zs.take (n + 1)) = zs.take n ++ [zs[n]] from by rw [List.take_add_one]; simp [hlt])
        have AL2 := Lib.hid (fun (h : isL zs[n] = true) i (hi : i < zs.length) (h2 : i < n + 1) => show isL zs[i] = true from by
          rcases Nat.lt_or_ge i n with h1 | h1
          · exact AL.out i hi h1
          · obtain rfl : i = n := by omega
            exact h)
        generalize zs[n] = z at *
        cases hL : isL z with
        | true =>
          rw [hL] at C
          go_wp2_with (first
            | (go_at_call 26; refine (C.out _).mono ?_; rintro e w1 ⟨rfl, rfl⟩)
            | (at_builtin; refine append1 _ _ rfl (.tmp 25) (.tmp 31) 40 rfl w.heap.size 3 i0 _ 1 8 Try.underlying40 hi hz0 hz1 hz2 rfl (by omega) rfl (.slice a' n c') n _ rfl OWN.out wr.heap.size rfl rfl (by simp [Value.oneCell']) (by unfold maxLen; omega) (by omega) BL.out.size ?_
               intro u1 w1 ho hg hne
               obtain ⟨la', lc', rfl⟩ := own_value ho))
          exact ⟨⟨n + 1, la', lc', by omega, by go_num, rfl, Lib.hid (AL2.out hL), Lib.hid (by rw [TK.out]; simpa using ho), Lib.hid (BL.out.grown hg BL.out.size (own_block_ge OWN.out))⟩, by
            change zs.length - ((n : Int) + 1).toNat < zs.length - (n : Int).toNat
            omega⟩
        | false =>
          rw [hL] at C
          go_wp2_with (go_at_call 26; refine (C.out _).mono ?_; rintro e w1 ⟨rfl, rfl⟩)
          go_returns
          rw [NA.out hL]
          exact ⟨rfl, BL.out⟩
      · obtain rfl : n = zs.length := by omega
        go_wp2_with fail
        go_returns
        rw [is_all h40 (fun i hi => AL.out i hi hi)]
        have o := sl_of_own OWN.out
        rw [List.take_length] at o
        refine ⟨⟨a', c', rfl, o, ?_⟩, BL.out⟩
        rcases OWN.out.2 with ⟨hv, h0⟩ | ⟨g, cap, cur, hv, -, -, hle, -⟩
        · injection hv with v1 v2 v3
          exact ⟨by omega, fun _ => ⟨h0, v3⟩⟩
        · injection hv with v1 v2 v3
          exact ⟨by omega, fun e => by rw [v1] at e; cases e⟩
  · have e : numOk zs = false := by unfold numOk; rw [decide_eq_false h40]; rfl
    rw [e]
    go_enter Try.func17, Try.ntmps17
    go_wp2
    go_returns
    exact ⟨rfl, Below.refl _ _⟩

/-- how far two places are from each other -/
def gapN (o1 o2 : Nat) : Nat := max o1 o2 - min o1 o2

set_option maxHeartbeats 800000 in
theorem imply_any (g o1 o2 d1 d2 : Nat) (w : World) (ho1 : o1 ≤ 1000) (ho2 : o2 ≤ 1000) (hd1 : d1 ≤ 255) (hd2 : d2 ≤ 255)
    (k0 : w.cell? ⟨g, 0, none⟩ = some (.int .u32 o1)) (k1 : w.cell? ⟨g, 1, none⟩ = some (.int .u8 d1)) (k2 : w.cell? ⟨g, 2, none⟩ = some (.bool false)) :
    Calls Try.prog 36 #[.pointer (some ⟨g, 0, none⟩), .agg #[.int .u32 o2, .int .u8 d2, .bool false]] w fun e w' => e = .returned (.bool (decide (d1 + gapN o1 o2 ≤ d2))) ∧ Below w.heap.size w w' := by
  have hg := World.block_lt_of_cell? w _ k0
  unfold gapN
  by_cases h : o1 < o2
  · obtain ⟨G, hG⟩ : ∃ G : Nat, G = o2 - o1 := ⟨_, rfl⟩
    have hgap : max o1 o2 - min o1 o2 = G := by omega
    rw [hgap]
    obtain ⟨y, hy⟩ : ∃ y, IntKind.u32.wrap ((o1 : Int) - o2) = y := ⟨_, rfl⟩
    have e2 : IntKind.u32.wrap ((o2 : Int) - o1) = (G : Int) := by rw [IntKind.wrap_u32]; omega
    have hc : (o1 : Int) < (o2 : Int) := by omega
    have e3 : IntKind.u32.wrap (d1 : Int) = d1 := by rw [IntKind.wrap_u32]; omega
    have e4 : IntKind.u32.wrap (d2 : Int) = d2 := by rw [IntKind.wrap_u32]; omega
    have e5 : IntKind.u32.wrap ((d1 : Int) + (G : Int)) = (d1 : Int) + (G : Int) := by rw [IntKind.wrap_u32]; omega
    by_cases h2 : d1 + G ≤ d2
    · rw [decide_eq_true h2]
      have h3 : ((d1 : Int) + (G : Int) ≤ (d2 : Int)) := by omega
      clear hgap
      go_enter Try.func36, Try.ntmps36
      go_wp2
      go_quiet (fail)
      go_wp2
      go_quiet (fail)
      go_wp2
      go_quiet (fail)
      go_wp2
      go_quiet (fail)
      go_wp2
      go_returns
      exact ⟨congrArg (fun b => Ending.returned (Value.bool b)) (decide_eq_true (by omega)), below_drewN (below_drewN (below_drewN (below_drewN (((Below.refl _ _).alloc (Nat.le_refl _) _)) _) _) _) _⟩
    · rw [decide_eq_false h2]
      have h3 : ¬ ((d1 : Int) + (G : Int) ≤ (d2 : Int)) := by omega
      clear hgap
      go_enter Try.func36, Try.ntmps36
      go_wp2
      go_quiet (fail)
      go_wp2
      go_quiet (fail)
      go_wp2
      go_quiet (fail)
      go_wp2
      go_quiet (fail)
      go_wp2
      go_returns
      exact ⟨congrArg (fun b => Ending.returned (Value.bool b)) (decide_eq_false (by omega)), below_drewN (below_drewN (below_drewN (below_drewN (((Below.refl _ _).alloc (Nat.le_refl _) _)) _) _) _) _⟩
  · obtain ⟨G, hG⟩ : ∃ G : Nat, G = o1 - o2 := ⟨_, rfl⟩
    have hgap : max o1 o2 - min o1 o2 = G := by omega
    rw [hgap]
    have e2 : IntKind.u32.wrap ((o1 : Int) - o2) = (G : Int) := by rw [IntKind.wrap_u32]; omega
    have hc : ¬ (o1 : Int) < (o2 : Int) := by omega
    have e3 : IntKind.u32.wrap (d1 : Int) = d1 := by rw [IntKind.wrap_u32]; omega
    have e4 : IntKind.u32.wrap (d2 : Int) = d2 := by rw [IntKind.wrap_u32]; omega
    have e5 : IntKind.u32.wrap ((d1 : Int) + (G : Int)) = (d1 : Int) + (G : Int) := by rw [IntKind.wrap_u32]; omega
    by_cases h2 : d1 + G ≤ d2
    · rw [decide_eq_true h2]
      have h3 : ((d1 : Int) + (G : Int) ≤ (d2 : Int)) := by omega
      clear hgap
      go_enter Try.func36, Try.ntmps36
      go_wp2
      go_quiet (fail)
      go_wp2
      go_quiet (fail)
      go_wp2
      go_quiet (fail)
      go_wp2
      go_returns
      exact ⟨congrArg (fun b => Ending.returned (Value.bool b)) (decide_eq_true (by omega)), below_drewN (below_drewN (below_drewN (((Below.refl _ _).alloc (Nat.le_refl _) _)) _) _) _⟩
    · rw [decide_eq_false h2]
      have h3 : ¬ ((d1 : Int) + (G : Int) ≤ (d2 : Int)) := by omega
      clear hgap
      go_enter Try.func36, Try.ntmps36
      go_wp2
      go_quiet (fail)
      go_wp2
      go_quiet (fail)
      go_wp2
      go_quiet (fail)
      go_wp2
      go_returns
      exact ⟨congrArg (fun b => Ending.returned (Value.bool b)) (decide_eq_false (by omega)), below_drewN (below_drewN (below_drewN (((Below.refl _ _).alloc (Nat.le_refl _) _)) _) _) _⟩

set_option maxHeartbeats 400000 in
theorem zz_any (o1 o2 d1 d2 : Nat) (w : World) (ho1 : o1 ≤ 1000) (ho2 : o2 ≤ 1000) (hd1 : d1 ≤ 255) (hd2 : d2 ≤ 255) :
    Calls Try.prog 27 #[.agg #[.int .u32 o1, .int .u8 d1, .bool false], .agg #[.int .u32 o2, .int .u8 d2, .bool false]] w fun e w' => e = .returned (.bool (decide (d1 + gapN o1 o2 ≤ d2))) ∧ Below w.heap.size w w' := by
  have B := (Blk.new w 55 [.int .u32 o1, .int .u8 d1, .bool false]).alloc (.cells #[.int .u32 o2, .int .u8 d2, .bool false] 55)
  have C := Lib.hid (imply_any w.heap.size o1 o2 d1 d2 _ ho1 ho2 hd1 hd2 (B.cell 0) (B.cell 1) (B.cell 2))
  clear B
  go_enter Try.func27, Try.ntmps27
  go_wp2_with (go_at_call 36; refine C.out.mono ?_; rintro e w1 ⟨rfl, hb⟩)
  go_returns
  exact ⟨rfl, (((Below.refl _ _).alloc (Nat.le_refl _) _).alloc (by simp) _).trans (hb.mono (by simp <;> omega))⟩

theorem infoN : (Try.prog.info? 55).map (fun i => (i.zero, i.size, i.bytes)) = some (some (.agg #[.int .u32 0, .int .u8 0, .bool false]), 3, 8) := by kernel_rfl

set_option maxHeartbeats 800000 in
theorem in_any (g : Nat) (o d : Int) (tr : Bool) (w : World) (k0 : w.cell? ⟨g, 0, none⟩ = some (.int .u32 o)) (k1 : w.cell? ⟨g, 1, none⟩ = some (.int .u8 d)) (k2 : w.cell? ⟨g, 2, none⟩ = some (.bool tr)) :
    Calls Try.prog 28 #[.slice (some ⟨g, 0, none⟩) 1 1] w fun e w' => ∃ h c, e = .returned (.slice (some ⟨h, 0, none⟩) 1 c) ∧ h < w'.heap.size ∧ w'.cell? ⟨h, 0, none⟩ = some (.int .u32 o) ∧ w'.cell? ⟨h, 1, none⟩ = some (.int .u8 d) ∧ w'.cell? ⟨h, 2, none⟩ = some (.bool tr) ∧ Below w.heap.size w w' := by
  obtain ⟨i0, hi, hz0, hz1, hz2⟩ := info_parts infoN
  have hg := World.block_lt_of_cell? w _ k0
  have O0 : Hid (w.ownsRow w.heap.size 55 3 (.slice none 0 0) 0 []) := Lib.hid ⟨rfl, .inl ⟨rfl, rfl⟩⟩
  have B0 := Lib.hid (fun (o : Obj) => (Below.refl w.heap.size w).alloc (Nat.le_refl _) o)
  go_enter Try.func28, Try.ntmps28
  go_wp2_with fail
  go_loopw [3, 8] (fun v k wr => (k = .int .i64 0 ∧ v = .slice none 0 0 ∧ wr = w) ∨ (k = .int .i64 1 ∧ ∃ h c, v = .slice (some ⟨h, 0, none⟩) 1 c ∧ Hid (Sl wr wr.heap.size (some ⟨h, 0, none⟩) [.int .u32 o, .int .u8 d, .bool tr]) ∧ Hid (Below w.heap.size w wr))) (fun _ k _ => 1 - (intOf k).toNat)
  case atStart => exact .inl ⟨rfl, rfl, rfl⟩
  case round =>
    rcases hrel with ⟨rfl, rfl, rfl⟩ | ⟨rfl, h, c, rfl, S, BL⟩
    · go_wp2_with (at_builtin; refine append1 _ _ rfl (.tmp 12) (.tmp 20) 56 rfl wr.heap.size 55 i0 _ 3 8 Try.underlying56 hi hz0 hz1 hz2 rfl (by omega) rfl (.slice none 0 0) 0 _ rfl (own_below O0.out (B0.out _)) (wr.heap.size + 1) (by simp) rfl (by simp [Value.oneCell']) (by unfold maxLen; omega) (by omega) (by simp) ?_
                   intro u1 w1 ho hg hne
                   obtain ⟨g', lc', hv, -, -⟩ := World.ownsRow.form ho (by omega)
                   subst hv)
      refine ⟨.inr ⟨rfl, _, _, rfl, Lib.hid (by simpa using sl_of_own ho), Lib.hid (((B0.out _).grown hg (by simp) (by simp [Value.ownBlock])))⟩, ?_⟩
      change 1 - (1 : Int).toNat < 1 - (0 : Int).toNat
      omega
    · go_wp2_with fail
      go_returns
      obtain ⟨x0, e0, h0, q0⟩ := S.out 0 _ rfl
      obtain ⟨x1, e1, -, q1⟩ := S.out 1 _ rfl
      obtain ⟨x2, e2, -, q2⟩ := S.out 2 _ rfl
      injection e0 with e0
      injection e1 with e1
      injection e2 with e2
      subst e0
      rw [← e1] at q1
      rw [← e2] at q2
      exact ⟨_, _, rfl, h0, by simpa [Addr.add] using q0, by simpa [Addr.add] using q1, by simpa [Addr.add] using q2, BL.out⟩

end Go.Proofs.Ytpmkkajbmdoflab.fnImplies
