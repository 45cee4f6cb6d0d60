/-
  Letters as numbers (IsLetter, numbers). Conditions: as stated.
-/
import Derived.Test.YtgblmafollhojaaAppend
import Derived.Handy
namespace Go.Proofs.Ytgblmafollhojaa
open Go.ChangeShapes Go.WideShapes Go.ChangeAt Go.RowKit
set_option linter.unusedVariables false

def isL (r : Int) : Bool := decide (0 ≤ r ∧ r ≤ 1114111 ∧ (r < 55296 ∨ 57343 < r))

set_option maxRecDepth 100000 in
theorem isl_any (r : Int) (w : World) (hr : -2147483648 ≤ r ∧ r ≤ 2147483647) : Calls Try.prog 21 #[.int .i64 r] w fun e w' => e = .returned (.bool (isL r)) ∧ w = w' := by
  by_cases h0 : 0 ≤ r
  · by_cases h1 : r ≤ 1114111
    · by_cases h2 : r < 55296
      · have e : isL r = true := decide_eq_true ⟨h0, h1, .inl h2⟩
        rw [e]; clear e
        go_enter Try.func21, Try.ntmps21
        go_wp2
        go_ret
        exact ⟨rfl, rfl⟩
      · by_cases h3 : 57343 < r
        · have e : isL r = true := decide_eq_true ⟨h0, h1, .inr h3⟩
          rw [e]; clear e
          go_enter Try.func21, Try.ntmps21
          go_wp2
          go_ret
          exact ⟨rfl, rfl⟩
        · have e : isL r = false := decide_eq_false (by omega)
          rw [e]; clear e
          go_enter Try.func21, Try.ntmps21
          go_wp2
          go_ret
          exact ⟨rfl, rfl⟩
    · have e : isL r = false := decide_eq_false (by omega)
      rw [e]; clear e
      go_enter Try.func21, Try.ntmps21
      go_wp2
      go_ret
      exact ⟨rfl, rfl⟩
  · have e : isL r = false := decide_eq_false (by omega)
    rw [e]; clear e
    go_enter Try.func21, Try.ntmps21
    go_wp2
    go_ret
    exact ⟨rfl, rfl⟩

theorem infoI : (Try.prog.info? 3).map (fun i => (i.zero, i.size, i.bytes)) = some (some (.int .i64 0), 1, 8) := by kernel_rfl

/-- at most so many letters -/
def numOk (zs : List Int) : Bool := decide (zs.length ≤ 40) && zs.all isL
/-- what letters as numbers give back -/
def NumGives (zs : List Int) (ok : Bool) (e : Ending) (w' : World) : Prop :=
  match ok with
  | true => ∃ a c, e = .returned (.tuple #[.slice a zs.length c, .bool true]) ∧ Sl w' w'.heap.size a (zs.map (.int .i64)) ∧ zs.length ≤ c ∧ (a = none → zs.length = 0 ∧ c = 0)
  | false => e = .returned (.tuple #[.slice none 0 0, .bool false])

theorem not_all {zs : List Int} {n : Nat} (hn : n < zs.length) (h : isL zs[n] = false) : numOk zs = false := by
  unfold numOk
  rw [Bool.and_eq_false_iff]
  refine .inr ?_
  rw [List.all_eq_false]
  exact ⟨_, List.getElem_mem hn, by simp [h]⟩
theorem is_all {zs : List Int} (h0 : zs.length ≤ 40) (h : ∀ i (hi : i < zs.length), isL zs[i] = true) : numOk zs = true := by
  unfold numOk
  rw [Bool.and_eq_true, decide_eq_true h0, List.all_eq_true]
  refine ⟨rfl, fun x hx => ?_⟩
  obtain ⟨i, hi, rfl⟩ := List.getElem_of_mem hx
  exact h i hi

set_option maxRecDepth 100000 in
set_option maxHeartbeats 800000 in
theorem numbers_any (a : Option Addr) (c : Nat) (zs : List Int) (w : World) (hl : zs.length ≤ maxLen) (hs : Sl w w.heap.size a (zs.map (.int .i32))) (hb : ∀ z ∈ zs, -2147483648 ≤ z ∧ z ≤ 2147483647) :
    Calls Try.prog 10 #[.slice a zs.length c, .int .i64 40] w fun e w' => NumGives zs (numOk zs) e w' ∧ Below w.heap.size w w' := by
  unfold maxLen at hl
  obtain ⟨i0, hi, hz0, hz1, hz2⟩ := info_parts infoI
  have HS := Lib.hid hs
  have HB := Lib.hid hb
  clear hs hb
  by_cases h40 : zs.length ≤ 40
  · go_enter Try.func10, Try.ntmps10
    go_wp2_with fail
    go_loopw [6, 7] (fun v k wr => ∃ (n : Nat) (a' : Option Addr) (c' : Nat), n ≤ zs.length ∧ k = .int .i64 n ∧ v = .slice a' n c' ∧ Hid (∀ i (hi : i < zs.length), i < n → isL zs[i] = true) ∧ Hid (wr.ownsRow w.heap.size 3 1 (.slice a' n c') n ((zs.take n).map (.int .i64))) ∧ Hid (Below w.heap.size w wr)) (fun _ k _ => zs.length - (intOf k).toNat)
    case atStart => exact ⟨0, none, 0, by omega, rfl, rfl, Lib.hid (fun i _ h => absurd h (by omega)), Lib.hid ⟨by simp, .inl ⟨rfl, rfl⟩⟩, Lib.hid (Below.refl _ _)⟩
    case round =>
      obtain ⟨n, a', c', hn, rfl, rfl, AL, OWN, BL⟩ := hrel
      by_cases hlt : n < zs.length
      · obtain ⟨ad, rfl, hcell⟩ := (HS.out.below BL.out).ints n hlt
        have hz := HB.out _ (List.getElem_mem hlt)
        have hgd : zs.getD n 0 = zs[n] := by rw [List.getD_eq_getElem?_getD, List.getElem?_eq_getElem hlt]; rfl
        rw [hgd] at hcell
        have C := Lib.hid (fun W => isl_any zs[n] W hz)
        have ew : IntKind.i64.wrap zs[n] = zs[n] := by rw [IntKind.wrap_i64]; omega
        have NA := Lib.hid (@not_all zs n hlt)
        have TK := Lib.hid (show (zs.take (n + 1)) = zs.take n ++ [zs[n]] from by rw [List.take_add_one]; simp [hlt])
        have AL2 := Lib.hid (fun (h : isL zs[n] = true) i (hi : i < zs.length) (h2 : i < n + 1) => show isL zs[i] = true from by
          rcases Nat.lt_or_ge i n with h1 | h1
          · exact AL.out i hi h1
          · obtain rfl : i = n := by omega
            exact h)
        generalize zs[n] = z at *
        cases hL : isL z with
        | true =>
          rw [hL] at C
          go_wp2_with (first
            | (go_at_call 21; refine (C.out _).mono ?_; rintro e w1 ⟨rfl, rfl⟩)
            | (at_builtin; refine append1 _ _ rfl (.tmp 25) (.tmp 31) 33 rfl w.heap.size 3 i0 _ 1 8 Try.underlying33 hi hz0 hz1 hz2 rfl (by omega) rfl (.slice a' n c') n _ rfl OWN.out wr.heap.size rfl rfl (by simp [Value.oneCell']) (by unfold maxLen; omega) (by omega) BL.out.size ?_
               intro u1 w1 ho hg hne
               obtain ⟨la', lc', rfl⟩ := own_value ho))
          exact ⟨⟨n + 1, la', lc', by omega, by go_num, rfl, Lib.hid (AL2.out hL), Lib.hid (by rw [TK.out]; simpa using ho), Lib.hid (BL.out.grown hg BL.out.size (own_block_ge OWN.out))⟩, by
            change zs.length - ((n : Int) + 1).toNat < zs.length - (n : Int).toNat
            omega⟩
        | false =>
          rw [hL] at C
          go_wp2_with (go_at_call 21; refine (C.out _).mono ?_; rintro e w1 ⟨rfl, rfl⟩)
          go_returns
          rw [NA.out hL]
          exact ⟨rfl, BL.out⟩
      · obtain rfl : n = zs.length := by omega
        go_wp2_with fail
        go_returns
        rw [is_all h40 (fun i hi => AL.out i hi hi)]
        have o := sl_of_own OWN.out
        rw [List.take_length] at o
        refine ⟨⟨a', c', rfl, o, ?_⟩, BL.out⟩
        rcases OWN.out.2 with ⟨hv, h0⟩ | ⟨g, cap, cur, hv, -, -, hle, -⟩
        · injection hv with v1 v2 v3
          exact ⟨by omega, fun _ => ⟨h0, v3⟩⟩
        · injection hv with v1 v2 v3
          exact ⟨by omega, fun e => by rw [v1] at e; cases e⟩
  · have e : numOk zs = false := by unfold numOk; rw [decide_eq_false h40]; rfl
    rw [e]
    go_enter Try.func10, Try.ntmps10
    go_wp2
    go_returns
    exact ⟨rfl, Below.refl _ _⟩

end Go.Proofs.Ytgblmafollhojaa
