/-
  The contract of spec.Distance, with swaps and without: the edit distance of two lists of at most 500 numbers. Conditions: as stated.
-/
import Derived.Test.YtgblmafollhojaaEdSw
import Derived.Laws.MakeOwn

namespace Go.Proofs.Ytgblmafollhojaa
open Go.ChangeShapes Go.WideShapes Go.ChangeAt Go.RowKit
set_option linter.unusedVariables false

/-- the distance of the first i letters of xs and the first k ones of ys -/
def eds (sw : Bool) (xs ys : List Int) : Nat → Nat → Nat
  | 0, k => k
  | i + 1, 0 => i + 1
  | i + 1, k + 1 =>
    if swB sw i k (xs.getD i 0) (ys.getD k 0) (xs.getD (i - 1) 0) (ys.getD (k - 1) 0) then
      min (min (min (eds sw xs ys i (k + 1)) (eds sw xs ys (i + 1) k) + 1) (if xs.getD i 0 = ys.getD k 0 then eds sw xs ys i k else eds sw xs ys i k + 1)) (eds sw xs ys (i - 1) (k - 1) + 1)
    else min (min (eds sw xs ys i (k + 1)) (eds sw xs ys (i + 1) k) + 1) (if xs.getD i 0 = ys.getD k 0 then eds sw xs ys i k else eds sw xs ys i k + 1)
termination_by i k => i + k
decreasing_by all_goals omega

theorem eds_zero (sw : Bool) (xs ys : List Int) (k : Nat) : eds sw xs ys 0 k = k := by unfold eds; rfl
theorem eds_left (sw : Bool) (xs ys : List Int) (i : Nat) : eds sw xs ys i 0 = i := by
  cases i with
  | zero => exact eds_zero _ _ _ _
  | succ i => unfold eds; rfl
theorem eds_succ (sw : Bool) (xs ys : List Int) (i k : Nat) : eds sw xs ys (i + 1) (k + 1) = if swB sw i k (xs.getD i 0) (ys.getD k 0) (xs.getD (i - 1) 0) (ys.getD (k - 1) 0) then
      min (min (min (eds sw xs ys i (k + 1)) (eds sw xs ys (i + 1) k) + 1) (if xs.getD i 0 = ys.getD k 0 then eds sw xs ys i k else eds sw xs ys i k + 1)) (eds sw xs ys (i - 1) (k - 1) + 1)
    else min (min (eds sw xs ys i (k + 1)) (eds sw xs ys (i + 1) k) + 1) (if xs.getD i 0 = ys.getD k 0 then eds sw xs ys i k else eds sw xs ys i k + 1) := by
  rw [eds]

theorem eds_le (sw : Bool) (xs ys : List Int) : ∀ (n i k : Nat), i + k ≤ n → eds sw xs ys i k ≤ i + k
  | _, 0, k, _ => by rw [eds_zero]; omega
  | _, i + 1, 0, _ => by rw [eds_left]; omega
  | n + 1, i + 1, k + 1, h => by
    have h1 := eds_le sw xs ys n i (k + 1) (by omega)
    rw [eds_succ]
    split <;> omega
  | 0, _ + 1, _ + 1, h => by omega

/-- a row of the table -/
def rowD (sw : Bool) (xs ys : List Int) (i m : Nat) : List Value := (List.range m).map fun k => Value.int .i64 (eds sw xs ys i k : Nat)

theorem rowD_len (sw : Bool) (xs ys : List Int) (i m : Nat) : (rowD sw xs ys i m).length = m := by simp [rowD]
theorem rowD_get (sw : Bool) (xs ys : List Int) (i m k : Nat) (h : k < m) : (rowD sw xs ys i m)[k]? = some (.int .i64 (eds sw xs ys i k : Nat)) := by
  simp [rowD, List.getElem?_range h]
theorem rowD_snoc (sw : Bool) (xs ys : List Int) (i m : Nat) : rowD sw xs ys i (m + 1) = rowD sw xs ys i m ++ [.int .i64 (eds sw xs ys i m : Nat)] := by
  simp [rowD, List.range_succ]

theorem made_rep (z : Value) (n : Nat) : (madeCells #[z] n) = (List.replicate n z).toArray := by
  apply Array.ext'
  apply List.ext_getElem
  · simp [madeCells]
  · intro i h1 h2
    simp [madeCells, Nat.mod_one]

theorem infoRow : (Try.prog.info? 33).map (fun i => (i.zero, i.size, i.bytes)) = some (some (.slice none 0 0), 1, 24) := by kernel_rfl
theorem infoInt : (Try.prog.info? 3).map (fun i => (i.zero, i.size, i.bytes)) = some (some (.int .i64 0), 1, 8) := by kernel_rfl

/-- the row j of the table, as a slice -/
def rv (B M j : Nat) : Value := .slice (some ⟨B + 1 + j, 0, none⟩) M M
/-- the table's first i rows, the others nil -/
def dcells (B M N i : Nat) : List Value := (List.range i).map (rv B M) ++ List.replicate (N - i) (.slice none 0 0)

theorem dcells_len (B M N i : Nat) (h : i ≤ N) : (dcells B M N i).length = N := by
  simp [dcells]; omega
theorem dcells_get (B M N i j : Nat) (h : j < i) : (dcells B M N i)[j]? = some (rv B M j) := by
  unfold dcells
  rw [List.getElem?_append_left (by simpa using h)]
  simp [List.getElem?_range h]
theorem dcells_set (B M N i : Nat) (h : i < N) : (dcells B M N i).set i (rv B M i) = dcells B M N (i + 1) := by
  unfold dcells
  have e : N - i = (N - (i + 1)) + 1 := by omega
  rw [e, List.replicate_succ, List.set_append_right _ _ (by simp), List.range_succ]
  simp

/-- all that the table holds when i rows are there -/
structure TabS (sw : Bool) (w : World) (B : Nat) (xs ys : List Int) (i : Nat) : Prop where
  head : Blk w B 33 (dcells B (ys.length + 1) (xs.length + 1) i)
  rows : ∀ j, j < i → Blk w (B + 1 + j) 3 (rowD sw xs ys j (ys.length + 1))

theorem TabS.keep {sw : Bool} {w w' : World} {B : Nat} {xs ys : List Int} {i : Nat} (h : TabS sw w B xs ys i) (hk : ∀ k, B ≤ k → k < B + 1 + i → w'.heap[k]? = w.heap[k]?) : TabS sw w' B xs ys i :=
  ⟨(hk B (by omega) (by omega)).trans h.head, fun j hj => (hk _ (by omega) (by omega)).trans (h.rows j hj)⟩

theorem getD_cell {w : World} {B : Nat} {ad : Addr} {xs : List Int} (h : Sl w B (some ad) (xs.map (.int .i64))) (j : Nat) (hj : j < xs.length) : w.cell? (ad.add j) = some (.int .i64 (xs.getD j 0)) := by
  obtain ⟨ad', h1, hc⟩ := h.ints j hj
  injection h1 with h1
  subst h1
  exact hc

theorem step_call (sw : Bool) (a b : Option Addr) (xs ys : List Int) (c d B B' n m : Nat) (W : World) (rest : List Value) (hn : n ≤ xs.length) (hm : m ≤ ys.length) (hl1 : xs.length ≤ 500) (hl2 : ys.length ≤ 500)
    (hs1 : Sl W B' a (xs.map (.int .i64))) (hs2 : Sl W B' b (ys.map (.int .i64))) (head : Blk W B 33 (dcells B (ys.length + 1) (xs.length + 1) (n + 1)))
    (rows : ∀ j, j < n → Blk W (B + 1 + j) 3 (rowD sw xs ys j (ys.length + 1))) (cur : Blk W (B + 1 + n) 3 (rowD sw xs ys n m ++ rest)) :
    Calls Try.prog 28 #[.slice (some ⟨B, 0, none⟩) (xs.length + 1) (xs.length + 1), .slice a xs.length c, .slice b ys.length d, .int .i64 n, .int .i64 m, .bool sw] W fun e w' =>
      e = .returned (.int .i64 (eds sw xs ys n m : Nat)) ∧ ∃ q, w' = W.drewN q := by
  rcases n with _ | n
  · refine (step_zero ⟨0, 0, none⟩ ⟨0, 0, none⟩ ⟨0, 0, none⟩ _ _ _ _ _ _ _ _ 0 m W rfl rfl (.inl rfl) (by omega) (by omega) a b _ sw).mono ?_
    rintro e w' ⟨rfl, rfl⟩
    exact ⟨by rw [eds_zero, Nat.zero_add], 0, rfl⟩
  · rcases m with _ | m
    · refine (step_zero ⟨0, 0, none⟩ ⟨0, 0, none⟩ ⟨0, 0, none⟩ _ _ _ _ _ _ _ _ (n + 1) 0 W rfl rfl (.inr rfl) (by omega) (by omega) a b _ sw).mono ?_
      rintro e w' ⟨rfl, rfl⟩
      exact ⟨by rw [eds_left], 0, rfl⟩
    · obtain ⟨ada, rfl, hca⟩ := hs1.ints n (by omega)
      obtain ⟨adb, rfl, hcb⟩ := hs2.ints m (by omega)
      have d1 := (head.cell n).trans (dcells_get _ _ _ _ _ (by omega))
      have d0 := (head.cell (n + 1)).trans (dcells_get _ _ _ _ _ (by omega))
      have e1 := ((rows n (by omega)).cell (m + 1)).trans (rowD_get _ _ _ _ _ _ (by omega))
      have e3 := ((rows n (by omega)).cell m).trans (rowD_get _ _ _ _ _ _ (by omega))
      have e2 := cur.cell m
      rw [List.getElem?_append_left (by rw [rowD_len]; omega), rowD_get _ _ _ _ _ _ (by omega)] at e2
      have d2 : 0 < n → W.cell? ⟨B, n - 1, none⟩ = some (.slice (some ⟨B + 1 + (n - 1), 0, none⟩) (ys.length + 1) (ys.length + 1)) := fun h => (head.cell (n - 1)).trans (dcells_get _ _ _ _ _ (by omega))
      have e4 : 0 < n → 0 < m → W.cell? ⟨B + 1 + (n - 1), m - 1, none⟩ = some (.int .i64 (eds sw xs ys (n - 1) (m - 1) : Nat)) := fun h h' => ((rows (n - 1) (by omega)).cell (m - 1)).trans (rowD_get _ _ _ _ _ _ (by omega))
      have f3 : 0 < m → W.cell? (adb.add (m - 1)) = some (.int .i64 (ys.getD (m - 1) 0)) := fun h => getD_cell hs2 (m - 1) (by omega)
      have f4 : 0 < n → W.cell? (ada.add (n - 1)) = some (.int .i64 (xs.getD (n - 1) 0)) := fun h => getD_cell hs1 (n - 1) (by omega)
      have l1 := eds_le sw xs ys _ n (m + 1) (Nat.le_refl _)
      have l2 := eds_le sw xs ys _ (n + 1) m (Nat.le_refl _)
      have l3 := eds_le sw xs ys _ n m (Nat.le_refl _)
      have l4 := eds_le sw xs ys _ (n - 1) (m - 1) (Nat.le_refl _)
      have C := step_any ada adb B (xs.length + 1) (xs.length + 1) xs.length c ys.length d (B + 1 + (n + 1)) (B + 1 + n) (B + 1 + (n - 1)) (ys.length + 1) (ys.length + 1) (ys.length + 1) _ _ _ _ n m _ _ _ _ sw W
        (by omega) (by omega) (by omega) (by omega) (by omega) (by omega) (by omega) (by omega) (by omega) (by omega) (by omega) (by omega) (by omega) (by omega) (by omega) (by omega) d1 d0 e1 e2 e3 hca hcb f3 f4 d2 e4
      refine Calls.mono C ?_
      rintro e w' ⟨rfl, hq⟩
      exact ⟨by rw [eds_succ], hq⟩

theorem rowD_set (sw : Bool) (xs ys : List Int) (n m M : Nat) (h : m < M) (z : Value) : (rowD sw xs ys n m ++ List.replicate (M - m) z).set m (.int .i64 (eds sw xs ys n m : Nat)) = rowD sw xs ys n (m + 1) ++ List.replicate (M - (m + 1)) z := by
  have e : M - m = (M - (m + 1)) + 1 := by omega
  rw [e, List.replicate_succ, List.set_append_right _ _ (by rw [rowD_len]; omega), rowD_len, Nat.sub_self, rowD_snoc]
  simp

set_option maxRecDepth 100000 in
set_option maxHeartbeats 2000000 in
theorem dist_any (sw : Bool) (a b : Option Addr) (xs ys : List Int) (c d : Nat) (w : World) (hl1 : xs.length ≤ 500) (hl2 : ys.length ≤ 500)
    (hs1 : Sl w w.heap.size a (xs.map (.int .i64))) (hs2 : Sl w w.heap.size b (ys.map (.int .i64))) :
    Calls Try.prog 16 #[.slice a xs.length c, .slice b ys.length d, .bool sw] w fun e w' => e = .returned (.int .i64 (eds sw xs ys xs.length ys.length : Nat)) ∧ Below w.heap.size w w' := by
  have H1 := Lib.hid hs1
  have H2 := Lib.hid hs2
  clear hs1 hs2
  obtain ⟨i1, hi1, hz10, hz11, hz12⟩ := info_parts infoRow
  obtain ⟨i2, hi2, hz20, hz21, hz22⟩ := info_parts infoInt
  have hmk1 : ∀ u : World, (Instr.makeSlice 58 (.int .i64 ((xs.length : Int) + 1)) (.int .i64 ((xs.length : Int) + 1))).run Try.prog u =
      .ok (.slice (some ⟨u.heap.size, 0, none⟩) (xs.length + 1) (xs.length + 1)) (u.alloc (.cells (madeCells #[.slice none 0 0] (xs.length + 1)) 33)) := fun u => by
    have h := run_make (P := Try.prog) u 58 33 i1 (.slice none 0 0) Try.underlying58 hi1 hz10 .i64 .i64 ((xs.length : Int) + 1) ((xs.length : Int) + 1) (by omega) (Int.le_refl _) (by rw [hz12]; omega) (by omega)
    have e : ((xs.length : Int) + 1).toNat = xs.length + 1 := by omega
    rw [e] at h
    simpa [hz11, Value.cells] using h
  have hmk2 : ∀ u : World, (Instr.makeSlice 33 (.int .i64 ((ys.length : Int) + 1)) (.int .i64 ((ys.length : Int) + 1))).run Try.prog u =
      .ok (.slice (some ⟨u.heap.size, 0, none⟩) (ys.length + 1) (ys.length + 1)) (u.alloc (.cells (madeCells #[.int .i64 0] (ys.length + 1)) 3)) := fun u => by
    have h := run_make (P := Try.prog) u 33 3 i2 (.int .i64 0) Try.underlying33 hi2 hz20 .i64 .i64 ((ys.length : Int) + 1) ((ys.length : Int) + 1) (by omega) (Int.le_refl _) (by rw [hz22]; omega) (by omega)
    have e : ((ys.length : Int) + 1).toNat = ys.length + 1 := by omega
    rw [e] at h
    simpa [hz21, Value.cells] using h
  simp only [made_rep] at hmk1 hmk2
  generalize hB : w.heap.size = B at *
  have hHB := Lib.hid hB
  go_enter Try.func16, Try.ntmps16
  go_wp2_with fail
  go_loopw [8, 9] (fun i _ wr => ∃ n : Nat, n ≤ xs.length + 1 ∧ i = .int .i64 n ∧ wr.heap.size = B + 1 + n ∧ TabS sw wr B xs ys n ∧ Below B w wr) (fun i _ _ => xs.length + 1 - (intOf i).toNat)
  case atStart =>
    refine ⟨0, by omega, rfl, by simp [hB], ⟨?_, fun j hj => by omega⟩, (Below.refl _ _).alloc (by omega) _⟩
    have h := Blk.new w 33 (List.replicate (xs.length + 1) (.slice none 0 0))
    rw [hB] at h
    simpa [dcells] using h
  case round =>
    clear hmk1
    obtain ⟨n, hn, rfl, hsz, htab, hbw⟩ := hrel
    by_cases hlt : n ≤ xs.length
    · have HT := Lib.hid htab
      have HBW := Lib.hid hbw
      have hc := htab.head.frozen n
      have hcc := htab.head.cell n
      have hex : ∃ v, (dcells B (ys.length + 1) (xs.length + 1) n)[n]? = some v := ⟨_, List.getElem?_eq_getElem (by rw [dcells_len _ _ _ _ (by omega)]; omega)⟩
      obtain ⟨v0, hv0⟩ := hex
      rw [hv0] at hcc
      have hcA : ∀ o, (wr.alloc o).cell? ⟨B, n, none⟩ = some v0 := fun o => ((htab.head.alloc o).cell n).trans hv0
      have hfA : ∀ o, (wr.alloc o).frozen? ⟨B, n, none⟩ = false := fun o => (htab.head.alloc o).frozen n
      have hlt' : (n : Int) < (xs.length : Int) + 1 := by omega
      have HSZ := Lib.hid hsz
      clear htab hbw hv0 hsz
      go_wp2_with fail
      have hszn := HSZ.out
      obtain ⟨wo, hwo⟩ : ∃ wo : World, wo = wr := ⟨_, rfl⟩
      subst hwo
      go_loopw [9] (fun k wq => ∃ m : Nat, m ≤ ys.length + 1 ∧ k = .int .i64 m ∧ wq.heap.size = B + 2 + n ∧ Blk wq B 33 (dcells B (ys.length + 1) (xs.length + 1) (n + 1)) ∧
          Hid (∀ j, j < n → Blk wq (B + 1 + j) 3 (rowD sw xs ys j (ys.length + 1))) ∧ Blk wq (B + 1 + n) 3 (rowD sw xs ys n m ++ List.replicate (ys.length + 1 - m) (.int .i64 0)) ∧ Below B w wq) (fun k _ => ys.length + 1 - (intOf k).toNat)
      case atStart =>
        have ea : (Array.replicate (ys.length + 1) (Value.int .i64 0)) = (List.replicate (ys.length + 1) (Value.int .i64 0)).toArray := by simp
        rw [ea]
        have e1 : (Value.slice (some ⟨wo.heap.size, 0, none⟩) (ys.length + 1) (ys.length + 1)) = rv B (ys.length + 1) n := by rw [hszn]; rfl
        rw [e1]
        have hb0 := Blk.new wo 3 (List.replicate (ys.length + 1) (.int .i64 0))
        have hh := (HT.out.head.alloc (.cells (List.replicate (ys.length + 1) (Value.int .i64 0)).toArray 3)).set_ n (rv B (ys.length + 1) n)
        rw [dcells_set _ _ _ _ (by omega)] at hh
        rw [hszn] at hb0
        have hb1 := hb0.far (p := ⟨B, n, none⟩) (by simp; omega) (rv B (ys.length + 1) n)
        refine ⟨0, by omega, rfl, by simp [World.setCell, hszn]; omega, hh, Lib.hid (fun j hj => ((HT.out.rows j hj).alloc _).far (p := ⟨B, n, none⟩) (by simp; omega) _), ?_, (HBW.out.alloc (by omega) _).setCell (by simp) _⟩
        simpa [rowD] using hb1
      case round =>
        clear hcA hfA hcc hc
        obtain ⟨m, hm, rfl, hszq, hhead, hrows, hcur, hbq⟩ := hrel
        have HH := Lib.hid hhead
        have HC := Lib.hid hcur
        have HBQ := Lib.hid hbq
        have HSQ := Lib.hid hszq
        have HR := Lib.hid hrows
        clear hhead hcur hbq hszq hrows hszn
        by_cases hltm : m ≤ ys.length
        · have C : Hid (∀ W q, W = wr.drewN q → Calls Try.prog 28 #[.slice (some ⟨B, 0, none⟩) (xs.length + 1) (xs.length + 1), .slice a xs.length c, .slice b ys.length d, .int .i64 n, .int .i64 m, .bool sw] W fun e w' =>
              e = .returned (.int .i64 (eds sw xs ys n m : Nat)) ∧ ∃ q, w' = W.drewN q) := Lib.hid (fun W q hW => by
            subst hW
            exact step_call sw a b xs ys c d B B n m (wr.drewN q) _ hlt hltm hl1 hl2 ((H1.out.below (by have := HBQ.out; exact this)).drewN q) ((H2.out.below (by have := HBQ.out; exact this)).drewN q) (HH.out.drewN q) (fun j hj => (HR.out.out j hj).drewN q) (HC.out.drewN q))
          have hd := (HH.out.cell n).trans (dcells_get _ _ _ _ _ (by omega))
          have hk := HC.out.cell m
          have hkf := HC.out.frozen m
          rw [List.getElem?_append_right (by rw [rowD_len]; omega), rowD_len, Nat.sub_self, List.getElem?_replicate, if_pos (by omega)] at hk
          have hb0 : (0 : Int) ≤ (n : Int) := by omega
          have hb1 : (n : Int) < (xs.length : Int) + 1 := by omega
          have hb2 : (0 : Int) ≤ (m : Int) := by omega
          have hb3 : (m : Int) < (ys.length : Int) + 1 := by omega
          unfold rv at hd
          have hnB : ¬ (B + 1 + n = B) := by omega
          have hnB' : ¬ (B = B + 1 + n) := by omega
          go_wp2_with fail
          go_region_held3 (fun w' => w'.cell? ⟨B, n, none⟩ = some (.slice (some ⟨B + 1 + n, 0, none⟩) (ys.length + 1) (ys.length + 1))) (go_keep)
            (first | (go_at_call 28; refine (C.out _ 1 rfl).mono ?_; rintro e w' ⟨rfl, q, rfl⟩))
          go_wp2
          go_roundw
          case rel =>
            have h1 := (HC.out.drewN (1 + q)).set_ m (.int .i64 (eds sw xs ys n m : Nat))
            rw [rowD_set _ _ _ _ _ _ (by omega)] at h1
            exact ⟨m + 1, by omega, by go_num, by simpa [World.setCell, World.drewN] using HSQ.out, (HH.out.drewN (1 + q)).far (p := ⟨B + 1 + n, m, none⟩) (by simp; omega) _,
              Lib.hid (fun j hj => ((HR.out.out j hj).drewN (1 + q)).far (p := ⟨B + 1 + n, m, none⟩) (by simp; omega) _), h1, (below_drewN HBQ.out (1 + q)).setCell (p := ⟨B + 1 + n, m, none⟩) (by simp; omega) _⟩
          case measure => simp [intOf]; omega
        · obtain rfl : m = ys.length + 1 := by omega
          go_wp2
          go_roundw
          case rel =>
            refine ⟨n + 1, by omega, by go_num, by have := HSQ.out; omega, ⟨HH.out, fun j hj => ?_⟩, HBQ.out⟩
            by_cases hjn : j < n
            · exact HR.out.out j hjn
            · obtain rfl : j = n := by omega
              have h1 := HC.out
              rw [Nat.sub_self, List.replicate_zero, List.append_nil] at h1
              exact h1
          case measure => simp [intOf]; omega
    · obtain rfl : n = xs.length + 1 := by omega
      have hd := (htab.head.cell xs.length).trans (dcells_get _ _ _ _ _ (by omega))
      have hk := ((htab.rows xs.length (by omega)).cell ys.length).trans (rowD_get _ _ _ _ _ _ (by omega))
      have HBW := Lib.hid hbw
      unfold rv at hd
      clear htab hbw hsz hmk2
      go_wp2
      go_ret
      exact ⟨rfl, by have := HBW.out; exact this⟩
end Go.Proofs.Ytgblmafollhojaa
