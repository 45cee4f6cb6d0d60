/-
  FnKey: two lists of numbers have the same bytes just if they are the same: the contracts of instsKey and SameBytes. Conditions: none.
-/
import Derived.Test.YtpmkkajbmdoflabSameBytes
import Derived.Test.YtpmkkajbmdoflabShelf
import Derived.Laws.MakeOwn
import Derived.Lib.LazyBuf
namespace Go.Proofs.Ytpmkkajbmdoflab.fnKey
open Go.ChangeShapes Go.WideShapes Go.ChangeAt Go.RowKit
set_option linter.unusedVariables false

def le8 (n : Int) : List Value := Lib.byteCells (Lib.leBytes 8 n.toNat)
theorem le8_len (n : Int) : (le8 n).length = 8 := by
  simp [le8, Lib.byteCells, Lib.leBytes]
def keyCells (ns : List Int) : List Value := ns.flatMap le8
theorem keyCells_len (ns : List Int) : (keyCells ns).length = ns.length * 8 := flat_len le8 8 le8_len ns

theorem made_one (z : Value) (n : Nat) : (madeCells #[z] n).toList = List.replicate n z := by
  apply List.ext_getElem
  · simp [madeCells]
  · intro i h1 h2
    simp [madeCells, Nat.mod_one]

theorem info5 : (Try.prog.info? 5).map (fun i => (i.zero, i.size, i.bytes)) = some (some (.int .u8 0), 1, 1) := by kernel_rfl

theorem keyCells_snoc (ns : List Int) (k : Nat) (h : k < ns.length) : keyCells (ns.take (k + 1)) = keyCells (ns.take k) ++ le8 ns[k] := by
  unfold keyCells
  rw [List.take_succ_eq_append_getElem h, List.flatMap_append]
  simp

/-- the byte slice v holds the bytes l in w -/
def Bytes (w : World) (v : Value) (l : List Int) : Prop := ∃ a c, v = .slice a l.length c ∧ Sl w w.heap.size a (l.map (.int .u8))

def le8i (n : Int) : List Int := (Lib.leBytes 8 n.toNat).map fun b => (b.toNat : Int)
def keyL (ns : List Int) : List Int := ns.flatMap le8i
theorem le8i_len (n : Int) : (le8i n).length = 8 := by simp [le8i, Lib.leBytes]
theorem keyL_map : ∀ (ns : List Int), (keyL ns).map (Value.int .u8) = keyCells ns
  | [] => rfl
  | n :: ns => by
    have h := keyL_map ns
    unfold keyL keyCells at h ⊢
    simp only [List.flatMap_cons, List.map_append, h]
    congr 1
theorem keyL_len (ns : List Int) : (keyL ns).length = ns.length * 8 := by
  have h := congrArg List.length (keyL_map ns)
  rw [List.length_map, keyCells_len] at h
  exact h

def leVal : List Int → Nat
  | [] => 0
  | b :: r => b.toNat + 256 * leVal r
theorem leVal_leBytes : ∀ (k v : Nat), leVal ((Lib.leBytes k v).map fun b => (b.toNat : Int)) = v % 256 ^ k
  | 0, v => by simp [Lib.leBytes, leVal, Nat.mod_one]
  | k + 1, v => by
    simp only [Lib.leBytes, List.map_cons, leVal, leVal_leBytes k (v / 256)]
    have e : ((v % 256).toUInt8.toNat : Int).toNat = v % 256 := by
      rw [Int.toNat_natCast, Lib.toUInt8_mod]
    rw [e, Nat.pow_succ, Nat.mul_comm (256 ^ k) 256, Nat.mod_mul]

theorem le8i_inj (x y : Int) (hx : 0 ≤ x ∧ x ≤ 18446744073709551615) (hy : 0 ≤ y ∧ y ≤ 18446744073709551615) (h : le8i x = le8i y) : x = y := by
  have h2 := congrArg leVal h
  unfold le8i at h2
  rw [leVal_leBytes, leVal_leBytes] at h2
  omega

theorem keyL_inj : ∀ (xs ys : List Int), (∀ z ∈ xs, 0 ≤ z ∧ z ≤ 18446744073709551615) → (∀ z ∈ ys, 0 ≤ z ∧ z ≤ 18446744073709551615) → keyL xs = keyL ys → xs = ys
  | [], [], _, _, _ => rfl
  | [], y :: ys, _, _, h => by
    have := congrArg List.length h
    rw [keyL_len, keyL_len] at this
    simp at this
  | x :: xs, [], _, _, h => by
    have := congrArg List.length h
    rw [keyL_len, keyL_len] at this
    simp at this
  | x :: xs, y :: ys, hx, hy, h => by
    unfold keyL at h
    simp only [List.flatMap_cons] at h
    obtain ⟨h1, h2⟩ := List.append_inj h (by rw [le8i_len, le8i_len])
    rw [le8i_inj x y (hx x (by simp)) (hy y (by simp)) h1, keyL_inj xs ys (fun z hz => hx z (by simp [hz])) (fun z hz => hy z (by simp [hz])) h2]

theorem sameL_key (xs ys : List Int) (hx : ∀ z ∈ xs, 0 ≤ z ∧ z ≤ 18446744073709551615) (hy : ∀ z ∈ ys, 0 ≤ z ∧ z ≤ 18446744073709551615) : sameL (keyL xs) (keyL ys) = decide (xs = ys) := by
  unfold sameL
  by_cases h : xs = ys
  · rw [decide_eq_true (by rw [h]), decide_eq_true h]
  · rw [decide_eq_false h, decide_eq_false (fun e => h (keyL_inj xs ys hx hy e))]

theorem eight (l : List Value) (h : 8 ≤ l.length) : ∃ x0 x1 x2 x3 x4 x5 x6 x7 r, l = [x0, x1, x2, x3, x4, x5, x6, x7] ++ r := by
  match l, h with
  | x0 :: x1 :: x2 :: x3 :: x4 :: x5 :: x6 :: x7 :: r, _ => exact ⟨x0, x1, x2, x3, x4, x5, x6, x7, r, rfl⟩

set_option maxHeartbeats 800000 in
theorem key_any (a : Option Addr) (ns : List Int) (c : Nat) (w : World) (hl : ns.length ≤ 65536) (hn : ∀ z ∈ ns, 0 ≤ z ∧ z ≤ 18446744073709551615)
    (hs : Sl w w.heap.size a (ns.map (.int .u64))) :
    Calls Try.prog 35 #[.slice a ns.length c, .slice none 0 0] w fun e w' => ∃ v, e = .returned v ∧ Bytes w' v (keyL ns) ∧ Below w.heap.size w w' := by
  have HS := Lib.hid hs
  have HN := Lib.hid hn
  clear hs hn
  rcases Nat.eq_zero_or_pos ns.length with h0 | h0
  · obtain rfl : ns = [] := List.eq_nil_of_length_eq_zero h0
    clear hl h0
    go_enter Try.func35, Try.ntmps35
    go_wp2
    go_loop [24] (fun k => k = .int .i64 0) (fun _ => 0)
    case atStart => rfl
    case round =>
      obtain rfl := hrel
      go_wp2
      go_ret
      exact ⟨_, rfl, ⟨none, 0, rfl, Sl.nil⟩, Below.refl _ _⟩
  · obtain ⟨i0, hi, hz0, hz1, hz2⟩ := info_parts info5
    have hmk : ∀ u : World, (Instr.makeSlice 26 (.int .i64 (8 * (ns.length : Int))) (.int .i64 (8 * (ns.length : Int)))).run Try.prog u =
        .ok (.slice (some ⟨u.heap.size, 0, none⟩) (8 * ns.length) (8 * ns.length)) (u.alloc (.cells (madeCells #[.int .u8 0] (8 * ns.length)) 5)) := fun u => by
      have h := run_make (P := Try.prog) u 26 5 i0 (.int .u8 0) Try.underlying26 hi hz0 .i64 .i64 (8 * (ns.length : Int)) (8 * (ns.length : Int)) (by omega) (Int.le_refl _) (by rw [hz2]; omega) (by omega)
      have e : (8 * (ns.length : Int)).toNat = 8 * ns.length := by omega
      rw [e] at h
      simpa [hz1, Value.cells] using h
    have hd0 : (0 : Int) < 8 * (ns.length : Int) := by omega
    go_enter Try.func35, Try.ntmps35
    go_wp2_with fail
    go_loopw [5, 6, 24] (fun _ _ k wr => ∃ (n : Nat) (l : List Value), n ≤ ns.length ∧ k = .int .i64 n ∧ l.length = 8 * (ns.length - n) ∧ Blk wr w.heap.size 5 (keyCells (ns.take n) ++ l) ∧ Below w.heap.size w wr) (fun _ _ k _ => ns.length - (intOf k).toNat)
    case atStart =>
      refine ⟨0, List.replicate (8 * ns.length) (.int .u8 0), by omega, rfl, by simp, ?_, (Below.refl _ _).alloc (Nat.le_refl _) _⟩
      have h := Blk.new w 5 (madeCells #[.int .u8 0] (8 * ns.length)).toList
      rw [made_one] at h
      rw [show (madeCells #[Value.int IntKind.u8 0] (8 * ns.length)) = (List.replicate (8 * ns.length) (Value.int IntKind.u8 0)).toArray by rw [← made_one]]
      exact h
    case round =>
      clear hmk
      obtain ⟨n, l, hnn, rfl, hll, hblk, hbw⟩ := hrel
      by_cases hlt : n < ns.length
      · obtain ⟨ad, rfl, hc0⟩ := (HS.out.below hbw).ints n hlt
        have hzn := HN.out (ns.getD n 0) (by rw [List.getD_eq_getElem?_getD, List.getElem?_eq_getElem hlt]; exact List.getElem_mem _)
        have ez : ns[n] = ns.getD n 0 := by rw [List.getD_eq_getElem?_getD, List.getElem?_eq_getElem hlt]; rfl
        have HK := Lib.hid (keyCells_snoc ns n hlt)
        have HEZ := Lib.hid ez
        clear ez
        generalize ns.getD n 0 = z at *
        obtain ⟨v, rfl⟩ := Int.eq_ofNat_of_zero_le hzn.1
        obtain ⟨x0, x1, x2, x3, x4, x5, x6, x7, r, rfl⟩ := eight l (by omega)
        have HB := Lib.hid hblk
        have hkl := keyCells_len (ns.take n)
        have htl : (ns.take n).length = n := List.length_take_of_le hnn
        rw [htl] at hkl
        have HKL := Lib.hid hkl
        have hC : ∀ j u, ([x0, x1, x2, x3, x4, x5, x6, x7] ++ r)[j]? = some u → wr.drew.cell? ⟨w.heap.size, n * 8 + j, none⟩ = some u := fun j u hu => by
          have h := (HB.out.drew).cell (n * 8 + j)
          rw [h, List.getElem?_append_right (by omega), hkl, show n * 8 + j - n * 8 = j by omega]
          exact hu
        have C := Lib.hid (Try.binary_LE_PutUint64 w.heap.size (n * 8) (8 * ns.length - n * 8) (8 * ns.length - n * 8) v (by omega) x0 x1 x2 x3 x4 x5 x6 x7 wr.drew (by omega) (hC 0 _ rfl) (hC 1 _ rfl) (hC 2 _ rfl) (hC 3 _ rfl) (hC 4 _ rfl) (hC 5 _ rfl) (hC 6 _ rfl) (hC 7 _ rfl)
          (HB.out.drew.frozen _) (HB.out.drew.frozen _) (HB.out.drew.frozen _) (HB.out.drew.frozen _) (HB.out.drew.frozen _) (HB.out.drew.frozen _) (HB.out.drew.frozen _) (HB.out.drew.frozen _))
        clear hC hblk htl hkl
        have hb0 : (0 : Int) ≤ (n : Int) * 8 := by omega
        have hb1 : (n : Int) * 8 < 8 * (ns.length : Int) := by omega
        have hb2 : IntKind.i64.wrap ((n : Int) * 8) = (n : Int) * 8 := by rw [IntKind.wrap_i64]; omega
        have hb3 : ((n : Int) * 8).toNat = n * 8 := by omega
        have hb4 : ¬ (8 * ns.length = n * 8) := by omega
        have hb5 : (n : Int) * 8 ≤ 8 * (ns.length : Int) := by omega
        go_wp2_with fail
        refine wp_region_still_tail 6 (by kernel_rfl) (by kernel_rfl) ?_
        simp only [List.take_succ_cons, List.take_zero, List.drop_succ_cons, List.drop_zero]
        change wpStill _ _ (World.drew _) _ _ _
        repeat still_step
        refine wpStill_nil ?_
        change wpList _ _ _ _ _ (World.drew _)
        go_wp2_with fail
        refine C.out.mono ?_
        rintro e w2 ⟨rfl, hw2⟩
        have hlen8 : (Lib.byteCells (Lib.leBytes 8 v)).length = 8 := by simp [Lib.byteCells, Lib.leBytes]
        have hB2 : Blk w2 w.heap.size 5 (keyCells (ns.take (n + 1)) ++ r) := by
          rw [hw2, HK.out, HEZ.out]
          have h := Blk.setCells (w := wr.drew.alloc (.cells #[] 65)) (vs := Lib.byteCells (Lib.leBytes 8 v)) (pre := keyCells (ns.take n)) (old := [x0, x1, x2, x3, x4, x5, x6, x7]) (post := r) (by rw [List.append_assoc]; exact HB.out.drew.alloc (.cells #[] 65)) (by rw [hlen8]; rfl)
          rw [HKL.out] at h
          exact h
        have hbw2 : Below w.heap.size w w2 := by
          rw [hw2]
          exact below_setCells (Nat.le_refl _) _ _ _ (hbw.drew.alloc hbw.size _)
        have HB2 := Lib.hid hB2
        have HR := Lib.hid hll
        clear hw2 hB2 hll hlen8 C HB
        go_wp2
        go_roundw
        case rel => exact ⟨n + 1, r, by omega, by go_num, by have := HR.out; simp at this; omega, HB2.out, hbw2⟩
        case measure => simp [intOf]; omega
      · obtain rfl : n = ns.length := by omega
        obtain rfl : l = [] := List.eq_nil_of_length_eq_zero (by omega)
        have HB := Lib.hid hblk
        have hsz := hblk.lt
        have HKL := Lib.hid (keyL_len ns)
        clear hblk
        go_wp2
        go_ret
        have hb := HB.out
        rw [List.append_nil, List.take_length] at hb
        exact ⟨_, rfl, ⟨some ⟨w.heap.size, 0, none⟩, 8 * ns.length, by rw [HKL.out]; show Value.slice _ (8 * ns.length) (8 * ns.length) = _; rw [Nat.mul_comm ns.length 8], by rw [keyL_map]; exact hb.sl hsz⟩, hbw⟩

theorem ikey_any (a : Option Addr) (ns : List Int) (c : Nat) (w : World) (hl : ns.length ≤ 65536) (hn : ∀ z ∈ ns, 0 ≤ z ∧ z ≤ 18446744073709551615) (hs : Sl w w.heap.size a (ns.map (.int .u64))) :
    Calls Try.prog 15 #[.slice a ns.length c] w fun e w' => ∃ v, e = .returned v ∧ Bytes w' v (keyL ns) ∧ Below w.heap.size w w' := by
  have C := Lib.hid (key_any a ns c w hl hn hs)
  clear hn hs
  go_enter Try.func15, Try.ntmps15
  go_wp2_with (first | (go_at_call 35; refine C.out.mono ?_; rintro e w' ⟨v, rfl, hB, hb⟩; have HB := Lib.hid hB; clear hB) | go_in)
  go_ret
  exact ⟨v, rfl, HB.out, hb⟩

def sB (xs ys : List Int) (n : Nat) : Bool := decide (xs.length = ys.length ∧ xs.take n = ys.take n)
theorem sB_end (xs ys : List Int) : sB xs ys xs.length = decide (xs = ys) := by
  unfold sB
  by_cases h : xs = ys
  · subst h; simp
  · rw [decide_eq_false h, decide_eq_false]
    rintro ⟨h1, h2⟩
    exact h (eq_of_takes _ rfl h1 h2)
theorem sB_true {xs ys : List Int} {n : Nat} (h : sB xs ys n = true) : xs.length = ys.length ∧ xs.take n = ys.take n := of_decide_eq_true h
theorem sB_step {xs ys : List Int} {n : Nat} (hn : n < xs.length) (h : sB xs ys n = true) : sB xs ys (n + 1) = (xs.getD n 0 == ys.getD n 0) := by
  obtain ⟨h1, h2⟩ := sB_true h
  by_cases he : xs.getD n 0 = ys.getD n 0
  · rw [beq_iff_eq.2 he]
    exact decide_eq_true ⟨h1, takes_succ hn (by omega) h2 he⟩
  · rw [beq_eq_false_iff_ne.2 he]
    refine decide_eq_false ?_
    rintro ⟨_, h4⟩
    refine he ?_
    have h5 := congrArg (fun l : List Int => l[n]?) h4
    simp only [List.getElem?_take, show n < n + 1 by omega, if_true] at h5
    rw [List.getD_eq_getElem?_getD, List.getD_eq_getElem?_getD, h5]
theorem sB_no {xs ys : List Int} {n : Nat} (h : sB xs ys n = false) : sB xs ys (n + 1) = false := by
  refine decide_eq_false ?_
  rintro ⟨h1, h2⟩
  have h3 := of_decide_eq_false h
  refine h3 ⟨h1, ?_⟩
  have h4 := congrArg (List.take n) h2
  simpa [List.take_take, Nat.min_eq_left (Nat.le_succ n)] using h4
theorem take_snoc_map (f : Int → Value) (xs : List Int) (n : Nat) (h : n < xs.length) : (xs.take (n + 1)).map f = (xs.take n).map f ++ [f (xs.getD n 0)] := by
  rw [List.take_succ_eq_append_getElem h, List.map_append, List.getD_eq_getElem?_getD, List.getElem?_eq_getElem h]
  rfl
theorem info32 : (Try.prog.info? 32).map (fun i => (i.zero, i.size, i.bytes)) = some (some (.int .u64 0), 1, 8) := by kernel_rfl

set_option maxHeartbeats 1600000 in
theorem law_any (a b : Option Addr) (xs ys : List Int) (c d : Nat) (w : World) (hl1 : xs.length ≤ 65536) (hl2 : ys.length ≤ 65536) (hx : ∀ z ∈ xs, 0 ≤ z ∧ z ≤ 4294967295) (hy : ∀ z ∈ ys, 0 ≤ z ∧ z ≤ 4294967295)
    (hs1 : Sl w w.heap.size a (xs.map (.int .u32))) (hs2 : Sl w w.heap.size b (ys.map (.int .u32))) :
    Calls Try.prog 6 #[.slice a xs.length c, .slice b ys.length d] w fun e w' => e = .returned (.bool true) ∧ Below w.heap.size w w' := by
  obtain ⟨i0, hi, hz0, hz1, hz2⟩ := info_parts info32
  have H1 := Lib.hid hs1
  have H2 := Lib.hid hs2
  have HX := Lib.hid hx
  have HY := Lib.hid hy
  clear hs1 hs2 hx hy
  have h0 : ((xs.length : Int) == (ys.length : Int)) = sB xs ys 0 := by
    unfold sB
    by_cases h : xs.length = ys.length
    · simp [h]
    · simp [h]; omega
  go_enter Try.func6, Try.ntmps6
  go_wp2_with fail
  go_loopw [5, 7, 8] (fun v s k wr => ∃ n : Nat, n ≤ xs.length ∧ k = .int .i64 n ∧ s = .bool (sB xs ys n) ∧ wr.ownsRow w.heap.size 32 1 v n ((xs.take n).map (.int .u64)) ∧ Below w.heap.size w wr) (fun _ _ k _ => xs.length - (intOf k).toNat)
  case atStart => exact ⟨0, by omega, rfl, rfl, ⟨by simp, .inl ⟨rfl, rfl⟩⟩, Below.refl _ _⟩
  case round =>
    clear h0
    obtain ⟨n, hnn, rfl, rfl, hown, hbw⟩ := hrel
    by_cases hlt : n < xs.length
    · obtain ⟨ad, rfl, hc0⟩ := (H1.out.below hbw).ints n hlt
      have hzn := HX.out (xs.getD n 0) (by rw [List.getD_eq_getElem?_getD, List.getElem?_eq_getElem hlt]; exact List.getElem_mem _)
      have HT := Lib.hid (take_snoc_map (.int .u64) xs n hlt)
      have hbs := hbw.size
      cases hS : sB xs ys n with
      | true =>
        have hlen := (sB_true hS).1
        obtain ⟨ad', rfl, hc1⟩ := (H2.out.below hbw).ints n (by omega)
        have HST := Lib.hid (sB_step hlt hS)
        have hb0 : (0 : Int) ≤ (n : Int) := by omega
        have hb1 : (n : Int) < (xs.length : Int) := by omega
        have hb2 : (n : Int) < (ys.length : Int) := by omega
        have HOWN := Lib.hid hown
        have HBW := Lib.hid hbw
        clear hlen hS hbw
        generalize hx0 : xs.getD n 0 = x at *
        generalize hy0 : ys.getD n 0 = y at *
        have HX0 := Lib.hid hx0
        have HY0 := Lib.hid hy0
        clear hx0 hy0
        go_wp2_with (at_builtin; refine append1 _ _ rfl (.tmp 39) (.tmp 45) 31 rfl w.heap.size 32 i0 _ 1 8 Try.underlying31 hi hz0 hz1 hz2 rfl (by omega) rfl u5 n _ rfl HOWN.out wr.heap.size rfl rfl (by simp [Value.oneCell']) (by unfold maxLen; omega) (by omega) hbs ?_; intro v' w1 hown' hg' _)
        have hbw1 := HBW.out.grown hg' hbs (own_block_ge HOWN.out)
        obtain ⟨_, h1, hd0⟩ := (H1.out.below hbw1).ints n hlt
        injection h1 with h1
        subst h1
        obtain ⟨_, h1, hd1⟩ := (H2.out.below hbw1).ints n (by omega)
        injection h1 with h1
        subst h1
        rw [HX0.out] at hd0
        rw [HY0.out] at hd1
        clear hc0 hc1 hg'
        have HBW1 := Lib.hid hbw1
        have HO1 := Lib.hid hown'
        clear hbw1 hown'
        go_quiet (fail)
        go_wp2
        go_roundw
        case rel => exact ⟨n + 1, by omega, by go_num, by rw [HST.out], by rw [HT.out]; exact HO1.out, below_drewN HBW1.out _⟩
        case measure => simp [intOf]; omega
      | false =>
        have HN := Lib.hid (sB_no hS)
        have hb0 : (0 : Int) ≤ (n : Int) := by omega
        have hb1 : (n : Int) < (xs.length : Int) := by omega
        have HOWN := Lib.hid hown
        have HBW := Lib.hid hbw
        clear hS hbw
        generalize xs.getD n 0 = x at *
        go_wp2_with (at_builtin; refine append1 _ _ rfl (.tmp 39) (.tmp 45) 31 rfl w.heap.size 32 i0 _ 1 8 Try.underlying31 hi hz0 hz1 hz2 rfl (by omega) rfl u5 n _ rfl HOWN.out wr.heap.size rfl rfl (by simp [Value.oneCell']) (by unfold maxLen; omega) (by omega) hbs ?_; intro v' w1 hown' hg' _)
        have HBW1 := Lib.hid (HBW.out.grown hg' hbs (own_block_ge HOWN.out))
        have HO1 := Lib.hid hown'
        clear hown' hg'
        go_quiet (fail)
        go_wp2
        go_roundw
        case rel => exact ⟨n + 1, by omega, by go_num, by rw [HN.out], by rw [HT.out]; exact HO1.out, below_drewN HBW1.out _⟩
        case measure => simp [intOf]; omega
    · obtain rfl : n = xs.length := by omega
      obtain ⟨a1, c1, rfl⟩ := own_value hown
      rw [List.take_length] at hown
      have HSE := Lib.hid (sB_end xs ys)
      have HSL := Lib.hid (sl_of_own hown)
      have HBW := Lib.hid hbw
      have hbs := hbw.size
      clear hown hbw
      generalize sB xs ys xs.length = sm at *
      have HSM := Lib.hid (HSE.out.trans (sameL_key xs ys (fun z hz => by have := HX.out z hz; omega) (fun z hz => by have := HY.out z hz; omega)).symm)
      clear HSE
      have HYB := Lib.hid (H2.out.below HBW.out)
      go_wp2_with fail
      obtain ⟨wo, hwo⟩ : ∃ wo : World, wo = wr := ⟨_, rfl⟩
      subst hwo
      go_loopw [6, 9] (fun v k wq => ∃ n : Nat, n ≤ ys.length ∧ k = .int .i64 n ∧ wq.ownsRow wo.heap.size 32 1 v n ((ys.take n).map (.int .u64)) ∧ Below wo.heap.size wo wq) (fun _ k _ => ys.length - (intOf k).toNat)
      case atStart => exact ⟨0, by omega, rfl, ⟨by simp, .inl ⟨rfl, rfl⟩⟩, Below.refl _ _⟩
      case round =>
        obtain ⟨n, hnn, rfl, hown, hbq⟩ := hrel
        have hbqs := hbq.size
        by_cases hlt : n < ys.length
        · obtain ⟨ad, rfl, hc0⟩ := ((HYB.out.more hbs).below hbq).ints n hlt
          have hzn := HY.out (ys.getD n 0) (by rw [List.getD_eq_getElem?_getD, List.getElem?_eq_getElem hlt]; exact List.getElem_mem _)
          have HT := Lib.hid (take_snoc_map (.int .u64) ys n hlt)
          have HOWN := Lib.hid hown
          have HBQ := Lib.hid hbq
          clear hbq
          generalize ys.getD n 0 = y at *
          go_wp2_with (at_builtin; refine append1 _ _ rfl (.tmp 65) (.tmp 71) 31 rfl wo.heap.size 32 i0 _ 1 8 Try.underlying31 hi hz0 hz1 hz2 rfl (by omega) rfl u6 n _ rfl HOWN.out wr.heap.size rfl rfl (by simp [Value.oneCell']) (by unfold maxLen; omega) (by omega) hbqs ?_; intro v' w1 hown' hg' _)
          have HBW1 := Lib.hid (HBQ.out.grown hg' hbqs (own_block_ge HOWN.out))
          have HO1 := Lib.hid hown'
          clear hown' hg'
          go_roundw
          case rel => exact ⟨n + 1, by omega, by go_num, by rw [HT.out]; exact HO1.out, HBW1.out⟩
          case measure => simp [intOf]; omega
        · obtain rfl : n = ys.length := by omega
          obtain ⟨a2, c2, rfl⟩ := own_value hown
          rw [List.take_length] at hown
          have C1 := Lib.hid (ikey_any a1 xs c1 wr hl1 (fun z hz => by have := HX.out z hz; omega) ((HSL.out.below hbq).more hbqs))
          have HSL2 := Lib.hid (sl_of_own hown)
          have HBQ := Lib.hid hbq
          clear hown hbq HSL
          go_wp2_with fail
          refine C1.out.mono ?_
          rintro e w3 ⟨v1, rfl, hB1, hb3⟩
          obtain ⟨a3, c3, rfl, hB1⟩ := hB1
          have hb3s := hb3.size
          have C2 := Lib.hid (ikey_any a2 ys c2 w3 hl2 (fun z hz => by have := HY.out z hz; omega) ((HSL2.out.below hb3).more hb3s))
          have HB1 := Lib.hid hB1
          have HB3 := Lib.hid hb3
          clear hB1 hb3 C1 HSL2
          go_wp2_with fail
          refine C2.out.mono ?_
          rintro e w4 ⟨v2, rfl, hB2, hb4⟩
          obtain ⟨a4, c4, rfl, hB2⟩ := hB2
          have C3 := Lib.hid (same_any a3 a4 (keyL xs) (keyL ys) c3 c4 w4.heap.size w4 (by rw [keyL_len]; omega) (by rw [keyL_len]; omega) ((HB1.out.below hb4).more hb4.size) hB2)
          rw [← HSM.out] at C3
          have HB4 := Lib.hid hb4
          have hb4s := hb4.size
          have hk1 := keyL_len xs
          have hk2 := keyL_len ys
          clear hB2 hb4 C2 HB1
          generalize (keyL xs).length = k1 at *
          generalize (keyL ys).length = k2 at *
          obtain rfl := hk1
          obtain rfl := hk2
          have HFIN := Lib.hid (HBW.out.trans ((HBQ.out.mono hbs).trans ((HB3.out.mono (Nat.le_trans hbs hbqs)).trans (HB4.out.mono (Nat.le_trans hbs (Nat.le_trans hbqs hb3s))))))
          rcases Nat.eq_zero_or_pos xs.length with hz | hp
          · have e1 : decide ((0 : Int) < (xs.length : Int) * 8) = false := decide_eq_false (by omega)
            have e2 : decide (0 < xs.length) = false := decide_eq_false (by omega)
            have e3 : decide (0 < xs.length * 8) = false := decide_eq_false (by omega)
            clear hz
            cases sm
            all_goals
              go_wp2_with fail
              refine C3.out.mono ?_
              rintro e w5 ⟨rfl, hb5⟩
              have HB5 := Lib.hid hb5
              clear hb5
              go_wp2
              go_ret
              exact ⟨rfl, HFIN.out.trans (HB5.out.mono (by omega))⟩
          · have e1 : decide ((0 : Int) < (xs.length : Int) * 8) = true := decide_eq_true (by omega)
            have e2 : decide (0 < xs.length) = true := decide_eq_true (by omega)
            have e3 : decide (0 < xs.length * 8) = true := decide_eq_true (by omega)
            cases sm
            all_goals
              go_wp2_with fail
              refine C3.out.mono ?_
              rintro e w5 ⟨rfl, hb5⟩
              have HB5 := Lib.hid hb5
              clear hb5
              go_wp2
              go_ret
              exact ⟨rfl, HFIN.out.trans (HB5.out.mono (by omega))⟩

theorem walk (a b : Option Addr) (xs ys : List Int) (c d : Nat) (w : World) (hm1 : xs.length ≤ maxLen) (hm2 : ys.length ≤ maxLen) (hx : ∀ z ∈ xs, 0 ≤ z ∧ z ≤ 4294967295) (hy : ∀ z ∈ ys, 0 ≤ z ∧ z ≤ 4294967295)
    (hs1 : Sl w w.heap.size a (xs.map (.int .u32))) (hs2 : Sl w w.heap.size b (ys.map (.int .u32))) :
    Calls Try.prog 6 #[.slice a xs.length c, .slice b ys.length d] w fun e w' => e = .returned (.bool true) ∧ Below w.heap.size w w' := by
  unfold maxLen at hm1 hm2
  by_cases h : xs.length ≤ 65536 ∧ ys.length ≤ 65536
  · exact law_any a b xs ys c d w h.1 h.2 hx hy hs1 hs2
  · clear hs1 hs2 hx hy
    by_cases h1 : 65536 < xs.length
    · clear h
      by_cases h2 : 2147483647 < xs.length
      · go_enter Try.func6, Try.ntmps6
        go_wp2
        all_goals (go_ret; exact ⟨rfl, Below.refl _ _⟩)
      · by_cases h3 : 2147483647 < ys.length
        all_goals
          go_enter Try.func6, Try.ntmps6
          go_wp2
          all_goals (go_ret; exact ⟨rfl, Below.refl _ _⟩)
    · have h2 : 65536 < ys.length := by omega
      clear h
      by_cases h3 : 2147483647 < ys.length
      all_goals
        go_enter Try.func6, Try.ntmps6
        go_wp2
        all_goals (go_ret; exact ⟨rfl, Below.refl _ _⟩)

end Go.Proofs.Ytpmkkajbmdoflab.fnKey
