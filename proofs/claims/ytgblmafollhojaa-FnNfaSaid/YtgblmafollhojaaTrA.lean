/-
  Steps of places: what is added, in plain Lean; one addition under a frame; extractBit, msDiameter, newLevenshtein. Conditions: as stated.
-/
import Derived.Test.YtgblmafollhojaaNormP
import Derived.Laws.BitsAllLaws
namespace Go.Proofs.Ytgblmafollhojaa
open Go.ChangeShapes Go.WideShapes Go.ChangeAt Go.RowKit
set_option linter.unusedVariables false

/-- deletions of up to k letters, and a match -/
def delsL (s : Pl) (sym : Nat) : Nat → List Pl
  | 0 => []
  | k + 1 => delsL s sym k ++ (if sym.testBit (k + 1) then [(s.1 + 1 + (k + 1), s.2.1 + (k + 1), false)] else [])
/-- what is added first, if there is an edit left -/
def mv0 (s : Pl) : List Pl := [(s.1, s.2.1 + 1, false), (s.1 + 1, s.2.1 + 1, false)]
/-- two letters are about to change places -/
def mvT (dam : Bool) (sym : Nat) (s : Pl) : List Pl := if dam && sym.testBit 1 then [(s.1, s.2.1 + 1, true)] else []
def mvE (m : Nat) (dam : Bool) (sym : Nat) (s : Pl) : List Pl := if s.2.1 < m then mv0 s ++ delsL s sym (m - s.2.1) ++ mvT dam sym s else []
def mv1 (sym : Nat) (s : Pl) : List Pl := if sym.testBit 0 then [(s.1 + 1, s.2.1, false)] else []
def mv2 (sym : Nat) (s : Pl) : List Pl := if s.2.2 && sym.testBit 0 then [(s.1 + 2, s.2.1, false)] else []
/-- where a place is moved on to -/
def mvs (m : Nat) (dam : Bool) (sym : Nat) (s : Pl) : List Pl := mvE m dam sym s ++ mv1 sym s ++ mv2 sym s

theorem mem_dels {s : Pl} {sym k : Nat} {p : Pl} : p ∈ delsL s sym k ↔ ∃ d, 1 ≤ d ∧ d ≤ k ∧ sym.testBit d = true ∧ p = (s.1 + 1 + d, s.2.1 + d, false) := by
  induction k with
  | zero =>
    simp only [delsL]
    refine ⟨fun h => by simp at h, fun ⟨d, h1, h2, _⟩ => by omega⟩
  | succ k ih =>
    simp only [delsL, List.mem_append, ih]
    refine ⟨fun h => ?_, fun ⟨d, h1, h2, h3, h4⟩ => ?_⟩
    · rcases h with ⟨d, h1, h2, h3, h4⟩ | h
      · exact ⟨d, h1, by omega, h3, h4⟩
      · by_cases hb : sym.testBit (k + 1) = true
        · rw [if_pos hb] at h
          simp only [List.mem_singleton] at h
          exact ⟨k + 1, by omega, by omega, hb, h⟩
        · rw [if_neg hb] at h
          simp at h
    · by_cases hd : d = k + 1
      · subst hd
        exact .inr (by rw [if_pos h3]; simp [h4])
      · exact .inl ⟨d, h1, by omega, h3, h4⟩

theorem mem_mvs {m : Nat} {dam : Bool} {sym : Nat} {s p : Pl} : p ∈ mvs m dam sym s ↔
    (s.2.1 < m ∧ (p = (s.1, s.2.1 + 1, false) ∨ p = (s.1 + 1, s.2.1 + 1, false) ∨ (∃ d, 1 ≤ d ∧ d ≤ m - s.2.1 ∧ sym.testBit d = true ∧ p = (s.1 + 1 + d, s.2.1 + d, false)) ∨ (dam = true ∧ sym.testBit 1 = true ∧ p = (s.1, s.2.1 + 1, true)))) ∨
    (sym.testBit 0 = true ∧ p = (s.1 + 1, s.2.1, false)) ∨ (s.2.2 = true ∧ sym.testBit 0 = true ∧ p = (s.1 + 2, s.2.1, false)) := by
  unfold mvs mvE mv0 mvT mv1 mv2
  rw [List.mem_append, List.mem_append, or_assoc]
  refine or_congr ?_ (or_congr ?_ ?_)
  · by_cases h : s.2.1 < m
    · rw [if_pos h, List.mem_append, List.mem_append, mem_dels]
      simp only [h, true_and, List.mem_cons, List.not_mem_nil, or_false]
      rw [or_assoc, or_assoc]
      refine or_congr Iff.rfl (or_congr Iff.rfl (or_congr Iff.rfl ?_))
      cases dam <;> cases sym.testBit 1 <;> simp
    · rw [if_neg h]
      simp [h]
  · cases sym.testBit 0 <;> simp
  · cases s.2.2 <;> cases sym.testBit 0 <;> simp

theorem mvs_ok {m : Nat} {dam : Bool} {sym : Nat} {s p : Pl} (h : p ∈ mvs m dam sym s) (hs : s.2.1 ≤ m) : p.1 ≤ s.1 + m + 2 ∧ p.2.1 ≤ m := by
  rcases mem_mvs.1 h with ⟨h1, rfl | rfl | ⟨d, h2, h3, _, rfl⟩ | ⟨_, _, rfl⟩⟩ | ⟨_, rfl⟩ | ⟨_, _, rfl⟩ <;> simp only <;> omega

theorem addAll_snoc' (A : List Pl) (n : Pl) : addAll (A ++ [n]) = addS (addAll A) n := by
  unfold addAll
  rw [List.foldl_append]
  rfl

/-- numbers that differ, below n: at most n -/
theorem nodup_below : ∀ (n : Nat) (l : List Nat), l.Nodup → (∀ x ∈ l, x < n) → l.length ≤ n
  | 0, l, _, h => by
    cases l with
    | nil => simp
    | cons a l => exact absurd (h a (by simp)) (by omega)
  | n + 1, l, hn, h => by
    have h1 := nodup_below n (l.filter (fun x => x != n)) (hn.filter _) (fun x hx => by
      obtain ⟨h2, h3⟩ := List.mem_filter.1 hx
      have := h x h2
      simp at h3
      omega)
    have h2 : l.length = (l.filter (fun x => x != n)).length + List.countP (fun x => decide ¬((x != n) = true)) l := by
      rw [← List.countP_eq_length_filter]
      exact List.length_eq_countP_add_countP (fun x => x != n) (l := l)
    have h3 : List.countP (fun x => decide ¬((x != n) = true)) l ≤ 1 := by
      have e : (fun x => decide ¬((x != n) = true)) = (fun x : Nat => x == n) := by
        funext x
        by_cases hx : x = n <;> simp [hx]
      rw [e]
      exact List.nodup_iff_count.1 hn n
    omega

theorem anti_len {m : List Pl} (h : m.Pairwise (fun a b => impB a b = false ∧ impB b a = false)) (N : Nat) (hN : ∀ p ∈ m, p.1 ≤ N) : m.length ≤ 2 * (N + 1) := by
  have h1 := nodup_below (2 * (N + 1)) (m.map (fun p => 2 * p.1 + p.2.2.toNat)) (by
    unfold List.Nodup
    rw [List.pairwise_map]
    refine h.imp fun {a b} hab e => ?_
    obtain ⟨o, d, t⟩ := a
    obtain ⟨o', d', t'⟩ := b
    obtain ⟨h1, h2⟩ := hab
    unfold impB gap at h1 h2
    simp only at e h1 h2
    cases t <;> cases t' <;> simp at e h1 h2 <;> omega) (fun x hx => by
      obtain ⟨p, hp, rfl⟩ := List.mem_map.1 hx
      have := hN p hp
      have : p.2.2.toNat ≤ 1 := by cases p.2.2 <;> simp
      omega)
  rwa [List.length_map] at h1
theorem addAll_short (A : List Pl) (h : ∀ p ∈ A, p.1 ≤ 909 ∧ p.2.1 ≤ 255) : (addAll A).length ≤ 2000 := by
  have := anti_len (kept_all A).anti 909 (fun p hp => (h p ((kept_all A).sub p hp)).1)
  omega

/-- the blocks in Q hold what they held -/
structure Keeps (Q : Nat → Prop) (w w' : World) : Prop where
  os : w'.os = w.os
  tape : w'.tape = w.tape
  output : w'.output = w.output
  size : w.heap.size ≤ w'.heap.size
  block : ∀ k, Q k → w'.heap[k]? = w.heap[k]?

theorem Keeps.refl {Q : Nat → Prop} {w : World} : Keeps Q w w := ⟨rfl, rfl, rfl, Nat.le_refl _, fun _ _ => rfl⟩
theorem Keeps.trans {Q : Nat → Prop} {w w1 w2 : World} (h : Keeps Q w w1) (h2 : Keeps Q w1 w2) : Keeps Q w w2 :=
  ⟨h2.os.trans h.os, h2.tape.trans h.tape, h2.output.trans h.output, Nat.le_trans h.size h2.size, fun k hk => (h2.block k hk).trans (h.block k hk)⟩
theorem Keeps.of_below {Q : Nat → Prop} {w w1 : World} {b : Nat} (h : Below b w w1) (hQ : ∀ k, Q k → k < b) : Keeps Q w w1 :=
  ⟨h.os, h.tape, h.output, h.size, fun k hk => h.block k (hQ k hk)⟩
theorem Keeps.blk {Q : Nat → Prop} {w w1 : World} (h : Keeps Q w w1) {k : Nat} {T : TypeId} {xs : List Value} (hk : Q k) (hb : Blk w k T xs) : Blk w1 k T xs := (h.block k hk).trans hb

/-- the places of A have been added; the blocks in Q hold what they held -/
structure Tr (Q : Nat → Prop) (B M : Nat) (A : List Pl) (w0 w : World) : Prop where
  m : ∃ v, MSt w M B v (addAll A) ∧ ∀ k, v.ownBlock = some k → ¬ Q k
  k : Keeps Q w0 w
  lt : ∀ k, Q k → k < w0.heap.size
  nM : ¬ Q M
  hB : B ≤ w0.heap.size
  ok : ∀ p ∈ A, p.1 ≤ 909 ∧ p.2.1 ≤ 255

theorem Tr.below {Q : Nat → Prop} {B M : Nat} {A : List Pl} {w0 w w1 : World} (h : Tr Q B M A w0 w) (hb : Below w.heap.size w w1) : Tr Q B M A w0 w1 := by
  obtain ⟨v, h1, h2⟩ := h.m
  exact ⟨⟨v, h1.below hb, h2⟩, h.k.trans (Keeps.of_below hb (fun k hk => Nat.lt_of_lt_of_le (h.lt k hk) h.k.size)), h.lt, h.nM, h.hB, h.ok⟩
theorem Tr.same {Q : Nat → Prop} {B M : Nat} {A A' : List Pl} {w0 w : World} (h : Tr Q B M A w0 w) (e : A = A') : Tr Q B M A' w0 w := e ▸ h

theorem addT {Q : Nat → Prop} {B M : Nat} {A : List Pl} {w0 w : World} (h : Tr Q B M A w0 w) (o d : Nat) (t : Bool) (x y : Int) (hx : x = (o : Nat)) (hy : y = (d : Nat)) (ho : o ≤ 909) (hd : d ≤ 255) :
    Calls Try.prog 31 #[.pointer (some ⟨M, 0, none⟩), .agg #[.int .u32 x, .int .u8 y, .bool t]] w fun e w' => e = .returned (.tuple #[]) ∧ Tr Q B M (A ++ [(o, d, t)]) w0 w' := by
  subst hx hy
  obtain ⟨v, h1, h2⟩ := h.m
  have C := add_any M B v (addAll A) (o, d, t) w h1 (addAll_short A h.ok) ⟨by simp only; omega, hd⟩ (Nat.le_trans h.hB h.k.size)
  unfold agg3 at C
  simp only at C
  refine C.mono fun e w' ⟨he, v', hm, hf, ha⟩ => ⟨he, ⟨⟨v', by rw [addAll_snoc']; exact hm, fun k hk => ?_⟩, ?_, h.lt, h.nM, h.hB, fun p hp => ?_⟩⟩
  · rcases ha k hk with h3 | h3
    · exact h2 k h3
    · intro hq
      have := h.lt k hq
      have := h.k.size
      omega
  · refine h.k.trans ⟨hf.os, hf.tape, hf.output, hf.size, fun k hk => hf.block k (Nat.lt_of_lt_of_le (h.lt k hk) h.k.size) (fun e => h.nM (e ▸ hk)) (fun e => h2 k e hk)⟩
  · rcases List.mem_append.1 hp with hp | hp
    · exact h.ok p hp
    · simp only [List.mem_singleton] at hp
      rw [hp]
      exact ⟨ho, hd⟩

theorem div_tb (x i : Nat) : (x / 2 ^ i) % 2 = (x.testBit i).toNat := by
  rw [Nat.testBit_eq_decide_div_mod_eq]
  have : x / 2 ^ i % 2 = 0 ∨ x / 2 ^ i % 2 = 1 := by omega
  rcases this with h | h <;> simp [h]

theorem bit64 (x i : Nat) (hx : x < 18446744073709551616) : (bits BinOp.and IntKind.u64 ((x : Int) / 2 ^ i) 1 == 1) = x.testBit i := by
  have e : ((x : Int) / 2 ^ i) = ((x / 2 ^ i : Nat) : Int) := by simp
  have hle : x / 2 ^ i ≤ x := Nat.div_le_self _ _
  have h1 := u64_and_nat (x / 2 ^ i) 1 (by omega) (by omega)
  rw [e]
  rw [show (1 : Int) = ((1 : Nat) : Int) from rfl, h1, nat_mask1, div_tb]
  cases x.testBit i <;> rfl

theorem bit_any (x i : Nat) (y : Int) (hy : y = (i : Nat)) (hx : x < 18446744073709551616) (hi : i ≤ 60) (w : World) : Calls Try.prog 48 #[.int .u64 x, .int .u8 y] w fun e w' => e = .returned (.bool (x.testBit i)) ∧ w = w' := by
  subst hy
  have E := Lib.hid (bit64 x i hx)
  go_enter Try.func48, Try.ntmps48
  go_wp2
  go_ret
  rw [← E.out]
  exact ⟨rfl, rfl⟩

theorem diam_any (L m : Nat) (dam : Bool) (w : World) (h : Blk w L 78 [.int .u8 m, .bool dam]) (hm : m ≤ 8) : Calls Try.prog 42 #[.pointer (some ⟨L, 0, none⟩)] w fun e w' => e = .returned (.int .u8 (2 * m + 1)) ∧ w = w' := by
  have c0 := h.cell 0
  have c1 := h.cell 1
  simp only [List.getElem?_cons_zero, List.getElem?_cons_succ] at c0 c1
  clear h
  have e1 : IntKind.u8.wrap (2 * (m : Int)) = 2 * m := by rw [IntKind.wrap_u8]; omega
  have e2 : IntKind.u8.wrap (2 * (m : Int) + 1) = 2 * m + 1 := by rw [IntKind.wrap_u8]; omega
  go_enter Try.func42, Try.ntmps42
  go_wp2
  go_ret
  exact ⟨rfl, rfl⟩

theorem zznfa_any (m : Nat) (dam : Bool) (w : World) : Calls Try.prog 23 #[.int .u8 m, .bool dam] w fun e w' => e = .returned (.pointer (some ⟨w.heap.size, 0, none⟩)) ∧ Blk w' w.heap.size 78 [.int .u8 m, .bool dam] ∧ Below w.heap.size w w' := by
  have C : Calls Try.prog 34 #[.int .u8 m, .bool dam] w fun e w' => e = .returned (.pointer (some ⟨w.heap.size, 0, none⟩)) ∧ Blk w' w.heap.size 78 [.int .u8 m, .bool dam] ∧ Below w.heap.size w w' := by
    have H := Lib.hid (Blk.new w 78 [.int .u8 m, .bool dam])
    have HB := Lib.hid ((Below.refl w.heap.size w).alloc (Nat.le_refl _) (.cells #[.int .u8 m, .bool dam] 78))
    go_enter Try.func34, Try.ntmps34
    go_wp2
    go_ret
    exact ⟨rfl, H.out, HB.out⟩
  have HC := Lib.hid C
  clear C
  go_enter Try.func23, Try.ntmps23
  go_wp2_with fail
  refine HC.out.mono ?_
  rintro e w1 ⟨rfl, h1, h2⟩
  have H1 := Lib.hid h1
  have H2 := Lib.hid h2
  clear h1 h2 HC
  go_wp2
  go_ret
  exact ⟨rfl, H1.out, H2.out⟩

end Go.Proofs.Ytgblmafollhojaa
