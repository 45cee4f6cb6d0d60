/-
  Places of a query as data: which makes another one needless, their order; NFAState.imply; []NFAState as a list that is sorted. Conditions: as stated.
-/
import Derived.Test.YtgblmafollhojaaSrtG
namespace Go.Proofs.Ytgblmafollhojaa
open Go.ChangeShapes Go.WideShapes Go.ChangeAt Go.RowKit
open Go.Sort (swp PermIn SortedIn SWO)
set_option linter.unusedVariables false

/-- a place: its number, its edits, whether two letters are about to change places -/
abbrev Pl := Nat × Nat × Bool
def enc3 (p : Pl) : List Value := [.int .u32 p.1, .int .u8 p.2.1, .bool p.2.2]
def agg3 (p : Pl) : Value := .agg #[.int .u32 p.1, .int .u8 p.2.1, .bool p.2.2]
def okP (p : Pl) : Prop := p.1 ≤ 100000 ∧ p.2.1 ≤ 255
def gap (a b : Nat) : Nat := max a b - min a b
/-- p makes q needless -/
def impB (p q : Pl) : Bool := if p.2.2 || !q.2.2 then decide (p.2.1 + gap p.1 q.1 ≤ q.2.1) else decide (p.2.1 + gap p.1 q.1 < q.2.1)
def ltP (p q : Pl) : Bool := if p.1 = q.1 then (if p.2.1 = q.2.1 then (!p.2.2 && q.2.2) else decide (p.2.1 < q.2.1)) else decide (p.1 < q.1)

theorem ltP_iff (p q : Pl) : ltP p q = true ↔ p.1 < q.1 ∨ p.1 = q.1 ∧ (p.2.1 < q.2.1 ∨ p.2.1 = q.2.1 ∧ p.2.2.toNat < q.2.2.toNat) := by
  unfold ltP
  by_cases h1 : p.1 = q.1
  · rw [if_pos h1]
    by_cases h2 : p.2.1 = q.2.1
    · rw [if_pos h2]
      cases p.2.2 <;> cases q.2.2 <;> simp [h1, h2]
    · rw [if_neg h2, decide_eq_true_eq]
      omega
  · rw [if_neg h1, decide_eq_true_eq]
    omega
theorem ltP_not (p q : Pl) : ltP p q = false ↔ ¬ (p.1 < q.1 ∨ p.1 = q.1 ∧ (p.2.1 < q.2.1 ∨ p.2.1 = q.2.1 ∧ p.2.2.toNat < q.2.2.toNat)) := by
  rw [← ltP_iff, Bool.not_eq_true]
theorem swoP : SWO ltP where
  irrefl := fun x => by rw [ltP_not]; omega
  trans := fun x y z h1 h2 => by rw [ltP_iff] at *; omega
  ntrans := fun x y z h1 h2 => by rw [ltP_not] at *; omega
theorem ltP_total (p q : Pl) (h1 : ltP p q = false) (h2 : ltP q p = false) : p = q := by
  rw [ltP_not] at h1 h2
  obtain ⟨a, b, c⟩ := p
  obtain ⟨a', b', c'⟩ := q
  simp only at h1 h2
  obtain rfl : a = a' := by omega
  obtain rfl : b = b' := by omega
  cases c <;> cases c' <;> simp at h1 h2 ⊢

theorem impB_refl (p : Pl) : impB p p = true := by
  obtain ⟨a, b, c⟩ := p
  cases c <;> simp [impB, gap]
theorem impB_trans (p q r : Pl) (h1 : impB p q = true) (h2 : impB q r = true) : impB p r = true := by
  obtain ⟨a, b, c⟩ := p
  obtain ⟨a', b', c'⟩ := q
  obtain ⟨a2, b2, c2⟩ := r
  unfold impB gap at *
  cases c <;> cases c' <;> cases c2 <;> simp at h1 h2 ⊢ <;> omega
theorem impB_anti (p q : Pl) (h1 : impB p q = true) (h2 : impB q p = true) : p = q := by
  obtain ⟨a, b, c⟩ := p
  obtain ⟨a', b', c'⟩ := q
  unfold impB gap at *
  cases c <;> cases c' <;> simp at h1 h2 ⊢ <;> omega

theorem ret_b {a b : Bool} (h : a = b) : Ending.returned (.bool a) = .returned (.bool b) := by rw [h]

/-- the walk's shape of imply -/
theorem imp_le {o1 o2 d1 d2 G : Nat} {t1 t2 : Bool} (hG : gap o1 o2 = G) (ht : (t1 || !t2) = true) : impB (o1, d1, t1) (o2, d2, t2) = decide (d1 + G ≤ d2) := by
  unfold impB
  simp only
  rw [if_pos ht, hG]
theorem imp_lt {o1 o2 d1 d2 G : Nat} {t1 t2 : Bool} (hG : gap o1 o2 = G) (ht : (t1 || !t2) = false) : impB (o1, d1, t1) (o2, d2, t2) = decide (d1 + G < d2) := by
  unfold impB
  simp only
  rw [if_neg (by rw [ht]; simp), hG]

set_option maxHeartbeats 3200000 in
theorem imply_any (g : Nat) (p q : Pl) (w : World) (hp : okP p) (hq : okP q) (k0 : w.cell? ⟨g, 0, none⟩ = some (.int .u32 p.1)) (k1 : w.cell? ⟨g, 1, none⟩ = some (.int .u8 p.2.1)) (k2 : w.cell? ⟨g, 2, none⟩ = some (.bool p.2.2)) :
    Calls Try.prog 40 #[.pointer (some ⟨g, 0, none⟩), agg3 q] w fun e w' => e = .returned (.bool (impB p q)) ∧ Below w.heap.size w w' := by
  obtain ⟨o1, d1, t1⟩ := p
  obtain ⟨o2, d2, t2⟩ := q
  obtain ⟨ho1, hd1⟩ := hp
  obtain ⟨ho2, hd2⟩ := hq
  simp only at *
  unfold agg3
  simp only
  have hg := World.block_lt_of_cell? w _ k0
  have e3 : IntKind.u32.wrap (d1 : Int) = d1 := by rw [IntKind.wrap_u32]; omega
  have e4 : IntKind.u32.wrap (d2 : Int) = d2 := by rw [IntKind.wrap_u32]; omega
  by_cases h : o1 < o2
  · obtain ⟨G, hG⟩ : ∃ G : Nat, G = o2 - o1 := ⟨_, rfl⟩
    have hgap : gap o1 o2 = G := by unfold gap; omega
    obtain ⟨y, hy⟩ : ∃ y, IntKind.u32.wrap ((o1 : Int) - o2) = y := ⟨_, rfl⟩
    have e2 : IntKind.u32.wrap ((o2 : Int) - o1) = (G : Int) := by rw [IntKind.wrap_u32]; omega
    have hc : (o1 : Int) < (o2 : Int) := by omega
    have e5 : IntKind.u32.wrap ((d1 : Int) + (G : Int)) = (d1 : Int) + (G : Int) := by rw [IntKind.wrap_u32]; omega
    have HL := Lib.hid (imp_le (d1 := d1) (d2 := d2) (t1 := t1) (t2 := t2) hgap)
    have HT := Lib.hid (imp_lt (d1 := d1) (d2 := d2) (t1 := t1) (t2 := t2) hgap)
    clear hgap hG
    cases t1 <;> cases t2
    case false.true =>
      have HE := Lib.hid (HT.out rfl)
      clear HL HT
      go_enter Try.func40, Try.ntmps40
      go_wp2
      go_quiet (fail)
      go_wp2
      go_quiet (fail)
      go_wp2
      go_quiet (fail)
      go_wp2
      go_quiet (fail)
      go_wp2
      go_returns
      exact ⟨ret_b (by rw [HE.out]; first | rfl | (rw [decide_eq_decide]; omega)), below_drewN (below_drewN (below_drewN (below_drewN (((Below.refl _ _).alloc (Nat.le_refl _) _)) _) _) _) _⟩
    all_goals
      have HE := Lib.hid (HL.out rfl)
      clear HL HT
      go_enter Try.func40, Try.ntmps40
      go_wp2
      go_quiet (fail)
      go_wp2
      go_quiet (fail)
      go_wp2
      go_quiet (fail)
      go_wp2
      go_quiet (fail)
      go_wp2
      go_returns
      exact ⟨ret_b (by rw [HE.out]; first | rfl | (rw [decide_eq_decide]; omega)), below_drewN (below_drewN (below_drewN (below_drewN (((Below.refl _ _).alloc (Nat.le_refl _) _)) _) _) _) _⟩
  · obtain ⟨G, hG⟩ : ∃ G : Nat, G = o1 - o2 := ⟨_, rfl⟩
    have hgap : gap o1 o2 = G := by unfold gap; omega
    have e2 : IntKind.u32.wrap ((o1 : Int) - o2) = (G : Int) := by rw [IntKind.wrap_u32]; omega
    have hc : ¬ (o1 : Int) < (o2 : Int) := by omega
    have e5 : IntKind.u32.wrap ((d1 : Int) + (G : Int)) = (d1 : Int) + (G : Int) := by rw [IntKind.wrap_u32]; omega
    have HL := Lib.hid (imp_le (d1 := d1) (d2 := d2) (t1 := t1) (t2 := t2) hgap)
    have HT := Lib.hid (imp_lt (d1 := d1) (d2 := d2) (t1 := t1) (t2 := t2) hgap)
    clear hgap hG
    cases t1 <;> cases t2
    case false.true =>
      have HE := Lib.hid (HT.out rfl)
      clear HL HT
      go_enter Try.func40, Try.ntmps40
      go_wp2
      go_quiet (fail)
      go_wp2
      go_quiet (fail)
      go_wp2
      go_quiet (fail)
      go_wp2
      go_returns
      exact ⟨ret_b (by rw [HE.out]; first | rfl | (rw [decide_eq_decide]; omega)), below_drewN (below_drewN (below_drewN (((Below.refl _ _).alloc (Nat.le_refl _) _)) _) _) _⟩
    all_goals
      have HE := Lib.hid (HL.out rfl)
      clear HL HT
      go_enter Try.func40, Try.ntmps40
      go_wp2
      go_quiet (fail)
      go_wp2
      go_quiet (fail)
      go_wp2
      go_quiet (fail)
      go_wp2
      go_returns
      exact ⟨ret_b (by rw [HE.out]; first | rfl | (rw [decide_eq_decide]; omega)), below_drewN (below_drewN (below_drewN (((Below.refl _ _).alloc (Nat.le_refl _) _)) _) _) _⟩

theorem plen_any (a : Option Addr) (N c : Nat) (W : World) : Calls Try.prog 87 #[.slice a N c] W fun e w' => e = .returned (.int .i64 N) ∧ Below W.heap.size W w' := by
  go_enter Try.func87, Try.ntmps87
  go_wp2
  go_ret
  exact ⟨rfl, Below.refl _ _⟩

set_option maxHeartbeats 1600000 in
theorem pless_any (g N c : Nat) (W : World) (i j : Nat) (p q : Pl) (hi : i < N) (hj : j < N) (hN : N < 1000000000)
    (a0 : W.cell? ⟨g, i * 3, none⟩ = some (.int .u32 p.1)) (a1 : W.cell? ⟨g, i * 3 + 1, none⟩ = some (.int .u8 p.2.1)) (a2 : W.cell? ⟨g, i * 3 + 2, none⟩ = some (.bool p.2.2))
    (b0 : W.cell? ⟨g, j * 3, none⟩ = some (.int .u32 q.1)) (b1 : W.cell? ⟨g, j * 3 + 1, none⟩ = some (.int .u8 q.2.1)) (b2 : W.cell? ⟨g, j * 3 + 2, none⟩ = some (.bool q.2.2)) :
    Calls Try.prog 88 #[.slice (some ⟨g, 0, none⟩) N c, .int .i64 i, .int .i64 j] W fun e w' => e = .returned (.bool (ltP p q)) ∧ Below W.heap.size W w' := by
  obtain ⟨o1, d1, t1⟩ := p
  obtain ⟨o2, d2, t2⟩ := q
  simp only at a0 a1 a2 b0 b1 b2
  by_cases h1 : o1 = o2
  · subst h1
    by_cases h2 : d1 = d2
    · subst h2
      have HE := Lib.hid (show ltP (o1, d1, t1) (o1, d1, t2) = (!t1 && t2) by simp [ltP])
      cases t1
      all_goals
        go_enter Try.func88, Try.ntmps88
        go_wp2
        go_quiet (fail)
        go_wp2
        go_quiet (fail)
        go_wp2
        go_returns
        exact ⟨ret_b (by rw [HE.out]; simp), (by repeat (first | exact Below.refl _ _ | apply below_drewN))⟩
    · have HE := Lib.hid (show ltP (o1, d1, t1) (o1, d2, t2) = decide (d1 < d2) by simp [ltP, h2])
      have hb : ((d1 : Int) != (d2 : Int)) = true := by rw [bne_iff_ne]; omega
      clear h2
      go_enter Try.func88, Try.ntmps88
      go_wp2
      go_quiet (fail)
      go_wp2
      go_quiet (fail)
      go_wp2
      go_quiet (fail)
      go_wp2
      go_returns
      exact ⟨ret_b (by first | (rw [HE.out]; done) | (rw [HE.out, decide_eq_decide]; omega)), (by repeat (first | exact Below.refl _ _ | apply below_drewN))⟩
  · have HE := Lib.hid (show ltP (o1, d1, t1) (o2, d2, t2) = decide (o1 < o2) by simp [ltP, h1])
    have hb : ((o1 : Int) != (o2 : Int)) = true := by rw [bne_iff_ne]; omega
    clear h1
    go_enter Try.func88, Try.ntmps88
    go_wp2
    go_quiet (fail)
    go_wp2
    go_quiet (fail)
    go_wp2
    go_returns
    exact ⟨ret_b (by first | (rw [HE.out]; done) | (rw [HE.out, decide_eq_decide]; omega)), (by repeat (first | exact Below.refl _ _ | apply below_drewN))⟩

theorem set_some {W : World} {g i j : Nat} {u v : Value} (hi : ∃ x, W.cell? ⟨g, i, none⟩ = some x) (hj : W.cell? ⟨g, j, none⟩ = some v) : ∃ x, (W.setCell ⟨g, i, none⟩ u).cell? ⟨g, j, none⟩ = some x := by
  by_cases hij : j = i
  · subst hij
    obtain ⟨x, hx⟩ := hi
    exact ⟨_, World.cell?_setCell_same _ _ _ hx⟩
  · exact ⟨_, (World.cell?_setCell_other _ _ _ _ (by intro e; injection e; omega)).trans hj⟩

set_option maxHeartbeats 1600000 in
theorem pswap_any (g N c : Nat) (W : World) (i j : Nat) (hi : i < N) (hj : j < N) (hN : N < 1000000000) (rest : List Value) (d : Array Pl) (h : rowS g 63 enc3 rest N W d) :
    Calls Try.prog 89 #[.slice (some ⟨g, 0, none⟩) N c, .int .i64 i, .int .i64 j] W fun e w' => e = .returned (.tuple #[]) ∧ ∃ n, w' = ((W.setCells g (i * 3) (enc3 d[j]!)).setCells g (j * 3) (enc3 d[i]!)).drewN n := by
  have a0 := rowS.at (k := 3) (fun _ => rfl) h i 0 hi (by omega)
  have a1 := rowS.at (k := 3) (fun _ => rfl) h i 1 hi (by omega)
  have a2 := rowS.at (k := 3) (fun _ => rfl) h i 2 hi (by omega)
  have b0 := rowS.at (k := 3) (fun _ => rfl) h j 0 hj (by omega)
  have b1 := rowS.at (k := 3) (fun _ => rfl) h j 1 hj (by omega)
  have b2 := rowS.at (k := 3) (fun _ => rfl) h j 2 hj (by omega)
  simp only [enc3, Nat.add_zero, List.getElem?_cons_zero, List.getElem?_cons_succ] at a0 a1 a2 b0 b1 b2
  have f0 := h.frozen (i * 3)
  have f1 := h.frozen (i * 3 + 1)
  have f2 := h.frozen (i * 3 + 2)
  have f3 := h.frozen (j * 3)
  have f4 := h.frozen (j * 3 + 1)
  have f5 := h.frozen (j * 3 + 2)
  clear h
  unfold enc3
  generalize d[i]! = p at *
  generalize d[j]! = q at *
  obtain ⟨o1, d1, t1⟩ := p
  obtain ⟨o2, d2, t2⟩ := q
  simp only at *
  obtain ⟨x0, c0⟩ := set_some (u := .int .u32 o2) ⟨_, a0⟩ b0
  have s01 : ∃ x, (W.setCell ⟨g, i * 3, none⟩ (.int .u32 o2)).cell? ⟨g, j * 3 + 1, none⟩ = some x := set_some ⟨_, a0⟩ b1
  have t01 : ∃ x, (W.setCell ⟨g, i * 3, none⟩ (.int .u32 o2)).cell? ⟨g, i * 3 + 1, none⟩ = some x := set_some ⟨_, a0⟩ a1
  have s02 : ∃ x, (W.setCell ⟨g, i * 3, none⟩ (.int .u32 o2)).cell? ⟨g, j * 3 + 2, none⟩ = some x := set_some ⟨_, a0⟩ b2
  have t02 : ∃ x, (W.setCell ⟨g, i * 3, none⟩ (.int .u32 o2)).cell? ⟨g, i * 3 + 2, none⟩ = some x := set_some ⟨_, a0⟩ a2
  obtain ⟨y1, s01⟩ := s01
  obtain ⟨y2, s02⟩ := s02
  obtain ⟨z2, t02⟩ := t02
  obtain ⟨x1, c1⟩ := set_some (u := .int .u8 d2) t01 s01
  obtain ⟨y3, s12⟩ := set_some (u := .int .u8 d2) t01 s02
  have t12 := set_some (u := .int .u8 d2) t01 t02
  obtain ⟨x2, c2⟩ := set_some (u := .bool t2) t12 s12
  clear s01 t01 s02 t02 s12 t12
  go_enter Try.func89, Try.ntmps89
  go_wp2
  go_region
  all_goals (try go_wp2)
  all_goals go_returns
  all_goals exact ⟨rfl, 1, rfl⟩

/-- []NFAState as a list -/
def placeI (T : TypeId) (g c N : Nat) (t : TypeId) (rest : List Value) : Itf Pl := ⟨T, .slice (some ⟨g, 0, none⟩) N c, 87, 88, 89, ltP, g, N, rowS g t enc3 rest N⟩

theorem place_less (g c N : Nat) (rest : List Value) (hN : N < 1000000000) (W : World) (d : Array Pl) (h : rowS g 63 enc3 rest N W d) (i j : Nat) (hi : i < N) (hj : j < N) :
    Calls Try.prog 88 #[.slice (some ⟨g, 0, none⟩) N c, .int .i64 i, .int .i64 j] W fun e w' => e = .returned (.bool (ltP d[i]! d[j]!)) ∧ Below W.heap.size W w' := by
  have a0 := rowS.at (k := 3) (fun _ => rfl) h i 0 hi (by omega)
  have a1 := rowS.at (k := 3) (fun _ => rfl) h i 1 hi (by omega)
  have a2 := rowS.at (k := 3) (fun _ => rfl) h i 2 hi (by omega)
  have b0 := rowS.at (k := 3) (fun _ => rfl) h j 0 hj (by omega)
  have b1 := rowS.at (k := 3) (fun _ => rfl) h j 1 hj (by omega)
  have b2 := rowS.at (k := 3) (fun _ => rfl) h j 2 hj (by omega)
  generalize d[i]! = p at *
  generalize d[j]! = q at *
  simp only [enc3, Nat.add_zero, List.getElem?_cons_zero, List.getElem?_cons_succ] at a0 a1 a2 b0 b1 b2
  exact pless_any g N c W i j p q hi hj hN a0 a1 a2 b0 b1 b2

theorem place_swap (g c N : Nat) (rest : List Value) (hN : N < 1000000000) (W : World) (d : Array Pl) (h : rowS g 63 enc3 rest N W d) (i j : Nat) (hi : i < N) (hj : j < N) :
    Calls Try.prog 89 #[.slice (some ⟨g, 0, none⟩) N c, .int .i64 i, .int .i64 j] W fun e w' => e = .returned (.tuple #[]) ∧ rowS g 63 enc3 rest N w' (swp d i j) ∧ W.grownBy w' (some g) := by
  refine (pswap_any g N c W i j hi hj hN rest d h).mono fun e w' ⟨he, n, hw⟩ => ⟨he, ?_, ?_⟩
  · have h2 := rowS.swap (k := 3) (fun _ => rfl) h i j hi hj
    generalize (W.setCells g (i * 3) (enc3 d[j]!)).setCells g (j * 3) (enc3 d[i]!) = W2 at *
    subst hw
    exact h2.loc rfl
  · have h2 := (grown_setCells g (enc3 d[j]!) (i * 3) W).trans (grown_setCells g (enc3 d[i]!) (j * 3) _)
    generalize (W.setCells g (i * 3) (enc3 d[j]!)).setCells g (j * 3) (enc3 d[i]!) = W2 at *
    subst hw
    exact only_drewN h2 n

theorem placeI_ok (g c N : Nat) (rest : List Value) (hN : N < 1000000000) : (placeI 74 g c N 63 rest).Ok where
  mN := fun w => by kernel_rfl
  mL := fun w => by kernel_rfl
  mS := fun w => by kernel_rfl
  eN := fun args w => enters_of Try.func87 (by kernel_rfl) rfl args w
  eL := fun args w => enters_of Try.func88 (by kernel_rfl) rfl args w
  eS := fun args w => enters_of Try.func89 (by kernel_rfl) rfl args w
  loc := fun h he => rowS.loc h he
  inb := fun h => h.2.lt
  siz := fun h => h.1
  big := Nat.lt_trans hN (by decide)
  len := fun {W d} h => plen_any _ _ _ W
  less := fun {W d} h i j hi hj => place_less g c N rest hN W d h i j hi hj
  swap := fun {W d} h i j hi hj => place_swap g c N rest hN W d h i j hi hj

end Go.Proofs.Ytgblmafollhojaa
