/-
  FnStateFor: plain: the bytes of a state, and where they lie. Conditions: none.
-/
import Derived.Test.YtjonmfaeonldcaaDoorBase
namespace Go.Proofs.YtjonmfaeonldcaaDoor.fnStateFor
open Go.ChangeShapes Go.WideShapes Go.ChangeAt Go.RowKit
set_option linter.unusedVariables false

/-! numbers in bytes, the lowest first -/
def leNum : List Int → Int
  | [] => 0
  | z :: r => z + 256 * leNum r
theorem leNum_bd : ∀ (l : List Int), (∀ z ∈ l, 0 ≤ z ∧ z ≤ 255) → 0 ≤ leNum l ∧ leNum l < 256 ^ l.length
  | [], _ => by simp [leNum]
  | z :: r, h => by
    have h1 := h z (by simp)
    have h2 := leNum_bd r (fun x hx => h x (by simp [hx]))
    simp only [leNum, List.length_cons, Int.pow_succ]
    omega
theorem leNum_snoc : ∀ (l : List Int) (z : Int), leNum (l ++ [z]) = leNum l + z * 256 ^ l.length
  | [], z => by simp [leNum]
  | y :: r, z => by
    simp only [List.cons_append, leNum, leNum_snoc r z, List.length_cons, Int.pow_succ]
    rw [Int.mul_add, Int.mul_left_comm 256 z, Int.mul_comm 256 (256 ^ r.length), Int.add_assoc]

def byt (v : Int) (i : Nat) : Int := v / 256 ^ i % 256
def pk (v : Int) (n : Nat) : List Int := (List.range n).map (byt v)
theorem pk_len (v : Int) (n : Nat) : (pk v n).length = n := by simp [pk]
theorem pk_succ (v : Int) (n : Nat) : pk v (n + 1) = pk v n ++ [byt v n] := by simp [pk, List.range_succ]
theorem byt_bd (v : Int) (i : Nat) : 0 ≤ byt v i ∧ byt v i ≤ 255 := by unfold byt; omega
theorem pk_bd (v : Int) (n : Nat) : ∀ z ∈ pk v n, 0 ≤ z ∧ z ≤ 255 := by
  intro z hz
  simp only [pk, List.mem_map] at hz
  obtain ⟨i, _, rfl⟩ := hz
  exact byt_bd v i
theorem leNum_pk (v : Nat) : ∀ n, leNum (pk v n) = ((v % 256 ^ n : Nat) : Int)
  | 0 => by simp [pk, leNum, Nat.mod_one]
  | n + 1 => by
    rw [pk_succ, leNum_snoc, leNum_pk v n, pk_len, Nat.pow_succ, Nat.mod_mul]
    have e : byt v n = ((v / 256 ^ n % 256 : Nat) : Int) := by
      unfold byt
      rw [Int.natCast_emod, Int.natCast_ediv, Int.natCast_pow]
      rfl
    have e2 : (256 : Int) ^ n = ((256 ^ n : Nat) : Int) := by rw [Int.natCast_pow]; rfl
    rw [e, e2, Int.natCast_add, Int.natCast_mul, Int.mul_comm]
theorem leNum_pk' (v : Int) (n : Nat) (h0 : 0 ≤ v) (h : v < 256 ^ n) : leNum (pk v n) = v := by
  obtain ⟨m, rfl⟩ := Int.eq_ofNat_of_zero_le h0
  rw [leNum_pk]
  have e2 : (256 : Int) ^ n = ((256 ^ n : Nat) : Int) := by rw [Int.natCast_pow]; rfl
  rw [e2] at h
  rw [Nat.mod_eq_of_lt (by omega)]

def szI (n : Int) : Int :=
  if n < 256 then 1 else if n < 65536 then 2 else if n < 16777216 then 3 else if n < 4294967296 then 4
  else if n < 1099511627776 then 5 else if n < 281474976710656 then 6 else if n < 72057594037927936 then 7 else 8
theorem szI_bd (n : Int) : 1 ≤ szI n ∧ szI n ≤ 8 := by
  unfold szI
  repeat' split
  all_goals omega
def szN (n : Int) : Nat := (szI n).toNat
theorem szN_bd (n : Int) : 1 ≤ szN n ∧ szN n ≤ 8 := by have := szI_bd n; unfold szN; omega
theorem szN_cast (n : Int) : (szN n : Int) = szI n := by have := szI_bd n; unfold szN; omega
theorem szI_fits (v : Int) (h1 : v ≤ 18446744073709551615) : v < 256 ^ szN v := by
  unfold szN szI
  repeat' split
  all_goals simp; omega
theorem fits (v : Int) (n : Nat) (h1 : v ≤ 18446744073709551615) (hn : szN v ≤ n) : v < 256 ^ n := by
  have h2 := szI_fits v h1
  have h3 : (256 : Int) ^ szN v ≤ 256 ^ n := by
    have h4 : (256 : Nat) ^ szN v ≤ 256 ^ n := Nat.pow_le_pow_right (by omega) hn
    have e2 : ∀ k : Nat, (256 : Int) ^ k = ((256 ^ k : Nat) : Int) := fun k => by rw [Int.natCast_pow]; rfl
    rw [e2, e2]
    omega
  omega

/-! where bytes lie -/
def At (D : List Int) (i : Nat) (X : List Int) : Prop := ∃ A Z, D = A ++ (X ++ Z) ∧ A.length = i
theorem At.len {D X : List Int} {i : Nat} (h : At D i X) : i + X.length ≤ D.length := by
  obtain ⟨A, Z, rfl, rfl⟩ := h
  simp
theorem At.fst {D X Y : List Int} {i : Nat} (h : At D i (X ++ Y)) : At D i X := by
  obtain ⟨A, Z, rfl, rfl⟩ := h
  exact ⟨A, Y ++ Z, by simp, rfl⟩
theorem At.snd {D X Y : List Int} {i : Nat} (h : At D i (X ++ Y)) : At D (i + X.length) Y := by
  obtain ⟨A, Z, rfl, rfl⟩ := h
  exact ⟨A ++ X, Z, by simp, by simp⟩
theorem At.snd' {D X Y : List Int} {i j : Nat} (h : At D i (X ++ Y)) (hj : j = i + X.length) : At D j Y := hj ▸ h.snd
theorem At.get {D : List Int} {i : Nat} {y : Int} (h : At D i [y]) : D.getD i 0 = y := by
  obtain ⟨A, Z, rfl, rfl⟩ := h
  simp
theorem At.more {D X E : List Int} {i : Nat} (h : At D i X) : At (D ++ E) i X := by
  obtain ⟨A, Z, rfl, rfl⟩ := h
  exact ⟨A, Z ++ E, by simp, rfl⟩
theorem At.at_end {D X : List Int} : At (D ++ X) D.length X := ⟨D, [], by simp, rfl⟩

/-! the bytes of a state -/
abbrev Arc := Int × Int × Int
def dlt (start a : Int) : Int := if a = 0 then 0 else start - a
section
variable (cd : Int → Int)
def finB (i nx : Int) : List Int := (if cd i = 0 then [i] else []) ++ [128 + nx + cd i]
def oSize (o : Int) : Nat := if o = 0 then 0 else szN o
def oneB (start : Int) (x : Arc) : List Int :=
  pk x.2.1 (oSize x.2.1) ++ (pk (dlt start x.2.2) (szN (dlt start x.2.2)) ++ ([16 * (szN (dlt start x.2.2) : Int) + oSize x.2.1] ++ finB cd x.1 0))
def tszL (start : Int) (l : List Arc) : Nat := l.foldl (fun m x => max m (szN (dlt start x.2.2))) 0
def oszL (o : Int) (l : List Arc) : Nat := l.foldl (fun m x => max m (szN x.2.1)) (szN o)
def anyO (o : Int) (l : List Arc) : Bool := l.foldl (fun b x => b || (x.2.1 != 0)) (o != 0)
def osz (o : Int) (l : List Arc) : Nat := if anyO o l then oszL o l else 0
def numB (n : Nat) : Nat := if n ≤ 63 then n else 0
def cntB (n : Nat) : List Int := if numB n = 0 then [if n = 256 then 1 else (n : Int)] else []
def manyB (start : Int) (f : Bool) (o : Int) (l : List Arc) : List Int :=
  (if f then pk o (osz o l) else []) ++ (l.reverse.flatMap (fun x => pk x.2.1 (osz o l)) ++ (l.reverse.flatMap (fun x => pk (dlt start x.2.2) (tszL start l)) ++
    (l.reverse.map (·.1) ++ ([16 * (tszL start l : Int) + osz o l] ++ (cntB l.length ++ [(numB l.length : Int) + if f then 64 else 0])))))
def stB (start : Int) (f : Bool) (o : Int) (l : List Arc) (last : Int) : List Int :=
  if f = false then
    match l with
    | [x] => if x.2.1 = 0 ∧ x.2.2 = last then finB cd x.1 64 else oneB cd start x
    | _ => manyB start f o l
  else manyB start f o l
end

theorem foldl_max_ge {α : Type} (g : α → Nat) : ∀ (l : List α) (m : Nat), m ≤ l.foldl (fun m x => max m (g x)) m ∧ ∀ x ∈ l, g x ≤ l.foldl (fun m x => max m (g x)) m
  | [], m => by simp
  | y :: l, m => by
    obtain ⟨h1, h2⟩ := foldl_max_ge g l (max m (g y))
    simp only [List.foldl_cons]
    refine ⟨by omega, fun x hx => ?_⟩
    rcases List.mem_cons.1 hx with rfl | hx
    · omega
    · exact h2 x hx
theorem foldl_max_le {α : Type} (g : α → Nat) (b : Nat) : ∀ (l : List α) (m : Nat), m ≤ b → (∀ x ∈ l, g x ≤ b) → l.foldl (fun m x => max m (g x)) m ≤ b
  | [], m, h, _ => by simpa using h
  | y :: l, m, h, h2 => by
    simp only [List.foldl_cons]
    exact foldl_max_le g b l _ (by have := h2 y (by simp); omega) (fun x hx => h2 x (by simp [hx]))
theorem tszL_le (start : Int) (l : List Arc) : tszL start l ≤ 8 := foldl_max_le _ 8 l 0 (by omega) (fun x _ => (szN_bd _).2)
theorem tszL_ge (start : Int) (l : List Arc) (x : Arc) (hx : x ∈ l) : szN (dlt start x.2.2) ≤ tszL start l := (foldl_max_ge (fun x : Arc => szN (dlt start x.2.2)) l 0).2 x hx
theorem oszL_le (o : Int) (l : List Arc) : oszL o l ≤ 8 := foldl_max_le _ 8 l _ (szN_bd _).2 (fun x _ => (szN_bd _).2)
theorem oszL_pos (o : Int) (l : List Arc) : 1 ≤ oszL o l := Nat.le_trans (szN_bd o).1 (foldl_max_ge (fun x : Arc => szN x.2.1) l _).1
theorem oszL_ge (o : Int) (l : List Arc) (x : Arc) (hx : x ∈ l) : szN x.2.1 ≤ oszL o l := (foldl_max_ge (fun x : Arc => szN x.2.1) l _).2 x hx
theorem osz_le (o : Int) (l : List Arc) : osz o l ≤ 8 := by unfold osz; split; exact oszL_le o l; omega
theorem anyO_foldl : ∀ (l : List Arc) (b : Bool), l.foldl (fun b x => b || (x.2.1 != 0)) b = true ↔ b = true ∨ ∃ x ∈ l, x.2.1 ≠ 0
  | [], b => by simp
  | y :: l, b => by
    simp only [List.foldl_cons]
    rw [anyO_foldl l]
    simp
    constructor
    · rintro ((h | h) | ⟨x, y, z, h⟩)
      · exact .inl h
      · exact .inr (.inl h)
      · exact .inr (.inr ⟨x, y, z, h⟩)
    · rintro (h | h | ⟨x, y, z, h⟩)
      · exact .inl (.inl h)
      · exact .inl (.inr h)
      · exact .inr ⟨x, y, z, h⟩
theorem anyO_no {o : Int} {l : List Arc} (h : anyO o l = false) (x : Arc) (hx : x ∈ l) : x.2.1 = 0 := by
  by_cases e : x.2.1 = 0
  · exact e
  · have := (anyO_foldl l (o != 0)).2 (.inr ⟨x, hx, e⟩)
    unfold anyO at h
    rw [this] at h
    cases h
/-- an output is told by its bytes -/
theorem out_read {o : Int} {l : List Arc} (x : Arc) (hx : x ∈ l) (h0 : 0 ≤ x.2.1) (h1 : x.2.1 ≤ 18446744073709551615) (hp : 0 < osz o l) : leNum (pk x.2.1 (osz o l)) = x.2.1 := by
  refine leNum_pk' _ _ h0 (fits _ _ h1 ?_)
  unfold osz at hp ⊢
  split at hp
  · rw [if_pos (by assumption)]; exact oszL_ge o l x hx
  · omega
theorem out_none {o : Int} {l : List Arc} (x : Arc) (hx : x ∈ l) (hp : osz o l = 0) : x.2.1 = 0 := by
  unfold osz at hp
  split at hp
  · have := oszL_pos o l; omega
  · rename_i h; exact anyO_no (by simpa using h) x hx
theorem dlt_read {start : Int} {l : List Arc} (x : Arc) (hx : x ∈ l) (h0 : 0 ≤ dlt start x.2.2) (h1 : dlt start x.2.2 ≤ 18446744073709551615) : leNum (pk (dlt start x.2.2) (tszL start l)) = dlt start x.2.2 :=
  leNum_pk' _ _ h0 (fits _ _ h1 (tszL_ge start l x hx))

theorem flat_pk_len (g : Arc → Int) (k : Nat) : ∀ (l : List Arc), (l.flatMap (fun x => pk (g x) k)).length = l.length * k
  | [] => by simp
  | x :: l => by simp [pk_len, flat_pk_len g k l, Nat.succ_mul]; omega
theorem finB_len (cd : Int → Int) (i nx : Int) : 1 ≤ (finB cd i nx).length ∧ (finB cd i nx).length ≤ 2 := by
  unfold finB; split <;> simp
theorem oSize_le (o : Int) : oSize o ≤ 8 := by unfold oSize; have := szN_bd o; split <;> omega
theorem oneB_len (cd : Int → Int) (start : Int) (x : Arc) : 1 ≤ (oneB cd start x).length ∧ (oneB cd start x).length ≤ 19 := by
  have h1 := finB_len cd x.1 0
  have h2 := szN_bd (dlt start x.2.2)
  have h3 := oSize_le x.2.1
  simp only [oneB, List.length_append, pk_len, List.length_cons, List.length_nil]
  omega
theorem manyB_len (start : Int) (f : Bool) (o : Int) (l : List Arc) (hl : l.length ≤ 256) : 1 ≤ (manyB start f o l).length ∧ (manyB start f o l).length ≤ 4400 := by
  have h1 := osz_le o l
  have h2 := tszL_le start l
  have h3 : (cntB l.length).length ≤ 1 := by unfold cntB; split <;> simp
  have h4 : (if f then pk o (osz o l) else []).length ≤ 8 := by split <;> simp [pk_len]; omega
  have h5 : l.length * osz o l ≤ 256 * 8 := Nat.mul_le_mul hl h1
  have h6 : l.length * tszL start l ≤ 256 * 8 := Nat.mul_le_mul hl h2
  simp only [manyB, List.length_append, flat_pk_len, List.length_reverse, List.length_map, List.length_cons, List.length_nil]
  omega
theorem stB_len (cd : Int → Int) (start : Int) (f : Bool) (o : Int) (l : List Arc) (last : Int) (hl : l.length ≤ 256) : 1 ≤ (stB cd start f o l last).length ∧ (stB cd start f o l last).length ≤ 4400 := by
  have h1 := manyB_len start f o l hl
  unfold stB
  split
  · match l with
    | [] => exact h1
    | [x] =>
      have h2 := finB_len cd x.1 64
      have h3 := oneB_len cd start x
      show 1 ≤ (if x.2.1 = 0 ∧ x.2.2 = last then finB cd x.1 64 else oneB cd start x).length ∧ (if x.2.1 = 0 ∧ x.2.2 = last then finB cd x.1 64 else oneB cd start x).length ≤ 4400
      split <;> omega
    | _ :: _ :: _ => exact h1
  · exact h1

/-! the states one behind the other -/
abbrev Sta := Bool × Int × List Arc
def arcsOf (As : List Int) (s : Sta) : List Arc := s.2.2.map fun x => (x.1, x.2.1, if x.2.2 < 0 then 0 else As.getD x.2.2.toNat 0)
def lastOf (As : List Int) : Int := As.getLastD 1
def encS (cd : Int → Int) (p : List Int × List Int) (s : Sta) : List Int × List Int :=
  (p.1 ++ stB cd p.1.length s.1 s.2.1 (arcsOf p.2 s) (lastOf p.2), p.2 ++ [((p.1.length + (stB cd p.1.length s.1 s.2.1 (arcsOf p.2 s) (lastOf p.2)).length : Nat) : Int) - 1])
def hdr : List Int := [1, 0, 0, 0, 0, 0, 0, 0, 0, 0, 0, 0, 0, 0, 0, 0]
def encL (cd : Int → Int) (ss : List Sta) : List Int × List Int := ss.foldl (encS cd) (hdr, [])
theorem encL_snoc (cd : Int → Int) (ss : List Sta) (s : Sta) : encL cd (ss ++ [s]) = encS cd (encL cd ss) s := by simp [encL]

/-- a state that can be built behind n other ones -/
def okSt (n : Nat) (s : Sta) : Prop := s.2.2.length ≤ 256 ∧ (s.2.2.length = 0 → s.2.1 ≠ 0) ∧ (s.1 = false → s.2.1 = 0) ∧ (∀ x ∈ s.2.2, -1 ≤ x.2.2 ∧ x.2.2 < n) ∧ ∀ k (h : k + 1 < s.2.2.length), s.2.2[k].1 < s.2.2[k + 1].1
def okAll (ss : List Sta) : Prop := ∀ i (h : i < ss.length), okSt i ss[i]

structure EncP (cd : Int → Int) (ss : List Sta) (D As : List Int) : Prop where
  n : As.length = ss.length
  d16 : 16 ≤ D.length
  dmax : D.length ≤ 16 + 4400 * ss.length
  lo : ∀ a ∈ As, 16 ≤ a ∧ a < D.length
  last : As ≠ [] → lastOf As = (D.length : Int) - 1
  rise : ∀ i j, i < j → j < As.length → As.getD i 0 < As.getD j 0
  st : ∀ i (h : i < ss.length), ∃ start : Nat, 16 ≤ start ∧ At D start (stB cd start ss[i].1 ss[i].2.1 (arcsOf (As.take i) ss[i]) (lastOf (As.take i))) ∧
    As.getD i 0 = ((start + (stB cd start ss[i].1 ss[i].2.1 (arcsOf (As.take i) ss[i]) (lastOf (As.take i))).length : Nat) : Int) - 1 ∧ (∀ j, j < i → As.getD j 0 < start) ∧ (i ≠ 0 → lastOf (As.take i) = (start : Int) - 1)

theorem getLastD_snoc (l : List Int) (a d : Int) : (l ++ [a]).getLastD d = a := by simp

theorem getD_l (l m : List Int) (d : Int) (i : Nat) (h : i < l.length) : (l ++ m).getD i d = l.getD i d := by
  rw [List.getD_eq_getElem?_getD, List.getD_eq_getElem?_getD, List.getElem?_append_left h]
theorem getD_r (l m : List Int) (d : Int) (i : Nat) (h : l.length ≤ i) : (l ++ m).getD i d = m.getD (i - l.length) d := by
  rw [List.getD_eq_getElem?_getD, List.getD_eq_getElem?_getD, List.getElem?_append_right h]
theorem snoc_ind {α : Type} {P : List α → Prop} (h0 : P []) (h1 : ∀ l a, P l → P (l ++ [a])) (l : List α) : P l := by
  have : ∀ m : List α, P m.reverse := fun m => by
    induction m with
    | nil => exact h0
    | cons a m ih => rw [List.reverse_cons]; exact h1 _ _ ih
  have h := this l.reverse
  rwa [List.reverse_reverse] at h
theorem encP (cd : Int → Int) : ∀ (ss : List Sta), okAll ss → EncP cd ss (encL cd ss).1 (encL cd ss).2 := by
  intro ss
  refine snoc_ind (P := fun ss => okAll ss → EncP cd ss (encL cd ss).1 (encL cd ss).2) ?_ ?_ ss
  · intro _
    exact { n := rfl, d16 := by simp [encL, hdr], dmax := by simp [encL, hdr], lo := by simp [encL], last := fun h => absurd rfl h, rise := by simp [encL], st := fun i h => by simp at h }
  · intro ss s ih hok
    have ih := ih (fun i h => by
      have := hok i (by simp; omega)
      rwa [List.getElem_append_left h] at this)
    have hs : okSt ss.length s := by
      have := hok ss.length (by simp)
      rw [List.getElem_append_right (by omega), List.getElem_singleton] at this
      exact this
    rw [encL_snoc]
    generalize encL cd ss = p at *
    obtain ⟨D, As⟩ := p
    simp only [encS] at *
    have hlen : (arcsOf As s).length ≤ 256 := by simp [arcsOf]; exact hs.1
    have hb := stB_len cd D.length s.1 s.2.1 (arcsOf As s) (lastOf As) hlen
    generalize hX : stB cd D.length s.1 s.2.1 (arcsOf As s) (lastOf As) = X at *
    have hlast : As ≠ [] → lastOf As = (D.length : Int) - 1 := ih.last
    have hn := ih.n
    have h16 := ih.d16
    have hlo := ih.lo
    refine { n := by simp [hn], d16 := by simp; omega, dmax := ?_, lo := ?_, last := ?_, rise := ?_, st := ?_ }
    · have := ih.dmax
      simp
      omega
    · intro a ha
      rcases List.mem_append.1 ha with ha | ha
      · have := hlo a ha
        simp
        omega
      · simp at ha
        subst ha
        simp
        omega
    · intro _
      unfold lastOf
      rw [getLastD_snoc]
      simp
    · intro i j hij hj
      simp at hj
      rcases Nat.lt_or_ge j As.length with h | h
      · have := ih.rise i j hij h
        rw [getD_l _ _ _ _ (by omega), getD_l _ _ _ _ h]
        exact this
      · obtain rfl : j = As.length := by omega
        rw [getD_l _ _ _ _ hij, getD_r _ _ _ _ (Nat.le_refl _)]
        have := hlo (As.getD i 0) (by rw [List.getD_eq_getElem?_getD, List.getElem?_eq_getElem hij]; exact List.getElem_mem _)
        rw [Nat.sub_self]
        show _ < ((D.length + X.length : Nat) : Int) - 1
        omega
    · intro i hi
      simp at hi
      rcases Nat.lt_or_ge i ss.length with h | h
      · obtain ⟨start, a1, a2, a3, a4, a5⟩ := ih.st i h
        rw [List.getElem_append_left h, List.take_append_of_le_length (by omega), getD_l _ _ _ _ (by omega)]
        refine ⟨start, a1, a2.more, a3, fun j hj => ?_, a5⟩
        rw [getD_l _ _ _ _ (by omega)]
        exact a4 j hj
      · obtain rfl : i = ss.length := by omega
        rw [List.getElem_append_right (by omega)]
        simp only [Nat.sub_self, List.getElem_singleton]
        rw [List.take_append_of_le_length (by omega), List.take_of_length_le (by omega), ← hn, getD_r _ _ _ _ (Nat.le_refl _)]
        refine ⟨D.length, h16, by rw [hX]; exact At.at_end, by rw [hX]; simp, fun j hj => ?_, fun h0 => hlast (fun e => by rw [e] at h0; simp at h0)⟩
        rw [getD_l _ _ _ _ (by omega)]
        exact (hlo _ (by rw [List.getD_eq_getElem?_getD, List.getElem?_eq_getElem hj]; exact List.getElem_mem _)).2

end Go.Proofs.YtjonmfaeonldcaaDoor.fnStateFor
