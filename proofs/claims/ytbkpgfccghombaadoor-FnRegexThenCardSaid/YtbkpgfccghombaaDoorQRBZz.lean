/-
  The sequences of ranges of bytes: one round of the inner loop of NewSequencesPrealloc: a range that is not empty. Conditions: as stated.
-/
import Derived.Test.YtbkpgfccghombaaDoorM01
import Derived.Deep.LoopGhost
import Derived.Deep.RegionHeld3
namespace Go.Proofs.YtbkpgfccghombaaDoor
open Go.ChangeShapes Go.WideShapes Go.ChangeAt Go.RowKit
set_option linter.unusedVariables false

def mx (j : Nat) : Int := if j = 1 then 127 else if j = 2 then 2047 else 65535
def mk (j : Nat) : Int := if j = 1 then 64 else if j = 2 then 4096 else 262144
theorem maxsv_nat (i : Nat) (w : World) (h1 : 1 ≤ i) (h3 : i ≤ 3) : Calls Tryd.prog 89 #[.int .i64 (i : Nat)] w fun e w' => e = .returned (.int .i32 (mx i)) ∧ w = w' := by
  have h := maxsv_any (i : Int) w (by omega)
  have e : (if (i : Int) = 1 then (127 : Int) else if (i : Int) = 2 then 2047 else 65535) = mx i := by
    unfold mx
    have hi : i = 1 ∨ i = 2 ∨ i = 3 := by omega
    rcases hi with rfl | rfl | rfl <;> rfl
  rw [e] at h
  exact h
theorem mx_bd (i : Nat) : 0 ≤ mx i ∧ mx i ≤ 65535 := by unfold mx; split; omega; split <;> omega

/-- a range that is not cut any more is one sequence -/
theorem seq_covers (a z : Int) (h0 : 0 ≤ a) (h : a ≤ z) (hz : z ≤ 1114111) (hs : 57344 ≤ a ∨ z ≤ 55295) (hm : ∀ j, 1 ≤ j → j < 4 → ¬ (a ≤ mx j ∧ mx j < z)) (hna : ¬ z ≤ 127) (hw : ∀ j, 1 ≤ j → j < 4 → whole (mk j) a z) :
    (∀ b, covB ((ub a).zip (ub z)) b = true ↔ InR a z b) ∧ (ub a).length = (ub z).length ∧ 2 ≤ (ub a).length ∧ (ub a).length ≤ 4 := by
  have m1 := hm 1 (by omega) (by omega)
  have m2 := hm 2 (by omega) (by omega)
  have m3 := hm 3 (by omega) (by omega)
  have w1 := hw 1 (by omega) (by omega)
  have w2 := hw 2 (by omega) (by omega)
  have w3 := hw 3 (by omega) (by omega)
  rw [show mx 1 = 127 from rfl] at m1
  rw [show mx 2 = 2047 from rfl] at m2
  rw [show mx 3 = 65535 from rfl] at m3
  rw [show mk 1 = 64 from rfl] at w1
  rw [show mk 2 = 4096 from rfl] at w2
  rw [show mk 3 = 262144 from rfl] at w3
  have ha : ¬ a ≤ 127 := by omega
  by_cases hz2 : z ≤ 2047
  · refine ⟨fun b => one_two a z b ha h hz2 w1, ?_⟩
    rw [ub2 a ha (by omega), ub2 z hna hz2]
    simp
  · have ha2 : ¬ a ≤ 2047 := by omega
    by_cases hz3 : z ≤ 65535
    · refine ⟨fun b => one_three a z b ha2 h hz3 (by omega) w1 w2, ?_⟩
      rw [ub3 a ha2 (by omega), ub3 z hz2 hz3]
      simp
    · have ha3 : ¬ a ≤ 65535 := by omega
      refine ⟨fun b => one_four a z b ha3 h hz w1 w2 w3, ?_⟩
      rw [ub4 a ha3, ub4 z hz3]
      simp

/-! where a range is cut -/
section
variable {a z : Int}
theorem cut_mx (i : Nat) (h1 : 1 ≤ i) (h4 : i < 4) (hm : ∀ j, 1 ≤ j → j < i → ¬ (a ≤ mx j ∧ mx j < z)) (k1 : a ≤ mx i) (k2 : mx i < z) : rx.cutAt a z = some (mx i) := by
  unfold rx.cutAt
  have hi : i = 1 ∨ i = 2 ∨ i = 3 := by omega
  rcases hi with rfl | rfl | rfl
  · rw [if_pos ⟨k1, k2⟩]; rfl
  · rw [if_neg (show ¬ (a ≤ 127 ∧ 127 < z) from hm 1 (by omega) (by omega)), if_pos ⟨k1, k2⟩]; rfl
  · rw [if_neg (show ¬ (a ≤ 127 ∧ 127 < z) from hm 1 (by omega) (by omega)), if_neg (show ¬ (a ≤ 2047 ∧ 2047 < z) from hm 2 (by omega) (by omega)), if_pos ⟨k1, k2⟩]; rfl
theorem cut_start (hm : ∀ j, 1 ≤ j → j < 4 → ¬ (a ≤ mx j ∧ mx j < z)) : rx.cutAt a z = if z ≤ 127 then none
  else if a / 64 ≠ z / 64 ∧ a % 64 ≠ 0 then some (a / 64 * 64 + 63) else if a / 64 ≠ z / 64 ∧ z % 64 ≠ 63 then some (z / 64 * 64 - 1)
  else if a / 4096 ≠ z / 4096 ∧ a % 4096 ≠ 0 then some (a / 4096 * 4096 + 4095) else if a / 4096 ≠ z / 4096 ∧ z % 4096 ≠ 4095 then some (z / 4096 * 4096 - 1)
  else if a / 262144 ≠ z / 262144 ∧ a % 262144 ≠ 0 then some (a / 262144 * 262144 + 262143) else if a / 262144 ≠ z / 262144 ∧ z % 262144 ≠ 262143 then some (z / 262144 * 262144 - 1)
  else none := by
  unfold rx.cutAt
  rw [if_neg (show ¬ (a ≤ 127 ∧ 127 < z) from hm 1 (by omega) (by omega)), if_neg (show ¬ (a ≤ 2047 ∧ 2047 < z) from hm 2 (by omega) (by omega)), if_neg (show ¬ (a ≤ 65535 ∧ 65535 < z) from hm 3 (by omega) (by omega))]
theorem wh1 (h : whole 64 a z) : ¬ (a / 64 ≠ z / 64 ∧ a % 64 ≠ 0) ∧ ¬ (a / 64 ≠ z / 64 ∧ z % 64 ≠ 63) := by unfold whole at h; omega
theorem wh2 (h : whole 4096 a z) : ¬ (a / 4096 ≠ z / 4096 ∧ a % 4096 ≠ 0) ∧ ¬ (a / 4096 ≠ z / 4096 ∧ z % 4096 ≠ 4095) := by unfold whole at h; omega
theorem wh3 (h : whole 262144 a z) : ¬ (a / 262144 ≠ z / 262144 ∧ a % 262144 ≠ 0) ∧ ¬ (a / 262144 ≠ z / 262144 ∧ z % 262144 ≠ 262143) := by unfold whole at h; omega
theorem cut_lo1 (hz : ¬ z ≤ 127) (hm : ∀ j, 1 ≤ j → j < 4 → ¬ (a ≤ mx j ∧ mx j < z)) (_ : ∀ j, 1 ≤ j → j < 1 → whole (mk j) a z) (h1 : a / 64 ≠ z / 64) (h2 : a % 64 ≠ 0) : rx.cutAt a z = some (a / 64 * 64 + 63) := by
  rw [cut_start hm, if_neg hz, if_pos ⟨h1, h2⟩]
theorem cut_hi1 (hz : ¬ z ≤ 127) (hm : ∀ j, 1 ≤ j → j < 4 → ¬ (a ≤ mx j ∧ mx j < z)) (_ : ∀ j, 1 ≤ j → j < 1 → whole (mk j) a z) (h1 : a / 64 ≠ z / 64) (h2 : a % 64 = 0) (h3 : z % 64 ≠ 63) : rx.cutAt a z = some (z / 64 * 64 - 1) := by
  rw [cut_start hm, if_neg hz, if_neg (by omega), if_pos ⟨h1, h3⟩]
theorem cut_lo2 (hz : ¬ z ≤ 127) (hm : ∀ j, 1 ≤ j → j < 4 → ¬ (a ≤ mx j ∧ mx j < z)) (hw : ∀ j, 1 ≤ j → j < 2 → whole (mk j) a z) (h1 : a / 4096 ≠ z / 4096) (h2 : a % 4096 ≠ 0) : rx.cutAt a z = some (a / 4096 * 4096 + 4095) := by
  have q1 := wh1 (hw 1 (by omega) (by omega))
  rw [cut_start hm, if_neg hz, if_neg q1.1, if_neg q1.2, if_pos ⟨h1, h2⟩]
theorem cut_hi2 (hz : ¬ z ≤ 127) (hm : ∀ j, 1 ≤ j → j < 4 → ¬ (a ≤ mx j ∧ mx j < z)) (hw : ∀ j, 1 ≤ j → j < 2 → whole (mk j) a z) (h1 : a / 4096 ≠ z / 4096) (h2 : a % 4096 = 0) (h3 : z % 4096 ≠ 4095) : rx.cutAt a z = some (z / 4096 * 4096 - 1) := by
  have q1 := wh1 (hw 1 (by omega) (by omega))
  rw [cut_start hm, if_neg hz, if_neg q1.1, if_neg q1.2, if_neg (by omega), if_pos ⟨h1, h3⟩]
theorem cut_lo3 (hz : ¬ z ≤ 127) (hm : ∀ j, 1 ≤ j → j < 4 → ¬ (a ≤ mx j ∧ mx j < z)) (hw : ∀ j, 1 ≤ j → j < 3 → whole (mk j) a z) (h1 : a / 262144 ≠ z / 262144) (h2 : a % 262144 ≠ 0) : rx.cutAt a z = some (a / 262144 * 262144 + 262143) := by
  have q1 := wh1 (hw 1 (by omega) (by omega))
  have q2 := wh2 (hw 2 (by omega) (by omega))
  rw [cut_start hm, if_neg hz, if_neg q1.1, if_neg q1.2, if_neg q2.1, if_neg q2.2, if_pos ⟨h1, h2⟩]
theorem cut_hi3 (hz : ¬ z ≤ 127) (hm : ∀ j, 1 ≤ j → j < 4 → ¬ (a ≤ mx j ∧ mx j < z)) (hw : ∀ j, 1 ≤ j → j < 3 → whole (mk j) a z) (h1 : a / 262144 ≠ z / 262144) (h2 : a % 262144 = 0) (h3 : z % 262144 ≠ 262143) : rx.cutAt a z = some (z / 262144 * 262144 - 1) := by
  have q1 := wh1 (hw 1 (by omega) (by omega))
  have q2 := wh2 (hw 2 (by omega) (by omega))
  rw [cut_start hm, if_neg hz, if_neg q1.1, if_neg q1.2, if_neg q2.1, if_neg q2.2, if_neg (by omega), if_pos ⟨h1, h3⟩]
theorem cut_no1 (hz : z ≤ 127) (hm : ∀ j, 1 ≤ j → j < 4 → ¬ (a ≤ mx j ∧ mx j < z)) : rx.cutAt a z = none := by
  rw [cut_start hm, if_pos hz]
theorem cut_no2 (hz : ¬ z ≤ 127) (hm : ∀ j, 1 ≤ j → j < 4 → ¬ (a ≤ mx j ∧ mx j < z)) (hw : ∀ j, 1 ≤ j → j < 4 → whole (mk j) a z) : rx.cutAt a z = none := by
  have q1 := wh1 (hw 1 (by omega) (by omega))
  have q2 := wh2 (hw 2 (by omega) (by omega))
  have q3 := wh3 (hw 3 (by omega) (by omega))
  rw [cut_start hm, if_neg hz, if_neg q1.1, if_neg q1.2, if_neg q2.1, if_neg q2.2, if_neg q3.1, if_neg q3.2]
end

theorem pop_steps2 {B : Nat} {O : Nat → Prop} {w0 : World} {R p q : Nat} {a z fr up : Int} {Ls : List (List (Int × Int))} {T : List (Int × Int)} (hc : InvP fr up Ls T) :
    ∃ (a2 z2 : Int) (T2 : List (Int × Int)), Hid (Inv fr up Ls T2 (a2, z2)) ∧ Hid (mu (a2, z2) T2 = wgtAll T) ∧
      Hid (∀ W rv L sk, St B O w0 W R p q a z rv L sk T → Calls Tryd.prog 86 #[sk] W fun e w' => ∃ sk2, e = .returned (.tuple #[sk2, .agg #[.int .i32 a2, .int .i32 z2]]) ∧ St B O w0 w' R p q a z rv L sk2 T2) := by
  rcases List.eq_nil_or_concat T with rfl | ⟨T', ⟨a2, z2⟩, rfl⟩
  · obtain ⟨h1, h2⟩ := inv_pop0 hc
    refine ⟨65535, 0, [], Lib.hid h1, Lib.hid h2, Lib.hid fun W rv L sk hW => (pop_none sk B W hW.nils hW.osk).mono ?_⟩
    rintro e w' ⟨rfl, hb⟩
    exact ⟨sk, rfl, hW.below hb⟩
  · rw [List.concat_eq_append] at *
    obtain ⟨h1, h2⟩ := inv_pop hc
    have hl := hc.tlen
    refine ⟨a2, z2, T', Lib.hid h1, Lib.hid h2, Lib.hid fun W rv L sk hW => (pop_some sk T' a2 z2 B W (by simp at hl; omega) hW.osk).mono ?_⟩
    rintro e w' ⟨v', rfl, he, ho, hb⟩
    exact ⟨v', rfl, (hW.pop ho he).below hb⟩

theorem infoQ : (Tryd.prog.info? 159).map (fun i => (i.zero, i.size, i.bytes)) = some (some (.slice none 0 0), 1, 24) := by kernel_rfl

theorem St.push_c {B : Nat} {O : Nat → Prop} {w0 w : World} {R p q : Nat} {a z : Int} {rv sk : Value} {L : List Sq} {T : List (Int × Int)} (h : St B O w0 w R p q a z rv L sk T) (hT : T.length ≤ 8912895) (a2 z2 : Int) :
    Calls Tryd.prog 85 #[sk, .agg #[.int .i32 a2, .int .i32 z2]] w fun e w' => ∃ sk2, e = .returned sk2 ∧ St B O w0 w' R p q a z rv L sk2 (T ++ [(a2, z2)]) :=
  (push_any sk T a2 z2 B w h.size (by omega) h.osk).mono (by
    rintro e w' ⟨v, rfl, ho, hg, hat⟩
    exact ⟨v, rfl, h.push ho hg hat⟩)

theorem sl_pre {w : World} {B : Nat} {a : Option Addr} {xs ys : List Value} (h : Sl w B a (xs ++ ys)) : Sl w B a xs := fun j v hv =>
  h j v (by rw [List.getElem?_append_left (List.getElem?_eq_some_iff.1 hv).1]; exact hv)

theorem St.fill2 {B : Nat} {O : Nat → Prop} {w0 w w1 w' : World} {R p q : Nat} {a z : Int} {rv sk : Value} {L : List Sq} {T : List (Int × Int)} (h : St B O w0 w R p q a z rv L sk T) (hg1 : w.grownBy w1 (some p)) (hg2 : w1.grownBy w' (some q)) (hp : Four w' p) (hq : Four w' q) :
    St B O w0 w' R p q a z rv L sk T := by
  have h1 : Four w1 p := by
    obtain ⟨x0, x1, x2, x3, hb⟩ := hp
    obtain ⟨y0, y1, y2, y3, hc⟩ := h.fp
    exact ⟨_, _, _, _, (hg2.block p (Nat.lt_of_lt_of_le hc.lt hg1.size) (fun e => h.pq (Option.some.inj e))).symm.trans hb⟩
  exact (h.fill hg1 (.inl rfl) h1).fill hg2 (.inr rfl) hq

set_option maxRecDepth 1000000 in
set_option maxHeartbeats 6400000 in
theorem round_valid (c0 c1 c2 c3 c4 c5 c6 c7 c8 c9 c10 c11 c31 c32 c33 c34 c35 c36 c37 c38 c39 c40 c41 c42 c43 c44 c45 c46 c47 c48 c49 c50 c51 c52 c53 c54 c55 c56 c57 c58 c59 c60 c61 c218 c219 u12 u13 u14 u20 u21 u22 u23 u24 u25 u26 u27 u28 u29 u30 u62 u63 u64 u65 u66 u67 u68 u69 u70 u71 u72 u73 u74 u75 u76 u77 u78 u79 u80 u81 u82 u83 u84 u85 u86 u87 u88 u89 u90 u91 u92 u93 u94 u95 u96 u97 u98 u99 u100 u101 u102 u103 u104 u105 u106 u107 u108 u109 u110 u111 u112 u113 u114 u115 u116 u117 u118 u119 u120 u121 u122 u123 u124 u125 u126 u127 u128 u129 u130 u131 u132 u133 u134 u135 u136 u137 u138 u139 u140 u141 u142 u143 u144 u145 u146 u147 u148 u149 u150 u151 u152 u153 u154 u155 u156 u157 u158 u159 u160 u161 u162 u163 u164 u165 u166 u167 u168 u169 u170 u171 u172 u173 u174 u175 u176 u177 u178 u179 u180 u181 u182 u183 u184 u185 u186 u187 u188 u189 u190 u191 u192 u193 u194 u195 u196 u197 u198 u199 u200 u201 u202 u203 u204 u205 u206 u207 u208 u209 u210 u211 u212 u213 u214 u215 u216 u217 s15 s18 : Value) (B : Nat) (O : Nat → Prop) (w wo : World) (R p q : Nat) (fr up a z : Int) (L : List Sq) (T : List (Int × Int)) (Q : Exit → Act → World → Prop)
    (H : Hid (St B O w wo R p q a z s15 L s18 T ∧ Inv fr up (L.map (·.2.2)) T (a, z) ∧ (a, z) ≠ nilR))(sp : 57344 ≤ a ∨ z ≤ 55295) (haz : a ≤ z)
    (hI : Hid (∀ (d12 d13 d14 d20 d21 d22 d23 d24 d25 d26 d27 d28 d29 d30 d62 d63 d64 d65 d66 d67 d68 d69 d70 d71 d72 d73 d74 d75 d76 d77 d78 d79 d80 d81 d82 d83 d84 d85 d86 d87 d88 d89 d90 d91 d92 d93 d94 d95 d96 d97 d98 d99 d100 d101 d102 d103 d104 d105 d106 d107 d108 d109 d110 d111 d112 d113 d114 d115 d116 d117 d118 d119 d120 d121 d122 d123 d124 d125 d126 d127 d128 d129 d130 d131 d132 d133 d134 d135 d136 d137 d138 d139 d140 d141 d142 d143 d144 d145 d146 d147 d148 d149 d150 d151 d152 d153 d154 d155 d156 d157 d158 d159 d160 d161 d162 d163 d164 d165 d166 d167 d168 d169 d170 d171 d172 d173 d174 d175 d176 d177 d178 d179 d180 d181 d182 d183 d184 d185 d186 d187 d188 d189 d190 d191 d192 d193 d194 d195 d196 d197 d198 d199 d200 d201 d202 d203 d204 d205 d206 d207 d208 d209 d210 d211 d212 d213 d214 d215 d216 d217 t15 t18 : Value) (w2 : World) (a2 z2 : Int) (L2 : List Sq) (T2 : List (Int × Int)), St B O w w2 R p q a2 z2 t15 L2 t18 T2 → Inv fr up (L2.map (·.2.2)) T2 (a2, z2) → (a2, z2) ≠ nilR → mu (a2, z2) T2 < mu (a, z) T → Q .normal ⟨#[c0, c1, c2, c3, c4, c5, c6, c7, c8, c9, c10, c11, d12, d13, d14, t15, .slice (some ⟨p, 0, none⟩) 4 4, .slice (some ⟨q, 0, none⟩) 4 4, t18, .pointer (some ⟨R, 0, none⟩), d20, d21, d22, d23, d24, d25, d26, d27, d28, d29, d30, c31, c32, c33, c34, c35, c36, c37, c38, c39, c40, c41, c42, c43, c44, c45, c46, c47, c48, c49, c50, c51, c52, c53, c54, c55, c56, c57, c58, c59, c60, c61, d62, d63, d64, d65, d66, d67, d68, d69, d70, d71, d72, d73, d74, d75, d76, d77, d78, d79, d80, d81, d82, d83, d84, d85, d86, d87, d88, d89, d90, d91, d92, d93, d94, d95, d96, d97, d98, d99, d100, d101, d102, d103, d104, d105, d106, d107, d108, d109, d110, d111, d112, d113, d114, d115, d116, d117, d118, d119, d120, d121, d122, d123, d124, d125, d126, d127, d128, d129, d130, d131, d132, d133, d134, d135, d136, d137, d138, d139, d140, d141, d142, d143, d144, d145, d146, d147, d148, d149, d150, d151, d152, d153, d154, d155, d156, d157, d158, d159, d160, d161, d162, d163, d164, d165, d166, d167, d168, d169, d170, d171, d172, d173, d174, d175, d176, d177, d178, d179, d180, d181, d182, d183, d184, d185, d186, d187, d188, d189, d190, d191, d192, d193, d194, d195, d196, d197, d198, d199, d200, d201, d202, d203, d204, d205, d206, d207, d208, d209, d210, d211, d212, d213, d214, d215, d216, d217, c218, c219], []⟩ w2))
    (hT : Hid (∀ (d12 d13 d14 d20 d21 d22 d23 d24 d25 d26 d27 d28 d29 d30 d62 d63 d64 d65 d66 d67 d68 d69 d70 d71 d72 d73 d74 d75 d76 d77 d78 d79 d80 d81 d82 d83 d84 d85 d86 d87 d88 d89 d90 d91 d92 d93 d94 d95 d96 d97 d98 d99 d100 d101 d102 d103 d104 d105 d106 d107 d108 d109 d110 d111 d112 d113 d114 d115 d116 d117 d118 d119 d120 d121 d122 d123 d124 d125 d126 d127 d128 d129 d130 d131 d132 d133 d134 d135 d136 d137 d138 d139 d140 d141 d142 d143 d144 d145 d146 d147 d148 d149 d150 d151 d152 d153 d154 d155 d156 d157 d158 d159 d160 d161 d162 d163 d164 d165 d166 d167 d168 d169 d170 d171 d172 d173 d174 d175 d176 d177 d178 d179 d180 d181 d182 d183 d184 d185 d186 d187 d188 d189 d190 d191 d192 d193 d194 d195 d196 d197 d198 d199 d200 d201 d202 d203 d204 d205 d206 d207 d208 d209 d210 d211 d212 d213 d214 d215 d216 d217 t15 t18 : Value) (w2 : World) (a2 z2 : Int) (L2 : List Sq) (T2 : List (Int × Int)), St B O w w2 R p q a2 z2 t15 L2 t18 T2 → Inv fr up (L2.map (·.2.2)) T2 (a2, z2) → mu (a2, z2) T2 < mu (a, z) T → Q (.exit 1) ⟨#[c0, c1, c2, c3, c4, c5, c6, c7, c8, c9, c10, c11, d12, d13, d14, t15, .slice (some ⟨p, 0, none⟩) 4 4, .slice (some ⟨q, 0, none⟩) 4 4, t18, .pointer (some ⟨R, 0, none⟩), d20, d21, d22, d23, d24, d25, d26, d27, d28, d29, d30, c31, c32, c33, c34, c35, c36, c37, c38, c39, c40, c41, c42, c43, c44, c45, c46, c47, c48, c49, c50, c51, c52, c53, c54, c55, c56, c57, c58, c59, c60, c61, d62, d63, d64, d65, d66, d67, d68, d69, d70, d71, d72, d73, d74, d75, d76, d77, d78, d79, d80, d81, d82, d83, d84, d85, d86, d87, d88, d89, d90, d91, d92, d93, d94, d95, d96, d97, d98, d99, d100, d101, d102, d103, d104, d105, d106, d107, d108, d109, d110, d111, d112, d113, d114, d115, d116, d117, d118, d119, d120, d121, d122, d123, d124, d125, d126, d127, d128, d129, d130, d131, d132, d133, d134, d135, d136, d137, d138, d139, d140, d141, d142, d143, d144, d145, d146, d147, d148, d149, d150, d151, d152, d153, d154, d155, d156, d157, d158, d159, d160, d161, d162, d163, d164, d165, d166, d167, d168, d169, d170, d171, d172, d173, d174, d175, d176, d177, d178, d179, d180, d181, d182, d183, d184, d185, d186, d187, d188, d189, d190, d191, d192, d193, d194, d195, d196, d197, d198, d199, d200, d201, d202, d203, d204, d205, d206, d207, d208, d209, d210, d211, d212, d213, d214, d215, d216, d217, c218, c219], []⟩ w2)) :
    Code.wp Tryd.prog innerBody Q ⟨#[c0, c1, c2, c3, c4, c5, c6, c7, c8, c9, c10, c11, u12, u13, u14, s15, .slice (some ⟨p, 0, none⟩) 4 4, .slice (some ⟨q, 0, none⟩) 4 4, s18, .pointer (some ⟨R, 0, none⟩), u20, u21, u22, u23, u24, u25, u26, u27, u28, u29, u30, c31, c32, c33, c34, c35, c36, c37, c38, c39, c40, c41, c42, c43, c44, c45, c46, c47, c48, c49, c50, c51, c52, c53, c54, c55, c56, c57, c58, c59, c60, c61, u62, u63, u64, u65, u66, u67, u68, u69, u70, u71, u72, u73, u74, u75, u76, u77, u78, u79, u80, u81, u82, u83, u84, u85, u86, u87, u88, u89, u90, u91, u92, u93, u94, u95, u96, u97, u98, u99, u100, u101, u102, u103, u104, u105, u106, u107, u108, u109, u110, u111, u112, u113, u114, u115, u116, u117, u118, u119, u120, u121, u122, u123, u124, u125, u126, u127, u128, u129, u130, u131, u132, u133, u134, u135, u136, u137, u138, u139, u140, u141, u142, u143, u144, u145, u146, u147, u148, u149, u150, u151, u152, u153, u154, u155, u156, u157, u158, u159, u160, u161, u162, u163, u164, u165, u166, u167, u168, u169, u170, u171, u172, u173, u174, u175, u176, u177, u178, u179, u180, u181, u182, u183, u184, u185, u186, u187, u188, u189, u190, u191, u192, u193, u194, u195, u196, u197, u198, u199, u200, u201, u202, u203, u204, u205, u206, u207, u208, u209, u210, u211, u212, u213, u214, u215, u216, u217, c218, c219], []⟩ wo := by
  have HK := Lib.hid (H.out.2.1.ok H.out.2.2)
  have r0 := H.out.1.r.cell 0
  have r1 := H.out.1.r.cell 1
  simp only [List.getElem?_cons_zero, List.getElem?_cons_succ] at r0 r1

  have CS := Lib.hid (split_no R a z wo H.out.1.nils r0 r1 sp)
  have CV := Lib.hid (fun (W : World) (h : St B O w W R p q a z s15 L s18 T) => valid_any R a z W (by simpa using h.r.cell 0) (by simpa using h.r.cell 1))
  have hd : decide (a ≤ z) = true := decide_eq_true haz
  have SP := Lib.hid sp
  clear r0 r1 sp
  conv => arg 2; whnf
  go_wp2_with fail
  refine CS.out.mono ?_
  rintro e w3 ⟨rfl, hb3⟩
  have H3 := Lib.hid (H.out.1.below hb3)
  have n0 := al2 H3.out.nils.s0
  have n1 := al2 H3.out.nils.s1
  clear CS hb3
  go_wp2_with fail
  have hb5 : Below w3.heap.size w3 ((w3.alloc (.cells #[.int .i32 65535, .int .i32 0] 184)).alloc (.cells #[.int .i32 65535, .int .i32 0] 184)) := ((Below.refl w3.heap.size w3).alloc (Nat.le_refl _) _).alloc (by simp) _
  have H4 := Lib.hid (H3.out.below hb5)
  clear hb5 n0 n1
  refine (CV.out _ H4.out).mono ?_
  rintro e w5 ⟨rfl, hm5⟩
  have H5 := Lib.hid (show St B O w w5 R p q a z s15 L s18 T by
    obtain ⟨m, rfl⟩ := hm5
    exact H4.out.below (below_drewN (Below.refl _ _) m))
  have HT := Lib.hid H.out.2.1.cv.tlen
  clear CV H4 H3 hd hm5
  have r0 := H5.out.r.cell 0
  have r1 := H5.out.r.cell 1
  have f0 := H5.out.r.frozen 0
  have f1 := H5.out.r.frozen 1
  simp only [List.getElem?_cons_zero, List.getElem?_cons_succ] at r0 r1
  go_wp2
  go_loopg [18, 22] 3 (fun g t18 s22 wy => ∃ i : Nat, i + g = 4 ∧ 1 ≤ i ∧ s22 = .int .i64 i ∧ t18 = s18 ∧ Hid (∀ j, 1 ≤ j → j < i → ¬ (a ≤ mx j ∧ mx j < z)) ∧ w5 = wy)
  case atStart => exact ⟨1, by omega, by omega, rfl, rfl, Lib.hid fun j h1 h2 => by omega, rfl⟩
  case round =>
    obtain ⟨i, hig, hi1, rfl, rfl, HC, rfl⟩ := hrel
    by_cases hi : i < 4
    · have CM := Lib.hid (fun W => maxsv_nat i W hi1 (by omega))
      have hMb := mx_bd i
      have HM := Lib.hid (show mx i = mx i from rfl)
      obtain ⟨M, hM⟩ : ∃ M, M = mx i := ⟨_, rfl⟩
      rw [← hM] at CM hMb
      have HMi := Lib.hid hM
      clear hM HM
      obtain ⟨hM0, hM1⟩ := hMb
      by_cases k1 : a ≤ M
      · by_cases k2 : M < z
        · have CP := Lib.hid (H5.out.push_c HT.out (M + 1) z)
          go_wp2_with (first | (go_at_call 89; refine (CM.out _).mono ?_; rintro e w6 ⟨rfl, rfl⟩))
          refine CP.out.mono ?_
          rintro e w7 ⟨v7, rfl, h7⟩
          have H7 := Lib.hid h7
          have r1' := H7.out.r.cell 1
          have f1' := H7.out.r.frozen 1
          simp only [List.getElem?_cons_zero, List.getElem?_cons_succ] at r1'
          clear h7 r0 r1 f0 f1
          go_wp2
          have HF := inv_cut H.out.2.1 H.out.2.2 M k1 k2 (by rw [HMi.out] at k1 k2 ⊢; exact rx.pieces_cut HK.out.1 haz (by have := SP.out; omega) (cut_mx i hi1 hi HC.out k1 k2))
          exact hI.out _ _ _ _ _ _ _ _ _ _ _ _ _ _ _ _ _ _ _ _ _ _ _ _ _ _ _ _ _ _ _ _ _ _ _ _ _ _ _ _ _ _ _ _ _ _ _ _ _ _ _ _ _ _ _ _ _ _ _ _ _ _ _ _ _ _ _ _ _ _ _ _ _ _ _ _ _ _ _ _ _ _ _ _ _ _ _ _ _ _ _ _ _ _ _ _ _ _ _ _ _ _ _ _ _ _ _ _ _ _ _ _ _ _ _ _ _ _ _ _ _ _ _ _ _ _ _ _ _ _ _ _ _ _ _ _ _ _ _ _ _ _ _ _ _ _ _ _ _ _ _ _ _ _ _ _ _ _ _ _ _ _ _ _ _ _ _ _ _ _ _ _ _ _ _ _ _ (H7.out.set1 M) HF.1 (fun e => by unfold nilR at e; injection e; omega) HF.2
        · go_wp2_with (first | (go_at_call 89; refine (CM.out _).mono ?_; rintro e w6 ⟨rfl, rfl⟩))
          go_roundg (gk - 1)
          case measure => omega
          case rel => exact ⟨i + 1, by omega, by omega, by go_num, rfl, Lib.hid fun j h1 h2 => by
            by_cases hj : j = i
            · subst hj
              rw [← HMi.out]
              omega
            · exact HC.out j h1 (by omega), rfl⟩
      · go_wp2_with (first | (go_at_call 89; refine (CM.out _).mono ?_; rintro e w6 ⟨rfl, rfl⟩))
        go_roundg (gk - 1)
        case measure => omega
        case rel => exact ⟨i + 1, by omega, by omega, by go_num, rfl, Lib.hid fun j h1 h2 => by
          by_cases hj : j = i
          · subst hj
            rw [← HMi.out]
            omega
          · exact HC.out j h1 (by omega), rfl⟩
    · obtain rfl : i = 4 := by omega
      obtain ⟨i0, hi0, hiz, his, hib⟩ := info_parts infoQ
      have ha0 := HK.out.1
      have ha1 := HK.out.2.1
      have hz0 := HK.out.2.2.1
      have hz1 := HK.out.2.2.2.1
      simp only at ha0 ha1 hz0 hz1
      have HL := Lib.hid H.out.2.1.cv.llen
      by_cases hz : z ≤ 127
      · obtain ⟨a2, z2, T2, hi2, hmu2, hpop2⟩ := pop_steps2 (B := B) (O := O) (w0 := w) (R := R) (p := p) (q := q) (a := a) (z := z) (inv_add H.out.2.1 H.out.2.2 [(a, z)] (by simp) (rx.pieces_one ha0 haz (by have := SP.out; omega) (cut_no1 hz HC.out)) (if_pos hz))
        have CA := Lib.hid (ascii_yes R a z w5 r0 r1 ha0 haz hz)
        have hne : a ≠ 255 := by omega
        go_wp2_with fail
        refine CA.out.mono ?_
        rintro e w6 ⟨rfl, hb6⟩
        have H6 := Lib.hid (H5.out.below hb6)
        have n0 := al1 H6.out.nils.r0
        have n1 := al1 H6.out.nils.r1
        have HLn := Lib.hid (show (List.map (fun x : Sq => x.2.2) L).length = L.length by simp)
        clear hb6 CA r0 r1 f0 f1
        go_wp2_with (at_builtin; refine append1_at ((w6.alloc (.cells #[.int .u8 a, .int .u8 z] 192)).alloc (.cells #[.int .u8 a, .int .u8 z] 192)) #[.slice (some ⟨w6.heap.size + 1, 0, none⟩) 1 1] rfl (.tmp 118) (.tmp 121) 124 rfl B 159 i0 _ 1 24 Tryd.underlying124 hi0 hiz his hib rfl (by omega) rfl s15 L.length (L.map seqv) rfl ((H6.out.orv.alloc _).alloc _) (w6.heap.size + 1 + 1) (by simp) rfl (by simp [Value.oneCell']) (by have := HL.out; have := HLn.out; unfold maxLen; omega) (by have := HL.out; have := HLn.out; omega) (by have := H6.out.size; simp; omega) ?_; intro v7 w7 hown7 hg7 _ hat7)
        have hg7' := hg7
        have hat7' := hat7
        have H7 := Lib.hid (((H6.out.below ((Below.refl _ _).alloc (Nat.le_refl _) _)).below ((Below.refl _ _).alloc (Nat.le_refl _) _)).app (x := (w6.heap.size + 1, 1, [(a, z)])) (show Blk _ _ _ [.int .u8 a, .int .u8 z] by simpa using Blk.new (w6.alloc (.cells #[.int .u8 a, .int .u8 z] 192)) 192 [.int .u8 a, .int .u8 z]) hown7 hg7' hat7')
        clear hown7 hg7 n0 n1 hat7 hg7' hat7'
        refine (hpop2.out _ _ _ _ H7.out).mono ?_
        rintro e w8 ⟨v8, rfl, h8⟩
        have H8 := Lib.hid h8
        have r0 := H8.out.r.cell 0
        have r1 := H8.out.r.cell 1
        have f0 := H8.out.r.frozen 0
        have f1 := H8.out.r.frozen 1
        simp only [List.getElem?_cons_zero, List.getElem?_cons_succ] at r0 r1
        clear h8 hpop2
        go_wp2
        exact hT.out _ _ _ _ _ _ _ _ _ _ _ _ _ _ _ _ _ _ _ _ _ _ _ _ _ _ _ _ _ _ _ _ _ _ _ _ _ _ _ _ _ _ _ _ _ _ _ _ _ _ _ _ _ _ _ _ _ _ _ _ _ _ _ _ _ _ _ _ _ _ _ _ _ _ _ _ _ _ _ _ _ _ _ _ _ _ _ _ _ _ _ _ _ _ _ _ _ _ _ _ _ _ _ _ _ _ _ _ _ _ _ _ _ _ _ _ _ _ _ _ _ _ _ _ _ _ _ _ _ _ _ _ _ _ _ _ _ _ _ _ _ _ _ _ _ _ _ _ _ _ _ _ _ _ _ _ _ _ _ _ _ _ _ _ _ _ _ _ _ _ _ _ _ _ _ _ _ ((H8.out.set0 a2).set1 z2) (by simpa using hi2.out) (by rw [hmu2.out]; exact mu_pop H.out.2.1 H.out.2.2)
      · have CA := Lib.hid (ascii_no R a z w5 H5.out.nils r0 r1 haz hz)
        go_wp2_with fail
        refine CA.out.mono ?_
        rintro e w6 ⟨rfl, hb6⟩
        have H6 := Lib.hid (H5.out.below hb6)
        have n0 := al1 H6.out.nils.r0
        have n1 := al1 H6.out.nils.r1
        clear hb6 CA r0 r1 f0 f1
        go_wp2
        have H7 := Lib.hid (H6.out.below ((Below.refl _ _).alloc (Nat.le_refl _) (.cells #[.int .u8 255, .int .u8 0] 192)))
        clear n0 n1 H6 H5
        generalize (w6.alloc (.cells #[.int .u8 255, .int .u8 0] 192)) = w7 at *
        have r0 := H7.out.r.cell 0
        have r1 := H7.out.r.cell 1
        have f0 := H7.out.r.frozen 0
        have f1 := H7.out.r.frozen 1
        simp only [List.getElem?_cons_zero, List.getElem?_cons_succ] at r0 r1
        go_loopg [18, 25] 3 (fun g t18 s25 wy => ∃ i : Nat, i + g = 4 ∧ 1 ≤ i ∧ s25 = .int .u64 i ∧ t18 = u18 ∧ Hid (∀ j, 1 ≤ j → j < i → whole (mk j) a z) ∧ w7 = wy)
        case atStart => exact ⟨1, by omega, by omega, rfl, rfl, Lib.hid fun j h1 h2 => by omega, rfl⟩
        case round =>
          obtain ⟨i, hig, hi1, rfl, rfl, HW, rfl⟩ := hrel
          by_cases hi : i < 4
          · have hi3 : i = 1 ∨ i = 2 ∨ i = 3 := by omega
            rcases hi3 with rfl | rfl | rfl
            · have x0 : (if IntKind.i32.signed = true then (-1 : Int) else IntKind.i32.max) = -1 := rfl
              have x1 : bits .xor .i32 (-1) 63 = -64 := by decide
              have x2 : bits .xor .i32 (if IntKind.i32.signed = true then -1 else IntKind.i32.max) 63 = -64 := by decide
              have e1 := i32_hi6 a ha0 ha1
              have e2 := i32_hi6 z hz0 hz1
              have e3 := i32_lo6 a ha0 ha1
              have e4 := i32_lo6 z hz0 hz1
              have e5 := i32_or6 a ha0 ha1
              by_cases q1 : a / 64 * 64 = z / 64 * 64
              · go_wp2
                go_roundg (gk - 1)
                case measure => omega
                case rel => exact ⟨2, by omega, by omega, by go_num, rfl, Lib.hid fun j h1 h2 => by
                  by_cases hj : j = 1
                  · subst hj
                    show whole 64 a z
                    unfold whole
                    omega
                  · exact HW.out j h1 (by omega), rfl⟩
              · by_cases q2 : a % 64 = 0
                · by_cases q3 : z % 64 = 63
                  · go_wp2
                    go_roundg (gk - 1)
                    case measure => omega
                    case rel => exact ⟨2, by omega, by omega, by go_num, rfl, Lib.hid fun j h1 h2 => by
                      by_cases hj : j = 1
                      · subst hj
                        show whole 64 a z
                        unfold whole
                        omega
                      · exact HW.out j h1 (by omega), rfl⟩
                  · have CP := Lib.hid (H7.out.push_c HT.out (z / 64 * 64) z)
                    go_wp2_with fail
                    refine CP.out.mono ?_
                    rintro e w8 ⟨v8, rfl, h8⟩
                    have H8 := Lib.hid h8
                    have r0' := H8.out.r.cell 0
                    have r1' := H8.out.r.cell 1
                    have f1' := H8.out.r.frozen 1
                    simp only [List.getElem?_cons_zero, List.getElem?_cons_succ] at r0' r1'
                    clear h8 r0 r1 f0 f1
                    go_wp2
                    have HF := inv_cut H.out.2.1 H.out.2.2 (z / 64 * 64 - 1) (by omega) (by omega) (rx.pieces_cut ha0 haz (by have := SP.out; omega) (cut_hi1 (by omega) HC.out HW.out (by omega) (by omega) (by omega)))
                    rw [show z / 64 * 64 - 1 + 1 = z / 64 * 64 by omega] at HF
                    exact hI.out _ _ _ _ _ _ _ _ _ _ _ _ _ _ _ _ _ _ _ _ _ _ _ _ _ _ _ _ _ _ _ _ _ _ _ _ _ _ _ _ _ _ _ _ _ _ _ _ _ _ _ _ _ _ _ _ _ _ _ _ _ _ _ _ _ _ _ _ _ _ _ _ _ _ _ _ _ _ _ _ _ _ _ _ _ _ _ _ _ _ _ _ _ _ _ _ _ _ _ _ _ _ _ _ _ _ _ _ _ _ _ _ _ _ _ _ _ _ _ _ _ _ _ _ _ _ _ _ _ _ _ _ _ _ _ _ _ _ _ _ _ _ _ _ _ _ _ _ _ _ _ _ _ _ _ _ _ _ _ _ _ _ _ _ _ _ _ _ _ _ _ _ _ _ _ _ _ (H8.out.set1 (z / 64 * 64 - 1)) HF.1 (fun e => by unfold nilR at e; injection e; omega) HF.2
                · have CP := Lib.hid (H7.out.push_c HT.out (a / 64 * 64 + 63 + 1) z)
                  go_wp2_with fail
                  refine CP.out.mono ?_
                  rintro e w8 ⟨v8, rfl, h8⟩
                  have H8 := Lib.hid h8
                  have r0' := H8.out.r.cell 0
                  have r1' := H8.out.r.cell 1
                  have f1' := H8.out.r.frozen 1
                  simp only [List.getElem?_cons_zero, List.getElem?_cons_succ] at r0' r1'
                  clear h8 r0 r1 f0 f1
                  go_wp2
                  have HF := inv_cut H.out.2.1 H.out.2.2 (a / 64 * 64 + 63) (by omega) (by omega) (rx.pieces_cut ha0 haz (by have := SP.out; omega) (cut_lo1 (by omega) HC.out HW.out (by omega) (by omega)))
                  exact hI.out _ _ _ _ _ _ _ _ _ _ _ _ _ _ _ _ _ _ _ _ _ _ _ _ _ _ _ _ _ _ _ _ _ _ _ _ _ _ _ _ _ _ _ _ _ _ _ _ _ _ _ _ _ _ _ _ _ _ _ _ _ _ _ _ _ _ _ _ _ _ _ _ _ _ _ _ _ _ _ _ _ _ _ _ _ _ _ _ _ _ _ _ _ _ _ _ _ _ _ _ _ _ _ _ _ _ _ _ _ _ _ _ _ _ _ _ _ _ _ _ _ _ _ _ _ _ _ _ _ _ _ _ _ _ _ _ _ _ _ _ _ _ _ _ _ _ _ _ _ _ _ _ _ _ _ _ _ _ _ _ _ _ _ _ _ _ _ _ _ _ _ _ _ _ _ _ _ (H8.out.set1 (a / 64 * 64 + 63)) HF.1 (fun e => by unfold nilR at e; injection e; omega) HF.2
            · have x0 : (if IntKind.i32.signed = true then (-1 : Int) else IntKind.i32.max) = -1 := rfl
              have x1 : bits .xor .i32 (-1) 4095 = -4096 := by decide
              have x2 : bits .xor .i32 (if IntKind.i32.signed = true then -1 else IntKind.i32.max) 4095 = -4096 := by decide
              have e1 := i32_hi12 a ha0 ha1
              have e2 := i32_hi12 z hz0 hz1
              have e3 := i32_lo12 a ha0 ha1
              have e4 := i32_lo12 z hz0 hz1
              have e5 := i32_or12 a ha0 ha1
              by_cases q1 : a / 4096 * 4096 = z / 4096 * 4096
              · go_wp2
                go_roundg (gk - 1)
                case measure => omega
                case rel => exact ⟨3, by omega, by omega, by go_num, rfl, Lib.hid fun j h1 h2 => by
                  by_cases hj : j = 2
                  · subst hj
                    show whole 4096 a z
                    unfold whole
                    omega
                  · exact HW.out j h1 (by omega), rfl⟩
              · by_cases q2 : a % 4096 = 0
                · by_cases q3 : z % 4096 = 4095
                  · go_wp2
                    go_roundg (gk - 1)
                    case measure => omega
                    case rel => exact ⟨3, by omega, by omega, by go_num, rfl, Lib.hid fun j h1 h2 => by
                      by_cases hj : j = 2
                      · subst hj
                        show whole 4096 a z
                        unfold whole
                        omega
                      · exact HW.out j h1 (by omega), rfl⟩
                  · have CP := Lib.hid (H7.out.push_c HT.out (z / 4096 * 4096) z)
                    go_wp2_with fail
                    refine CP.out.mono ?_
                    rintro e w8 ⟨v8, rfl, h8⟩
                    have H8 := Lib.hid h8
                    have r0' := H8.out.r.cell 0
                    have r1' := H8.out.r.cell 1
                    have f1' := H8.out.r.frozen 1
                    simp only [List.getElem?_cons_zero, List.getElem?_cons_succ] at r0' r1'
                    clear h8 r0 r1 f0 f1
                    go_wp2
                    have HF := inv_cut H.out.2.1 H.out.2.2 (z / 4096 * 4096 - 1) (by omega) (by omega) (rx.pieces_cut ha0 haz (by have := SP.out; omega) (cut_hi2 (by omega) HC.out HW.out (by omega) (by omega) (by omega)))
                    rw [show z / 4096 * 4096 - 1 + 1 = z / 4096 * 4096 by omega] at HF
                    exact hI.out _ _ _ _ _ _ _ _ _ _ _ _ _ _ _ _ _ _ _ _ _ _ _ _ _ _ _ _ _ _ _ _ _ _ _ _ _ _ _ _ _ _ _ _ _ _ _ _ _ _ _ _ _ _ _ _ _ _ _ _ _ _ _ _ _ _ _ _ _ _ _ _ _ _ _ _ _ _ _ _ _ _ _ _ _ _ _ _ _ _ _ _ _ _ _ _ _ _ _ _ _ _ _ _ _ _ _ _ _ _ _ _ _ _ _ _ _ _ _ _ _ _ _ _ _ _ _ _ _ _ _ _ _ _ _ _ _ _ _ _ _ _ _ _ _ _ _ _ _ _ _ _ _ _ _ _ _ _ _ _ _ _ _ _ _ _ _ _ _ _ _ _ _ _ _ _ _ (H8.out.set1 (z / 4096 * 4096 - 1)) HF.1 (fun e => by unfold nilR at e; injection e; omega) HF.2
                · have CP := Lib.hid (H7.out.push_c HT.out (a / 4096 * 4096 + 4095 + 1) z)
                  go_wp2_with fail
                  refine CP.out.mono ?_
                  rintro e w8 ⟨v8, rfl, h8⟩
                  have H8 := Lib.hid h8
                  have r0' := H8.out.r.cell 0
                  have r1' := H8.out.r.cell 1
                  have f1' := H8.out.r.frozen 1
                  simp only [List.getElem?_cons_zero, List.getElem?_cons_succ] at r0' r1'
                  clear h8 r0 r1 f0 f1
                  go_wp2
                  have HF := inv_cut H.out.2.1 H.out.2.2 (a / 4096 * 4096 + 4095) (by omega) (by omega) (rx.pieces_cut ha0 haz (by have := SP.out; omega) (cut_lo2 (by omega) HC.out HW.out (by omega) (by omega)))
                  exact hI.out _ _ _ _ _ _ _ _ _ _ _ _ _ _ _ _ _ _ _ _ _ _ _ _ _ _ _ _ _ _ _ _ _ _ _ _ _ _ _ _ _ _ _ _ _ _ _ _ _ _ _ _ _ _ _ _ _ _ _ _ _ _ _ _ _ _ _ _ _ _ _ _ _ _ _ _ _ _ _ _ _ _ _ _ _ _ _ _ _ _ _ _ _ _ _ _ _ _ _ _ _ _ _ _ _ _ _ _ _ _ _ _ _ _ _ _ _ _ _ _ _ _ _ _ _ _ _ _ _ _ _ _ _ _ _ _ _ _ _ _ _ _ _ _ _ _ _ _ _ _ _ _ _ _ _ _ _ _ _ _ _ _ _ _ _ _ _ _ _ _ _ _ _ _ _ _ _ (H8.out.set1 (a / 4096 * 4096 + 4095)) HF.1 (fun e => by unfold nilR at e; injection e; omega) HF.2
            · have x0 : (if IntKind.i32.signed = true then (-1 : Int) else IntKind.i32.max) = -1 := rfl
              have x1 : bits .xor .i32 (-1) 262143 = -262144 := by decide
              have x2 : bits .xor .i32 (if IntKind.i32.signed = true then -1 else IntKind.i32.max) 262143 = -262144 := by decide
              have e1 := i32_hi18 a ha0 ha1
              have e2 := i32_hi18 z hz0 hz1
              have e3 := i32_lo18 a ha0 ha1
              have e4 := i32_lo18 z hz0 hz1
              have e5 := i32_or18 a ha0 ha1
              by_cases q1 : a / 262144 * 262144 = z / 262144 * 262144
              · go_wp2
                go_roundg (gk - 1)
                case measure => omega
                case rel => exact ⟨4, by omega, by omega, by go_num, rfl, Lib.hid fun j h1 h2 => by
                  by_cases hj : j = 3
                  · subst hj
                    show whole 262144 a z
                    unfold whole
                    omega
                  · exact HW.out j h1 (by omega), rfl⟩
              · by_cases q2 : a % 262144 = 0
                · by_cases q3 : z % 262144 = 262143
                  · go_wp2
                    go_roundg (gk - 1)
                    case measure => omega
                    case rel => exact ⟨4, by omega, by omega, by go_num, rfl, Lib.hid fun j h1 h2 => by
                      by_cases hj : j = 3
                      · subst hj
                        show whole 262144 a z
                        unfold whole
                        omega
                      · exact HW.out j h1 (by omega), rfl⟩
                  · have CP := Lib.hid (H7.out.push_c HT.out (z / 262144 * 262144) z)
                    go_wp2_with fail
                    refine CP.out.mono ?_
                    rintro e w8 ⟨v8, rfl, h8⟩
                    have H8 := Lib.hid h8
                    have r0' := H8.out.r.cell 0
                    have r1' := H8.out.r.cell 1
                    have f1' := H8.out.r.frozen 1
                    simp only [List.getElem?_cons_zero, List.getElem?_cons_succ] at r0' r1'
                    clear h8 r0 r1 f0 f1
                    go_wp2
                    have HF := inv_cut H.out.2.1 H.out.2.2 (z / 262144 * 262144 - 1) (by omega) (by omega) (rx.pieces_cut ha0 haz (by have := SP.out; omega) (cut_hi3 (by omega) HC.out HW.out (by omega) (by omega) (by omega)))
                    rw [show z / 262144 * 262144 - 1 + 1 = z / 262144 * 262144 by omega] at HF
                    exact hI.out _ _ _ _ _ _ _ _ _ _ _ _ _ _ _ _ _ _ _ _ _ _ _ _ _ _ _ _ _ _ _ _ _ _ _ _ _ _ _ _ _ _ _ _ _ _ _ _ _ _ _ _ _ _ _ _ _ _ _ _ _ _ _ _ _ _ _ _ _ _ _ _ _ _ _ _ _ _ _ _ _ _ _ _ _ _ _ _ _ _ _ _ _ _ _ _ _ _ _ _ _ _ _ _ _ _ _ _ _ _ _ _ _ _ _ _ _ _ _ _ _ _ _ _ _ _ _ _ _ _ _ _ _ _ _ _ _ _ _ _ _ _ _ _ _ _ _ _ _ _ _ _ _ _ _ _ _ _ _ _ _ _ _ _ _ _ _ _ _ _ _ _ _ _ _ _ _ (H8.out.set1 (z / 262144 * 262144 - 1)) HF.1 (fun e => by unfold nilR at e; injection e; omega) HF.2
                · have CP := Lib.hid (H7.out.push_c HT.out (a / 262144 * 262144 + 262143 + 1) z)
                  go_wp2_with fail
                  refine CP.out.mono ?_
                  rintro e w8 ⟨v8, rfl, h8⟩
                  have H8 := Lib.hid h8
                  have r0' := H8.out.r.cell 0
                  have r1' := H8.out.r.cell 1
                  have f1' := H8.out.r.frozen 1
                  simp only [List.getElem?_cons_zero, List.getElem?_cons_succ] at r0' r1'
                  clear h8 r0 r1 f0 f1
                  go_wp2
                  have HF := inv_cut H.out.2.1 H.out.2.2 (a / 262144 * 262144 + 262143) (by omega) (by omega) (rx.pieces_cut ha0 haz (by have := SP.out; omega) (cut_lo3 (by omega) HC.out HW.out (by omega) (by omega)))
                  exact hI.out _ _ _ _ _ _ _ _ _ _ _ _ _ _ _ _ _ _ _ _ _ _ _ _ _ _ _ _ _ _ _ _ _ _ _ _ _ _ _ _ _ _ _ _ _ _ _ _ _ _ _ _ _ _ _ _ _ _ _ _ _ _ _ _ _ _ _ _ _ _ _ _ _ _ _ _ _ _ _ _ _ _ _ _ _ _ _ _ _ _ _ _ _ _ _ _ _ _ _ _ _ _ _ _ _ _ _ _ _ _ _ _ _ _ _ _ _ _ _ _ _ _ _ _ _ _ _ _ _ _ _ _ _ _ _ _ _ _ _ _ _ _ _ _ _ _ _ _ _ _ _ _ _ _ _ _ _ _ _ _ _ _ _ _ _ _ _ _ _ _ _ _ _ _ _ _ _ (H8.out.set1 (a / 262144 * 262144 + 262143)) HF.1 (fun e => by unfold nilR at e; injection e; omega) HF.2
          · obtain rfl : i = 4 := by omega
            obtain ⟨hcov, hlen, hl2, hl4⟩ := seq_covers a z ha0 haz hz1 SP.out HC.out (by omega) HW.out
            have hzl : ((ub a).zip (ub z)).length = (ub a).length := by rw [List.length_zip]; omega
            obtain ⟨a2, z2, T2, hi2, hmu2, hpop2⟩ := pop_steps2 (B := B) (O := O) (w0 := w) (R := R) (p := p) (q := q) (a := a) (z := z) (inv_add H.out.2.1 H.out.2.2 ((ub a).zip (ub z)) (by omega) (rx.pieces_one ha0 haz (by have := SP.out; omega) (cut_no2 (by omega) HC.out HW.out)) (if_neg (by simp only; omega)))
            obtain ⟨x0, x1, x2, x3, hfp⟩ := H7.out.fp
            obtain ⟨y0, y1, y2, y3, hfq⟩ := H7.out.fq
            have CE := Lib.hid (senc_any R p q 4 4 x0 x1 x2 x3 y0 y1 y2 y3 a z w7 (isL_of ha0 ha1 (by have := SP.out; omega)) (isL_of hz0 hz1 (by have := SP.out; omega)) r0 r1 hfp hfq (fun e => H7.out.fp.ne_blk H7.out.r (by decide) e.symm) H7.out.pq)
            have HCV := Lib.hid hlen
            clear hcov r0 r1 f0 f1 hfp hfq
            go_wp2_with fail
            refine CE.out.mono ?_
            rintro e w8 ⟨rfl, ⟨ra, hra, hA⟩, ⟨rb, hrb, hB⟩, w8', hg1, hg2⟩
            have H8 := Lib.hid (H7.out.fill2 hg1 hg2 (Four.of hA (by simp; omega)) (Four.of hB (by simp; omega)))
            have HA := Lib.hid (sl_pre (hA.sl hA.lt))
            have HB := Lib.hid (sl_pre (hB.sl hB.lt))
            have CF := Lib.hid (fun (W : World) (hW : Below w8.heap.size w8 W) => hzl ▸ sfer_eq (some ⟨p, 0, none⟩) (some ⟨q, 0, none⟩) (ub a) (ub z) 4 4 w8.heap.size W hlen hl2 hl4 (HA.out.below hW) (HB.out.below hW))
            have HZL := Lib.hid hzl
            have k1 : ((ub a).length : Int) ≤ 4 := by omega
            have k2 : ((ub z).length : Int) ≤ 4 := by omega
            clear hA hB hg1 hg2 hra hrb CE hlen hl2 hl4 hzl H7
            go_wp2
            go_region_held3 (fun _ => True) (trivial)
              (first | (go_at_call 92; refine (CF.out _ (Below.refl _ _).drew).mono ?_; rintro e w9 ⟨cp9, rfl, hb9, hw9⟩))
            have H9 := Lib.hid (H8.out.below (show Below w8.heap.size w8 w9 from (Below.refl _ _).drew.trans hw9))
            have HB9 := Lib.hid (show Blk w9 w8.heap.size 192 (prvs ((ub a).zip (ub z))) from hb9)
            have HLn := Lib.hid (show (List.map (fun x : Sq => x.2.2) L).length = L.length by simp)
            have HSV := Lib.hid (show seqv (w8.heap.size, cp9, (ub a).zip (ub z)) = .slice (some ⟨w8.heap.size, 0, none⟩) (ub a).length cp9 by unfold seqv; simp only [HZL.out])
            clear hb9 hw9 H8 CF HA HB k1 k2
            go_wp2_with (at_builtin; refine append1_at w9 #[.slice (some ⟨w8.heap.size, 0, none⟩) (ub a).length cp9] rfl (.tmp 209) (.tmp 211) 124 rfl B 159 i0 _ 1 24 Tryd.underlying124 hi0 hiz his hib rfl (by omega) rfl s15 L.length (L.map seqv) rfl H9.out.orv w9.heap.size rfl rfl (by simp [Value.oneCell']) (by have := HL.out; have := HLn.out; unfold maxLen; omega) (by have := HL.out; have := HLn.out; omega) H9.out.size ?_; intro v10 w10 hown10 hg10 _ hat10)
            have H10 := Lib.hid (H9.out.app (x := (w8.heap.size, cp9, (ub a).zip (ub z))) HB9.out (by rw [HSV.out]; exact hown10) hg10 hat10)
            clear hown10 hg10 hat10 H9 HB9
            refine (hpop2.out _ _ _ _ H10.out).mono ?_
            rintro e w11 ⟨v11, rfl, h11⟩
            have H11 := Lib.hid h11
            have r0 := H11.out.r.cell 0
            have r1 := H11.out.r.cell 1
            have f0 := H11.out.r.frozen 0
            have f1 := H11.out.r.frozen 1
            simp only [List.getElem?_cons_zero, List.getElem?_cons_succ] at r0 r1
            clear h11 hpop2
            go_wp2
            exact hT.out _ _ _ _ _ _ _ _ _ _ _ _ _ _ _ _ _ _ _ _ _ _ _ _ _ _ _ _ _ _ _ _ _ _ _ _ _ _ _ _ _ _ _ _ _ _ _ _ _ _ _ _ _ _ _ _ _ _ _ _ _ _ _ _ _ _ _ _ _ _ _ _ _ _ _ _ _ _ _ _ _ _ _ _ _ _ _ _ _ _ _ _ _ _ _ _ _ _ _ _ _ _ _ _ _ _ _ _ _ _ _ _ _ _ _ _ _ _ _ _ _ _ _ _ _ _ _ _ _ _ _ _ _ _ _ _ _ _ _ _ _ _ _ _ _ _ _ _ _ _ _ _ _ _ _ _ _ _ _ _ _ _ _ _ _ _ _ _ _ _ _ _ _ _ _ _ _ ((H11.out.set0 a2).set1 z2) (by simpa using hi2.out) (by rw [hmu2.out]; exact mu_pop H.out.2.1 H.out.2.2)

end Go.Proofs.YtbkpgfccghombaaDoor
