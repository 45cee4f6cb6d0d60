/-
  The sequences of ranges of bytes: one round of the inner loop of NewSequencesPrealloc: the range that is split, the range that is empty. Conditions: as stated.
-/
import Derived.Test.YtobcgeonobgjpaaDoorSeqSt
import Derived.Handy
namespace Go.Proofs.YtobcgeonobgjpaaDoor
open Go.ChangeShapes Go.WideShapes Go.ChangeAt Go.RowKit
set_option linter.unusedVariables false

def firstLoop : Code → Option Code
  | .loop c => some c
  | .seq a b => match firstLoop a with
    | some c => some c
    | none => firstLoop b
  | .block _ c => firstLoop c
  | .scope c => firstLoop c
  | .cond _ a b => match firstLoop a with
    | some c => some c
    | none => firstLoop b
  | _ => none
noncomputable def innerBody : Code := (((Tryd.f16.body.bind firstLoop).bind firstLoop).getD .skip)

/-- what the stack's top is, and what the loop goes on with -/
theorem pop_steps {B : Nat} {w0 wo : World} {R p q : Nat} {a z fr up : Int} {rv sk : Value} {L : List Sq} {T : List (Int × Int)} (h : St B w0 wo R p q a z rv L sk T) (hc : InvP fr up (L.map (·.2.2)) T) :
    ∃ (a2 z2 : Int) (T2 : List (Int × Int)), Hid (Inv fr up (L.map (·.2.2)) T2 (a2, z2)) ∧ Hid (mu (a2, z2) T2 = wgtAll T) ∧
      Hid (∀ W, St B w0 W R p q a z rv L sk T → Calls Tryd.prog 18 #[sk] W fun e w' => ∃ sk2, e = .returned (.tuple #[sk2, .agg #[.int .i32 a2, .int .i32 z2]]) ∧ St B w0 w' R p q a z rv L sk2 T2) := by
  rcases List.eq_nil_or_concat T with rfl | ⟨T', ⟨a2, z2⟩, rfl⟩
  · obtain ⟨h1, h2⟩ := inv_pop0 hc
    refine ⟨65535, 0, [], Lib.hid h1, Lib.hid h2, Lib.hid fun W hW => (pop_none sk B W hW.nils hW.osk).mono ?_⟩
    rintro e w' ⟨rfl, hb⟩
    exact ⟨sk, rfl, hW.below hb⟩
  · rw [List.concat_eq_append] at *
    obtain ⟨h1, h2⟩ := inv_pop hc
    have hl := hc.tlen
    refine ⟨a2, z2, T', Lib.hid h1, Lib.hid h2, Lib.hid fun W hW => (pop_some sk T' a2 z2 B W (by simp at hl; omega) hW.osk).mono ?_⟩
    rintro e w' ⟨v', rfl, he, ho, hb⟩
    exact ⟨v', rfl, (hW.pop ho he).below hb⟩

set_option maxRecDepth 1000000 in
set_option maxHeartbeats 6400000 in
theorem round_split (c0 c1 c2 c3 c4 c5 c6 c7 c8 c9 c10 c11 c31 c32 c33 c34 c35 c36 c37 c38 c39 c40 c41 c42 c43 c44 c45 c46 c47 c48 c49 c50 c51 c52 c53 c54 c55 c56 c57 c58 c59 c60 c61 c218 c219 u12 u13 u14 u20 u21 u22 u23 u24 u25 u26 u27 u28 u29 u30 u62 u63 u64 u65 u66 u67 u68 u69 u70 u71 u72 u73 u74 u75 u76 u77 u78 u79 u80 u81 u82 u83 u84 u85 u86 u87 u88 u89 u90 u91 u92 u93 u94 u95 u96 u97 u98 u99 u100 u101 u102 u103 u104 u105 u106 u107 u108 u109 u110 u111 u112 u113 u114 u115 u116 u117 u118 u119 u120 u121 u122 u123 u124 u125 u126 u127 u128 u129 u130 u131 u132 u133 u134 u135 u136 u137 u138 u139 u140 u141 u142 u143 u144 u145 u146 u147 u148 u149 u150 u151 u152 u153 u154 u155 u156 u157 u158 u159 u160 u161 u162 u163 u164 u165 u166 u167 u168 u169 u170 u171 u172 u173 u174 u175 u176 u177 u178 u179 u180 u181 u182 u183 u184 u185 u186 u187 u188 u189 u190 u191 u192 u193 u194 u195 u196 u197 u198 u199 u200 u201 u202 u203 u204 u205 u206 u207 u208 u209 u210 u211 u212 u213 u214 u215 u216 u217 s15 s18 : Value) (w wo : World) (R p q : Nat) (fr up a z : Int) (L : List Sq) (T : List (Int × Int)) (Q : Exit → Act → World → Prop)
    (H : Hid (St w.heap.size w wo R p q a z s15 L s18 T ∧ Inv fr up (L.map (·.2.2)) T (a, z) ∧ (a, z) ≠ nilR))(sp1 : a < 57344) (sp2 : 55295 < z)
    (hI : Hid (∀ (d12 d13 d14 d20 d21 d22 d23 d24 d25 d26 d27 d28 d29 d30 d62 d63 d64 d65 d66 d67 d68 d69 d70 d71 d72 d73 d74 d75 d76 d77 d78 d79 d80 d81 d82 d83 d84 d85 d86 d87 d88 d89 d90 d91 d92 d93 d94 d95 d96 d97 d98 d99 d100 d101 d102 d103 d104 d105 d106 d107 d108 d109 d110 d111 d112 d113 d114 d115 d116 d117 d118 d119 d120 d121 d122 d123 d124 d125 d126 d127 d128 d129 d130 d131 d132 d133 d134 d135 d136 d137 d138 d139 d140 d141 d142 d143 d144 d145 d146 d147 d148 d149 d150 d151 d152 d153 d154 d155 d156 d157 d158 d159 d160 d161 d162 d163 d164 d165 d166 d167 d168 d169 d170 d171 d172 d173 d174 d175 d176 d177 d178 d179 d180 d181 d182 d183 d184 d185 d186 d187 d188 d189 d190 d191 d192 d193 d194 d195 d196 d197 d198 d199 d200 d201 d202 d203 d204 d205 d206 d207 d208 d209 d210 d211 d212 d213 d214 d215 d216 d217 t15 t18 : Value) (w2 : World) (a2 z2 : Int) (L2 : List Sq) (T2 : List (Int × Int)), St w.heap.size w w2 R p q a2 z2 t15 L2 t18 T2 → Inv fr up (L2.map (·.2.2)) T2 (a2, z2) → (a2, z2) ≠ nilR → mu (a2, z2) T2 < mu (a, z) T → Q .normal ⟨#[c0, c1, c2, c3, c4, c5, c6, c7, c8, c9, c10, c11, d12, d13, d14, t15, .slice (some ⟨p, 0, none⟩) 4 4, .slice (some ⟨q, 0, none⟩) 4 4, t18, .pointer (some ⟨R, 0, none⟩), d20, d21, d22, d23, d24, d25, d26, d27, d28, d29, d30, c31, c32, c33, c34, c35, c36, c37, c38, c39, c40, c41, c42, c43, c44, c45, c46, c47, c48, c49, c50, c51, c52, c53, c54, c55, c56, c57, c58, c59, c60, c61, d62, d63, d64, d65, d66, d67, d68, d69, d70, d71, d72, d73, d74, d75, d76, d77, d78, d79, d80, d81, d82, d83, d84, d85, d86, d87, d88, d89, d90, d91, d92, d93, d94, d95, d96, d97, d98, d99, d100, d101, d102, d103, d104, d105, d106, d107, d108, d109, d110, d111, d112, d113, d114, d115, d116, d117, d118, d119, d120, d121, d122, d123, d124, d125, d126, d127, d128, d129, d130, d131, d132, d133, d134, d135, d136, d137, d138, d139, d140, d141, d142, d143, d144, d145, d146, d147, d148, d149, d150, d151, d152, d153, d154, d155, d156, d157, d158, d159, d160, d161, d162, d163, d164, d165, d166, d167, d168, d169, d170, d171, d172, d173, d174, d175, d176, d177, d178, d179, d180, d181, d182, d183, d184, d185, d186, d187, d188, d189, d190, d191, d192, d193, d194, d195, d196, d197, d198, d199, d200, d201, d202, d203, d204, d205, d206, d207, d208, d209, d210, d211, d212, d213, d214, d215, d216, d217, c218, c219], []⟩ w2))
    (hT : Hid (∀ (d12 d13 d14 d20 d21 d22 d23 d24 d25 d26 d27 d28 d29 d30 d62 d63 d64 d65 d66 d67 d68 d69 d70 d71 d72 d73 d74 d75 d76 d77 d78 d79 d80 d81 d82 d83 d84 d85 d86 d87 d88 d89 d90 d91 d92 d93 d94 d95 d96 d97 d98 d99 d100 d101 d102 d103 d104 d105 d106 d107 d108 d109 d110 d111 d112 d113 d114 d115 d116 d117 d118 d119 d120 d121 d122 d123 d124 d125 d126 d127 d128 d129 d130 d131 d132 d133 d134 d135 d136 d137 d138 d139 d140 d141 d142 d143 d144 d145 d146 d147 d148 d149 d150 d151 d152 d153 d154 d155 d156 d157 d158 d159 d160 d161 d162 d163 d164 d165 d166 d167 d168 d169 d170 d171 d172 d173 d174 d175 d176 d177 d178 d179 d180 d181 d182 d183 d184 d185 d186 d187 d188 d189 d190 d191 d192 d193 d194 d195 d196 d197 d198 d199 d200 d201 d202 d203 d204 d205 d206 d207 d208 d209 d210 d211 d212 d213 d214 d215 d216 d217 t15 t18 : Value) (w2 : World) (a2 z2 : Int) (L2 : List Sq) (T2 : List (Int × Int)), St w.heap.size w w2 R p q a2 z2 t15 L2 t18 T2 → Inv fr up (L2.map (·.2.2)) T2 (a2, z2) → mu (a2, z2) T2 < mu (a, z) T → Q (.exit 1) ⟨#[c0, c1, c2, c3, c4, c5, c6, c7, c8, c9, c10, c11, d12, d13, d14, t15, .slice (some ⟨p, 0, none⟩) 4 4, .slice (some ⟨q, 0, none⟩) 4 4, t18, .pointer (some ⟨R, 0, none⟩), d20, d21, d22, d23, d24, d25, d26, d27, d28, d29, d30, c31, c32, c33, c34, c35, c36, c37, c38, c39, c40, c41, c42, c43, c44, c45, c46, c47, c48, c49, c50, c51, c52, c53, c54, c55, c56, c57, c58, c59, c60, c61, d62, d63, d64, d65, d66, d67, d68, d69, d70, d71, d72, d73, d74, d75, d76, d77, d78, d79, d80, d81, d82, d83, d84, d85, d86, d87, d88, d89, d90, d91, d92, d93, d94, d95, d96, d97, d98, d99, d100, d101, d102, d103, d104, d105, d106, d107, d108, d109, d110, d111, d112, d113, d114, d115, d116, d117, d118, d119, d120, d121, d122, d123, d124, d125, d126, d127, d128, d129, d130, d131, d132, d133, d134, d135, d136, d137, d138, d139, d140, d141, d142, d143, d144, d145, d146, d147, d148, d149, d150, d151, d152, d153, d154, d155, d156, d157, d158, d159, d160, d161, d162, d163, d164, d165, d166, d167, d168, d169, d170, d171, d172, d173, d174, d175, d176, d177, d178, d179, d180, d181, d182, d183, d184, d185, d186, d187, d188, d189, d190, d191, d192, d193, d194, d195, d196, d197, d198, d199, d200, d201, d202, d203, d204, d205, d206, d207, d208, d209, d210, d211, d212, d213, d214, d215, d216, d217, c218, c219], []⟩ w2)) :
    Code.wp Tryd.prog innerBody Q ⟨#[c0, c1, c2, c3, c4, c5, c6, c7, c8, c9, c10, c11, u12, u13, u14, s15, .slice (some ⟨p, 0, none⟩) 4 4, .slice (some ⟨q, 0, none⟩) 4 4, s18, .pointer (some ⟨R, 0, none⟩), u20, u21, u22, u23, u24, u25, u26, u27, u28, u29, u30, c31, c32, c33, c34, c35, c36, c37, c38, c39, c40, c41, c42, c43, c44, c45, c46, c47, c48, c49, c50, c51, c52, c53, c54, c55, c56, c57, c58, c59, c60, c61, u62, u63, u64, u65, u66, u67, u68, u69, u70, u71, u72, u73, u74, u75, u76, u77, u78, u79, u80, u81, u82, u83, u84, u85, u86, u87, u88, u89, u90, u91, u92, u93, u94, u95, u96, u97, u98, u99, u100, u101, u102, u103, u104, u105, u106, u107, u108, u109, u110, u111, u112, u113, u114, u115, u116, u117, u118, u119, u120, u121, u122, u123, u124, u125, u126, u127, u128, u129, u130, u131, u132, u133, u134, u135, u136, u137, u138, u139, u140, u141, u142, u143, u144, u145, u146, u147, u148, u149, u150, u151, u152, u153, u154, u155, u156, u157, u158, u159, u160, u161, u162, u163, u164, u165, u166, u167, u168, u169, u170, u171, u172, u173, u174, u175, u176, u177, u178, u179, u180, u181, u182, u183, u184, u185, u186, u187, u188, u189, u190, u191, u192, u193, u194, u195, u196, u197, u198, u199, u200, u201, u202, u203, u204, u205, u206, u207, u208, u209, u210, u211, u212, u213, u214, u215, u216, u217, c218, c219], []⟩ wo := by
  have HK := Lib.hid (H.out.2.1.ok H.out.2.2)
  have r0 := H.out.1.r.cell 0
  have r1 := H.out.1.r.cell 1
  simp only [List.getElem?_cons_zero, List.getElem?_cons_succ] at r0 r1

  have CS := Lib.hid (split_yes R a z wo r0 r1 sp1 sp2)
  clear r0 r1
  conv => arg 2; whnf
  go_wp2_with fail
  refine CS.out.mono ?_
  rintro e w3 ⟨rfl, hb3⟩
  have H3 := Lib.hid (H.out.1.below hb3)
  have n0 := al2 H3.out.nils.s0
  have n1 := al2 H3.out.nils.s1
  have C := Lib.hid (fun (W : World) (hb : Below w3.heap.size w3 W) => push_any s18 T 57344 z w.heap.size W ((H3.out.below hb).size) (by have := H.out.2.1.cv.tlen; omega) (H3.out.below hb).osk)
  clear CS hb3
  go_wp2_with fail
  have hb5 : Below w3.heap.size w3 ((w3.alloc (.cells #[.int .i32 a, .int .i32 55295] 56)).alloc (.cells #[.int .i32 57344, .int .i32 z] 56)) := ((Below.refl w3.heap.size w3).alloc (Nat.le_refl _) _).alloc (by simp) _
  refine (C.out _ hb5).mono ?_
  rintro e w4 ⟨v4, rfl, ho4, hg4, hat4⟩
  have H4 := Lib.hid ((H3.out.below hb5).push ho4 hg4 hat4)
  have hb5s : w3.heap.size ≠ R := by have := H3.out.r.lt; omega
  have hB4 : Blk w4 w3.heap.size 56 [.int .i32 a, .int .i32 55295] := (show Blk _ _ _ _ from ((Blk.new w3 56 [.int .i32 a, .int .i32 55295]).alloc _)).grown hg4 (fun e => by have := (World.ownsRow.lt H3.out.osk _ e.symm).2; omega)
  have c0 := hB4.cell 0
  have c1 := hB4.cell 1
  have r0 := H4.out.r.cell 0
  have r1 := H4.out.r.cell 1
  have f0 := H4.out.r.frozen 0
  have f1 := H4.out.r.frozen 1
  simp only [List.getElem?_cons_zero, List.getElem?_cons_succ] at c0 c1 r0 r1
  clear ho4 hg4 hat4 hB4 n0 n1 C hb5
  go_wp2
  have HF := inv_split H.out.2.1 H.out.2.2 sp1 sp2
  exact hI.out _ _ _ _ _ _ _ _ _ _ _ _ _ _ _ _ _ _ _ _ _ _ _ _ _ _ _ _ _ _ _ _ _ _ _ _ _ _ _ _ _ _ _ _ _ _ _ _ _ _ _ _ _ _ _ _ _ _ _ _ _ _ _ _ _ _ _ _ _ _ _ _ _ _ _ _ _ _ _ _ _ _ _ _ _ _ _ _ _ _ _ _ _ _ _ _ _ _ _ _ _ _ _ _ _ _ _ _ _ _ _ _ _ _ _ _ _ _ _ _ _ _ _ _ _ _ _ _ _ _ _ _ _ _ _ _ _ _ _ _ _ _ _ _ _ _ _ _ _ _ _ _ _ _ _ _ _ _ _ _ _ _ _ _ _ _ _ _ _ _ _ _ _ _ _ _ _ ((H4.out.set0 a).set1 55295) HF.1 (fun e => by unfold nilR at e; injection e; omega) HF.2

set_option maxRecDepth 1000000 in
set_option maxHeartbeats 6400000 in
theorem round_empty (c0 c1 c2 c3 c4 c5 c6 c7 c8 c9 c10 c11 c31 c32 c33 c34 c35 c36 c37 c38 c39 c40 c41 c42 c43 c44 c45 c46 c47 c48 c49 c50 c51 c52 c53 c54 c55 c56 c57 c58 c59 c60 c61 c218 c219 u12 u13 u14 u20 u21 u22 u23 u24 u25 u26 u27 u28 u29 u30 u62 u63 u64 u65 u66 u67 u68 u69 u70 u71 u72 u73 u74 u75 u76 u77 u78 u79 u80 u81 u82 u83 u84 u85 u86 u87 u88 u89 u90 u91 u92 u93 u94 u95 u96 u97 u98 u99 u100 u101 u102 u103 u104 u105 u106 u107 u108 u109 u110 u111 u112 u113 u114 u115 u116 u117 u118 u119 u120 u121 u122 u123 u124 u125 u126 u127 u128 u129 u130 u131 u132 u133 u134 u135 u136 u137 u138 u139 u140 u141 u142 u143 u144 u145 u146 u147 u148 u149 u150 u151 u152 u153 u154 u155 u156 u157 u158 u159 u160 u161 u162 u163 u164 u165 u166 u167 u168 u169 u170 u171 u172 u173 u174 u175 u176 u177 u178 u179 u180 u181 u182 u183 u184 u185 u186 u187 u188 u189 u190 u191 u192 u193 u194 u195 u196 u197 u198 u199 u200 u201 u202 u203 u204 u205 u206 u207 u208 u209 u210 u211 u212 u213 u214 u215 u216 u217 s15 s18 : Value) (w wo : World) (R p q : Nat) (fr up a z : Int) (L : List Sq) (T : List (Int × Int)) (Q : Exit → Act → World → Prop)
    (H : Hid (St w.heap.size w wo R p q a z s15 L s18 T ∧ Inv fr up (L.map (·.2.2)) T (a, z) ∧ (a, z) ≠ nilR))(sp : 57344 ≤ a ∨ z ≤ 55295) (hza : z < a)
    (hI : Hid (∀ (d12 d13 d14 d20 d21 d22 d23 d24 d25 d26 d27 d28 d29 d30 d62 d63 d64 d65 d66 d67 d68 d69 d70 d71 d72 d73 d74 d75 d76 d77 d78 d79 d80 d81 d82 d83 d84 d85 d86 d87 d88 d89 d90 d91 d92 d93 d94 d95 d96 d97 d98 d99 d100 d101 d102 d103 d104 d105 d106 d107 d108 d109 d110 d111 d112 d113 d114 d115 d116 d117 d118 d119 d120 d121 d122 d123 d124 d125 d126 d127 d128 d129 d130 d131 d132 d133 d134 d135 d136 d137 d138 d139 d140 d141 d142 d143 d144 d145 d146 d147 d148 d149 d150 d151 d152 d153 d154 d155 d156 d157 d158 d159 d160 d161 d162 d163 d164 d165 d166 d167 d168 d169 d170 d171 d172 d173 d174 d175 d176 d177 d178 d179 d180 d181 d182 d183 d184 d185 d186 d187 d188 d189 d190 d191 d192 d193 d194 d195 d196 d197 d198 d199 d200 d201 d202 d203 d204 d205 d206 d207 d208 d209 d210 d211 d212 d213 d214 d215 d216 d217 t15 t18 : Value) (w2 : World) (a2 z2 : Int) (L2 : List Sq) (T2 : List (Int × Int)), St w.heap.size w w2 R p q a2 z2 t15 L2 t18 T2 → Inv fr up (L2.map (·.2.2)) T2 (a2, z2) → (a2, z2) ≠ nilR → mu (a2, z2) T2 < mu (a, z) T → Q .normal ⟨#[c0, c1, c2, c3, c4, c5, c6, c7, c8, c9, c10, c11, d12, d13, d14, t15, .slice (some ⟨p, 0, none⟩) 4 4, .slice (some ⟨q, 0, none⟩) 4 4, t18, .pointer (some ⟨R, 0, none⟩), d20, d21, d22, d23, d24, d25, d26, d27, d28, d29, d30, c31, c32, c33, c34, c35, c36, c37, c38, c39, c40, c41, c42, c43, c44, c45, c46, c47, c48, c49, c50, c51, c52, c53, c54, c55, c56, c57, c58, c59, c60, c61, d62, d63, d64, d65, d66, d67, d68, d69, d70, d71, d72, d73, d74, d75, d76, d77, d78, d79, d80, d81, d82, d83, d84, d85, d86, d87, d88, d89, d90, d91, d92, d93, d94, d95, d96, d97, d98, d99, d100, d101, d102, d103, d104, d105, d106, d107, d108, d109, d110, d111, d112, d113, d114, d115, d116, d117, d118, d119, d120, d121, d122, d123, d124, d125, d126, d127, d128, d129, d130, d131, d132, d133, d134, d135, d136, d137, d138, d139, d140, d141, d142, d143, d144, d145, d146, d147, d148, d149, d150, d151, d152, d153, d154, d155, d156, d157, d158, d159, d160, d161, d162, d163, d164, d165, d166, d167, d168, d169, d170, d171, d172, d173, d174, d175, d176, d177, d178, d179, d180, d181, d182, d183, d184, d185, d186, d187, d188, d189, d190, d191, d192, d193, d194, d195, d196, d197, d198, d199, d200, d201, d202, d203, d204, d205, d206, d207, d208, d209, d210, d211, d212, d213, d214, d215, d216, d217, c218, c219], []⟩ w2))
    (hT : Hid (∀ (d12 d13 d14 d20 d21 d22 d23 d24 d25 d26 d27 d28 d29 d30 d62 d63 d64 d65 d66 d67 d68 d69 d70 d71 d72 d73 d74 d75 d76 d77 d78 d79 d80 d81 d82 d83 d84 d85 d86 d87 d88 d89 d90 d91 d92 d93 d94 d95 d96 d97 d98 d99 d100 d101 d102 d103 d104 d105 d106 d107 d108 d109 d110 d111 d112 d113 d114 d115 d116 d117 d118 d119 d120 d121 d122 d123 d124 d125 d126 d127 d128 d129 d130 d131 d132 d133 d134 d135 d136 d137 d138 d139 d140 d141 d142 d143 d144 d145 d146 d147 d148 d149 d150 d151 d152 d153 d154 d155 d156 d157 d158 d159 d160 d161 d162 d163 d164 d165 d166 d167 d168 d169 d170 d171 d172 d173 d174 d175 d176 d177 d178 d179 d180 d181 d182 d183 d184 d185 d186 d187 d188 d189 d190 d191 d192 d193 d194 d195 d196 d197 d198 d199 d200 d201 d202 d203 d204 d205 d206 d207 d208 d209 d210 d211 d212 d213 d214 d215 d216 d217 t15 t18 : Value) (w2 : World) (a2 z2 : Int) (L2 : List Sq) (T2 : List (Int × Int)), St w.heap.size w w2 R p q a2 z2 t15 L2 t18 T2 → Inv fr up (L2.map (·.2.2)) T2 (a2, z2) → mu (a2, z2) T2 < mu (a, z) T → Q (.exit 1) ⟨#[c0, c1, c2, c3, c4, c5, c6, c7, c8, c9, c10, c11, d12, d13, d14, t15, .slice (some ⟨p, 0, none⟩) 4 4, .slice (some ⟨q, 0, none⟩) 4 4, t18, .pointer (some ⟨R, 0, none⟩), d20, d21, d22, d23, d24, d25, d26, d27, d28, d29, d30, c31, c32, c33, c34, c35, c36, c37, c38, c39, c40, c41, c42, c43, c44, c45, c46, c47, c48, c49, c50, c51, c52, c53, c54, c55, c56, c57, c58, c59, c60, c61, d62, d63, d64, d65, d66, d67, d68, d69, d70, d71, d72, d73, d74, d75, d76, d77, d78, d79, d80, d81, d82, d83, d84, d85, d86, d87, d88, d89, d90, d91, d92, d93, d94, d95, d96, d97, d98, d99, d100, d101, d102, d103, d104, d105, d106, d107, d108, d109, d110, d111, d112, d113, d114, d115, d116, d117, d118, d119, d120, d121, d122, d123, d124, d125, d126, d127, d128, d129, d130, d131, d132, d133, d134, d135, d136, d137, d138, d139, d140, d141, d142, d143, d144, d145, d146, d147, d148, d149, d150, d151, d152, d153, d154, d155, d156, d157, d158, d159, d160, d161, d162, d163, d164, d165, d166, d167, d168, d169, d170, d171, d172, d173, d174, d175, d176, d177, d178, d179, d180, d181, d182, d183, d184, d185, d186, d187, d188, d189, d190, d191, d192, d193, d194, d195, d196, d197, d198, d199, d200, d201, d202, d203, d204, d205, d206, d207, d208, d209, d210, d211, d212, d213, d214, d215, d216, d217, c218, c219], []⟩ w2)) :
    Code.wp Tryd.prog innerBody Q ⟨#[c0, c1, c2, c3, c4, c5, c6, c7, c8, c9, c10, c11, u12, u13, u14, s15, .slice (some ⟨p, 0, none⟩) 4 4, .slice (some ⟨q, 0, none⟩) 4 4, s18, .pointer (some ⟨R, 0, none⟩), u20, u21, u22, u23, u24, u25, u26, u27, u28, u29, u30, c31, c32, c33, c34, c35, c36, c37, c38, c39, c40, c41, c42, c43, c44, c45, c46, c47, c48, c49, c50, c51, c52, c53, c54, c55, c56, c57, c58, c59, c60, c61, u62, u63, u64, u65, u66, u67, u68, u69, u70, u71, u72, u73, u74, u75, u76, u77, u78, u79, u80, u81, u82, u83, u84, u85, u86, u87, u88, u89, u90, u91, u92, u93, u94, u95, u96, u97, u98, u99, u100, u101, u102, u103, u104, u105, u106, u107, u108, u109, u110, u111, u112, u113, u114, u115, u116, u117, u118, u119, u120, u121, u122, u123, u124, u125, u126, u127, u128, u129, u130, u131, u132, u133, u134, u135, u136, u137, u138, u139, u140, u141, u142, u143, u144, u145, u146, u147, u148, u149, u150, u151, u152, u153, u154, u155, u156, u157, u158, u159, u160, u161, u162, u163, u164, u165, u166, u167, u168, u169, u170, u171, u172, u173, u174, u175, u176, u177, u178, u179, u180, u181, u182, u183, u184, u185, u186, u187, u188, u189, u190, u191, u192, u193, u194, u195, u196, u197, u198, u199, u200, u201, u202, u203, u204, u205, u206, u207, u208, u209, u210, u211, u212, u213, u214, u215, u216, u217, c218, c219], []⟩ wo := by
  have HK := Lib.hid (H.out.2.1.ok H.out.2.2)
  have r0 := H.out.1.r.cell 0
  have r1 := H.out.1.r.cell 1
  simp only [List.getElem?_cons_zero, List.getElem?_cons_succ] at r0 r1

  obtain ⟨a2, z2, T2, hi2, hmu2, hpop2⟩ := pop_steps H.out.1 (inv_drop H.out.2.1 hza)
  have CS := Lib.hid (split_no R a z wo H.out.1.nils r0 r1 sp)
  have CV := Lib.hid (fun (W : World) (h : St w.heap.size w W R p q a z s15 L s18 T) => valid_any R a z W (by simpa using h.r.cell 0) (by simpa using h.r.cell 1))
  have hd : decide (a ≤ z) = false := decide_eq_false (by omega)
  clear r0 r1 sp hza
  conv => arg 2; whnf
  go_wp2_with fail
  refine CS.out.mono ?_
  rintro e w3 ⟨rfl, hb3⟩
  have H3 := Lib.hid (H.out.1.below hb3)
  have n0 := al2 H3.out.nils.s0
  have n1 := al2 H3.out.nils.s1
  clear CS hb3
  go_wp2_with fail
  have hb5 : Below w3.heap.size w3 ((w3.alloc (.cells #[.int .i32 65535, .int .i32 0] 56)).alloc (.cells #[.int .i32 65535, .int .i32 0] 56)) := ((Below.refl w3.heap.size w3).alloc (Nat.le_refl _) _).alloc (by simp) _
  have H4 := Lib.hid (H3.out.below hb5)
  clear hb5 n0 n1
  refine (CV.out _ H4.out).mono ?_
  rintro e w5 ⟨rfl, m, rfl⟩
  have H5 := Lib.hid (H4.out.below (below_drewN (Below.refl _ _) m))
  clear CV H4
  go_wp2_with fail
  refine (hpop2.out _ H5.out).mono ?_
  rintro e w6 ⟨v6, rfl, h6⟩
  have H6 := Lib.hid h6
  have r0 := H6.out.r.cell 0
  have r1 := H6.out.r.cell 1
  have f0 := H6.out.r.frozen 0
  have f1 := H6.out.r.frozen 1
  simp only [List.getElem?_cons_zero, List.getElem?_cons_succ] at r0 r1
  clear h6 H5 hpop2 hd
  go_wp2
  exact hT.out _ _ _ _ _ _ _ _ _ _ _ _ _ _ _ _ _ _ _ _ _ _ _ _ _ _ _ _ _ _ _ _ _ _ _ _ _ _ _ _ _ _ _ _ _ _ _ _ _ _ _ _ _ _ _ _ _ _ _ _ _ _ _ _ _ _ _ _ _ _ _ _ _ _ _ _ _ _ _ _ _ _ _ _ _ _ _ _ _ _ _ _ _ _ _ _ _ _ _ _ _ _ _ _ _ _ _ _ _ _ _ _ _ _ _ _ _ _ _ _ _ _ _ _ _ _ _ _ _ _ _ _ _ _ _ _ _ _ _ _ _ _ _ _ _ _ _ _ _ _ _ _ _ _ _ _ _ _ _ _ _ _ _ _ _ _ _ _ _ _ _ _ _ _ _ _ _ ((H6.out.set0 a2).set1 z2) hi2.out (by rw [hmu2.out]; exact mu_pop H.out.2.1 H.out.2.2)

end Go.Proofs.YtobcgeonobgjpaaDoor
