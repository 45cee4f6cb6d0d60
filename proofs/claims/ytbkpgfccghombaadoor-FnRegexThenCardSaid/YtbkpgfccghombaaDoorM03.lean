/-
  Parts of the proof in one text: QRC, QF, RxA, RxB, RxD, RxM, RxN, RxP. Conditions: as each states.
-/
import Derived.Test.YtbkpgfccghombaaDoorQRBZz
import Derived.Test.YtbkpgfccghombaaDoorM01
import Derived.Deep.LoopGhost
import Derived.WalkMore
import Derived.Deep.CutRange
import Derived.Deep.DeepCutAuto
import Derived.Handy
/-! The sequences of ranges of bytes: one round of the inner loop of NewSequencesPrealloc, whatever the range. Conditions: as stated. -/
namespace Go.Proofs.YtbkpgfccghombaaDoor
open Go.ChangeShapes Go.WideShapes Go.ChangeAt Go.RowKit
set_option linter.unusedVariables false

set_option maxRecDepth 1000000 in
set_option maxHeartbeats 6400000 in
theorem inner_round (c0 c1 c2 c3 c4 c5 c6 c7 c8 c9 c10 c11 c31 c32 c33 c34 c35 c36 c37 c38 c39 c40 c41 c42 c43 c44 c45 c46 c47 c48 c49 c50 c51 c52 c53 c54 c55 c56 c57 c58 c59 c60 c61 c218 c219 u12 u13 u14 u20 u21 u22 u23 u24 u25 u26 u27 u28 u29 u30 u62 u63 u64 u65 u66 u67 u68 u69 u70 u71 u72 u73 u74 u75 u76 u77 u78 u79 u80 u81 u82 u83 u84 u85 u86 u87 u88 u89 u90 u91 u92 u93 u94 u95 u96 u97 u98 u99 u100 u101 u102 u103 u104 u105 u106 u107 u108 u109 u110 u111 u112 u113 u114 u115 u116 u117 u118 u119 u120 u121 u122 u123 u124 u125 u126 u127 u128 u129 u130 u131 u132 u133 u134 u135 u136 u137 u138 u139 u140 u141 u142 u143 u144 u145 u146 u147 u148 u149 u150 u151 u152 u153 u154 u155 u156 u157 u158 u159 u160 u161 u162 u163 u164 u165 u166 u167 u168 u169 u170 u171 u172 u173 u174 u175 u176 u177 u178 u179 u180 u181 u182 u183 u184 u185 u186 u187 u188 u189 u190 u191 u192 u193 u194 u195 u196 u197 u198 u199 u200 u201 u202 u203 u204 u205 u206 u207 u208 u209 u210 u211 u212 u213 u214 u215 u216 u217 s15 s18 : Value) (B : Nat) (O : Nat → Prop) (w wo : World) (R p q : Nat) (fr up a z : Int) (L : List Sq) (T : List (Int × Int)) (Q : Exit → Act → World → Prop)
    (H : Hid (St B O w wo R p q a z s15 L s18 T ∧ Inv fr up (L.map (·.2.2)) T (a, z) ∧ (a, z) ≠ nilR))
    (hI : Hid (∀ (d12 d13 d14 d20 d21 d22 d23 d24 d25 d26 d27 d28 d29 d30 d62 d63 d64 d65 d66 d67 d68 d69 d70 d71 d72 d73 d74 d75 d76 d77 d78 d79 d80 d81 d82 d83 d84 d85 d86 d87 d88 d89 d90 d91 d92 d93 d94 d95 d96 d97 d98 d99 d100 d101 d102 d103 d104 d105 d106 d107 d108 d109 d110 d111 d112 d113 d114 d115 d116 d117 d118 d119 d120 d121 d122 d123 d124 d125 d126 d127 d128 d129 d130 d131 d132 d133 d134 d135 d136 d137 d138 d139 d140 d141 d142 d143 d144 d145 d146 d147 d148 d149 d150 d151 d152 d153 d154 d155 d156 d157 d158 d159 d160 d161 d162 d163 d164 d165 d166 d167 d168 d169 d170 d171 d172 d173 d174 d175 d176 d177 d178 d179 d180 d181 d182 d183 d184 d185 d186 d187 d188 d189 d190 d191 d192 d193 d194 d195 d196 d197 d198 d199 d200 d201 d202 d203 d204 d205 d206 d207 d208 d209 d210 d211 d212 d213 d214 d215 d216 d217 t15 t18 : Value) (w2 : World) (a2 z2 : Int) (L2 : List Sq) (T2 : List (Int × Int)), St B O w w2 R p q a2 z2 t15 L2 t18 T2 → Inv fr up (L2.map (·.2.2)) T2 (a2, z2) → (a2, z2) ≠ nilR → mu (a2, z2) T2 < mu (a, z) T → Q .normal ⟨#[c0, c1, c2, c3, c4, c5, c6, c7, c8, c9, c10, c11, d12, d13, d14, t15, .slice (some ⟨p, 0, none⟩) 4 4, .slice (some ⟨q, 0, none⟩) 4 4, t18, .pointer (some ⟨R, 0, none⟩), d20, d21, d22, d23, d24, d25, d26, d27, d28, d29, d30, c31, c32, c33, c34, c35, c36, c37, c38, c39, c40, c41, c42, c43, c44, c45, c46, c47, c48, c49, c50, c51, c52, c53, c54, c55, c56, c57, c58, c59, c60, c61, d62, d63, d64, d65, d66, d67, d68, d69, d70, d71, d72, d73, d74, d75, d76, d77, d78, d79, d80, d81, d82, d83, d84, d85, d86, d87, d88, d89, d90, d91, d92, d93, d94, d95, d96, d97, d98, d99, d100, d101, d102, d103, d104, d105, d106, d107, d108, d109, d110, d111, d112, d113, d114, d115, d116, d117, d118, d119, d120, d121, d122, d123, d124, d125, d126, d127, d128, d129, d130, d131, d132, d133, d134, d135, d136, d137, d138, d139, d140, d141, d142, d143, d144, d145, d146, d147, d148, d149, d150, d151, d152, d153, d154, d155, d156, d157, d158, d159, d160, d161, d162, d163, d164, d165, d166, d167, d168, d169, d170, d171, d172, d173, d174, d175, d176, d177, d178, d179, d180, d181, d182, d183, d184, d185, d186, d187, d188, d189, d190, d191, d192, d193, d194, d195, d196, d197, d198, d199, d200, d201, d202, d203, d204, d205, d206, d207, d208, d209, d210, d211, d212, d213, d214, d215, d216, d217, c218, c219], []⟩ w2))
    (hT : Hid (∀ (d12 d13 d14 d20 d21 d22 d23 d24 d25 d26 d27 d28 d29 d30 d62 d63 d64 d65 d66 d67 d68 d69 d70 d71 d72 d73 d74 d75 d76 d77 d78 d79 d80 d81 d82 d83 d84 d85 d86 d87 d88 d89 d90 d91 d92 d93 d94 d95 d96 d97 d98 d99 d100 d101 d102 d103 d104 d105 d106 d107 d108 d109 d110 d111 d112 d113 d114 d115 d116 d117 d118 d119 d120 d121 d122 d123 d124 d125 d126 d127 d128 d129 d130 d131 d132 d133 d134 d135 d136 d137 d138 d139 d140 d141 d142 d143 d144 d145 d146 d147 d148 d149 d150 d151 d152 d153 d154 d155 d156 d157 d158 d159 d160 d161 d162 d163 d164 d165 d166 d167 d168 d169 d170 d171 d172 d173 d174 d175 d176 d177 d178 d179 d180 d181 d182 d183 d184 d185 d186 d187 d188 d189 d190 d191 d192 d193 d194 d195 d196 d197 d198 d199 d200 d201 d202 d203 d204 d205 d206 d207 d208 d209 d210 d211 d212 d213 d214 d215 d216 d217 t15 t18 : Value) (w2 : World) (a2 z2 : Int) (L2 : List Sq) (T2 : List (Int × Int)), St B O w w2 R p q a2 z2 t15 L2 t18 T2 → Inv fr up (L2.map (·.2.2)) T2 (a2, z2) → mu (a2, z2) T2 < mu (a, z) T → Q (.exit 1) ⟨#[c0, c1, c2, c3, c4, c5, c6, c7, c8, c9, c10, c11, d12, d13, d14, t15, .slice (some ⟨p, 0, none⟩) 4 4, .slice (some ⟨q, 0, none⟩) 4 4, t18, .pointer (some ⟨R, 0, none⟩), d20, d21, d22, d23, d24, d25, d26, d27, d28, d29, d30, c31, c32, c33, c34, c35, c36, c37, c38, c39, c40, c41, c42, c43, c44, c45, c46, c47, c48, c49, c50, c51, c52, c53, c54, c55, c56, c57, c58, c59, c60, c61, d62, d63, d64, d65, d66, d67, d68, d69, d70, d71, d72, d73, d74, d75, d76, d77, d78, d79, d80, d81, d82, d83, d84, d85, d86, d87, d88, d89, d90, d91, d92, d93, d94, d95, d96, d97, d98, d99, d100, d101, d102, d103, d104, d105, d106, d107, d108, d109, d110, d111, d112, d113, d114, d115, d116, d117, d118, d119, d120, d121, d122, d123, d124, d125, d126, d127, d128, d129, d130, d131, d132, d133, d134, d135, d136, d137, d138, d139, d140, d141, d142, d143, d144, d145, d146, d147, d148, d149, d150, d151, d152, d153, d154, d155, d156, d157, d158, d159, d160, d161, d162, d163, d164, d165, d166, d167, d168, d169, d170, d171, d172, d173, d174, d175, d176, d177, d178, d179, d180, d181, d182, d183, d184, d185, d186, d187, d188, d189, d190, d191, d192, d193, d194, d195, d196, d197, d198, d199, d200, d201, d202, d203, d204, d205, d206, d207, d208, d209, d210, d211, d212, d213, d214, d215, d216, d217, c218, c219], []⟩ w2)) :
    Code.wp Tryd.prog innerBody Q ⟨#[c0, c1, c2, c3, c4, c5, c6, c7, c8, c9, c10, c11, u12, u13, u14, s15, .slice (some ⟨p, 0, none⟩) 4 4, .slice (some ⟨q, 0, none⟩) 4 4, s18, .pointer (some ⟨R, 0, none⟩), u20, u21, u22, u23, u24, u25, u26, u27, u28, u29, u30, c31, c32, c33, c34, c35, c36, c37, c38, c39, c40, c41, c42, c43, c44, c45, c46, c47, c48, c49, c50, c51, c52, c53, c54, c55, c56, c57, c58, c59, c60, c61, u62, u63, u64, u65, u66, u67, u68, u69, u70, u71, u72, u73, u74, u75, u76, u77, u78, u79, u80, u81, u82, u83, u84, u85, u86, u87, u88, u89, u90, u91, u92, u93, u94, u95, u96, u97, u98, u99, u100, u101, u102, u103, u104, u105, u106, u107, u108, u109, u110, u111, u112, u113, u114, u115, u116, u117, u118, u119, u120, u121, u122, u123, u124, u125, u126, u127, u128, u129, u130, u131, u132, u133, u134, u135, u136, u137, u138, u139, u140, u141, u142, u143, u144, u145, u146, u147, u148, u149, u150, u151, u152, u153, u154, u155, u156, u157, u158, u159, u160, u161, u162, u163, u164, u165, u166, u167, u168, u169, u170, u171, u172, u173, u174, u175, u176, u177, u178, u179, u180, u181, u182, u183, u184, u185, u186, u187, u188, u189, u190, u191, u192, u193, u194, u195, u196, u197, u198, u199, u200, u201, u202, u203, u204, u205, u206, u207, u208, u209, u210, u211, u212, u213, u214, u215, u216, u217, c218, c219], []⟩ wo := by
  have HK := Lib.hid (H.out.2.1.ok H.out.2.2)
  have r0 := H.out.1.r.cell 0
  have r1 := H.out.1.r.cell 1
  simp only [List.getElem?_cons_zero, List.getElem?_cons_succ] at r0 r1

  clear r0 r1 HK
  by_cases hsp : a < 57344 ∧ 55295 < z
  · exact round_split c0 c1 c2 c3 c4 c5 c6 c7 c8 c9 c10 c11 c31 c32 c33 c34 c35 c36 c37 c38 c39 c40 c41 c42 c43 c44 c45 c46 c47 c48 c49 c50 c51 c52 c53 c54 c55 c56 c57 c58 c59 c60 c61 c218 c219 u12 u13 u14 u20 u21 u22 u23 u24 u25 u26 u27 u28 u29 u30 u62 u63 u64 u65 u66 u67 u68 u69 u70 u71 u72 u73 u74 u75 u76 u77 u78 u79 u80 u81 u82 u83 u84 u85 u86 u87 u88 u89 u90 u91 u92 u93 u94 u95 u96 u97 u98 u99 u100 u101 u102 u103 u104 u105 u106 u107 u108 u109 u110 u111 u112 u113 u114 u115 u116 u117 u118 u119 u120 u121 u122 u123 u124 u125 u126 u127 u128 u129 u130 u131 u132 u133 u134 u135 u136 u137 u138 u139 u140 u141 u142 u143 u144 u145 u146 u147 u148 u149 u150 u151 u152 u153 u154 u155 u156 u157 u158 u159 u160 u161 u162 u163 u164 u165 u166 u167 u168 u169 u170 u171 u172 u173 u174 u175 u176 u177 u178 u179 u180 u181 u182 u183 u184 u185 u186 u187 u188 u189 u190 u191 u192 u193 u194 u195 u196 u197 u198 u199 u200 u201 u202 u203 u204 u205 u206 u207 u208 u209 u210 u211 u212 u213 u214 u215 u216 u217 s15 s18 B O w wo R p q fr up a z L T Q H hsp.1 hsp.2 hI hT
  · by_cases hza : z < a
    · exact round_empty c0 c1 c2 c3 c4 c5 c6 c7 c8 c9 c10 c11 c31 c32 c33 c34 c35 c36 c37 c38 c39 c40 c41 c42 c43 c44 c45 c46 c47 c48 c49 c50 c51 c52 c53 c54 c55 c56 c57 c58 c59 c60 c61 c218 c219 u12 u13 u14 u20 u21 u22 u23 u24 u25 u26 u27 u28 u29 u30 u62 u63 u64 u65 u66 u67 u68 u69 u70 u71 u72 u73 u74 u75 u76 u77 u78 u79 u80 u81 u82 u83 u84 u85 u86 u87 u88 u89 u90 u91 u92 u93 u94 u95 u96 u97 u98 u99 u100 u101 u102 u103 u104 u105 u106 u107 u108 u109 u110 u111 u112 u113 u114 u115 u116 u117 u118 u119 u120 u121 u122 u123 u124 u125 u126 u127 u128 u129 u130 u131 u132 u133 u134 u135 u136 u137 u138 u139 u140 u141 u142 u143 u144 u145 u146 u147 u148 u149 u150 u151 u152 u153 u154 u155 u156 u157 u158 u159 u160 u161 u162 u163 u164 u165 u166 u167 u168 u169 u170 u171 u172 u173 u174 u175 u176 u177 u178 u179 u180 u181 u182 u183 u184 u185 u186 u187 u188 u189 u190 u191 u192 u193 u194 u195 u196 u197 u198 u199 u200 u201 u202 u203 u204 u205 u206 u207 u208 u209 u210 u211 u212 u213 u214 u215 u216 u217 s15 s18 B O w wo R p q fr up a z L T Q H (by omega) hza hI hT
    · exact round_valid c0 c1 c2 c3 c4 c5 c6 c7 c8 c9 c10 c11 c31 c32 c33 c34 c35 c36 c37 c38 c39 c40 c41 c42 c43 c44 c45 c46 c47 c48 c49 c50 c51 c52 c53 c54 c55 c56 c57 c58 c59 c60 c61 c218 c219 u12 u13 u14 u20 u21 u22 u23 u24 u25 u26 u27 u28 u29 u30 u62 u63 u64 u65 u66 u67 u68 u69 u70 u71 u72 u73 u74 u75 u76 u77 u78 u79 u80 u81 u82 u83 u84 u85 u86 u87 u88 u89 u90 u91 u92 u93 u94 u95 u96 u97 u98 u99 u100 u101 u102 u103 u104 u105 u106 u107 u108 u109 u110 u111 u112 u113 u114 u115 u116 u117 u118 u119 u120 u121 u122 u123 u124 u125 u126 u127 u128 u129 u130 u131 u132 u133 u134 u135 u136 u137 u138 u139 u140 u141 u142 u143 u144 u145 u146 u147 u148 u149 u150 u151 u152 u153 u154 u155 u156 u157 u158 u159 u160 u161 u162 u163 u164 u165 u166 u167 u168 u169 u170 u171 u172 u173 u174 u175 u176 u177 u178 u179 u180 u181 u182 u183 u184 u185 u186 u187 u188 u189 u190 u191 u192 u193 u194 u195 u196 u197 u198 u199 u200 u201 u202 u203 u204 u205 u206 u207 u208 u209 u210 u211 u212 u213 u214 u215 u216 u217 s15 s18 B O w wo R p q fr up a z L T Q H (by omega) (by omega) hI hT

end Go.Proofs.YtbkpgfccghombaaDoor

/-! The sequences of ranges of bytes, over buffers of the caller's own: NewSequencesPrealloc. Conditions: as stated. -/
namespace Go.Proofs.YtbkpgfccghombaaDoor
open Go.ChangeShapes Go.WideShapes Go.ChangeAt Go.RowKit
set_option linter.unusedVariables false

theorem own_cut0 {w : World} {B : Nat} {e : TypeId} {k n : Nat} {a : Option Addr} {c : Nat} {xs : List Value} (h : w.ownsRow B e k (.slice a n c) n xs) : w.ownsRow B e k (.slice a 0 c) 0 [] := by
  rcases h.2 with ⟨h1, h2⟩ | ⟨g, cap, cur, h1, h2, h3, h4, h5, h6, h7⟩
  · injection h1 with e1 e2 e3
    subst e1 e3
    exact World.ownsRow_nil _ _ _ _
  · injection h1 with e1 e2 e3
    subst e1 e3
    exact ⟨by simp, .inr ⟨g, c, cur, rfl, h2, h3, Nat.zero_le _, h5, h6, by simp⟩⟩

/-- the buffers that the caller hands in -/
structure Pre (B : Nat) (O : Nat → Prop) (w : World) (p q : Nat) (ra : Option Addr) (rc : Nat) (ka : Option Addr) (kc : Nat) : Prop where
  nils : Nils w
  hB : 10 ≤ B
  hw : B ≤ w.heap.size
  fp : Four w p
  fq : Four w q
  pq : p ≠ q
  hp : B ≤ p
  hq : B ≤ q
  Op : O p
  Oq : O q
  rv : ∃ n xs, w.ownsRow B 159 1 (.slice ra n rc) n xs
  sk : ∃ n xs, w.ownsRow B 184 2 (.slice ka n kc) n xs
  Orv : ∀ ad, ra = some ad → O ad.block
  Osk : ∀ ad, ka = some ad → O ad.block

theorem st_start {B : Nat} {O : Nat → Prop} {w w1 w2 : World} {p q : Nat} {ra : Option Addr} {rc : Nat} {ka : Option Addr} {kc : Nat} (h : Pre B O w p q ra rc ka kc) {v v2 : Value} {fr up : Int} {T : List Value}
    (hg : w.grownBy w1 (Value.slice ka 0 kc).ownBlock) (hat : ∀ k, v.ownBlock = some k → (Value.slice ka 0 kc).ownBlock = some k ∨ w.heap.size ≤ k) (hb : Below w1.heap.size w1 w2) (ho : w2.ownsRow B 184 2 v2 0 []) (he : v2.ownBlock = v.ownBlock) :
    St B O w (w2.alloc (.cells #[.int .i32 fr, .int .i32 up] 184)) w2.heap.size p q fr up (.slice ra 0 rc) [] v2 [] := by
  obtain ⟨n1, x1, hrv⟩ := h.rv
  obtain ⟨n2, x2, hsk⟩ := h.sk
  have hsk0 := own_cut0 hsk
  have hrv0 := own_cut0 hrv
  have b1 : Below B w w1 := below_grown hg h.hw (own_block_ge hsk0)
  have s1 : w.heap.size ≤ w1.heap.size := hg.size
  have s2 := hb.size
  have hw := h.hw
  have b2 : Below B w w2 := b1.trans (hb.mono (by omega))
  have b3 : Below B w (w2.alloc (.cells #[.int .i32 fr, .int .i32 up] 184)) := b2.alloc (by omega) _
  have b4 : Below w2.heap.size w2 (w2.alloc (.cells #[.int .i32 fr, .int .i32 up] 184)) := (Below.refl _ _).alloc (Nat.le_refl _) _
  have fO : Fr O w w1 := Fr.of_grown hg (fun k e => by
    cases ka with
    | none => simp [Value.ownBlock] at e
    | some ad => simp [Value.ownBlock] at e; subst e; exact h.Osk ad rfl)
  have hOv : ∀ k, v2.ownBlock = some k → O k ∨ w.heap.size ≤ k := fun k e => by
    rw [he] at e
    rcases hat k e with h1 | h1
    · cases ka with
      | none => simp [Value.ownBlock] at h1
      | some ad => simp [Value.ownBlock] at h1; subst h1; exact .inl (h.Osk ad rfl)
    · exact .inr h1
  have hne : ∀ {g : Nat}, Four w g → some g ≠ (Value.slice ka 0 kc).ownBlock := fun hf => hf.ne_row hsk0 (by decide)
  exact { nils := h.nils.below b3 h.hB, hB := h.hB, r := Blk.new w2 184 [.int .i32 fr, .int .i32 up], fp := ((h.fp.grown hg (hne h.fp)).below hb).below b4, fq := ((h.fq.grown hg (hne h.fq)).below hb).below b4,
          orv := own_below (own_below (hrv0.kept hg (rows_apart hrv0 hsk0 (by decide)).kept) hb) b4, osk := own_below ho b4, sq := fun x hx => by simp at hx
          pq := h.pq, rs := fun e => by have := (World.ownsRow.lt ho _ e).2; omega
          hR := by omega
          hp := h.hp, hq := h.hq, bel := b3, hw := h.hw, nR := by omega
          fr := (fO.go (Fr.of_below hb) (fun k hk e => e.elim)).go (Fr.of_below b4) (fun k hk e => e.elim)
          Op := h.Op, Oq := h.Oq
          Orv := fun k e => by
            cases ra with
            | none => simp [Value.ownBlock] at e
            | some ad => simp [Value.ownBlock] at e; subst e; exact .inl (h.Orv ad rfl)
          Osk := hOv }

/-- what is handed back -/
structure Got (B : Nat) (O : Nat → Prop) (w w' : World) (rv sk : Value) (L : List Sq) (fr up : Int) (p q : Nat) : Prop where
  orv : w'.ownsRow B 159 1 rv L.length (L.map seqv)
  osk : w'.ownsRow B 184 2 sk 0 []
  sq : ∀ x ∈ L, Blk w' x.1 192 (prvs x.2.2)
  len : ∀ x ∈ L, 1 ≤ x.2.2.length ∧ x.2.2.length ≤ 4
  all : L.map (·.2.2) = sqs (rx.pieces fr up)
  n : L.length ≤ 8912895
  fp : Four w' p
  fq : Four w' q
  fr : Fr O w w'
  bel : Below B w w'
  Orv : ∀ k, rv.ownBlock = some k → O k ∨ w.heap.size ≤ k
  Osk : ∀ k, sk.ownBlock = some k → O k ∨ w.heap.size ≤ k

theorem got_of {B : Nat} {O : Nat → Prop} {w w' : World} {R p q : Nat} {rv sk : Value} {L : List Sq} {T : List (Int × Int)} {fr up : Int} (h : St B O w w' R p q 65535 0 rv L sk T) (hi : Inv fr up (L.map (·.2.2)) T (65535, 0)) : Got B O w w' rv sk L fr up p q := by
  have hT : T = [] := by
    rcases hi.cur with h1 | h1
    · exact h1.2
    · exact absurd rfl h1.2.2.2.2.1
  subst hT
  exact { orv := h.orv, osk := h.osk, sq := h.sq, len := fun x hx => hi.cv.len _ (List.mem_map_of_mem hx), all := inv_end hi, n := by have := hi.cv.llen; simpa using this, fp := h.fp, fq := h.fq, fr := h.fr, bel := h.bel, Orv := h.Orv, Osk := h.Osk }

set_option maxRecDepth 100000 in
set_option maxHeartbeats 6400000 in
theorem pre_any {B : Nat} {O : Nat → Prop} {w : World} {p q : Nat} {ra : Option Addr} {rc rn : Nat} {ka : Option Addr} {kc kn : Nat} (h : Pre B O w p q ra rc ka kc) (fr up : Int) (h0 : 0 ≤ fr) (h1 : fr ≤ up) (h2 : up ≤ 1114111) :
    Calls Tryd.prog 67 #[.int .i32 fr, .int .i32 up, .slice ra rn rc, .slice ka kn kc, .slice (some ⟨p, 0, none⟩) 4 4, .slice (some ⟨q, 0, none⟩) 4 4] w fun e w' =>
      ∃ rv sk L, e = .returned (.tuple #[rv, sk, .nilIface]) ∧ Got B O w w' rv sk L fr up p q := by
  obtain ⟨n2, x2, hsk⟩ := h.sk
  have CP := Lib.hid (push_any (.slice ka 0 kc) [] fr up B w h.hw (by simp) (own_cut0 hsk))
  have HP := Lib.hid h
  have HI := Lib.hid (inv_start h0 h1 h2)
  clear h h0 h1 h2 hsk
  go_enter Tryd.func67, Tryd.ntmps67
  go_wp2
  go_step3
  go_wp2_with fail
  refine CP.out.mono ?_
  rintro e w1 ⟨v1, rfl, ho1, hg1, hat1⟩
  have CQ := Lib.hid (pop_some v1 [] fr up B w1 (by simp) ho1)
  have HG := Lib.hid (And.intro hg1 hat1)
  clear ho1 hg1 hat1 CP
  go_wp2_with fail
  refine CQ.out.mono ?_
  rintro e w2 ⟨v2, rfl, he2, ho2, hb2⟩
  have HO := Lib.hid (own_below ho2 hb2)
  have HB := Lib.hid (And.intro hb2 he2)
  clear ho2 hb2 he2 CQ
  go_wp2
  go_step3
  go_wp2
  have HS := Lib.hid (st_start (fr := fr) (up := up) (T := []) HP.out HG.out.1 HG.out.2 HB.out.1 HO.out HB.out.2)
  clear HG HB HO HP
  go_loopg [15, 18] (mu (fr, up) []) (fun g s15 s18 wx => ∃ (a z : Int) (L : List Sq) (T : List (Int × Int)), Hid (St B O w wx w2.heap.size p q a z s15 L s18 T ∧ Inv fr up (L.map (·.2.2)) T (a, z) ∧ mu (a, z) T = g))
  case atStart => exact ⟨fr, up, [], [], Lib.hid ⟨HS.out, HI.out, rfl⟩⟩
  case round =>
    obtain ⟨a, z, L, T, H⟩ := hrel
    by_cases hnil : (a, z) = nilR
    · obtain ⟨rfl, rfl⟩ : a = 65535 ∧ z = 0 := by
        unfold nilR at hnil
        injection hnil with e1 e2
        exact ⟨e1, e2⟩
      have r0 := H.out.1.r.cell 0
      have r1 := H.out.1.r.cell 1
      have n0 := H.out.1.nils.s0
      have n1 := H.out.1.nils.s1
      simp only [List.getElem?_cons_zero, List.getElem?_cons_succ] at r0 r1
      clear hnil HS HI
      go_wp2
      rw [Exit.noGoto_ret]
      go_returns
      exact ⟨_, _, L, rfl, got_of H.out.1 H.out.2.1⟩
    · have r0 := H.out.1.r.cell 0
      have r1 := H.out.1.r.cell 1
      have n0 := H.out.1.nils.s0
      have n1 := H.out.1.nils.s1
      simp only [List.getElem?_cons_zero, List.getElem?_cons_succ] at r0 r1
      have HNE := Lib.hid hnil
      clear hnil HS HI
      go_upto_region 13 with fail
      go_cut [61] from 59 to 217 (fun s61 wx => s61 = .bool true ∧ wr = wx)
      case first =>
        go_wp2
        all_goals go_meet
        · exfalso
          exact HNE.out (by rw [show a = 65535 by assumption, show z = 0 by assumption]; rfl)
        · exact ⟨rfl, rfl⟩
        · exact ⟨rfl, rfl⟩
      case rest =>
        obtain ⟨rfl, rfl⟩ := hcut
        obtain ⟨go, hgo⟩ : ∃ n : Nat, n = gk := ⟨_, rfl⟩
        subst hgo
        obtain ⟨wo, hwo⟩ : ∃ wo : World, wo = wr := ⟨_, rfl⟩
        subst hwo
        clear r0 r1 n0 n1
        go_wp2
        go_step3
        go_wp2
        go_step3
        go_wp2
        go_loopg [15, 18] go (fun g s15 s18 wx => ∃ (a z : Int) (L : List Sq) (T : List (Int × Int)), Hid (St B O w wx w2.heap.size p q a z s15 L s18 T ∧ Inv fr up (L.map (·.2.2)) T (a, z) ∧ mu (a, z) T = g ∧ (a, z) ≠ nilR ∧ g ≤ go))
        case atStart => exact ⟨a, z, L, T, Lib.hid ⟨H.out.1, H.out.2.1, H.out.2.2, HNE.out, Nat.le_refl _⟩⟩
        case round =>
          clear H HNE
          clear a z L T
          obtain ⟨a, z, L, T, H⟩ := hrel
          have HH := Lib.hid (⟨H.out.1, H.out.2.1, H.out.2.2.2.1⟩ : St B O w wr w2.heap.size p q a z _ L _ T ∧ Inv fr up (L.map (·.2.2)) T (a, z) ∧ (a, z) ≠ nilR)
          have HM1 := H.out.2.2.1
          have HM2 := H.out.2.2.2.2
          refine inner_round _ _ _ _ _ _ _ _ _ _ _ _ _ _ _ _ _ _ _ _ _ _ _ _ _ _ _ _ _ _ _ _ _ _ _ _ _ _ _ _ _ _ _ _ _ _ _ _ _ _ _ _ _ _ _ _ _ _ _ _ _ _ _ _ _ _ _ _ _ _ _ _ _ _ _ _ _ _ _ _ _ _ _ _ _ _ _ _ _ _ _ _ _ _ _ _ _ _ _ _ _ _ _ _ _ _ _ _ _ _ _ _ _ _ _ _ _ _ _ _ _ _ _ _ _ _ _ _ _ _ _ _ _ _ _ _ _ _ _ _ _ _ _ _ _ _ _ _ _ _ _ _ _ _ _ _ _ _ _ _ _ _ _ _ _ _ _ _ _ _ _ _ _ _ _ _ _ _ _ _ _ _ _ _ _ _ _ _ _ _ _ _ _ _ _ _ _ _ _ _ _ _ _ _ _ _ _ _ _ _ _ _ _ _ _ _ _ B O w wr w2.heap.size p q fr up a z L T _ HH (Lib.hid ?_) (Lib.hid ?_)
          · intro _ _ _ _ _ _ _ _ _ _ _ _ _ _ _ _ _ _ _ _ _ _ _ _ _ _ _ _ _ _ _ _ _ _ _ _ _ _ _ _ _ _ _ _ _ _ _ _ _ _ _ _ _ _ _ _ _ _ _ _ _ _ _ _ _ _ _ _ _ _ _ _ _ _ _ _ _ _ _ _ _ _ _ _ _ _ _ _ _ _ _ _ _ _ _ _ _ _ _ _ _ _ _ _ _ _ _ _ _ _ _ _ _ _ _ _ _ _ _ _ _ _ _ _ _ _ _ _ _ _ _ _ _ _ _ _ _ _ _ _ _ _ _ _ _ _ _ _ _ _ _ _ _ _ _ _ _ _ _ _ _ _ _ _ _ _ _ _ _ _ t15 t18 w3 a2 z2 L2 T2 h1 h2 h3 h4
            have HR := Lib.hid (⟨h1, h2, h3, by omega⟩ : St B O w w3 w2.heap.size p q a2 z2 t15 L2 t18 T2 ∧ Inv fr up (L2.map (·.2.2)) T2 (a2, z2) ∧ (a2, z2) ≠ nilR ∧ mu (a2, z2) T2 ≤ go)
            have HLT := Lib.hid (show mu (a2, z2) T2 < gk by omega)
            clear h1 h2 h3 h4 HM1 HM2 HH H
            go_wp2
            go_roundg (mu (a2, z2) T2)
            case measure => exact HLT.out
            case rel => exact ⟨a2, z2, L2, T2, Lib.hid ⟨HR.out.1, HR.out.2.1, rfl, HR.out.2.2⟩⟩
          · intro _ _ _ _ _ _ _ _ _ _ _ _ _ _ _ _ _ _ _ _ _ _ _ _ _ _ _ _ _ _ _ _ _ _ _ _ _ _ _ _ _ _ _ _ _ _ _ _ _ _ _ _ _ _ _ _ _ _ _ _ _ _ _ _ _ _ _ _ _ _ _ _ _ _ _ _ _ _ _ _ _ _ _ _ _ _ _ _ _ _ _ _ _ _ _ _ _ _ _ _ _ _ _ _ _ _ _ _ _ _ _ _ _ _ _ _ _ _ _ _ _ _ _ _ _ _ _ _ _ _ _ _ _ _ _ _ _ _ _ _ _ _ _ _ _ _ _ _ _ _ _ _ _ _ _ _ _ _ _ _ _ _ _ _ _ _ _ _ _ _ t15 t18 w3 a2 z2 L2 T2 h1 h2 h4
            have HR := Lib.hid (⟨h1, h2⟩ : St B O w w3 w2.heap.size p q a2 z2 t15 L2 t18 T2 ∧ Inv fr up (L2.map (·.2.2)) T2 (a2, z2))
            have HLT := Lib.hid (show mu (a2, z2) T2 < go by omega)
            clear h1 h2 h4 HM1 HM2 HH H
            go_wp2
            try simp only [Exit.noGoto, Exit.inBlock, Exit.then]
            try go_wp2
            go_roundg (mu (a2, z2) T2)
            case measure => exact HLT.out
            case rel => exact ⟨a2, z2, L2, T2, Lib.hid ⟨HR.out.1, HR.out.2, rfl⟩⟩


end Go.Proofs.YtbkpgfccghombaaDoor

/-! Regular expressions: instructions, how they are gone through, and pieces of them that read just the words of a set. Plain. Conditions: none. -/
namespace Go.Proofs.YtbkpgfccghombaaDoor.rx
set_option linter.unusedVariables false

abbrev Lg := List Int → Prop

/-- an instruction -/
inductive Ins where
  | mt
  | jp (t : Nat)
  | sp (a b : Nat)
  | rg (lo hi : Int)
deriving DecidableEq

/-- from p to q in n steps, reading u -/
inductive Goes (P : List Ins) : Nat → Nat → List Int → Nat → Prop
  | here (p : Nat) : Goes P 0 p [] p
  | jp {n p t q : Nat} {u : List Int} : P[p]? = some (.jp t) → Goes P n t u q → Goes P (n + 1) p u q
  | spa {n p a b q : Nat} {u : List Int} : P[p]? = some (.sp a b) → Goes P n a u q → Goes P (n + 1) p u q
  | spb {n p a b q : Nat} {u : List Int} : P[p]? = some (.sp a b) → Goes P n b u q → Goes P (n + 1) p u q
  | rg {n p q : Nat} {lo hi x : Int} {u : List Int} : P[p]? = some (.rg lo hi) → lo ≤ x → x ≤ hi → Goes P n (p + 1) u q → Goes P (n + 1) p (x :: u) q

theorem Goes.trans {P : List Ins} {n m p q r : Nat} {u v : List Int} (h : Goes P n p u q) (h2 : Goes P m q v r) : Goes P (n + m) p (u ++ v) r := by
  induction h with
  | here p => simpa using h2
  | jp e _ ih => rw [Nat.add_right_comm]; exact .jp e (ih h2)
  | spa e _ ih => rw [Nat.add_right_comm]; exact .spa e (ih h2)
  | spb e _ ih => rw [Nat.add_right_comm]; exact .spb e (ih h2)
  | rg e h3 h4 _ ih => rw [Nat.add_right_comm]; exact .rg e h3 h4 (ih h2)

/-- can be gone -/
def Road (P : List Ins) (p : Nat) (u : List Int) (q : Nat) : Prop := ∃ n, Goes P n p u q
theorem Road.here {P : List Ins} (p : Nat) : Road P p [] p := ⟨0, .here p⟩
theorem Road.trans {P : List Ins} {p q r : Nat} {u v : List Int} (h : Road P p u q) (h2 : Road P q v r) : Road P p (u ++ v) r := by
  obtain ⟨n, h⟩ := h
  obtain ⟨m, h2⟩ := h2
  exact ⟨_, h.trans h2⟩
theorem Road.jp {P : List Ins} {p t q : Nat} {u : List Int} (e : P[p]? = some (.jp t)) (h : Road P t u q) : Road P p u q := by obtain ⟨n, h⟩ := h; exact ⟨_, .jp e h⟩
theorem Road.spa {P : List Ins} {p a b q : Nat} {u : List Int} (e : P[p]? = some (.sp a b)) (h : Road P a u q) : Road P p u q := by obtain ⟨n, h⟩ := h; exact ⟨_, .spa e h⟩
theorem Road.spb {P : List Ins} {p a b q : Nat} {u : List Int} (e : P[p]? = some (.sp a b)) (h : Road P b u q) : Road P p u q := by obtain ⟨n, h⟩ := h; exact ⟨_, .spb e h⟩
theorem Road.rg {P : List Ins} {p q : Nat} {lo hi x : Int} {u : List Int} (e : P[p]? = some (.rg lo hi)) (h1 : lo ≤ x) (h2 : x ≤ hi) (h : Road P (p + 1) u q) : Road P p (x :: u) q := by obtain ⟨n, h⟩ := h; exact ⟨_, .rg e h1 h2 h⟩

/-- a road that has been cut behind a word: it is where an instruction takes a byte, or at its end -/
theorem Goes.cut {P : List Ins} {n p q : Nat} {w : List Int} (h : Goes P n p w q) : ∀ (u v : List Int), w = u ++ v → ∃ m, Road P p u m ∧ (m = q ∨ ∃ lo hi, P[m]? = some (.rg lo hi)) ∧ Road P m v q := by
  induction h with
  | here p =>
    intro u v e
    have e := e.symm
    simp at e
    obtain ⟨rfl, rfl⟩ := e
    exact ⟨p, .here p, .inl rfl, .here p⟩
  | jp e _ ih =>
    intro u v h
    obtain ⟨m, h1, h2, h3⟩ := ih u v h
    exact ⟨m, h1.jp e, h2, h3⟩
  | spa e _ ih =>
    intro u v h
    obtain ⟨m, h1, h2, h3⟩ := ih u v h
    exact ⟨m, h1.spa e, h2, h3⟩
  | spb e _ ih =>
    intro u v h
    obtain ⟨m, h1, h2, h3⟩ := ih u v h
    exact ⟨m, h1.spb e, h2, h3⟩
  | @rg n p q lo hi x u' e h3 h4 hg ih =>
    intro u v h
    match u, h with
    | [], h =>
      refine ⟨p, .here p, .inr ⟨lo, hi, e⟩, ?_⟩
      simp at h
      subst h
      exact ⟨_, .rg e h3 h4 hg⟩
    | y :: u, h =>
      simp only [List.cons_append, List.cons.injEq] at h
      obtain ⟨rfl, h⟩ := h
      obtain ⟨m, a1, a2, a3⟩ := ih u v h
      exact ⟨m, a1.rg e h3 h4, a2, a3⟩

/-- P has c at b -/
def Plc (P : List Ins) (b : Nat) (c : List Ins) : Prop := ∀ i, i < c.length → P[b + i]? = c[i]?
theorem Plc.fst {P : List Ins} {b : Nat} {c d : List Ins} (h : Plc P b (c ++ d)) : Plc P b c := fun i hi => by
  rw [h i (by simp; omega), List.getElem?_append_left hi]
theorem Plc.snd {P : List Ins} {b b' : Nat} {c d : List Ins} (h : Plc P b (c ++ d)) (e : b' = b + c.length) : Plc P b' d := fun i hi => by
  subst e
  have := h (c.length + i) (by simp; omega)
  rw [List.getElem?_append_right (by omega)] at this
  rw [Nat.add_assoc, this]
  congr 1
  omega
theorem Plc.head {P : List Ins} {b : Nat} {i : Ins} {d : List Ins} (h : Plc P b (i :: d)) : P[b]? = some i := by
  have := h 0 (by simp)
  simpa using this
theorem Plc.tail {P : List Ins} {b b' : Nat} {i : Ins} {d : List Ins} (h : Plc P b (i :: d)) (e : b' = b + 1) : Plc P b' d := Plc.snd (c := [i]) h (by simpa using e)

/-- the piece from b up to e reads just the words of X -/
structure Frag (P : List Ins) (b e : Nat) (X : Lg) : Prop where
  le : b ≤ e
  /-- who leaves it has read a word, and is at its end -/
  snd : ∀ n u q, Goes P n b u q → (q < b ∨ e ≤ q) → ∃ u1 u2 n', u = u1 ++ u2 ∧ X u1 ∧ n' ≤ n ∧ Goes P n' e u2 q
  /-- each word can be read -/
  cmp : ∀ u, X u → Road P b u e
  /-- from everywhere the end can be reached -/
  out : ∀ p, b ≤ p → p < e → ∃ w, Road P p w e
  /-- what is gone on to lies within, or is the end -/
  jpc : ∀ p t, b ≤ p → p < e → P[p]? = some (.jp t) → b ≤ t ∧ t ≤ e
  spc : ∀ p x y, b ≤ p → p < e → P[p]? = some (.sp x y) → (b ≤ x ∧ x ≤ e) ∧ b ≤ y ∧ y ≤ e
  nmt : ∀ p, b ≤ p → p < e → P[p]? ≠ some .mt

section
variable {P : List Ins} {b m e : Nat} {X Y : Lg}

/-! sets of words -/
def epsL : Lg := fun u => u = []
def cat2 (X Y : Lg) : Lg := fun u => ∃ u1 u2, u = u1 ++ u2 ∧ X u1 ∧ Y u2
def or2 (X Y : Lg) : Lg := fun u => X u ∨ Y u
def powL (X : Lg) : Nat → Lg
  | 0 => epsL
  | n + 1 => cat2 X (powL X n)
def starL (X : Lg) : Lg := fun u => ∃ n, powL X n u
def rngL (lo hi : Int) : Lg := fun u => ∃ x, lo ≤ x ∧ x ≤ hi ∧ u = [x]

theorem Frag.congr (h : Frag P b e X) (hX : ∀ u, X u ↔ Y u) : Frag P b e Y :=
  ⟨h.le, fun n u q hg hq => by
    obtain ⟨u1, u2, n', h1, h2, h3, h4⟩ := h.snd n u q hg hq
    exact ⟨u1, u2, n', h1, (hX _).1 h2, h3, h4⟩, fun u hu => h.cmp u ((hX u).2 hu), h.out, h.jpc, h.spc, h.nmt⟩

theorem frag_eps (b : Nat) : Frag P b b epsL :=
  ⟨Nat.le_refl _, fun n u q hg _ => ⟨[], u, n, rfl, rfl, Nat.le_refl _, hg⟩, fun u hu => by subst hu; exact .here b, fun p h1 h2 => by omega, fun p t h1 h2 => by omega, fun p x y h1 h2 => by omega, fun p h1 h2 => by omega⟩

theorem frag_rg {lo hi : Int} (h : P[b]? = some (.rg lo hi)) (hl : lo ≤ hi) : Frag P b (b + 1) (rngL lo hi) := by
  refine ⟨by omega, fun n u q hg hq => ?_, fun u hu => ?_, fun p h1 h2 => ?_, fun p t h1 h2 h3 => ?_, fun p x y h1 h2 h3 => ?_, fun p h1 h2 h3 => ?_⟩
  · cases hg with
    | here => omega
    | jp e => rw [h] at e; cases e
    | spa e => rw [h] at e; cases e
    | spb e => rw [h] at e; cases e
    | @rg n p q lo' hi' x u e h1 h2 hg =>
      rw [h] at e
      cases e
      exact ⟨[x], u, n, rfl, ⟨x, h1, h2, rfl⟩, by omega, hg⟩
  · obtain ⟨x, h1, h2, rfl⟩ := hu
    exact (Road.here (b + 1)).rg h h1 h2
  · obtain rfl : p = b := by omega
    exact ⟨[lo], (Road.here (p + 1)).rg h (Int.le_refl _) hl⟩
  all_goals
    obtain rfl : p = b := by omega
    rw [h] at h3
    cases h3

theorem frag_cat (h : Frag P b m X) (h2 : Frag P m e Y) (hY : ∃ w, Y w) : Frag P b e (cat2 X Y) := by
  have l1 := h.le
  have l2 := h2.le
  obtain ⟨wy, hwy⟩ := hY
  refine ⟨by omega, fun n u q hg hq => ?_, fun u hu => ?_, fun p h3 h4 => ?_, fun p t h3 h4 h5 => ?_, fun p x y h3 h4 h5 => ?_, fun p h3 h4 h5 => ?_⟩
  · obtain ⟨u1, u2, n1, rfl, hx, hn, hg⟩ := h.snd n u q hg (by omega)
    obtain ⟨v1, v2, n2, rfl, hy, hn2, hg⟩ := h2.snd n1 u2 q hg (by omega)
    exact ⟨u1 ++ v1, v2, n2, by simp, ⟨u1, v1, rfl, hx, hy⟩, by omega, hg⟩
  · obtain ⟨u1, u2, rfl, hx, hy⟩ := hu
    exact (h.cmp _ hx).trans (h2.cmp _ hy)
  · rcases Nat.lt_or_ge p m with h5 | h5
    · obtain ⟨w, hw⟩ := h.out p h3 h5
      exact ⟨w ++ wy, hw.trans (h2.cmp _ hwy)⟩
    · exact h2.out p h5 h4
  · rcases Nat.lt_or_ge p m with h6 | h6
    · have := h.jpc p t h3 h6 h5; omega
    · have := h2.jpc p t h6 h4 h5; omega
  · rcases Nat.lt_or_ge p m with h6 | h6
    · have := h.spc p x y h3 h6 h5; omega
    · have := h2.spc p x y h6 h4 h5; omega
  · rcases Nat.lt_or_ge p m with h6 | h6
    · exact h.nmt p h3 h6 h5
    · exact h2.nmt p h6 h4 h5

/-- a split ahead of a piece, to it or behind it: the piece or nothing -/
theorem frag_quest (h : P[b]? = some (.sp (b + 1) e)) (h2 : Frag P (b + 1) e X) : Frag P b e (or2 X epsL) := by
  have l2 := h2.le
  refine ⟨by omega, fun n u q hg hq => ?_, fun u hu => ?_, fun p h3 h4 => ?_, fun p t h3 h4 h5 => ?_, fun p x y h3 h4 h5 => ?_, fun p h3 h4 h5 => ?_⟩
  · cases hg with
    | here => omega
    | jp e => rw [h] at e; cases e
    | spa e hg =>
      rw [h] at e
      cases e
      obtain ⟨u1, u2, n1, rfl, hx, hn, hg⟩ := h2.snd _ u q hg (by omega)
      exact ⟨u1, u2, n1, rfl, .inl hx, by omega, hg⟩
    | spb e hg =>
      rw [h] at e
      cases e
      exact ⟨[], u, _, rfl, .inr rfl, by omega, hg⟩
    | rg e => rw [h] at e; cases e
  · rcases hu with hu | rfl
    · exact (h2.cmp _ hu).spa h
    · exact (Road.here e).spb h
  · rcases Nat.eq_or_lt_of_le h3 with rfl | h5
    · exact ⟨[], (Road.here e).spb h⟩
    · exact h2.out p h5 h4
  · rcases Nat.eq_or_lt_of_le h3 with rfl | h6
    · rw [h] at h5; cases h5
    · have := h2.jpc p t h6 h4 h5; omega
  · rcases Nat.eq_or_lt_of_le h3 with rfl | h6
    · rw [h] at h5; cases h5; omega
    · have := h2.spc p x y h6 h4 h5; omega
  · rcases Nat.eq_or_lt_of_le h3 with rfl | h6
    · rw [h] at h5; cases h5
    · exact h2.nmt p h6 h4 h5

/-- split, a piece, a jump back -/
theorem frag_star (h : P[b]? = some (.sp (b + 1) (m + 1))) (h2 : Frag P (b + 1) m X) (h3 : P[m]? = some (.jp b)) : Frag P b (m + 1) (starL X) := by
  have l2 := h2.le
  have sn : ∀ n u q, Goes P n b u q → (q < b ∨ m + 1 ≤ q) → ∃ u1 u2 n', u = u1 ++ u2 ∧ starL X u1 ∧ n' ≤ n ∧ Goes P n' (m + 1) u2 q := by
    intro n
    induction n using Nat.strongRecOn with
    | ind n ih =>
      intro u q hg hq
      cases hg with
      | here => omega
      | jp e => rw [h] at e; cases e
      | rg e => rw [h] at e; cases e
      | spb e hg =>
        rw [h] at e
        cases e
        exact ⟨[], u, _, rfl, ⟨0, rfl⟩, by omega, hg⟩
      | spa e hg =>
        rw [h] at e
        cases e
        obtain ⟨u1, u2, n1, rfl, hx, hn, hg⟩ := h2.snd _ u q hg (by omega)
        cases hg with
        | here => omega
        | spa e => rw [h3] at e; cases e
        | spb e => rw [h3] at e; cases e
        | rg e => rw [h3] at e; cases e
        | jp e hg =>
          rw [h3] at e
          cases e
          obtain ⟨v1, v2, n2, rfl, ⟨k, hk⟩, hn2, hg⟩ := ih _ (by omega) u2 q hg hq
          exact ⟨u1 ++ v1, v2, n2, by simp, ⟨k + 1, u1, v1, rfl, hx, hk⟩, by omega, hg⟩
  refine ⟨by omega, sn, fun u hu => ?_, fun p h4 h5 => ?_, fun p t h4 h5 h6 => ?_, fun p x y h4 h5 h6 => ?_, fun p h4 h5 h6 => ?_⟩
  · obtain ⟨k, hk⟩ := hu
    induction k generalizing u with
    | zero => obtain rfl : u = [] := hk; exact (Road.here (m + 1)).spb h
    | succ k ih =>
      obtain ⟨u1, u2, rfl, hx, hk⟩ := hk
      exact ((h2.cmp _ hx).trans ((ih _ hk).jp h3)).spa h
  · have back : ∃ w, Road P b w (m + 1) := ⟨[], (Road.here (m + 1)).spb h⟩
    obtain ⟨w, hw⟩ := back
    rcases Nat.eq_or_lt_of_le h4 with rfl | h6
    · exact ⟨w, hw⟩
    · rcases Nat.lt_or_ge p m with h7 | h7
      · obtain ⟨v, hv⟩ := h2.out p h6 h7
        exact ⟨v ++ w, hv.trans (hw.jp h3)⟩
      · obtain rfl : p = m := by omega
        exact ⟨w, hw.jp h3⟩
  · rcases Nat.eq_or_lt_of_le h4 with rfl | h7
    · rw [h] at h6; cases h6
    · rcases Nat.lt_or_ge p m with h8 | h8
      · have := h2.jpc p t h7 h8 h6; omega
      · obtain rfl : p = m := by omega
        rw [h3] at h6; cases h6; omega
  · rcases Nat.eq_or_lt_of_le h4 with rfl | h7
    · rw [h] at h6; cases h6; omega
    · rcases Nat.lt_or_ge p m with h8 | h8
      · have := h2.spc p x y h7 h8 h6; omega
      · obtain rfl : p = m := by omega
        rw [h3] at h6; cases h6
  · rcases Nat.eq_or_lt_of_le h4 with rfl | h7
    · rw [h] at h6; cases h6
    · rcases Nat.lt_or_ge p m with h8 | h8
      · exact h2.nmt p h7 h8 h6
      · obtain rfl : p = m := by omega
        rw [h3] at h6; cases h6

/-- a piece, a split back to it -/
theorem frag_plus (h2 : Frag P b m X) (h3 : P[m]? = some (.sp b (m + 1))) : Frag P b (m + 1) (cat2 X (starL X)) := by
  have l2 := h2.le
  have sn : ∀ n u q, Goes P n b u q → (q < b ∨ m + 1 ≤ q) → ∃ u1 u2 n', u = u1 ++ u2 ∧ cat2 X (starL X) u1 ∧ n' ≤ n ∧ Goes P n' (m + 1) u2 q := by
    intro n
    induction n using Nat.strongRecOn with
    | ind n ih =>
      intro u q hg hq
      obtain ⟨u1, u2, n1, rfl, hx, hn, hg⟩ := h2.snd _ u q hg (by omega)
      cases hg with
      | here => omega
      | jp e => rw [h3] at e; cases e
      | rg e => rw [h3] at e; cases e
      | spb e hg =>
        rw [h3] at e
        cases e
        exact ⟨u1, u2, _, rfl, ⟨u1, [], by simp, hx, 0, rfl⟩, by omega, hg⟩
      | spa e hg =>
        rw [h3] at e
        cases e
        obtain ⟨v1, v2, n2, rfl, ⟨w1, w2, rfl, hx2, k, hk⟩, hn2, hg⟩ := ih _ (by omega) u2 q hg hq
        exact ⟨u1 ++ (w1 ++ w2), v2, n2, by simp, ⟨u1, w1 ++ w2, rfl, hx, k + 1, w1, w2, rfl, hx2, hk⟩, by omega, hg⟩
  have cm : ∀ k u1 u2, X u1 → powL X k u2 → Road P b (u1 ++ u2) (m + 1) := by
    intro k
    induction k with
    | zero =>
      intro u1 u2 hx hk
      obtain rfl : u2 = [] := hk
      exact (h2.cmp _ hx).trans ((Road.here (m + 1)).spb h3)
    | succ k ih =>
      intro u1 u2 hx hk
      obtain ⟨v1, v2, rfl, hx2, hk⟩ := hk
      exact (h2.cmp _ hx).trans ((ih _ _ hx2 hk).spa h3)
  refine ⟨by omega, sn, fun u hu => ?_, fun p h4 h5 => ?_, fun p t h4 h5 h6 => ?_, fun p x y h4 h5 h6 => ?_, fun p h4 h5 h6 => ?_⟩
  · obtain ⟨u1, u2, rfl, hx, k, hk⟩ := hu
    exact cm k u1 u2 hx hk
  · rcases Nat.lt_or_ge p m with h7 | h7
    · obtain ⟨v, hv⟩ := h2.out p h4 h7
      exact ⟨v ++ [], hv.trans ((Road.here (m + 1)).spb h3)⟩
    · obtain rfl : p = m := by omega
      exact ⟨[], (Road.here (p + 1)).spb h3⟩
  · rcases Nat.lt_or_ge p m with h8 | h8
    · have := h2.jpc p t h4 h8 h6; omega
    · obtain rfl : p = m := by omega
      rw [h3] at h6; cases h6
  · rcases Nat.lt_or_ge p m with h8 | h8
    · have := h2.spc p x y h4 h8 h6; omega
    · obtain rfl : p = m := by omega
      rw [h3] at h6; cases h6; omega
  · rcases Nat.lt_or_ge p m with h8 | h8
    · exact h2.nmt p h4 h8 h6
    · obtain rfl : p = m := by omega
      rw [h3] at h6; cases h6

/-- split, a piece, a jump to the end, another piece up to there -/
theorem frag_alt (h : P[b]? = some (.sp (b + 1) (m + 1))) (h2 : Frag P (b + 1) m X) (h3 : P[m]? = some (.jp e)) (h4 : Frag P (m + 1) e Y) : Frag P b e (or2 X Y) := by
  have l2 := h2.le
  have l4 := h4.le
  refine ⟨by omega, fun n u q hg hq => ?_, fun u hu => ?_, fun p h5 h6 => ?_, fun p t h5 h6 h7 => ?_, fun p x y h5 h6 h7 => ?_, fun p h5 h6 h7 => ?_⟩
  · cases hg with
    | here => omega
    | jp e => rw [h] at e; cases e
    | rg e => rw [h] at e; cases e
    | spa e hg =>
      rw [h] at e
      cases e
      obtain ⟨u1, u2, n1, rfl, hx, hn, hg⟩ := h2.snd _ u q hg (by omega)
      cases hg with
      | here => omega
      | spa e => rw [h3] at e; cases e
      | spb e => rw [h3] at e; cases e
      | rg e => rw [h3] at e; cases e
      | jp e hg =>
        rw [h3] at e
        cases e
        exact ⟨u1, u2, _, rfl, .inl hx, by omega, hg⟩
    | spb e hg =>
      rw [h] at e
      cases e
      obtain ⟨u1, u2, n1, rfl, hx, hn, hg⟩ := h4.snd _ u q hg (by omega)
      exact ⟨u1, u2, n1, rfl, .inr hx, by omega, hg⟩
  · rcases hu with hu | hu
    · have := (h2.cmp _ hu).trans ((Road.here e).jp h3)
      simp at this
      exact this.spa h
    · exact (h4.cmp _ hu).spb h
  · rcases Nat.lt_or_ge p (m + 1) with h7 | h7
    · have hj : Road P m [] e := (Road.here e).jp h3
      rcases Nat.lt_or_ge p m with h8 | h8
      · rcases Nat.eq_or_lt_of_le h5 with rfl | h9
        · rcases Nat.eq_or_lt_of_le l2 with h10 | h10
          · refine ⟨[], ?_⟩
            have : Road P (b + 1) [] e := by rw [h10]; exact hj
            exact this.spa h
          · obtain ⟨v, hv⟩ := h2.out (b + 1) (by omega) h10
            exact ⟨v ++ [], (hv.trans hj).spa h⟩
        · obtain ⟨v, hv⟩ := h2.out p h9 h8
          exact ⟨v ++ [], hv.trans hj⟩
      · obtain rfl : p = m := by omega
        exact ⟨[], hj⟩
    · exact h4.out p h7 h6
  · rcases Nat.lt_or_ge p (m + 1) with h8 | h8
    · rcases Nat.eq_or_lt_of_le h5 with rfl | h9
      · rw [h] at h7; cases h7
      · rcases Nat.lt_or_ge p m with h10 | h10
        · have := h2.jpc p t h9 h10 h7; omega
        · obtain rfl : p = m := by omega
          rw [h3] at h7; cases h7; omega
    · have := h4.jpc p t h8 h6 h7; omega
  · rcases Nat.lt_or_ge p (m + 1) with h8 | h8
    · rcases Nat.eq_or_lt_of_le h5 with rfl | h9
      · rw [h] at h7; cases h7; omega
      · rcases Nat.lt_or_ge p m with h10 | h10
        · have := h2.spc p x y h9 h10 h7; omega
        · obtain rfl : p = m := by omega
          rw [h3] at h7; cases h7
    · have := h4.spc p x y h8 h6 h7; omega
  · rcases Nat.lt_or_ge p (m + 1) with h8 | h8
    · rcases Nat.eq_or_lt_of_le h5 with rfl | h9
      · rw [h] at h7; cases h7
      · rcases Nat.lt_or_ge p m with h10 | h10
        · exact h2.nmt p h9 h10 h7
        · obtain rfl : p = m := by omega
          rw [h3] at h7; cases h7
    · exact h4.nmt p h8 h6 h7
end

/-! the whole program: a piece, then a match -/
section
variable {P : List Ins} {e : Nat} {X : Lg}
theorem frag_match (h : Frag P 0 e X) (hm : P[e]? = some .mt) (u : List Int) : Road P 0 u e ↔ X u := by
  constructor
  · rintro ⟨n, hg⟩
    obtain ⟨u1, u2, n', rfl, hx, _, hg⟩ := h.snd n u e hg (.inr (Nat.le_refl _))
    cases hg with
    | here => simpa using hx
    | jp e => rw [hm] at e; cases e
    | spa e => rw [hm] at e; cases e
    | spb e => rw [hm] at e; cases e
    | rg e => rw [hm] at e; cases e
  · exact h.cmp u
/-- who takes a byte or matches behind u: u begins a word -/
theorem frag_can (h : Frag P 0 e X) (hm : P[e]? = some .mt) (hX : ∃ w, X w) (u : List Int) :
    (∃ p, Road P 0 u p ∧ p ≤ e ∧ (P[p]? = some .mt ∨ ∃ lo hi, P[p]? = some (.rg lo hi))) ↔ ∃ w, X (u ++ w) := by
  constructor
  · rintro ⟨p, hr, hp, -⟩
    rcases Nat.lt_or_ge p e with h1 | h1
    · obtain ⟨w, hw⟩ := h.out p (by omega) h1
      exact ⟨w, (frag_match h hm _).1 (hr.trans hw)⟩
    · obtain rfl : p = e := by omega
      exact ⟨[], by simpa using (frag_match h hm _).1 hr⟩
  · rintro ⟨w, hw⟩
    obtain ⟨n, hg⟩ := h.cmp _ hw
    obtain ⟨m, h1, h2, h3⟩ := hg.cut u w rfl
    rcases h2 with rfl | ⟨lo, hi, h2⟩
    · exact ⟨m, h1, Nat.le_refl _, .inl hm⟩
    · refine ⟨m, h1, ?_, .inr ⟨lo, hi, h2⟩⟩
      rcases Nat.lt_or_ge e m with h4 | h4
      · exfalso
        obtain ⟨n, hg⟩ := h1
        obtain ⟨u1, u2, n', rfl, hx, _, hg⟩ := h.snd n u m hg (.inr (by omega))
        cases hg with
        | here => omega
        | jp e => rw [hm] at e; cases e
        | spa e => rw [hm] at e; cases e
        | spb e => rw [hm] at e; cases e
        | rg e => rw [hm] at e; cases e
      · exact h4
end

end Go.Proofs.YtbkpgfccghombaaDoor.rx

/-! Regular expressions: what they are compiled to, and that this reads just their words. Plain. Conditions: none. -/
namespace Go.Proofs.YtbkpgfccghombaaDoor.rx
set_option linter.unusedVariables false

/-! lists of words one behind the other, one of several -/
def catL : List Lg → Lg
  | [] => epsL
  | X :: r => cat2 X (catL r)
def altL : List Lg → Lg
  | [] => epsL
  | [X] => X
  | X :: r => or2 X (altL r)

section
variable {P : List Ins} {b m e : Nat} {X Y : Lg}

theorem cat2_eps (X : Lg) (u : List Int) : cat2 X epsL u ↔ X u := by
  constructor
  · rintro ⟨u1, u2, rfl, hx, rfl⟩
    simpa using hx
  · intro h
    exact ⟨u, [], by simp, h, rfl⟩
theorem eps_cat2 (X : Lg) (u : List Int) : cat2 epsL X u ↔ X u := by
  constructor
  · rintro ⟨u1, u2, rfl, rfl, hx⟩
    simpa using hx
  · intro h
    exact ⟨[], u, by simp, rfl, h⟩

/-! pieces one behind the other -/
section
variable {α : Type} (f : Nat → α → List Ins)
def catC : Nat → List α → List Ins
  | _, [] => []
  | b, s :: r => f b s ++ catC (b + (f b s).length) r
theorem frag_catC (L : α → Lg) : ∀ (l : List α) (b : Nat), (∀ s ∈ l, ∀ b, Plc P b (f b s) → Frag P b (b + (f b s).length) (L s)) → (∀ s ∈ l, ∃ w, L s w) → Plc P b (catC f b l) → Frag P b (b + (catC f b l).length) (catL (l.map L)) ∧ ∃ w, catL (l.map L) w
  | [], b, _, _, _ => ⟨frag_eps b, [], rfl⟩
  | s :: r, b, h, hn, hp => by
    simp only [catC] at hp ⊢
    have h1 := h s (by simp) b hp.fst
    obtain ⟨h2, w2, hw2⟩ := frag_catC L r (b + (f b s).length) (fun s hs => h s (by simp [hs])) (fun s hs => hn s (by simp [hs])) (hp.snd rfl)
    obtain ⟨w1, hw1⟩ := hn s (by simp)
    rw [List.length_append, ← Nat.add_assoc]
    exact ⟨frag_cat h1 h2 ⟨w2, hw2⟩, w1 ++ w2, w1, w2, rfl, hw1, hw2⟩

/-- one of several pieces; all of them end at e -/
def altC (e : Nat) : Nat → List α → List Ins
  | _, [] => []
  | b, [s] => f b s
  | b, s :: r => .sp (b + 1) (b + 2 + (f (b + 1) s).length) :: (f (b + 1) s ++ (.jp e :: altC e (b + 2 + (f (b + 1) s).length) r))
theorem altC_len (e e' : Nat) : ∀ (l : List α) (b : Nat), (altC f e b l).length = (altC f e' b l).length
  | [], _ => rfl
  | [s], _ => rfl
  | s :: t :: r, b => by
    simp only [altC, List.length_cons, List.length_append]
    rw [altC_len e e' (t :: r)]
theorem frag_altC (L : α → Lg) (e : Nat) : ∀ (l : List α) (b : Nat), (∀ s ∈ l, ∀ b, Plc P b (f b s) → Frag P b (b + (f b s).length) (L s)) → (∀ s ∈ l, ∃ w, L s w) → e = b + (altC f e b l).length → Plc P b (altC f e b l) → Frag P b e (altL (l.map L)) ∧ ∃ w, altL (l.map L) w
  | [], b, _, _, he, _ => by simp only [altC, List.length_nil, Nat.add_zero] at he; subst he; exact ⟨frag_eps _, [], rfl⟩
  | [s], b, h, hn, he, hp => by simp only [altC] at he hp; subst he; exact ⟨h s (by simp) b hp, hn s (by simp)⟩
  | s :: t :: r, b, h, hn, he, hp => by
    simp only [altC, List.length_cons, List.length_append] at he hp
    have h0 := hp.head
    have hp1 := hp.tail rfl
    have h1 := h s (by simp) (b + 1) hp1.fst
    have hp2 := hp1.snd (b' := b + 1 + (f (b + 1) s).length) rfl
    have h2 := hp2.head
    have hp3 := hp2.tail (b' := b + 2 + (f (b + 1) s).length) (by omega)
    obtain ⟨h3, w3, hw3⟩ := frag_altC L e (t :: r) (b + 2 + (f (b + 1) s).length) (fun s hs => h s (by simp [hs])) (fun s hs => hn s (by simp [hs])) (by omega) hp3
    have e1 : b + 1 + (f (b + 1) s).length + 1 = b + 2 + (f (b + 1) s).length := by omega
    refine ⟨?_, w3, .inr hw3⟩
    exact frag_alt (m := b + 1 + (f (b + 1) s).length) (by rw [e1]; exact h0) h1 h2 (by rw [e1]; exact h3)

/-- n times a piece or nothing; all of them end at e -/
def optC (e : Nat) (s : α) : Nat → Nat → List Ins
  | _, 0 => []
  | b, n + 1 => .sp (b + 1) e :: (f (b + 1) s ++ optC e s (b + 1 + (f (b + 1) s).length) n)
def optL (X : Lg) : Nat → Lg
  | 0 => epsL
  | n + 1 => or2 (cat2 X (optL X n)) epsL
theorem optC_len (e e' : Nat) (s : α) : ∀ (n b : Nat), (optC f e s b n).length = (optC f e' s b n).length
  | 0, _ => rfl
  | n + 1, b => by
    simp only [optC, List.length_cons, List.length_append]
    rw [optC_len e e' s n]
theorem frag_optC (L : α → Lg) (s : α) (e : Nat) : ∀ (n b : Nat), (∀ b, Plc P b (f b s) → Frag P b (b + (f b s).length) (L s)) → (∃ w, L s w) → e = b + (optC f e s b n).length → Plc P b (optC f e s b n) → Frag P b e (optL (L s) n) ∧ ∃ w, optL (L s) n w
  | 0, b, _, _, he, _ => by simp only [optC, List.length_nil, Nat.add_zero] at he; subst he; exact ⟨frag_eps _, [], rfl⟩
  | n + 1, b, h, hn, he, hp => by
    simp only [optC, List.length_cons, List.length_append] at he hp
    have h0 := hp.head
    have hp1 := hp.tail rfl
    have h1 := h (b + 1) hp1.fst
    have hp2 := hp1.snd (b' := b + 1 + (f (b + 1) s).length) rfl
    obtain ⟨h3, hw⟩ := frag_optC L s e n (b + 1 + (f (b + 1) s).length) h hn (by omega) hp2
    exact ⟨frag_quest h0 (frag_cat h1 h3 hw), [], .inr rfl⟩
end
end

end Go.Proofs.YtbkpgfccghombaaDoor.rx

/-! Regular expressions: trees, their words, the instructions that they become; these read just their words. Plain. Conditions: none. -/
namespace Go.Proofs.YtbkpgfccghombaaDoor.rx
set_option linter.unusedVariables false

/-- an expression: what it does, its runes, how often at least and at most, its parts -/
inductive Rx where
  | nd (op : Nat) (rs : List Int) (mn mx : Int) (subs : List Rx)

def pairs : List Int → List (Int × Int)
  | a :: b :: r => (a, b) :: pairs r
  | _ => []
/-- the runes of a class, as pairs -/
def rngs (op : Nat) (rs : List Int) : List Int := if op = 6 then [0, 1114111] else if op = 5 then [0, 9, 11, 1114111] else rs
def clsL (ps : List (Int × Int)) : Lg := fun u => ∃ p ∈ ps, InR p.1 p.2 u

section
variable {α : Type} (f : Nat → α → List Ins)
def altE (b : Nat) (l : List α) : List Ins := altC f (b + (altC f 0 b l).length) b l
theorem altE_len (b : Nat) (l : List α) : (altE f b l).length = (altC f 0 b l).length := altC_len f _ _ l b
def optE (b : Nat) (s : α) (n : Nat) : List Ins := optC f (b + (optC f 0 s b n).length) s b n
theorem optE_len (b : Nat) (s : α) (n : Nat) : (optE f b s n).length = (optC f 0 s b n).length := optC_len f _ _ s n b
def starC (b : Nat) (s : α) : List Ins := .sp (b + 1) (b + 2 + (f (b + 1) s).length) :: (f (b + 1) s ++ [.jp b])
def plusC (b : Nat) (s : α) : List Ins := f b s ++ [.sp b (b + (f b s).length + 1)]
def questC (b : Nat) (s : α) : List Ins := .sp (b + 1) (b + 1 + (f (b + 1) s).length) :: f (b + 1) s
def repC (b : Nat) (s : α) (mn mx : Int) : List Ins :=
  catC f b (List.replicate mn.toNat s) ++ (if mx < 0 then starC f (b + (catC f b (List.replicate mn.toNat s)).length) s else optE f (b + (catC f b (List.replicate mn.toNat s)).length) s (mx - mn).toNat)
end

def pieceC (_ : Nat) (p : Int × Int) : List Ins := (sq p).map fun x => .rg x.1 x.2
def rangeC (b : Nat) (p : Int × Int) : List Ins := altE pieceC b (pieces p.1 p.2)
def clsC (b : Nat) (ps : List (Int × Int)) : List Ins := altE rangeC b ps
def litC (rs : List Int) : List Ins := rs.flatMap fun c => (ub c).map fun x => .rg x x

def lang : Nat → Rx → Lg
  | 0, _ => fun _ => False
  | d + 1, .nd op rs mn mx subs =>
    if op = 2 then epsL else if op = 3 then (fun u => u = rs.flatMap ub)
    else if op = 4 ∨ op = 5 ∨ op = 6 then clsL (pairs (rngs op rs))
    else if op = 18 then catL (subs.map (lang d)) else if op = 19 then altL (subs.map (lang d))
    else match subs with
      | [] => fun _ => False
      | s :: _ =>
        if op = 13 then lang d s else if op = 14 then starL (lang d s) else if op = 15 then cat2 (lang d s) (starL (lang d s)) else if op = 16 then or2 (lang d s) epsL
        else cat2 (powL (lang d s) mn.toNat) (if mx < 0 then starL (lang d s) else optL (lang d s) (mx - mn).toNat)

def comp : Nat → Nat → Rx → List Ins
  | 0, _, _ => []
  | d + 1, b, .nd op rs mn mx subs =>
    if op = 2 then [] else if op = 3 then litC rs
    else if op = 4 ∨ op = 5 ∨ op = 6 then clsC b (pairs (rngs op rs))
    else if op = 18 then catC (comp d) b subs else if op = 19 then altE (comp d) b subs
    else match subs with
      | [] => []
      | s :: _ =>
        if op = 13 then comp d b s else if op = 14 then starC (comp d) b s else if op = 15 then plusC (comp d) b s else if op = 16 then questC (comp d) b s
        else repC (comp d) b s mn mx

/-- pairs with a rune in each that has bytes -/
def okPairs (l : List Int) : Prop := pairs l ≠ [] ∧ l.length = 2 * (pairs l).length ∧ ∀ p ∈ pairs l, p.1 ≤ p.2 ∧ p.2 ≤ 1114111 ∧ isL p.1 = true

/-- a right expression of at most d levels, with at most m parts a node -/
def wf (m : Nat) : Nat → Rx → Prop
  | 0, _ => False
  | d + 1, .nd op rs mn mx subs =>
    (op = 2 ∧ subs = [] ∧ rs = []) ∨ (op = 3 ∧ subs = [] ∧ rs ≠ [] ∧ rs.length ≤ 4 ∧ ∀ c ∈ rs, isL c = true) ∨ ((op = 4 ∧ rs.length ≤ 8 ∧ okPairs rs ∨ (op = 5 ∨ op = 6) ∧ rs = []) ∧ subs = []) ∨
      ((op = 18 ∨ op = 19) ∧ rs = [] ∧ subs ≠ [] ∧ subs.length ≤ m ∧ ∀ s ∈ subs, wf m d s) ∨
      ((op = 13 ∨ op = 14 ∨ op = 15 ∨ op = 16 ∨ op = 17) ∧ rs = [] ∧ (op = 17 → 0 ≤ mn ∧ mn ≤ 3 ∧ (mx = -1 ∨ mn ≤ mx ∧ mx ≤ 5)) ∧ ∃ s, subs = [s] ∧ wf m d s)

theorem rngs_ok {op : Nat} {rs : List Int} (h : op = 4 ∧ okPairs rs ∨ op = 5 ∨ op = 6) : okPairs (rngs op rs) := by
  rcases h with ⟨rfl, h⟩ | rfl | rfl
  · exact h
  · show okPairs [0, 9, 11, 1114111]
    exact ⟨by decide, by decide, by decide⟩
  · show okPairs [0, 1114111]
    exact ⟨by decide, by decide, by decide⟩

/-! a piece, a range, a class -/
section
variable {P : List Ins}
def covL (l : List (Int × Int)) : Lg := fun u => covB l u = true
theorem frag_seq : ∀ (l : List (Int × Int)) (b : Nat), (∀ p ∈ l, p.1 ≤ p.2) → Plc P b (l.map fun x => .rg x.1 x.2) → Frag P b (b + l.length) (covL l)
  | [], b, _, _ => (frag_eps b).congr (fun u => by cases u <;> simp [epsL, covL, covB])
  | p :: r, b, h, hp => by
    have h1 : Frag P b (b + 1) (rngL p.1 p.2) := frag_rg hp.head (h p (by simp))
    have h2 := frag_seq r (b + 1) (fun q hq => h q (by simp [hq])) (hp.tail rfl)
    have hne : ∀ (r : List (Int × Int)), (∀ p ∈ r, p.1 ≤ p.2) → ∃ w, covL r w := by
      intro r hr
      induction r with
      | nil => exact ⟨[], rfl⟩
      | cons q r ih =>
        obtain ⟨w, hw⟩ := ih (fun x hx => hr x (by simp [hx]))
        refine ⟨q.1 :: w, ?_⟩
        have := hr q (by simp)
        unfold covL at hw ⊢
        simp [covB, hw, this]
    have h3 := frag_cat h1 h2 (hne r (fun q hq => h q (by simp [hq])))
    rw [show b + (p :: r).length = b + 1 + r.length by simp; omega]
    refine h3.congr (fun u => ?_)
    constructor
    · rintro ⟨u1, u2, rfl, ⟨x, h1, h2, rfl⟩, hc⟩
      unfold covL at hc ⊢
      simp [covB, h1, h2, hc]
    · intro hc
      unfold covL at hc
      match u, hc with
      | [], hc => simp [covB] at hc
      | x :: u, hc =>
        simp [covB] at hc
        exact ⟨[x], u, rfl, ⟨x, hc.1.1, hc.1.2, rfl⟩, hc.2⟩

theorem ub_len (c : Int) : 1 ≤ (ub c).length ∧ (ub c).length ≤ 4 := by
  unfold ub
  split
  · simp
  · split
    · simp
    · split <;> simp
theorem sq_ok (p : Int × Int) (h : Pc p) : ∀ x ∈ sq p, x.1 ≤ x.2 := by
  obtain ⟨a, z⟩ := p
  obtain ⟨h0, hl, hs, w1, w2, w3, w4, w5, w6⟩ := h
  simp only at *
  unfold sq
  simp only
  split
  · intro x hx; simp at hx; subst hx; exact hl
  · rename_i h
    have w4 := w4 h
    have w5 := w5 h
    have w6 := w6 h
    unfold whole at w4 w5 w6
    by_cases c1 : z ≤ 2047
    · rw [ub2 a (by omega) (by omega), ub2 z (by omega) c1]
      intro x hx
      simp at hx
      rcases hx with rfl | rfl <;> simp only <;> omega
    · by_cases c2 : z ≤ 65535
      · rw [ub3 a (by omega) (by omega), ub3 z (by omega) c2]
        intro x hx
        simp at hx
        rcases hx with rfl | rfl | rfl <;> simp only <;> omega
      · rw [ub4 a (by omega), ub4 z (by omega)]
        intro x hx
        simp at hx
        rcases hx with rfl | rfl | rfl | rfl <;> simp only <;> omega
theorem frag_piece (p : Int × Int) (h : Pc p) (hz : p.2 ≤ 1114111) (b : Nat) (hp : Plc P b (pieceC b p)) : Frag P b (b + (pieceC b p).length) (InR p.1 p.2) := by
  have := frag_seq (sq p) b (sq_ok p h) hp
  rw [show (pieceC b p).length = (sq p).length by simp [pieceC]]
  exact this.congr (fun u => sq_cov p h hz u)
theorem altL_map {α : Type} (L : α → Lg) : ∀ (l : List α), l ≠ [] → ∀ u, altL (l.map L) u ↔ ∃ s ∈ l, L s u
  | [], h, _ => absurd rfl h
  | [s], _, u => by simp [altL]
  | s :: t :: r, _, u => by
    have := altL_map L (t :: r) (by simp) u
    show or2 (L s) (altL ((t :: r).map L)) u ↔ _
    unfold or2
    rw [this]
    simp
theorem pc_word {p : Int × Int} (h : Pc p) (hz : p.2 ≤ 1114111) : ∃ w, InR p.1 p.2 w :=
  ⟨ub p.1, p.1, decide_eq_true ⟨h.h0, by have := h.le; omega, by have := h.sur; have := h.le; omega⟩, Int.le_refl _, h.le, rfl⟩
theorem pieces_ne {a z : Int} (h : a ≤ z) (hL : isL a = true) : pieces a z ≠ [] := by
  obtain ⟨p, hp, -⟩ := pieces_all a z a hL (Int.le_refl _) h (of_decide_eq_true hL).1
  intro e
  rw [e] at hp
  simp at hp
theorem frag_range (p : Int × Int) (h : p.1 ≤ p.2 ∧ p.2 ≤ 1114111 ∧ isL p.1 = true) (b : Nat) (hp : Plc P b (rangeC b p)) : Frag P b (b + (rangeC b p).length) (InR p.1 p.2) := by
  have hl := altE_len pieceC b (pieces p.1 p.2)
  have hin := pieces_in p.1 p.2
  have h0 := (of_decide_eq_true h.2.2).1
  have F := (frag_altC (P := P) pieceC (fun q => InR q.1 q.2) (b + (altC pieceC 0 b (pieces p.1 p.2)).length) (pieces p.1 p.2) b (fun q hq b hb => frag_piece q (hin q hq).2.2 (by have := (hin q hq).2.1; omega) b hb) (fun q hq => pc_word (hin q hq).2.2 (by have := (hin q hq).2.1; omega)) (congrArg (b + ·) (altC_len pieceC 0 _ _ b)) hp).1
  unfold rangeC
  rw [hl]
  refine F.congr (fun u => ?_)
  rw [altL_map _ _ (pieces_ne h.1 h.2.2)]
  constructor
  · rintro ⟨q, hq, r, h1, h2, h3, h4⟩
    have := hin q hq
    exact ⟨r, h1, by omega, by omega, h4⟩
  · rintro ⟨r, h1, h2, h3, h4⟩
    obtain ⟨q, hq, h5⟩ := pieces_all p.1 p.2 r h1 h2 h3 h0
    exact ⟨q, hq, r, h1, h5.1, h5.2, h4⟩
theorem range_word (p : Int × Int) (h : p.1 ≤ p.2 ∧ p.2 ≤ 1114111 ∧ isL p.1 = true) : ∃ w, InR p.1 p.2 w := ⟨ub p.1, p.1, h.2.2, Int.le_refl _, h.1, rfl⟩
theorem frag_cls (l : List Int) (h : okPairs l) (b : Nat) (hp : Plc P b (clsC b (pairs l))) : Frag P b (b + (clsC b (pairs l)).length) (clsL (pairs l)) ∧ ∃ w, clsL (pairs l) w := by
  have hl := altE_len rangeC b (pairs l)
  have F := frag_altC (P := P) rangeC (fun q => InR q.1 q.2) (b + (altC rangeC 0 b (pairs l)).length) (pairs l) b (fun q hq b hb => frag_range q (h.2.2 q hq) b hb) (fun q hq => range_word q (h.2.2 q hq)) (congrArg (b + ·) (altC_len rangeC 0 _ _ b)) hp
  unfold clsC
  rw [hl]
  refine ⟨F.1.congr (fun u => altL_map _ _ h.1 u), ?_⟩
  obtain ⟨w, hw⟩ := F.2
  exact ⟨w, (altL_map _ _ h.1 w).1 hw⟩
theorem frag_lit : ∀ (rs : List Int) (b : Nat), (∀ c ∈ rs, isL c = true) → Plc P b (litC rs) → Frag P b (b + (litC rs).length) (fun u => u = rs.flatMap ub)
  | [], b, _, _ => frag_eps b
  | c :: r, b, h, hp => by
    have hL := h c (by simp)
    have e1 : litC (c :: r) = ((ub c).map fun x => Ins.rg x x) ++ litC r := by simp [litC]
    rw [e1] at hp ⊢
    have hp1 : Plc P b (((ub c).map fun x => (x, x)).map fun x => Ins.rg x.1 x.2) := by
      rw [List.map_map]
      exact hp.fst
    have h1 := frag_seq _ b (fun p hp => by obtain ⟨x, _, rfl⟩ := List.mem_map.1 hp; exact Int.le_refl _) hp1
    have h2 := frag_lit r (b + ((ub c).map fun x => (x, x)).length) (fun c hc => h c (by simp [hc])) (hp.snd (by simp))
    have h3 := frag_cat h1 h2 ⟨_, rfl⟩
    have hq : ∀ (l u : List Int), covB (l.map fun x => (x, x)) u = true ↔ u = l := by
      intro l
      induction l with
      | nil => intro u; cases u <;> simp [covB]
      | cons x l ih =>
        intro u
        match u with
        | [] => simp [covB]
        | y :: u =>
          simp only [List.map_cons, covB, Bool.and_eq_true, decide_eq_true_eq, ih, List.cons.injEq]
          constructor
          · rintro ⟨h1, h2⟩; exact ⟨by omega, h2⟩
          · rintro ⟨h1, h2⟩; exact ⟨by omega, h2⟩
    rw [List.length_append, List.length_map, ← Nat.add_assoc]
    rw [List.length_map] at h3
    refine h3.congr (fun u => ?_)
    constructor
    · rintro ⟨u1, u2, rfl, h4, h5⟩
      rw [(hq _ _).1 h4, h5]
      simp
    · intro h4
      refine ⟨ub c, r.flatMap ub, ?_, (hq _ _).2 rfl, rfl⟩
      rw [h4]
      simp

theorem frag_star' {α : Type} (f : Nat → α → List Ins) (s : α) {X : Lg} (b : Nat) (h : ∀ b, Plc P b (f b s) → Frag P b (b + (f b s).length) X) (hp : Plc P b (starC f b s)) : Frag P b (b + (starC f b s).length) (starL X) := by
  unfold starC at hp ⊢
  have h0 := hp.head
  have hp1 := hp.tail rfl
  have h1 := h (b + 1) hp1.fst
  have h2 := (hp1.snd (b' := b + 1 + (f (b + 1) s).length) rfl).head
  have e1 : b + 2 + (f (b + 1) s).length = b + 1 + (f (b + 1) s).length + 1 := by omega
  rw [e1] at h0
  have F := frag_star h0 h1 h2
  have e2 : b + (Ins.sp (b + 1) (b + 2 + (f (b + 1) s).length) :: (f (b + 1) s ++ [Ins.jp b])).length = b + 1 + (f (b + 1) s).length + 1 := by simp; omega
  rw [e2]
  exact F
theorem powL_rep {X : Lg} (n : Nat) : catL (List.replicate n X) = powL X n := by
  induction n with
  | zero => rfl
  | succ n ih => rw [List.replicate_succ]; show cat2 X (catL _) = cat2 X _; rw [ih]
end

theorem catL_ne {α : Type} (L : α → Lg) : ∀ (l : List α), (∀ s ∈ l, ∃ w, L s w) → ∃ w, catL (l.map L) w
  | [], _ => ⟨[], rfl⟩
  | s :: r, h => by
    obtain ⟨w1, h1⟩ := h s (by simp)
    obtain ⟨w2, h2⟩ := catL_ne L r (fun s hs => h s (by simp [hs]))
    exact ⟨w1 ++ w2, w1, w2, rfl, h1, h2⟩
theorem powL_ne {X : Lg} (h : ∃ w, X w) (n : Nat) : ∃ w, powL X n w := by
  rw [← powL_rep]
  have := catL_ne (fun _ : Unit => X) (List.replicate n ()) (fun _ _ => h)
  rwa [List.map_replicate] at this
theorem optL_ne {X : Lg} : ∀ (n : Nat), ∃ w, optL X n w
  | 0 => ⟨[], rfl⟩
  | n + 1 => ⟨[], .inr rfl⟩

/-- each expression has a word -/
theorem lang_ne {m : Nat} : ∀ (d : Nat) (r : Rx), wf m d r → ∃ w, lang d r w
  | 0, _, h => h.elim
  | d + 1, .nd op rs mn mx subs, h => by
    have IH := lang_ne (m := m) d
    simp only [wf] at h
    rcases h with ⟨rfl, -, -⟩ | ⟨rfl, -, -, -, -⟩ | ⟨h, -⟩ | ⟨h, -, hn, -, hs⟩ | ⟨h, -, -, s, rfl, hs⟩
    · exact ⟨[], rfl⟩
    · exact ⟨_, rfl⟩
    · have hok : okPairs (rngs op rs) := rngs_ok (by rcases h with ⟨h1, _, h2⟩ | ⟨h1, _⟩; exact .inl ⟨h1, h2⟩; exact .inr h1)
      have hop : op = 4 ∨ op = 5 ∨ op = 6 := by omega
      have e : lang (d + 1) (.nd op rs mn mx subs) = clsL (pairs (rngs op rs)) := by
        simp only [lang]; rw [if_neg (by omega), if_neg (by omega), if_pos hop]
      rw [e]
      obtain ⟨p, hp⟩ := List.exists_mem_of_ne_nil _ hok.1
      obtain ⟨w, hw⟩ := range_word p (hok.2.2 p hp)
      exact ⟨w, p, hp, hw⟩
    · rcases h with rfl | rfl
      · exact catL_ne (lang d) subs (fun s h => IH s (hs s h))
      · obtain ⟨s, h1⟩ := List.exists_mem_of_ne_nil _ hn
        obtain ⟨w, hw⟩ := IH s (hs s h1)
        exact ⟨w, (altL_map (lang d) subs hn w).2 ⟨s, h1, hw⟩⟩
    · obtain ⟨w, hw⟩ := IH s hs
      rcases h with rfl | rfl | rfl | rfl | rfl
      · exact ⟨w, hw⟩
      · exact ⟨[], 0, rfl⟩
      · exact ⟨w ++ [], w, [], rfl, hw, 0, rfl⟩
      · exact ⟨[], .inr rfl⟩
      · obtain ⟨v, hv⟩ := powL_ne ⟨w, hw⟩ mn.toNat
        have e : lang (d + 1) (.nd 17 rs mn mx [s]) = cat2 (powL (lang d s) mn.toNat) (if mx < 0 then starL (lang d s) else optL (lang d s) (mx - mn).toNat) := rfl
        rw [e]
        split
        · exact ⟨v ++ [], v, [], rfl, hv, 0, rfl⟩
        · obtain ⟨v2, hv2⟩ := optL_ne (X := lang d s) (mx - mn).toNat
          exact ⟨v ++ v2, v, v2, rfl, hv, hv2⟩

/-- the instructions of an expression read just its words -/
theorem frag_comp {P : List Ins} {m : Nat} : ∀ (d : Nat) (r : Rx) (b : Nat), wf m d r → Plc P b (comp d b r) → Frag P b (b + (comp d b r).length) (lang d r)
  | 0, _, _, h, _ => h.elim
  | d + 1, .nd op rs mn mx subs, b, h, hp => by
    have IH := frag_comp (P := P) (m := m) d
    have NE := lang_ne (m := m) d
    simp only [wf] at h
    rcases h with ⟨rfl, -, -⟩ | ⟨rfl, -, -, -, hr⟩ | ⟨h, -⟩ | ⟨h, -, hn, -, hs⟩ | ⟨h, -, -, s, rfl, hs⟩
    · exact frag_eps b
    · exact frag_lit rs b hr hp
    · have hok : okPairs (rngs op rs) := rngs_ok (by rcases h with ⟨h1, _, h2⟩ | ⟨h1, _⟩; exact .inl ⟨h1, h2⟩; exact .inr h1)
      have hop : op = 4 ∨ op = 5 ∨ op = 6 := by omega
      have e : lang (d + 1) (.nd op rs mn mx subs) = clsL (pairs (rngs op rs)) := by
        simp only [lang]; rw [if_neg (by omega), if_neg (by omega), if_pos hop]
      have e2 : comp (d + 1) b (.nd op rs mn mx subs) = clsC b (pairs (rngs op rs)) := by
        simp only [comp]; rw [if_neg (by omega), if_neg (by omega), if_pos hop]
      rw [e2] at hp ⊢
      rw [e]
      exact (frag_cls _ hok b hp).1
    · rcases h with rfl | rfl
      · exact (frag_catC (comp d) (lang d) subs b (fun s h b hb => IH s b (hs s h) hb) (fun s h => NE s (hs s h)) hp).1
      · have e2 : comp (d + 1) b (.nd 19 rs mn mx subs) = altE (comp d) b subs := rfl
        rw [e2] at hp ⊢
        rw [altE_len]
        exact (frag_altC (comp d) (lang d) _ subs b (fun s h b hb => IH s b (hs s h) hb) (fun s h => NE s (hs s h)) (congrArg (b + ·) (altC_len (comp d) 0 _ _ b)) hp).1
    · have I := fun b hb => IH s b hs hb
      have N := NE s hs
      rcases h with rfl | rfl | rfl | rfl | rfl
      · exact I b hp
      · exact frag_star' (comp d) s b I hp
      · have e2 : comp (d + 1) b (.nd 15 rs mn mx [s]) = comp d b s ++ [.sp b (b + (comp d b s).length + 1)] := rfl
        rw [e2] at hp ⊢
        have F := frag_plus (I b hp.fst) (hp.snd rfl).head
        rw [List.length_append, ← Nat.add_assoc]
        exact F
      · have e2 : comp (d + 1) b (.nd 16 rs mn mx [s]) = .sp (b + 1) (b + 1 + (comp d (b + 1) s).length) :: comp d (b + 1) s := rfl
        rw [e2] at hp ⊢
        have F := frag_quest hp.head (I (b + 1) (hp.tail rfl))
        rw [List.length_cons, show b + ((comp d (b + 1) s).length + 1) = b + 1 + (comp d (b + 1) s).length by omega]
        exact F
      · have e2 : comp (d + 1) b (.nd 17 rs mn mx [s]) = repC (comp d) b s mn mx := rfl
        have e : lang (d + 1) (.nd 17 rs mn mx [s]) = cat2 (powL (lang d s) mn.toNat) (if mx < 0 then starL (lang d s) else optL (lang d s) (mx - mn).toNat) := rfl
        rw [e2] at hp ⊢
        rw [e]
        unfold repC at hp ⊢
        have F1 := (frag_catC (comp d) (lang d) (List.replicate mn.toNat s) b (fun s' h b hb => by rw [(List.mem_replicate.1 h).2] at hb ⊢; exact I b hb) (fun s' h => by rw [(List.mem_replicate.1 h).2]; exact N) hp.fst).1
        rw [List.map_replicate, powL_rep] at F1
        have hp2 := hp.snd rfl
        rw [List.length_append, ← Nat.add_assoc]
        split at hp2
        · rename_i hmx
          rw [if_pos hmx, if_pos hmx]
          exact frag_cat F1 (frag_star' (comp d) s _ I hp2) ⟨[], 0, rfl⟩
        · rename_i hmx
          rw [if_neg hmx, if_neg hmx]
          rw [optE_len]
          have F2 := (frag_optC (comp d) (lang d) s _ (mx - mn).toNat _ I N (congrArg (_ + ·) (optC_len (comp d) 0 _ s _ _)) hp2).1
          exact frag_cat F1 F2 (optL_ne _)

end Go.Proofs.YtbkpgfccghombaaDoor.rx

/-! Regular expressions: the compiler's memory. Conditions: none. -/
namespace Go.Proofs.YtbkpgfccghombaaDoor.rx
open Go.ChangeShapes Go.WideShapes Go.ChangeAt Go.RowKit
set_option linter.unusedVariables false

/-- an instruction's cells -/
def insC : Ins → List Value
  | .mt => [.int .i64 0, .int .u64 0, .int .u64 0, .int .u64 0, .int .u8 0, .int .u8 0]
  | .jp t => [.int .i64 1, .int .u64 t, .int .u64 0, .int .u64 0, .int .u8 0, .int .u8 0]
  | .sp a b => [.int .i64 2, .int .u64 0, .int .u64 a, .int .u64 b, .int .u8 0, .int .u8 0]
  | .rg lo hi => [.int .i64 3, .int .u64 0, .int .u64 0, .int .u64 0, .int .u8 lo, .int .u8 hi]
theorem insC_len (i : Ins) : (insC i).length = 6 := by cases i <;> rfl

/-- a block of sixteen instructions -/
def pool (code : List Ins) (j : Nat) : List Ins := (List.range 16).map fun t => code.getD (16 * j + t) .mt
def poolC (code : List Ins) (j : Nat) : List Value := (pool code j).flatMap insC
/-- where instruction i lies -/
def adr (G : List Nat) (i : Nat) : Addr := ⟨G.getD (i / 16) 0, 6 * (i % 16), none⟩

/-- the compiler's parts: its block, the two buffers, the limit, the blocks of instructions, the slices -/
structure Ks where
  C : Nat
  sb : Nat
  eb : Nat
  lim : Nat
  G : List Nat
  va : Option Addr
  vc : Nat
  pv : Value
  ra : Option Addr
  rn : Nat
  rc : Nat
  ka : Option Addr
  kn : Nat
  kc : Nat
def Ks.v (K : Ks) (n : Nat) : Value := .slice K.va n K.vc
def Ks.sv (K : Ks) : Value := .slice K.ra K.rn K.rc
def Ks.kv (K : Ks) : Value := .slice K.ka K.kn K.kc
def isAt (a : Option Addr) (k : Nat) : Prop := ∃ ad, a = some ad ∧ ad.block = k
/-- the blocks of the compiler's own -/
def Ks.O (K : Ks) (k : Nat) : Prop := k = K.C ∨ k = K.sb ∨ k = K.eb ∨ k ∈ K.G ∨ isAt K.va k ∨ isAt K.ra k ∨ isAt K.ka k
theorem own_isAt {a : Option Addr} {n c k : Nat} : (Value.slice a n c).ownBlock = some k ↔ isAt a k := by
  cases a with
  | none => simp [Value.ownBlock, isAt]
  | some ad => simp [Value.ownBlock, isAt]

def ptrs (G : List Nat) (n : Nat) : List Value := (List.range n).map fun i => .pointer (some (adr G i))
theorem ptrs_succ (G : List Nat) (n : Nat) : ptrs G (n + 1) = ptrs G n ++ [.pointer (some (adr G n))] := by simp [ptrs, List.range_succ]

def cellsK (K : Ks) (n : Nat) : List Value := [.int .u64 K.lim, K.v n, K.pv, K.sv, K.kv, .slice (some ⟨K.sb, 0, none⟩) 4 4, .slice (some ⟨K.eb, 0, none⟩) 4 4]

/-- the compiler: the instructions that are laid (code), those of them that are in the program (n) -/
structure Cs (w : World) (B : Nat) (eT : Value) (K : Ks) (code : List Ins) (n : Nat) : Prop where
  c : Blk w K.C 128 (cellsK K n)
  row : w.ownsRow B 67 1 (K.v n) n (ptrs K.G n)
  pools : ∀ j (h : j < K.G.length), Blk w K.G[j] 100 (poolC code j)
  nd : K.G.Nodup
  gl : K.G.length = (code.length + 15) / 16
  gB : ∀ g ∈ K.G, B ≤ g
  pv : code.length % 16 = 0 ∧ (∃ a c, K.pv = .slice a 0 c) ∨ code.length % 16 ≠ 0 ∧ K.pv = .slice (some (adr K.G code.length)) (16 - code.length % 16) (16 - code.length % 16)
  n : n ≤ code.length
  rv : ∃ xs, w.ownsRow B 159 1 K.sv K.rn xs
  sk : ∃ xs, w.ownsRow B 184 2 K.kv K.kn xs
  fp : Four w K.sb
  fq : Four w K.eb
  pq : K.sb ≠ K.eb
  bC : B ≤ K.C
  bs : B ≤ K.sb
  be : B ≤ K.eb
  nils : Nils w
  hB : 10 ≤ B
  hw : B ≤ w.heap.size
  err : w.cell? ⟨3, 0, none⟩ = some eT

/-- what a step may turn -/
structure Ev (K : Ks) (w w' : World) (K' : Ks) : Prop where
  fr : Fr K.O w w'
  o : ∀ k, K'.O k → K.O k ∨ w.heap.size ≤ k
  c : K'.C = K.C
  l : K'.lim = K.lim
theorem Ev.refl (K : Ks) (w : World) : Ev K w w K := ⟨Fr.refl _ _, fun _ h => .inl h, rfl, rfl⟩
theorem Ev.trans {K K' K2 : Ks} {w w' w2 : World} (h : Ev K w w' K') (h2 : Ev K' w' w2 K2) : Ev K w w2 K2 :=
  ⟨h.fr.go h2.fr (fun k _ hk => h.o k hk), fun k hk => by
    rcases h2.o k hk with h3 | h3
    · exact h.o k h3
    · exact .inr (Nat.le_trans h.fr.size h3), h2.c.trans h.c, h2.l.trans h.l⟩
theorem Ev.drewN {K K' : Ks} {w w' : World} (h : Ev K w w' K') (n : Nat) : Ev K w (w'.drewN n) K' := ⟨h.fr.drewN n, h.o, h.c, h.l⟩

/-- the blocks that hold the program -/
def Ks.P (K : Ks) (k : Nat) : Prop := k = K.C ∨ k ∈ K.G ∨ isAt K.va k
theorem Ks.P.o {K : Ks} {k : Nat} (h : K.P k) : K.O k := by
  rcases h with h | h | h
  · exact .inl h
  · exact .inr (.inr (.inr (.inl h)))
  · exact .inr (.inr (.inr (.inr (.inl h))))
/-- the buffers are the same -/
structure Same (K K' : Ks) : Prop where
  c : K'.C = K.C
  l : K'.lim = K.lim
  s : K'.sb = K.sb
  e : K'.eb = K.eb
  r : K'.ra = K.ra
  rn : K'.rn = K.rn
  rc : K'.rc = K.rc
  k : K'.ka = K.ka
  kn : K'.kn = K.kn
  kc : K'.kc = K.kc
theorem Same.refl (K : Ks) : Same K K := ⟨rfl, rfl, rfl, rfl, rfl, rfl, rfl, rfl, rfl, rfl⟩
theorem Same.trans {K K' K2 : Ks} (h : Same K K') (g : Same K' K2) : Same K K2 := ⟨g.c.trans h.c, g.l.trans h.l, g.s.trans h.s, g.e.trans h.e, g.r.trans h.r, g.rn.trans h.rn, g.rc.trans h.rc, g.k.trans h.k, g.kn.trans h.kn, g.kc.trans h.kc⟩
/-- what a step may turn that touches the program alone -/
structure Es (K : Ks) (w w' : World) (K' : Ks) : Prop where
  fr : Fr K.P w w'
  o : ∀ k, K'.P k → K.P k ∨ w.heap.size ≤ k
  same : Same K K'
theorem Es.c {K K' : Ks} {w w' : World} (h : Es K w w' K') : K'.C = K.C := h.same.c
theorem Es.refl (K : Ks) (w : World) : Es K w w K := ⟨Fr.refl _ _, fun _ h => .inl h, Same.refl K⟩
theorem Es.trans {K K' K2 : Ks} {w w' w2 : World} (h : Es K w w' K') (h2 : Es K' w' w2 K2) : Es K w w2 K2 :=
  ⟨h.fr.go h2.fr (fun k _ hk => h.o k hk), fun k hk => by
    rcases h2.o k hk with h3 | h3
    · exact h.o k h3
    · exact .inr (Nat.le_trans h.fr.size h3), h.same.trans h2.same⟩
theorem Es.ev {K K' : Ks} {w w' : World} (h : Es K w w' K') : Ev K w w' K' := ⟨h.fr.mono (fun k _ e => e.o), fun k hk => by
  rcases hk with e | e | e | e | e | e | e
  · exact .inl (.inl (e.trans h.same.c))
  · exact .inl (.inr (.inl (e.trans h.same.s)))
  · exact .inl (.inr (.inr (.inl (e.trans h.same.e))))
  · exact (h.o k (.inr (.inl e))).imp Ks.P.o id
  · exact (h.o k (.inr (.inr e))).imp Ks.P.o id
  · rw [h.same.r] at e; exact .inl (.inr (.inr (.inr (.inr (.inr (.inl e))))))
  · rw [h.same.k] at e; exact .inl (.inr (.inr (.inr (.inr (.inr (.inr e)))))), h.same.c, h.same.l⟩
theorem Es.of_below (K : Ks) {w w' : World} (h : Below w.heap.size w w') : Es K w w' K := ⟨Fr.none_of_below h, fun _ e => .inl e, Same.refl K⟩

section
variable {w w' : World} {B n : Nat} {eT : Value} {K K' : Ks} {code : List Ins}

theorem Cs.cells (h : Cs w B eT K code n) : w.cell? ⟨K.C, 0, none⟩ = some (.int .u64 K.lim) ∧ w.cell? ⟨K.C, 1, none⟩ = some (.slice K.va n K.vc) ∧ w.cell? ⟨K.C, 2, none⟩ = some K.pv ∧ w.cell? ⟨K.C, 3, none⟩ = some (.slice K.ra K.rn K.rc) ∧
    w.cell? ⟨K.C, 4, none⟩ = some (.slice K.ka K.kn K.kc) ∧ w.cell? ⟨K.C, 5, none⟩ = some (.slice (some ⟨K.sb, 0, none⟩) 4 4) ∧ w.cell? ⟨K.C, 6, none⟩ = some (.slice (some ⟨K.eb, 0, none⟩) 4 4) :=
  ⟨h.c.cell 0, h.c.cell 1, h.c.cell 2, h.c.cell 3, h.c.cell 4, h.c.cell 5, h.c.cell 6⟩

theorem Four.ge (h : Four w n) : n < w.heap.size := by
  obtain ⟨_, _, _, _, h⟩ := h
  exact h.lt
theorem Cs.O_lt (h : Cs w B eT K code n) (k : Nat) (hk : K.O k) : B ≤ k ∧ k < w.heap.size := by
  rcases hk with rfl | rfl | rfl | hk | hk | hk | hk
  · exact ⟨h.bC, h.c.lt⟩
  · exact ⟨h.bs, Four.ge h.fp⟩
  · exact ⟨h.be, Four.ge h.fq⟩
  · obtain ⟨j, hj, rfl⟩ := List.getElem_of_mem hk
    exact ⟨h.gB _ hk, (h.pools j hj).lt⟩
  · exact ⟨own_block_ge h.row k (own_isAt.2 hk), own_block_lt h.row k (own_isAt.2 hk)⟩
  · obtain ⟨xs, hr⟩ := h.rv
    exact ⟨own_block_ge hr k (own_isAt.2 hk), own_block_lt hr k (own_isAt.2 hk)⟩
  · obtain ⟨xs, hr⟩ := h.sk
    exact ⟨own_block_ge hr k (own_isAt.2 hk), own_block_lt hr k (own_isAt.2 hk)⟩
theorem Ev.below (h : Ev K w w' K') (hc : Cs w B eT K code n) : Below B w w' := h.fr.below (fun k hk hO => by have := (hc.O_lt k hO).1; omega) hc.hw

/-- what is stored elsewhere leaves the compiler as it was -/
theorem Cs.keep {O : Nat → Prop} (h : Cs w B eT K code n) (hf : Fr O w w') (hO : ∀ k, K.O k → ¬ O k) (hB : ∀ k, k < B → ¬ O k) : Cs w' B eT K code n := by
  have hb : Below B w w' := hf.below hB h.hw
  have bk : ∀ {g : Nat} {t : TypeId} {l : List Value}, Blk w g t l → K.O g → Blk w' g t l := fun hg hk => hf.blk hg (hO _ hk)
  have h4 : ∀ {g : Nat}, Four w g → K.O g → Four w' g := fun hg hk => by
    obtain ⟨_, _, _, _, hg⟩ := hg
    exact ⟨_, _, _, _, bk hg hk⟩
  exact { c := bk h.c (.inl rfl), row := hf.own h.row (fun k hk => hO k (.inr (.inr (.inr (.inr (.inl (own_isAt.1 hk)))))))
          pools := fun j hj => bk (h.pools j hj) (.inr (.inr (.inr (.inl (List.getElem_mem hj))))), nd := h.nd, gl := h.gl, gB := h.gB, pv := h.pv, n := h.n
          rv := by
            obtain ⟨xs, hr⟩ := h.rv
            exact ⟨xs, hf.own hr (fun k hk => hO k (.inr (.inr (.inr (.inr (.inr (.inl (own_isAt.1 hk))))))))⟩
          sk := by
            obtain ⟨xs, hr⟩ := h.sk
            exact ⟨xs, hf.own hr (fun k hk => hO k (.inr (.inr (.inr (.inr (.inr (.inr (own_isAt.1 hk))))))))⟩
          fp := h4 h.fp (.inr (.inl rfl)), fq := h4 h.fq (.inr (.inr (.inl rfl))), pq := h.pq, bC := h.bC, bs := h.bs, be := h.be, nils := h.nils.below hb h.hB, hB := h.hB, hw := Nat.le_trans h.hw hf.size
          err := (hb.cell (p := ⟨_, 0, none⟩) (by simp; have := h.hB; omega)).trans h.err }
theorem Cs.new (h : Cs w B eT K code n) (hb : Below w.heap.size w w') : Cs w' B eT K code n := h.keep (Fr.of_below hb) (fun _ _ e => e) (fun _ _ e => e)
theorem Cs.drewN (h : Cs w B eT K code n) (m : Nat) : Cs (w.drewN m) B eT K code n := h.new (below_drewN (Below.refl _ _) m)
end

end Go.Proofs.YtbkpgfccghombaaDoor.rx

/-! Regular expressions: what the compiler's stores do to its memory. Conditions: none. -/
namespace Go.Proofs.YtbkpgfccghombaaDoor.rx
open Go.ChangeShapes Go.WideShapes Go.ChangeAt Go.RowKit
set_option linter.unusedVariables false

theorem flat_set {α : Type} (f : α → List Value) (c : Nat) (hc : ∀ x, (f x).length = c) : ∀ (l : List α) (t k : Nat) (x' : α) (u : Value) (ht : t < l.length), k < c → f x' = (f l[t]).set k u → (l.flatMap f).set (c * t + k) u = (l.set t x').flatMap f
  | x :: l, 0, k, x', u, _, hk, he => by
    simp only [List.flatMap_cons, List.set_cons_zero, Nat.mul_zero, Nat.zero_add]
    rw [List.set_append_left _ _ (by rw [hc]; exact hk), he]
    rfl
  | x :: l, t + 1, k, x', u, ht, hk, he => by
    simp only [List.flatMap_cons, List.set_cons_succ]
    rw [List.set_append_right _ _ (by rw [hc, Nat.mul_succ]; omega), hc, show c * (t + 1) + k - c = c * t + k by rw [Nat.mul_succ]; omega, flat_set f c hc l t k x' u (by simpa using ht) hk (by simpa using he)]

theorem pool_len (code : List Ins) (j : Nat) : (pool code j).length = 16 := by simp [pool]
theorem getD_set_same {code : List Ins} {i : Nat} {x : Ins} (h : i < code.length) : (code.set i x).getD i .mt = x := by simp [List.getD_eq_getElem?_getD, h]
theorem getD_set_ne {code : List Ins} {i m : Nat} {x : Ins} (h : m ≠ i) : (code.set i x).getD m .mt = code.getD m .mt := by
  simp only [List.getD_eq_getElem?_getD, List.getElem?_set]
  rw [if_neg (fun e => h e.symm)]
theorem pool_set_at {code : List Ins} {i : Nat} {x : Ins} (h : i < code.length) : pool (code.set i x) (i / 16) = (pool code (i / 16)).set (i % 16) x := by
  apply List.ext_getElem (by simp [pool])
  intro t h1 h2
  simp only [pool, List.getElem_map, List.getElem_range, List.getElem_set]
  have hd := Nat.div_add_mod i 16
  by_cases e : i % 16 = t
  · rw [if_pos e, show 16 * (i / 16) + t = i by omega]
    exact getD_set_same h
  · rw [if_neg e]
    exact getD_set_ne (by omega)
theorem pool_set_ne {code : List Ins} {i j : Nat} {x : Ins} (h : j ≠ i / 16) : pool (code.set i x) j = pool code j := by
  apply List.ext_getElem (by simp [pool])
  intro t h1 h2
  simp only [pool, List.getElem_map, List.getElem_range]
  simp [pool] at h1
  exact getD_set_ne (by omega)
theorem pool_get {code : List Ins} {i : Nat} (h : i < code.length) : (pool code (i / 16))[i % 16]'(by rw [pool_len]; omega) = code[i] := by
  simp only [pool, List.getElem_map, List.getElem_range]
  rw [Nat.div_add_mod, List.getD_eq_getElem?_getD, List.getElem?_eq_getElem h]
  rfl
theorem poolC_set_at {code : List Ins} {i k : Nat} {x : Ins} {u : Value} (h : i < code.length) (hk : k < 6) (hx : insC x = (insC code[i]).set k u) : poolC (code.set i x) (i / 16) = (poolC code (i / 16)).set (6 * (i % 16) + k) u := by
  unfold poolC
  rw [pool_set_at h, flat_set insC 6 insC_len (pool code (i / 16)) (i % 16) k x u (by rw [pool_len]; omega) hk (by rw [pool_get h]; exact hx)]
theorem poolC_snoc (code : List Ins) (j : Nat) : poolC (code ++ [.mt]) j = poolC code j := by
  unfold poolC pool
  congr 1
  apply List.map_congr_left
  intro t _
  rw [List.getD_eq_getElem?_getD, List.getD_eq_getElem?_getD]
  rcases Nat.lt_or_ge (16 * j + t) code.length with h | h
  · rw [List.getElem?_append_left h]
  · rw [List.getElem?_append_right h, List.getElem?_eq_none h]
    rcases Nat.eq_zero_or_pos (16 * j + t - code.length) with h1 | h1
    · rw [h1]; rfl
    · rw [List.getElem?_eq_none (by simp; omega)]
/-- a block's cell -/
theorem poolC_get {code : List Ins} {i k : Nat} (h : i < code.length) (hk : k < 6) : (poolC code (i / 16))[6 * (i % 16) + k]? = (insC code[i])[k]? := by
  unfold poolC
  have := flat_get insC 6 insC_len (pool code (i / 16)) (i % 16) k hk
  rw [Nat.mul_comm] at this
  rw [this, List.getElem?_eq_getElem (by rw [pool_len]; omega), pool_get h]
  rfl

section
variable {w w' : World} {B n : Nat} {eT : Value} {K K' : Ks} {code : List Ins}
theorem Cs.adr_lt (h : Cs w B eT K code n) {i : Nat} (hi : i < code.length) : i / 16 < K.G.length := by rw [h.gl]; omega
theorem adr_block {G : List Nat} {i : Nat} (h : i / 16 < G.length) : (adr G i).block = G[i / 16] := by simp [adr, List.getD_eq_getElem?_getD, List.getElem?_eq_getElem h]
theorem Cs.ins (h : Cs w B eT K code n) {i : Nat} (hi : i < code.length) (k : Nat) (hk : k < 6) : w.cell? ⟨(adr K.G i).block, (adr K.G i).off + k, none⟩ = (insC code[i])[k]? ∧ w.frozen? ⟨(adr K.G i).block, (adr K.G i).off + k, none⟩ = false := by
  have hb := h.adr_lt hi
  rw [adr_block hb]
  have hp := h.pools _ hb
  exact ⟨(hp.cell _).trans (poolC_get hi hk), hp.frozen _⟩
theorem Cs.adr_P (h : Cs w B eT K code n) {i : Nat} (hi : i < code.length) : K.P (adr K.G i).block := by
  rw [adr_block (h.adr_lt hi)]
  exact .inr (.inl (List.getElem_mem _))

theorem four_keep {g : Nat} (h : Four w g) {p : Addr} (hp : g ≠ p.block) (u : Value) : Four (w.setCell p u) g := by
  obtain ⟨_, _, _, _, h⟩ := h
  exact ⟨_, _, _, _, h.far hp u⟩
theorem own_far {B : Nat} {e : TypeId} {size n : Nat} {v : Value} {xs : List Value} (o : w.ownsRow B e size v n xs) (p : Addr) (u : Value) (hp : v.ownBlock ≠ some p.block) : (w.setCell p u).ownsRow B e size v n xs :=
  ((Fr.refl (fun k => k = p.block) w).set p u rfl).own o (fun k hk e => hp (e ▸ hk))

/-- an instruction's cell is stored -/
theorem Cs.store (h : Cs w B eT K code n) {i : Nat} (hi : i < code.length) (k : Nat) (hk : k < 6) (x : Ins) (u : Value) (hx : insC x = (insC code[i]).set k u) :
    Cs (w.setCell ⟨(adr K.G i).block, (adr K.G i).off + k, none⟩ u) B eT K (code.set i x) n ∧ Es K w (w.setCell ⟨(adr K.G i).block, (adr K.G i).off + k, none⟩ u) K := by
  have hb := h.adr_lt hi
  have hO := h.adr_P hi
  obtain ⟨g, hg⟩ : ∃ g, g = (adr K.G i).block := ⟨_, rfl⟩
  have hgE : g = K.G[i / 16] := hg.trans (adr_block hb)
  have hp := h.pools _ hb
  rw [← hgE] at hp
  have ev : Es K w (w.setCell ⟨(adr K.G i).block, (adr K.G i).off + k, none⟩ u) K := ⟨(Fr.refl _ _).set _ _ hO, fun _ e => .inl e, Same.refl K⟩
  have hbl := ev.ev.below h
  rw [← hg] at ev hbl ⊢
  obtain ⟨xr, hr⟩ := h.rv
  obtain ⟨xk, hk2⟩ := h.sk
  have n1 := h.c.ne_ hp (by decide)
  have n2 : K.sb ≠ g := fun e => h.fp.ne_blk hp (by decide) e.symm
  have n3 : K.eb ≠ g := fun e => h.fq.ne_blk hp (by decide) e.symm
  refine ⟨{ c := h.c.far n1 _, row := own_far h.row _ _ (row_blk h.row hp (by decide)), pools := fun j hj => ?_, nd := h.nd, gl := by rw [List.length_set]; exact h.gl, gB := h.gB, pv := by rw [List.length_set]; exact h.pv, n := by rw [List.length_set]; exact h.n
            rv := ⟨xr, own_far hr _ _ (row_blk hr hp (by decide))⟩, sk := ⟨xk, own_far hk2 _ _ (row_blk hk2 hp (by decide))⟩
            fp := four_keep h.fp n2 _, fq := four_keep h.fq n3 _, pq := h.pq, bC := h.bC, bs := h.bs, be := h.be, nils := h.nils.below hbl h.hB, hB := h.hB, hw := Nat.le_trans h.hw ev.fr.size
            err := (hbl.cell (p := ⟨_, 0, none⟩) (by simp; have := h.hB; omega)).trans h.err }, ev⟩
  by_cases e : j = i / 16
  · subst e
    rw [poolC_set_at hi hk hx, ← hgE]
    have := hp.set_ (6 * (i % 16) + k) u
    exact this
  · have hne : K.G[j] ≠ g := by
      rw [hgE]
      intro e2
      exact e ((List.getElem_inj h.nd).1 e2)
    unfold poolC
    rw [pool_set_ne e]
    exact (h.pools j hj).far hne u

/-- one of the compiler's own slices is stored -/
theorem Cs.setC (h : Cs w B eT K code n) (K2 : Ks) (n2 i : Nat) (u : Value) (hc : cellsK K2 n2 = (cellsK K n).set i u) (e1 : K2.C = K.C) (e2 : K2.sb = K.sb) (e3 : K2.eb = K.eb) (e4 : K2.lim = K.lim) (e5 : K2.G = K.G)
    (hrow : w.ownsRow B 67 1 (K2.v n2) n2 (ptrs K.G n2)) (hn : n2 ≤ code.length)
    (hrv : ∃ xs, w.ownsRow B 159 1 K2.sv K2.rn xs) (hsk : ∃ xs, w.ownsRow B 184 2 K2.kv K2.kn xs)
    (code2 : List Ins) (hn2 : n2 ≤ code2.length) (hpool : ∀ j, poolC code2 j = poolC code j) (hgl : K.G.length = (code2.length + 15) / 16)
    (hpv : code2.length % 16 = 0 ∧ (∃ a c, K2.pv = .slice a 0 c) ∨ code2.length % 16 ≠ 0 ∧ K2.pv = .slice (some (adr K2.G code2.length)) (16 - code2.length % 16) (16 - code2.length % 16)) :
    Cs (w.setCell ⟨K.C, i, none⟩ u) B eT K2 code2 n2 := by
  have n2 : K.sb ≠ K.C := fun e => h.fp.ne_blk h.c (by decide) e.symm
  have n3 : K.eb ≠ K.C := fun e => h.fq.ne_blk h.c (by decide) e.symm
  have hbl : Below B w (w.setCell ⟨K.C, i, none⟩ u) := (Below.refl B w).setCell (p := ⟨K.C, i, none⟩) h.bC u
  obtain ⟨xr, hr⟩ := hrv
  obtain ⟨xk, hk2⟩ := hsk
  exact { c := by rw [e1, hc]; exact h.c.set_ i u
          row := by rw [e5]; exact own_far hrow _ _ (row_blk hrow h.c (by decide))
          pools := fun j hj => by
            have hj' : j < K.G.length := by rw [← e5]; exact hj
            rw [hpool j]
            simp only [e5]
            exact (h.pools j hj').far (fun e => (h.pools j hj').ne_ h.c (by decide) e) u
          nd := by rw [e5]; exact h.nd, gl := by rw [e5]; exact hgl, gB := by rw [e5]; exact h.gB, pv := hpv, n := hn2
          rv := ⟨xr, own_far hr _ _ (row_blk hr h.c (by decide))⟩, sk := ⟨xk, own_far hk2 _ _ (row_blk hk2 h.c (by decide))⟩
          fp := by rw [e2]; exact four_keep h.fp n2 _
          fq := by rw [e3]; exact four_keep h.fq n3 _
          pq := by rw [e2, e3]; exact h.pq
          bC := by rw [e1]; exact h.bC
          bs := by rw [e2]; exact h.bs
          be := by rw [e3]; exact h.be
          nils := h.nils.below hbl h.hB, hB := h.hB, hw := Nat.le_trans h.hw hbl.size
          err := (hbl.cell (p := ⟨_, 0, none⟩) (by simp; have := h.hB; omega)).trans h.err }
end

end Go.Proofs.YtbkpgfccghombaaDoor.rx

/-! Regular expressions: the compiler's small functions. Conditions: as stated. -/
namespace Go.Proofs.YtbkpgfccghombaaDoor.rx
open Go.ChangeShapes Go.WideShapes Go.ChangeAt Go.RowKit
set_option linter.unusedVariables false

section
variable {w : World} {B n : Nat} {eT : Value} {K : Ks} {code : List Ins}

theorem top_any (h : Cs w B eT K code n) (hn : n ≤ 2199023255552) : Calls Tryd.prog 71 #[.pointer (some ⟨K.C, 0, none⟩)] w fun e w' => e = .returned (.int .u64 n) ∧ w = w' := by
  obtain ⟨-, c1, -⟩ := h.cells
  clear h
  go_enter Tryd.func71, Tryd.ntmps71
  go_wp2
  go_ret
  exact ⟨rfl, rfl⟩

theorem check_ok (h : Cs w B eT K code n) (hn : n ≤ 2199023255552) (hl : K.lim ≤ 1000000000000) (hle : n * 40 ≤ K.lim) : Calls Tryd.prog 75 #[.pointer (some ⟨K.C, 0, none⟩)] w fun e w' => e = .returned .nilIface ∧ ∃ m, w' = w.drewN m := by
  obtain ⟨c0, c1, -⟩ := h.cells
  have hd : decide (K.lim < n * 40) = false := decide_eq_false (by omega)
  have hd2 : ¬ (K.lim : Int) < (n : Int) * 40 := by omega
  have mixed : Tryd.prog.follows .mixedOrders = true := by kernel_rfl
  clear h
  go_enter Tryd.func75, Tryd.ntmps75
  go_wp2
  go_quiet (fail)
  go_wp2
  go_ret
  exact ⟨rfl, _, rfl⟩
theorem check_big (h : Cs w B eT K code n) (hn : n ≤ 2199023255552) (hl : K.lim ≤ 1000000000000) (hle : K.lim < n * 40) : Calls Tryd.prog 75 #[.pointer (some ⟨K.C, 0, none⟩)] w fun e w' => e = .returned eT ∧ ∃ m, w' = w.drewN m := by
  obtain ⟨c0, c1, -⟩ := h.cells
  have he := h.err
  have hd2 : (K.lim : Int) < (n : Int) * 40 := by omega
  have mixed : Tryd.prog.follows .mixedOrders = true := by kernel_rfl
  clear h
  go_enter Tryd.func75, Tryd.ntmps75
  go_wp2
  go_quiet (fail)
  go_wp2
  go_ret
  exact ⟨rfl, _, rfl⟩

/-- a new instruction is laid, not yet in the program -/
def NewIns (w : World) (B : Nat) (eT : Value) (K : Ks) (code : List Ins) (n : Nat) (e : Ending) (w' : World) : Prop :=
  ∃ K', e = .returned (.pointer (some (adr K'.G code.length))) ∧ Cs w' B eT K' (code ++ [.mt]) n ∧ Es K w w' K' ∧ K'.va = K.va ∧ K'.vc = K.vc

theorem adr_add {G : List Nat} {i : Nat} (h : (i + 1) % 16 ≠ 0) : (adr G i).add 6 = adr G (i + 1) := by
  have e1 : (i + 1) / 16 = i / 16 := by omega
  have e2 : (i + 1) % 16 = i % 16 + 1 := by omega
  simp [adr, Addr.add, e1, e2, Nat.mul_add]

theorem Cs.more (h : Cs w B eT K code n) (hr : code.length % 16 ≠ 0) (u : Value) (hu : (code.length + 1) % 16 = 0 ∧ (∃ a c, u = .slice a 0 c) ∨ (code.length + 1) % 16 ≠ 0 ∧ u = .slice (some (adr K.G (code.length + 1))) (16 - (code.length + 1) % 16) (16 - (code.length + 1) % 16)) :
    NewIns w B eT K code n (.returned (.pointer (some (adr K.G code.length)))) (w.setCell ⟨K.C, 2, none⟩ u) := by
  refine ⟨{ K with pv := u }, rfl, ?_, ⟨(Fr.refl _ _).set _ _ (.inl rfl), fun k e => .inl e, ⟨rfl, rfl, rfl, rfl, rfl, rfl, rfl, rfl, rfl, rfl⟩⟩, rfl, rfl⟩
  refine h.setC { K with pv := u } n 2 u rfl rfl rfl rfl rfl rfl h.row h.n h.rv h.sk (code ++ [.mt]) (by simp; have := h.n; omega) (poolC_snoc code) ?_ ?_
  · rw [h.gl]; simp; omega
  · simpa using hu

/-- the pool still has room -/
theorem alloc_more (h : Cs w B eT K code n) (hr : code.length % 16 ≠ 0) : Calls Tryd.prog 57 #[.pointer (some ⟨K.C, 0, none⟩)] w (NewIns w B eT K code n) := by
  obtain ⟨c0, c1, c2, c3, c4, c5, c6⟩ := h.cells
  have f2 := h.c.frozen 2
  rcases h.pv with ⟨h0, -⟩ | ⟨-, hpv⟩
  · exact absurd h0 hr
  rw [hpv] at c2
  obtain ⟨r, hrr⟩ : ∃ r, r = 16 - code.length % 16 := ⟨_, rfl⟩
  rw [← hrr] at c2
  have hr2 : (0 : Int) < (r : Int) := by omega
  have hr15 : (1 : Int) ≤ (r : Int) := by omega
  have HM := Lib.hid (fun u hu => h.more hr u hu)
  by_cases hr1 : r = 1
  · subst hr1
    have HC := Lib.hid (HM.out (.slice (some (adr K.G code.length)) 0 0) (.inl ⟨by omega, _, _, rfl⟩))
    clear h hpv hrr HM hr hr2 hr15
    go_enter Tryd.func57, Tryd.ntmps57
    go_wp2
    go_ret
    exact HC.out
  · have HC := Lib.hid (HM.out (.slice (some ((adr K.G code.length).add 6)) (r - 1) (r - 1)) (.inr ⟨by omega, by rw [adr_add (by omega), show r - 1 = 16 - (code.length + 1) % 16 by omega]⟩))
    have hrle : ¬ (r : Int) ≤ 0 := by omega
    clear h hpv hrr HM hr
    go_enter Tryd.func57, Tryd.ntmps57
    go_wp2
    go_ret
    exact HC.out

theorem getD_last {G : List Nat} {g m : Nat} (h : m = G.length) : (G ++ [g]).getD m 0 = g := by subst h; simp
theorem getD_old {G : List Nat} {g m : Nat} (h : m < G.length) : (G ++ [g]).getD m 0 = G.getD m 0 := by
  rw [List.getD_eq_getElem?_getD, List.getD_eq_getElem?_getD, List.getElem?_append_left h]
theorem ptrs_old {G : List Nat} {g n : Nat} (h : ∀ i, i < n → i / 16 < G.length) : ptrs (G ++ [g]) n = ptrs G n := by
  unfold ptrs
  apply List.map_congr_left
  intro i hi
  simp only [adr, getD_old (h i (List.mem_range.1 hi))]

def zeroPool : List Value := (List.replicate 16 Ins.mt).flatMap insC

/-- a new pool is laid -/
theorem Cs.fresh (h : Cs w B eT K code n) (hr : code.length % 16 = 0) (v1 : Value) :
    NewIns w B eT K code n (.returned (.pointer (some ⟨w.heap.size, 0, none⟩))) (((w.alloc (.cells zeroPool.toArray 100)).setCell ⟨K.C, 2, none⟩ v1).setCell ⟨K.C, 2, none⟩ (.slice (some ⟨w.heap.size, 6, none⟩) 15 15)) := by
  have hg : code.length / 16 = K.G.length := by rw [h.gl]; omega
  have hb : Below w.heap.size w (w.alloc (.cells zeroPool.toArray 100)) := (Below.refl _ _).alloc (Nat.le_refl _) _
  have h1 := h.new hb
  have hp := Blk.new w 100 zeroPool
  have hne : K.C ≠ w.heap.size := by have := h.c.lt; omega
  obtain ⟨w1, hw1⟩ : ∃ w1, w1 = w.alloc (.cells zeroPool.toArray 100) := ⟨_, rfl⟩
  rw [← hw1] at hb h1 hp ⊢
  have hlt := h.c.lt
  have e1 : adr (K.G ++ [w.heap.size]) code.length = ⟨w.heap.size, 0, none⟩ := by unfold adr; rw [getD_last hg, hr]
  have hB1 : Below B w w1 := hb.mono h.hw
  have hold : ∀ i, i < n → i / 16 < K.G.length := fun i hi => h.adr_lt (Nat.lt_of_lt_of_le hi h.n)
  let K2 : Ks := { K with G := K.G ++ [w.heap.size], pv := .slice (some ⟨w.heap.size, 6, none⟩) 15 15 }
  have b2 : Below B w1 ((w1.setCell ⟨K.C, 2, none⟩ v1).setCell ⟨K.C, 2, none⟩ (.slice (some ⟨w.heap.size, 6, none⟩) 15 15)) := ((Below.refl _ _).setCell (p := ⟨K.C, 2, none⟩) h.bC _).setCell (p := ⟨K.C, 2, none⟩) h.bC _
  obtain ⟨xr, hrv⟩ := h1.rv
  obtain ⟨xk, hsk⟩ := h1.sk
  have n2 : K.sb ≠ K.C := fun e => h.fp.ne_blk h.c (by decide) e.symm
  have n3 : K.eb ≠ K.C := fun e => h.fq.ne_blk h.c (by decide) e.symm
  have far2 : ∀ {g : Nat} {t : TypeId} {l : List Value}, Blk w1 g t l → g ≠ K.C → ∀ u1 u2, Blk ((w1.setCell ⟨K.C, 2, none⟩ u1).setCell ⟨K.C, 2, none⟩ u2) g t l := fun hk hn u1 u2 => (hk.far hn u1).far hn u2
  have own2 : ∀ {e : TypeId} {k m : Nat} {v : Value} {xs : List Value}, w1.ownsRow B e k v m xs → e ≠ 128 → ∀ u1 u2, ((w1.setCell ⟨K.C, 2, none⟩ u1).setCell ⟨K.C, 2, none⟩ u2).ownsRow B e k v m xs := fun ho hn u1 u2 =>
    own_far (own_far ho _ _ (row_blk ho h1.c hn)) _ _ (row_blk ho h1.c hn)
  refine ⟨K2, by rw [e1], ?_, ⟨(((Fr.refl K.P w).go (w := w) (w' := w1) (Fr.of_below hb) (fun _ _ e => e.elim)).set _ _ (.inl rfl)).set _ _ (.inl rfl), fun k e => ?_, ⟨rfl, rfl, rfl, rfl, rfl, rfl, rfl, rfl, rfl, rfl⟩⟩, rfl, rfl⟩
  · exact { c := by
              have := (h1.c.set_ 2 v1).set_ 2 (.slice (some ⟨w.heap.size, 6, none⟩) 15 15)
              exact this
            row := by
              have := own2 h1.row (by decide) v1 (.slice (some ⟨w.heap.size, 6, none⟩) 15 15)
              show ((w1.setCell ⟨K.C, 2, none⟩ v1).setCell ⟨K.C, 2, none⟩ _).ownsRow B _ 1 (K.v n) n (ptrs (K.G ++ [w.heap.size]) n)
              rw [ptrs_old hold]
              exact this
            pools := fun j hj => by
              rw [poolC_snoc]
              rcases Nat.lt_or_ge j K.G.length with hj2 | hj2
              · show Blk _ ((K.G ++ [w.heap.size])[j]) _ _
                rw [List.getElem_append_left hj2]
                exact far2 (h1.pools j hj2) ((h1.pools j hj2).ne_ h1.c (by decide)) _ _
              · have hj3 : j = K.G.length := by
                  have : j < (K.G ++ [w.heap.size]).length := hj
                  simp at this
                  omega
                subst hj3
                show Blk _ ((K.G ++ [w.heap.size])[K.G.length]) _ _
                rw [List.getElem_append_right (Nat.le_refl _)]
                simp only [Nat.sub_self, List.getElem_singleton]
                have e2 : poolC code K.G.length = zeroPool := by
                  unfold poolC zeroPool pool
                  congr 1
                  apply List.ext_getElem (by simp)
                  intro t h1 h2
                  simp only [List.getElem_map, List.getElem_range, List.getElem_replicate]
                  rw [List.getD_eq_getElem?_getD, List.getElem?_eq_none (by omega)]
                  rfl
                rw [e2]
                exact far2 hp (fun e => hne e.symm) _ _
            nd := by
              show (K.G ++ [w.heap.size]).Nodup
              rw [List.nodup_append]
              refine ⟨h.nd, by simp, fun a ha b hb2 => ?_⟩
              simp at hb2
              subst hb2
              intro e
              have := (h.O_lt a (.inr (.inr (.inr (.inl ha))))).2
              omega
            gl := by
              show (K.G ++ [w.heap.size]).length = _
              simp
              omega
            gB := fun g hg2 => by
              rcases List.mem_append.1 hg2 with hg2 | hg2
              · exact h.gB g hg2
              · simp at hg2
                subst hg2
                exact h.hw
            pv := .inr (by
              have e3 : (code ++ [Ins.mt]).length = code.length + 1 := by simp
              rw [e3]
              refine ⟨by omega, ?_⟩
              show Value.slice (some ⟨w.heap.size, 6, none⟩) 15 15 = _
              have e4 : adr (K.G ++ [w.heap.size]) (code.length + 1) = ⟨w.heap.size, 6, none⟩ := by
                have : (code.length + 1) / 16 = K.G.length := by omega
                have e5 : (code.length + 1) % 16 = 1 := by omega
                unfold adr
                rw [getD_last this, e5]
              show _ = Value.slice (some (adr (K.G ++ [w.heap.size]) (code.length + 1))) _ _
              rw [e4, show (code.length + 1) % 16 = 1 by omega])
            n := by simp; have := h.n; omega
            rv := ⟨xr, own2 hrv (by decide) _ _⟩
            sk := ⟨xk, own2 hsk (by decide) _ _⟩
            fp := four_keep (four_keep h1.fp n2 _) n2 _
            fq := four_keep (four_keep h1.fq n3 _) n3 _
            pq := h.pq, bC := h.bC, bs := h.bs, be := h.be, nils := h1.nils.below b2 h.hB, hB := h.hB, hw := Nat.le_trans h1.hw b2.size
            err := (b2.cell (p := ⟨_, 0, none⟩) (by simp; have := h.hB; omega)).trans h1.err }
  · rcases e with e | e | e
    · exact .inl (.inl e)
    · rcases List.mem_append.1 e with e | e
      · exact .inl (.inr (.inl e))
      · simp at e
        exact .inr (by omega)
    · exact .inl (.inr (.inr e))

theorem alloc_fresh (h : Cs w B eT K code n) (hr : code.length % 16 = 0) : Calls Tryd.prog 57 #[.pointer (some ⟨K.C, 0, none⟩)] w (NewIns w B eT K code n) := by
  obtain ⟨c0, c1, c2, c3, c4, c5, c6⟩ := h.cells
  have f2 := h.c.frozen 2
  rcases h.pv with ⟨-, a, c, hpv⟩ | ⟨h0, -⟩
  · rw [hpv] at c2
    have hmk : ∀ w, (Instr.makeSlice 122 (.int .i64 16) (.int .i64 16)).run Tryd.prog w = .ok (.slice (some ⟨w.heap.size, 0, none⟩) 16 16) (w.alloc (.cells zeroPool.toArray 100)) := fun w => by kernel_rfl
    have HC := Lib.hid (h.fresh hr (.slice (some ⟨w.heap.size, 0, none⟩) 16 16))
    have B2 := (h.new ((Below.refl w.heap.size w).alloc (Nat.le_refl _) (.cells zeroPool.toArray 100))).c
    have g2 := B2.cell 2
    have g2' : (w.alloc (.cells zeroPool.toArray 100)).cell? ⟨K.C, 2, none⟩ = some (.slice a 0 c) := by rw [g2]; show some K.pv = _; rw [hpv]
    have f2' := B2.frozen 2
    clear h hpv g2 B2
    generalize zeroPool.toArray = z at *
    go_enter Tryd.func57, Tryd.ntmps57
    go_wp2
    go_ret
    exact HC.out
  · exact absurd hr h0

theorem alloc_any (h : Cs w B eT K code n) : Calls Tryd.prog 57 #[.pointer (some ⟨K.C, 0, none⟩)] w (NewIns w B eT K code n) := by
  by_cases hr : code.length % 16 = 0
  · exact alloc_fresh h hr
  · exact alloc_more h hr

theorem infoP : (Tryd.prog.info? 67).map (fun i => (i.zero, i.size, i.bytes)) = some (some (.pointer none), 1, 8) := by kernel_rfl

/-- the new instruction is put into the program -/
theorem Cs.put (h : Cs w B eT K code n) (hn : n < code.length) {w' : World} {v' : Value} (ho : w'.ownsRow B 67 1 v' (n + 1) (ptrs K.G n ++ [.pointer (some (adr K.G n))])) (hg : w.grownBy w' (K.v n).ownBlock)
    (hat : ∀ k, v'.ownBlock = some k → (K.v n).ownBlock = some k ∨ w.heap.size ≤ k) : ∃ K', Cs (w'.setCell ⟨K.C, 1, none⟩ v') B eT K' code (n + 1) ∧ Es K w (w'.setCell ⟨K.C, 1, none⟩ v') K' := by
  obtain ⟨a, c, rfl⟩ := own_value ho
  have hO : ∀ k, (K.v n).ownBlock = some k → K.P k := fun k e => .inr (.inr (own_isAt.1 e))
  have fO : Fr K.P w w' := Fr.of_grown hg hO
  have hB : Below B w w' := fO.below (fun k hk e => by have := (h.O_lt k e.o).1; omega) h.hw
  -- all but the row of the program stands
  obtain ⟨xr, hr⟩ := h.rv
  obtain ⟨xk, hsk⟩ := h.sk
  have bk : ∀ {g : Nat} {t : TypeId} {l : List Value}, Blk w g t l → t ≠ 67 → Blk w' g t l := fun hb ht => hb.grown hg (fun e => row_blk h.row hb (fun e2 => ht e2.symm) e.symm)
  have h4 : ∀ {g : Nat}, Four w g → Four w' g := fun hf => by
    obtain ⟨_, _, _, _, hf⟩ := hf
    exact ⟨_, _, _, _, bk hf (by decide)⟩
  have C' := bk h.c (by decide)
  let K2 : Ks := { K with va := a, vc := c }
  have n2 : K.sb ≠ K.C := fun e => h.fp.ne_blk h.c (by decide) e.symm
  have n3 : K.eb ≠ K.C := fun e => h.fq.ne_blk h.c (by decide) e.symm
  have b2 : Below B w' (w'.setCell ⟨K.C, 1, none⟩ (.slice a (n + 1) c)) := (Below.refl _ _).setCell (p := ⟨K.C, 1, none⟩) h.bC _
  refine ⟨K2, ?_, ⟨fO.set _ _ (.inl rfl), fun k e => ?_, ⟨rfl, rfl, rfl, rfl, rfl, rfl, rfl, rfl, rfl, rfl⟩⟩⟩
  · exact { c := by
              have := C'.set_ 1 (.slice a (n + 1) c)
              exact this
            row := by
              have := own_far ho ⟨K.C, 1, none⟩ (.slice a (n + 1) c) (row_blk ho C' (by decide))
              show (w'.setCell ⟨K.C, 1, none⟩ _).ownsRow B _ 1 (.slice a (n + 1) c) (n + 1) (ptrs K.G (n + 1))
              rw [ptrs_succ]
              exact this
            pools := fun j hj => (bk (h.pools j hj) (by decide)).far ((h.pools j hj).ne_ h.c (by decide)) _
            nd := h.nd, gl := h.gl, gB := h.gB, pv := h.pv, n := hn
            rv := ⟨xr, own_far (hr.kept hg (rows_apart hr h.row (by decide)).kept) _ _ (row_blk (hr.kept hg (rows_apart hr h.row (by decide)).kept) C' (by decide))⟩
            sk := ⟨xk, own_far (hsk.kept hg (rows_apart hsk h.row (by decide)).kept) _ _ (row_blk (hsk.kept hg (rows_apart hsk h.row (by decide)).kept) C' (by decide))⟩
            fp := four_keep (h4 h.fp) n2 _, fq := four_keep (h4 h.fq) n3 _
            pq := h.pq, bC := h.bC, bs := h.bs, be := h.be, nils := (h.nils.below hB h.hB).below b2 h.hB, hB := h.hB, hw := Nat.le_trans (Nat.le_trans h.hw hg.size) b2.size
            err := (b2.cell (p := ⟨_, 0, none⟩) (by simp; have := h.hB; omega)).trans ((hB.cell (p := ⟨_, 0, none⟩) (by simp; have := h.hB; omega)).trans h.err) }
  · rcases e with e | e | e
    · exact .inl (.inl e)
    · exact .inl (.inr (.inl e))
    · rcases hat k (own_isAt.2 e) with e1 | e1
      · exact .inl (hO k e1)
      · exact .inr e1

/-- the program is longer by what ends in x -/
def Longer (w : World) (B : Nat) (eT : Value) (K : Ks) (code : List Ins) (r : Value) (e : Ending) (w' : World) : Prop := ∃ K', e = .returned r ∧ Cs w' B eT K' code code.length ∧ Es K w w' K'

theorem name_world {P : Program} {c : Code} {Q : Exit → Act → World → Prop} {a : Act} {w : World} (h : ∀ w1, w1 = w → Code.wp P c Q a w1) : Code.wp P c Q a w := h w rfl

theorem Cs.opcell (h : Cs w B eT K code n) {i : Nat} (hi : i < code.length) : w.cell? (adr K.G i) = (insC code[i])[0]? ∧ w.frozen? (adr K.G i) = false := h.ins hi 0 (by omega)
theorem mt_set (code : List Ins) (x : Ins) : (code ++ [Ins.mt]).set code.length x = code ++ [x] := by simp

set_option maxRecDepth 100000 in
theorem split_any (h : Cs w B eT K code code.length) (hn : code.length ≤ 1099511627776) : Calls Tryd.prog 70 #[.pointer (some ⟨K.C, 0, none⟩)] w (Longer w B eT K (code ++ [.sp 0 0]) (.int .u64 code.length)) := by
  obtain ⟨i0, hi, hz0, hz1, hz2⟩ := info_parts infoP
  have CA := Lib.hid (alloc_any h)
  have HW := Lib.hid h.hw
  clear h
  go_enter Tryd.func70, Tryd.ntmps70
  go_upto_region 3 with (first | (go_at_call 57; refine CA.out.mono ?_; rintro e w1 ⟨K1, rfl, h1, ev1, -, -⟩; have H1 := Lib.hid h1; have EV1 := Lib.hid ev1; obtain ⟨o0, o1⟩ := h1.opcell (i := code.length) (by simp); simp only [List.getElem_concat_length, insC, List.getElem?_cons_zero] at o0; clear h1 ev1) | fail)
  refine name_world ?_
  intro w2 hw2
  have S2 := Lib.hid (H1.out.store (i := code.length) (by simp) 0 (by omega) (.sp 0 0) (.int .i64 2) (by simp [insC]))
  have H2 := Lib.hid (show Cs w2 B eT K1 (code ++ [.sp 0 0]) code.length by rw [hw2, ← mt_set]; exact S2.out.1)
  have EV2 := Lib.hid (show Es K w w2 K1 by rw [hw2]; exact EV1.out.trans S2.out.2)
  have c1 := H2.out.cells.2.1
  have f1 := H2.out.c.frozen 1
  rw [EV1.out.c] at c1 f1
  clear S2 H1 hw2 o0 o1 CA
  have C2 := Lib.hid (show ∀ (w3 : World) (row : Option Nat), w2.grownBy w3 row → row = (K1.v code.length).ownBlock → w3.cell? ⟨K.C, 1, none⟩ = some (.slice K1.va code.length K1.vc) ∧ w3.frozen? ⟨K.C, 1, none⟩ = false from fun w3 row hg e => by
    have := H2.out.c.grown hg (fun e2 => row_blk H2.out.row H2.out.c (by decide) (e ▸ e2.symm))
    rw [← EV1.out.c]
    exact ⟨this.cell 1, this.frozen 1⟩)
  have PUT := Lib.hid (fun (w3 : World) (v3 : Value) ho hg hat => H2.out.put (w' := w3) (v' := v3) (by simp) ho hg hat)
  go_upto_region 4 with (first | (at_builtin; refine append1_at w2 #[.pointer (some (adr K1.G code.length))] rfl (.tmp 13) (.tmp 15) 59 rfl B 67 i0 _ 1 8 Tryd.underlying59 hi hz0 hz1 hz2 rfl (by omega) rfl (.slice K1.va code.length K1.vc) code.length (ptrs K1.G code.length) rfl H2.out.row w2.heap.size rfl rfl (by simp [Value.oneCell']) (by unfold maxLen; omega) (by omega) H2.out.hw ?_; intro v3 w3 ho3 hg3 _ hat3; obtain ⟨a3, c3, rfl⟩ := own_value ho3; obtain ⟨d1, d2⟩ := C2.out _ _ hg3 rfl; have P3 := Lib.hid (PUT.out _ _ ho3 hg3 hat3); clear ho3 hg3 hat3 c1 f1) | fail)
  refine name_world ?_
  intro w4 hw4
  obtain ⟨K4, h4, ev4⟩ := P3.out
  rw [EV1.out.c, ← hw4] at h4 ev4
  have H4 := Lib.hid (show Longer w B eT K (code ++ [.sp 0 0]) (.int .u64 code.length) (.returned (.int .u64 code.length)) w4 from ⟨K4, rfl, by simpa using h4, EV2.out.trans ev4⟩)
  have T := top_any h4 (by omega)
  rw [ev4.c, EV1.out.c] at T
  have CT := Lib.hid T
  clear h4 ev4 T P3 PUT C2 EV2 EV1 H2 d1 d2 hw4
  go_wp2_with (go_at_call 71; refine CT.out.mono ?_; rintro e w5 ⟨rfl, rfl⟩)
  go_ret
  exact H4.out

set_option maxRecDepth 100000 in
theorem jump_any (h : Cs w B eT K code code.length) (hn : code.length ≤ 1099511627776) : Calls Tryd.prog 72 #[.pointer (some ⟨K.C, 0, none⟩)] w (Longer w B eT K (code ++ [.jp 0]) (.int .u64 code.length)) := by
  obtain ⟨i0, hi, hz0, hz1, hz2⟩ := info_parts infoP
  have CA := Lib.hid (alloc_any h)
  have HW := Lib.hid h.hw
  clear h
  go_enter Tryd.func72, Tryd.ntmps72
  go_upto_region 3 with (first | (go_at_call 57; refine CA.out.mono ?_; rintro e w1 ⟨K1, rfl, h1, ev1, -, -⟩; have H1 := Lib.hid h1; have EV1 := Lib.hid ev1; obtain ⟨o0, o1⟩ := h1.opcell (i := code.length) (by simp); simp only [List.getElem_concat_length, insC, List.getElem?_cons_zero] at o0; clear h1 ev1) | fail)
  refine name_world ?_
  intro w2 hw2
  have S2 := Lib.hid (H1.out.store (i := code.length) (by simp) 0 (by omega) (.jp 0) (.int .i64 1) (by simp [insC]))
  have H2 := Lib.hid (show Cs w2 B eT K1 (code ++ [.jp 0]) code.length by rw [hw2, ← mt_set]; exact S2.out.1)
  have EV2 := Lib.hid (show Es K w w2 K1 by rw [hw2]; exact EV1.out.trans S2.out.2)
  have c1 := H2.out.cells.2.1
  have f1 := H2.out.c.frozen 1
  rw [EV1.out.c] at c1 f1
  clear S2 H1 hw2 o0 o1 CA
  have C2 := Lib.hid (show ∀ (w3 : World) (row : Option Nat), w2.grownBy w3 row → row = (K1.v code.length).ownBlock → w3.cell? ⟨K.C, 1, none⟩ = some (.slice K1.va code.length K1.vc) ∧ w3.frozen? ⟨K.C, 1, none⟩ = false from fun w3 row hg e => by
    have := H2.out.c.grown hg (fun e2 => row_blk H2.out.row H2.out.c (by decide) (e ▸ e2.symm))
    rw [← EV1.out.c]
    exact ⟨this.cell 1, this.frozen 1⟩)
  have PUT := Lib.hid (fun (w3 : World) (v3 : Value) ho hg hat => H2.out.put (w' := w3) (v' := v3) (by simp) ho hg hat)
  go_upto_region 4 with (first | (at_builtin; refine append1_at w2 #[.pointer (some (adr K1.G code.length))] rfl (.tmp 13) (.tmp 15) 59 rfl B 67 i0 _ 1 8 Tryd.underlying59 hi hz0 hz1 hz2 rfl (by omega) rfl (.slice K1.va code.length K1.vc) code.length (ptrs K1.G code.length) rfl H2.out.row w2.heap.size rfl rfl (by simp [Value.oneCell']) (by unfold maxLen; omega) (by omega) H2.out.hw ?_; intro v3 w3 ho3 hg3 _ hat3; obtain ⟨a3, c3, rfl⟩ := own_value ho3; obtain ⟨d1, d2⟩ := C2.out _ _ hg3 rfl; have P3 := Lib.hid (PUT.out _ _ ho3 hg3 hat3); clear ho3 hg3 hat3 c1 f1) | fail)
  refine name_world ?_
  intro w4 hw4
  obtain ⟨K4, h4, ev4⟩ := P3.out
  rw [EV1.out.c, ← hw4] at h4 ev4
  have H4 := Lib.hid (show Longer w B eT K (code ++ [.jp 0]) (.int .u64 code.length) (.returned (.int .u64 code.length)) w4 from ⟨K4, rfl, by simpa using h4, EV2.out.trans ev4⟩)
  have T := top_any h4 (by omega)
  rw [ev4.c, EV1.out.c] at T
  have CT := Lib.hid T
  clear h4 ev4 T P3 PUT C2 EV2 EV1 H2 d1 d2 hw4
  go_wp2_with (go_at_call 71; refine CT.out.mono ?_; rintro e w5 ⟨rfl, rfl⟩)
  go_ret
  exact H4.out


/-- what is set in the program -/
def SetIn (w : World) (B : Nat) (eT : Value) (K : Ks) (code : List Ins) (n : Nat) (e : Ending) (w' : World) : Prop := e = .returned (.tuple #[]) ∧ Cs w' B eT K code n ∧ Es K w w' K

theorem add_num {w : World} {ad : Addr} {i : Nat} {v : Value} (h : w.cell? (ad.add i) = some v) : w.cell? (ad.add i) = some v := h

theorem sets_any (h : Cs w B eT K code code.length) (hn : code.length ≤ 1099511627776) (i a b x y : Nat) (hi : i < code.length) (hx : code[i] = .sp x y) :
    Calls Tryd.prog 73 #[.pointer (some ⟨K.C, 0, none⟩), .int .u64 i, .int .u64 a, .int .u64 b] w (SetIn w B eT K (code.set i (.sp a b)) code.length) := by
  obtain ⟨-, c1, -⟩ := h.cells
  obtain ⟨ad, had, -, hc⟩ := sl_of_own h.row i (.pointer (some (adr K.G i))) (by simp [ptrs, List.getElem?_range hi])
  rw [had] at c1
  have k2 := h.ins hi 2 (by omega)
  have k3 := h.ins hi 3 (by omega)
  rw [hx] at k2 k3
  simp only [insC, List.getElem?_cons_zero, List.getElem?_cons_succ] at k2 k3
  obtain ⟨p2, f2⟩ := k2
  obtain ⟨p3, f3⟩ := k3
  have S1 := h.store hi 2 (by omega) (.sp a y) (.int .u64 a) (by rw [hx]; rfl)
  have S2 := S1.1.store (i := i) (by rw [List.length_set]; exact hi) 3 (by omega) (.sp a b) (.int .u64 b) (by rw [List.getElem_set_self]; rfl)
  rw [List.set_set] at S2
  have HR := Lib.hid (show SetIn w B eT K (code.set i (.sp a b)) code.length (.returned (.tuple #[])) _ from ⟨rfl, S2.1, S1.2.trans S2.2⟩)
  have hil : (i : Int) < (code.length : Int) := by omega
  have k5 := S1.1.ins (i := i) (by rw [List.length_set]; exact hi) 3 (by omega)
  rw [List.getElem_set_self] at k5
  simp only [insC, List.getElem?_cons_zero, List.getElem?_cons_succ] at k5
  obtain ⟨p5, f5⟩ := k5
  clear h S1 S2 hx had
  go_enter Tryd.func73, Tryd.ntmps73
  go_wp2
  go_returns
  exact HR.out

theorem setj_any (h : Cs w B eT K code code.length) (hn : code.length ≤ 1099511627776) (i a x : Nat) (hi : i < code.length) (hx : code[i] = .jp x) :
    Calls Tryd.prog 74 #[.pointer (some ⟨K.C, 0, none⟩), .int .u64 i, .int .u64 a] w (SetIn w B eT K (code.set i (.jp a)) code.length) := by
  obtain ⟨-, c1, -⟩ := h.cells
  obtain ⟨ad, had, -, hc⟩ := sl_of_own h.row i (.pointer (some (adr K.G i))) (by simp [ptrs, List.getElem?_range hi])
  rw [had] at c1
  have k2 := h.ins hi 1 (by omega)
  rw [hx] at k2
  simp only [insC, List.getElem?_cons_zero, List.getElem?_cons_succ] at k2
  obtain ⟨p2, f2⟩ := k2
  have S1 := h.store hi 1 (by omega) (.jp a) (.int .u64 a) (by rw [hx]; rfl)
  have HR := Lib.hid (show SetIn w B eT K (code.set i (.jp a)) code.length (.returned (.tuple #[])) _ from ⟨rfl, S1.1, S1.2⟩)
  have hil : (i : Int) < (code.length : Int) := by omega
  clear h S1 hx had
  go_enter Tryd.func74, Tryd.ntmps74
  go_wp2
  go_returns
  exact HR.out
end

end Go.Proofs.YtbkpgfccghombaaDoor.rx
