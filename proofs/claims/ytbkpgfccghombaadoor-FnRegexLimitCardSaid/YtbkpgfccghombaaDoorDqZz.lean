/-
  RegexLimit: what is wrong with an expression, at a limit. Conditions: as stated.
-/
import Derived.Test.YtbkpgfccghombaaDoorN03
import Derived.Test.YtbkpgfccghombaaDoorTrZz
namespace Go.Proofs.YtbkpgfccghombaaDoor.rx
open Go.ChangeShapes Go.WideShapes Go.ChangeAt Go.RowKit
set_option linter.unusedVariables false
set_option linter.unusedSimpArgs false

/-- the number of what is wrong -/
def Kind (lim d : Nat) (r : Rx) (k : Int) : Prop := (fits lim d 0 r ∧ ¬ Many (prg d r) ∧ k = 0) ∨ (fits lim d 0 r ∧ Many (prg d r) ∧ k = 5) ∨ (¬ fits lim d 0 r ∧ k = 4)
set_option maxRecDepth 100000 in
set_option maxHeartbeats 1600000 in
theorem rlim_any {m d : Nat} (hm : m ≤ 1000) {a0 a1 a2 a3 a4 : Addr} (lim : Nat) (r : Rx) (cs : List Value) (w : World) (hR : RgC w w.heap.size d r cs) (hw : wf m d r) (hn : (comp d 0 r).length ≤ 900000000000) (hl : lim ≤ 1000000000000) (hA : LaidAll w a0 a1 a2 a3 a4) :
    Calls Tryd.prog 19 #[.agg cs.toArray, .int .u64 lim] w fun e w' => Below w.heap.size w w' ∧ ∃ k, e = .returned (.int .i64 k) ∧ Kind lim d r k := by
  obtain ⟨o1, m1, x1, r1, rn1, rc1, s1, sn1, sc1, rfl⟩ := hR.form
  unfold rxc at *
  have HA := Lib.hid hA
  have HBX := Lib.hid (Bx.new w [.int .i64 o1, .slice r1 rn1 rc1, .int .i64 m1, .int .i64 x1, .bool false, .bool false, .slice s1 sn1 sc1])
  have CT := Lib.hid (wide.tree_ok hm d (w.alloc (.cells #[.int .i64 o1, .slice r1 rn1 rc1, .int .i64 m1, .int .i64 x1, .bool false, .bool false, .slice s1 sn1 sc1] 25)) r _ ((hR.below HBX.out.l).more (by simp)) hw)
  have HW := Lib.hid hw
  have HHN := Lib.hid hn
  unfold Kind
  clear hR hA hw hn
  go_enter Tryd.func19, Tryd.ntmps19
  go_upto_region 2 with (first | (go_at_call 32; refine CT.out.mono ?_; rintro e w2 ⟨p, rfl, hN2, hb2⟩; have HB2 := Lib.hid (HBX.out.l.trans (hb2.mono (by simp))); have CZ := Lib.hid (parsed_any hm lim r p ⟨#[]⟩ w2 hN2 HW.out HHN.out hl (HA.out.below HB2.out)); clear hN2 hb2 CT HBX) | (go_at_call 38; refine CZ.out.mono ?_; rintro e w3 ⟨hb3, ⟨hok, hm, N3, K3, S3, tb3, xb3, hh, rfl, hh2⟩ | ⟨hok, hm, rfl⟩ | ⟨hok, rfl⟩⟩) | fail)
  · have HB3 := Lib.hid (HB2.out.trans (hb3.mono HB2.out.size))
    have HOK := Lib.hid (And.intro hok hm)
    clear hb3 hok hm hh hh2 CZ HHN HW
    go_wp2_with (first | (go_at_call 33; refine wrong_nil.mono ?_; rintro e w5 ⟨rfl, rfl⟩) | fail)
    go_ret
    exact ⟨HB3.out, 0, rfl, .inl ⟨HOK.out.1, HOK.out.2, rfl⟩⟩
  · have HB3 := Lib.hid (HB2.out.trans (hb3.mono HB2.out.size))
    have HOK := Lib.hid (And.intro hok hm)
    have CW := Lib.hid (wrong_many (HA.out.below HB3.out))
    clear hb3 hok hm CZ HHN HW
    go_wp2_with (first | (go_at_call 33; refine CW.out.mono ?_; rintro e w5 ⟨rfl, rfl⟩) | fail)
    go_ret
    exact ⟨HB3.out, 5, rfl, .inr (.inl ⟨HOK.out.1, HOK.out.2, rfl⟩)⟩
  · have HB3 := Lib.hid (HB2.out.trans (hb3.mono HB2.out.size))
    have HOK := Lib.hid hok
    have CW := Lib.hid (wrong_big (HA.out.below HB3.out).errs)
    clear hb3 hok CZ HHN HW
    go_wp2_with (first | (go_at_call 33; refine CW.out.mono ?_; rintro e w5 ⟨rfl, rfl⟩) | fail)
    go_ret
    exact ⟨HB3.out, 4, rfl, .inr (.inr ⟨HOK.out, rfl⟩)⟩
end Go.Proofs.YtbkpgfccghombaaDoor.rx
