/-
  No cell of these rows narrows 'for every input' (looked for: loops, veiled, ifaces, maps, wideKeys, modest, calm, conditions, laid).
  DERIVED. THE GIVEN ROWS OF THIS SEAT. 6 by the template 'for every input the law returns true; each argument reads behind the call as it read before'; 0 by the template 'total and deterministic' (their statements: YtpmkkajbmdoflaaTotals.lean).
  GIVEN WITH THE SEED: the statements are not yours to turn. If you find one false, say at which input.
  Laid BY PROGRAM, IN A SANDBOX (cutbox-rows.mjs): the forced cells as the released guide's own fill.sh prints them over the translation 483c58cef420edc2… (all of the seat's roots in one cut). By AI agents, Wed Nov 11 2026. No macro, syntax, notation, axiom, sorry.
-/
import Derived.Test.YtpmkkajbmdoflaaChecked
import GoSem.Claim
import GoSem.ClaimJoined
import GoSem.ClaimMapViews
import Derived.JoinedTies
import Derived.KernelRfl
namespace Go.Proofs.Ytpmkkajbmdoflaa
/- THE CELL 'sum', in the pinned program and in every row, IS THE sha256 OF THE DUMP (.gsa) THAT YtpmkkajbmdoflaaProg.lean LOADS. Nothing in Lean hashes anything: it is a label: what it is worth is what the hold of that sum in a sandbox is worth. -/
noncomputable def Try.pinned : Pinned := { name := "ytpmkkajbmdoflaa", sum := "483c58cef420edc20bbe54d59fdf1a3774207ba65d5e91c817ebf75253e80185", checked := Try.checked }
namespace Rows
def none {H : Type} : Left H := { results := [], args := [] }

/-- 'laws.FnExtractBit': WHATEVER THE INPUT: true; the input reads as it did. -/
def fnExtractBitSpec : ChangeSpec := { name := "fnExtractBit", fn := fun _ => fun
  | [d1, d2] => { results := [.lit (.bool true)], args := [d1, d2] }
  | _ => none }
def fnExtractBitRow : OpenClaim := { program := "ytpmkkajbmdoflaa", sum := "483c58cef420edc20bbe54d59fdf1a3774207ba65d5e91c817ebf75253e80185", func := "pub-traverser/laws.FnExtractBit", spec := "fnExtractBit", apart := false }
def FnExtractBitSaid : Prop := fnExtractBitRow.holds Try.pinned (OpenSpec.ofChange fnExtractBitSpec)

/-- ITS FALSE NEIGHBOUR: 'it returns false'. Refute it at one input. -/
def fnExtractBitWrong : ChangeSpec := { name := "fnExtractBit", fn := fun _ => fun
  | [d1, d2] => { results := [.lit (.bool false)], args := [d1, d2] }
  | _ => none }
def FnExtractBitWrongFalsely : Prop := fnExtractBitRow.holds Try.pinned (OpenSpec.ofChange fnExtractBitWrong)

/-- 'laws.FnUnpackSizes': WHATEVER THE INPUT: true; the input reads as it did. -/
def fnUnpackSizesSpec : ChangeSpec := { name := "fnUnpackSizes", fn := fun _ => fun
  | [d] => { results := [.lit (.bool true)], args := [d] }
  | _ => none }
def fnUnpackSizesRow : OpenClaim := { program := "ytpmkkajbmdoflaa", sum := "483c58cef420edc20bbe54d59fdf1a3774207ba65d5e91c817ebf75253e80185", func := "pub-traverser/laws.FnUnpackSizes", spec := "fnUnpackSizes", apart := false }
def FnUnpackSizesSaid : Prop := fnUnpackSizesRow.holds Try.pinned (OpenSpec.ofChange fnUnpackSizesSpec)

/-- ITS FALSE NEIGHBOUR: 'it returns false'. Refute it at one input. -/
def fnUnpackSizesWrong : ChangeSpec := { name := "fnUnpackSizes", fn := fun _ => fun
  | [d] => { results := [.lit (.bool false)], args := [d] }
  | _ => none }
def FnUnpackSizesWrongFalsely : Prop := fnUnpackSizesRow.holds Try.pinned (OpenSpec.ofChange fnUnpackSizesWrong)

/-- 'laws.FnScalarValid': WHATEVER THE INPUT: true; the input reads as it did. -/
def fnScalarValidSpec : ChangeSpec := { name := "fnScalarValid", fn := fun _ => fun
  | [d1, d2] => { results := [.lit (.bool true)], args := [d1, d2] }
  | _ => none }
def fnScalarValidRow : OpenClaim := { program := "ytpmkkajbmdoflaa", sum := "483c58cef420edc20bbe54d59fdf1a3774207ba65d5e91c817ebf75253e80185", func := "pub-traverser/laws.FnScalarValid", spec := "fnScalarValid", apart := false }
def FnScalarValidSaid : Prop := fnScalarValidRow.holds Try.pinned (OpenSpec.ofChange fnScalarValidSpec)

/-- ITS FALSE NEIGHBOUR: 'it returns false'. Refute it at one input. -/
def fnScalarValidWrong : ChangeSpec := { name := "fnScalarValid", fn := fun _ => fun
  | [d1, d2] => { results := [.lit (.bool false)], args := [d1, d2] }
  | _ => none }
def FnScalarValidWrongFalsely : Prop := fnScalarValidRow.holds Try.pinned (OpenSpec.ofChange fnScalarValidWrong)

/-- 'laws.FnDelta': WHATEVER THE INPUT: true; the input reads as it did. -/
def fnDeltaSpec : ChangeSpec := { name := "fnDelta", fn := fun _ => fun
  | [d1, d2] => { results := [.lit (.bool true)], args := [d1, d2] }
  | _ => none }
def fnDeltaRow : OpenClaim := { program := "ytpmkkajbmdoflaa", sum := "483c58cef420edc20bbe54d59fdf1a3774207ba65d5e91c817ebf75253e80185", func := "pub-traverser/laws.FnDelta", spec := "fnDelta", apart := false }
def FnDeltaSaid : Prop := fnDeltaRow.holds Try.pinned (OpenSpec.ofChange fnDeltaSpec)

/-- ITS FALSE NEIGHBOUR: 'it returns false'. Refute it at one input. -/
def fnDeltaWrong : ChangeSpec := { name := "fnDelta", fn := fun _ => fun
  | [d1, d2] => { results := [.lit (.bool false)], args := [d1, d2] }
  | _ => none }
def FnDeltaWrongFalsely : Prop := fnDeltaRow.holds Try.pinned (OpenSpec.ofChange fnDeltaWrong)

/-- 'laws.FnUnpack': WHATEVER THE INPUT: true; the input reads as it did. -/
def fnUnpackSpec : ChangeSpec := { name := "fnUnpack", fn := fun _ => fun
  | [d] => { results := [.lit (.bool true)], args := [d] }
  | _ => none }
def fnUnpackRow : OpenClaim := { program := "ytpmkkajbmdoflaa", sum := "483c58cef420edc20bbe54d59fdf1a3774207ba65d5e91c817ebf75253e80185", func := "pub-traverser/laws.FnUnpack", spec := "fnUnpack", apart := false }
def FnUnpackSaid : Prop := fnUnpackRow.holds Try.pinned (OpenSpec.ofChange fnUnpackSpec)

/-- ITS FALSE NEIGHBOUR: 'it returns false'. Refute it at one input. -/
def fnUnpackWrong : ChangeSpec := { name := "fnUnpack", fn := fun _ => fun
  | [d] => { results := [.lit (.bool false)], args := [d] }
  | _ => none }
def FnUnpackWrongFalsely : Prop := fnUnpackRow.holds Try.pinned (OpenSpec.ofChange fnUnpackWrong)

/-- 'laws.FnShiftAndMask': WHATEVER THE INPUT: true; the input reads as it did. -/
def fnShiftAndMaskSpec : ChangeSpec := { name := "fnShiftAndMask", fn := fun _ => fun
  | [d1, d2, d3] => { results := [.lit (.bool true)], args := [d1, d2, d3] }
  | _ => none }
def fnShiftAndMaskRow : OpenClaim := { program := "ytpmkkajbmdoflaa", sum := "483c58cef420edc20bbe54d59fdf1a3774207ba65d5e91c817ebf75253e80185", func := "pub-traverser/laws.FnShiftAndMask", spec := "fnShiftAndMask", apart := false }
def FnShiftAndMaskSaid : Prop := fnShiftAndMaskRow.holds Try.pinned (OpenSpec.ofChange fnShiftAndMaskSpec)

/-- ITS FALSE NEIGHBOUR: 'it returns false'. Refute it at one input. -/
def fnShiftAndMaskWrong : ChangeSpec := { name := "fnShiftAndMask", fn := fun _ => fun
  | [d1, d2, d3] => { results := [.lit (.bool false)], args := [d1, d2, d3] }
  | _ => none }
def FnShiftAndMaskWrongFalsely : Prop := fnShiftAndMaskRow.holds Try.pinned (OpenSpec.ofChange fnShiftAndMaskWrong)

/- THE SECOND FORM. 'bulk': how many values and letters a reading holds, each counted each time it is reached (what is shared counts as often as it is met; a slice's spare places count too). A statement '..UptoSaid' is the law's where the arguments, and the package variables that the reading takes, are together of bulk at most 1048576: NARROWER than '..Said'. Prove '..Said' where nothing that the law and all that it calls make is longer than what came in: it says more and counts as full. Else prove '..UptoSaid'. A law counts once. -/
mutual
def uptoBulk {H : Type} : DataW H → Nat
  | .lit (.string bytes) => bytes.length + 1
  | .lit _ => 1
  | .nil => 1
  | .ptr d => uptoBulk d + 1
  | .slice elems spare => uptoBulkAll elems + uptoBulkAll spare + 1
  | .agg parts => uptoBulkAll parts + 1
  | .iface _ d => uptoBulk d + 1
  | .map entries => uptoBulkEntries entries + 1
  | .held _ => 1
def uptoBulkAll {H : Type} : List (DataW H) → Nat
  | [] => 0
  | d :: r => uptoBulk d + uptoBulkAll r
def uptoBulkEntries {H : Type} : List (Lit × DataW H) → Nat
  | [] => 0
  | x :: r => uptoBulkEntry x + uptoBulkEntries r
def uptoBulkEntry {H : Type} : Lit × DataW H → Nat
  | (.string bytes, d) => bytes.length + uptoBulk d + 1
  | (_, d) => uptoBulk d + 1
 end
def uptoSmall : (H : Type) → List (DataW H) → Bool := fun _ ds => decide (uptoBulkAll ds ≤ 1048576)
def OpenSpec.upto (s : _root_.Go.ChangeSpec) : _root_.Go.OpenSpec := { _root_.Go.OpenSpec.ofChange s with cond := some uptoSmall }

/-- 'laws.FnExtractBit', WHERE WHAT IT READS IS OF BULK AT MOST 1048576: true; the input reads as it did. -/
def fnExtractBitUptoRow : OpenClaim := { program := "ytpmkkajbmdoflaa", sum := "483c58cef420edc20bbe54d59fdf1a3774207ba65d5e91c817ebf75253e80185", func := "pub-traverser/laws.FnExtractBit", spec := "fnExtractBit", apart := false, narrowed := true }
def FnExtractBitUptoSaid : Prop := fnExtractBitUptoRow.holds Try.pinned (OpenSpec.upto fnExtractBitSpec)

/-- 'laws.FnUnpackSizes', WHERE WHAT IT READS IS OF BULK AT MOST 1048576: true; the input reads as it did. -/
def fnUnpackSizesUptoRow : OpenClaim := { program := "ytpmkkajbmdoflaa", sum := "483c58cef420edc20bbe54d59fdf1a3774207ba65d5e91c817ebf75253e80185", func := "pub-traverser/laws.FnUnpackSizes", spec := "fnUnpackSizes", apart := false, narrowed := true }
def FnUnpackSizesUptoSaid : Prop := fnUnpackSizesUptoRow.holds Try.pinned (OpenSpec.upto fnUnpackSizesSpec)

/-- 'laws.FnScalarValid', WHERE WHAT IT READS IS OF BULK AT MOST 1048576: true; the input reads as it did. -/
def fnScalarValidUptoRow : OpenClaim := { program := "ytpmkkajbmdoflaa", sum := "483c58cef420edc20bbe54d59fdf1a3774207ba65d5e91c817ebf75253e80185", func := "pub-traverser/laws.FnScalarValid", spec := "fnScalarValid", apart := false, narrowed := true }
def FnScalarValidUptoSaid : Prop := fnScalarValidUptoRow.holds Try.pinned (OpenSpec.upto fnScalarValidSpec)

/-- 'laws.FnDelta', WHERE WHAT IT READS IS OF BULK AT MOST 1048576: true; the input reads as it did. -/
def fnDeltaUptoRow : OpenClaim := { program := "ytpmkkajbmdoflaa", sum := "483c58cef420edc20bbe54d59fdf1a3774207ba65d5e91c817ebf75253e80185", func := "pub-traverser/laws.FnDelta", spec := "fnDelta", apart := false, narrowed := true }
def FnDeltaUptoSaid : Prop := fnDeltaUptoRow.holds Try.pinned (OpenSpec.upto fnDeltaSpec)

/-- 'laws.FnUnpack', WHERE WHAT IT READS IS OF BULK AT MOST 1048576: true; the input reads as it did. -/
def fnUnpackUptoRow : OpenClaim := { program := "ytpmkkajbmdoflaa", sum := "483c58cef420edc20bbe54d59fdf1a3774207ba65d5e91c817ebf75253e80185", func := "pub-traverser/laws.FnUnpack", spec := "fnUnpack", apart := false, narrowed := true }
def FnUnpackUptoSaid : Prop := fnUnpackUptoRow.holds Try.pinned (OpenSpec.upto fnUnpackSpec)

/-- 'laws.FnShiftAndMask', WHERE WHAT IT READS IS OF BULK AT MOST 1048576: true; the input reads as it did. -/
def fnShiftAndMaskUptoRow : OpenClaim := { program := "ytpmkkajbmdoflaa", sum := "483c58cef420edc20bbe54d59fdf1a3774207ba65d5e91c817ebf75253e80185", func := "pub-traverser/laws.FnShiftAndMask", spec := "fnShiftAndMask", apart := false, narrowed := true }
def FnShiftAndMaskUptoSaid : Prop := fnShiftAndMaskUptoRow.holds Try.pinned (OpenSpec.upto fnShiftAndMaskSpec)

end Rows
end Go.Proofs.Ytpmkkajbmdoflaa
