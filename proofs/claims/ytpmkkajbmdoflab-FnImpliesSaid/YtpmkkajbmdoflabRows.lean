/-
  No cell of these rows narrows 'for every input' (looked for: loops, veiled, ifaces, maps, wideKeys, modest, calm, conditions, laid).
  DERIVED. THE GIVEN ROWS OF THIS SEAT. 5 by the template 'for every input the law returns true; each argument reads behind the call as it read before'; 0 by the template 'total and deterministic' (their statements: YtpmkkajbmdoflabTotals.lean).
  GIVEN WITH THE SEED: the statements are not yours to turn. If you find one false, say at which input.
  Laid BY PROGRAM, IN A SANDBOX (cutbox-rows.mjs): the forced cells as the released guide's own fill.sh prints them over the translation 822d6e855eb0330d… (all of the seat's roots in one cut). By AI agents, Wed Nov 11 2026. No macro, syntax, notation, axiom, sorry.
-/
import Derived.Test.YtpmkkajbmdoflabChecked
import GoSem.Claim
import GoSem.ClaimJoined
import GoSem.ClaimMapViews
import Derived.JoinedTies
import Derived.KernelRfl
namespace Go.Proofs.Ytpmkkajbmdoflab
/- THE CELL 'sum', in the pinned program and in every row, IS THE sha256 OF THE DUMP (.gsa) THAT YtpmkkajbmdoflabProg.lean LOADS. Nothing in Lean hashes anything: it is a label: what it is worth is what the hold of that sum in a sandbox is worth. -/
noncomputable def Try.pinned : Pinned := { name := "ytpmkkajbmdoflab", sum := "822d6e855eb0330dfab5adb4175ad751d621b5ca364def4725db7324bd76a651", checked := Try.checked }
namespace Rows
def none {H : Type} : Left H := { results := [], args := [] }

/-- 'laws.FnPackedSize': WHATEVER THE INPUT: true; the input reads as it did. -/
def fnPackedSizeSpec : ChangeSpec := { name := "fnPackedSize", fn := fun _ => fun
  | [d] => { results := [.lit (.bool true)], args := [d] }
  | _ => none }
def fnPackedSizeRow : OpenClaim := { program := "ytpmkkajbmdoflab", sum := "822d6e855eb0330dfab5adb4175ad751d621b5ca364def4725db7324bd76a651", func := "pub-traverser/laws.FnPackedSize", spec := "fnPackedSize", apart := false }
def FnPackedSizeSaid : Prop := fnPackedSizeRow.holds Try.pinned (OpenSpec.ofChange fnPackedSizeSpec)

/-- ITS FALSE NEIGHBOUR: 'it returns false'. Refute it at one input. -/
def fnPackedSizeWrong : ChangeSpec := { name := "fnPackedSize", fn := fun _ => fun
  | [d] => { results := [.lit (.bool false)], args := [d] }
  | _ => none }
def FnPackedSizeWrongFalsely : Prop := fnPackedSizeRow.holds Try.pinned (OpenSpec.ofChange fnPackedSizeWrong)

/-- 'laws.FnSequenceMatches': WHATEVER THE INPUT: true; the input reads as it did. -/
def fnSequenceMatchesSpec : ChangeSpec := { name := "fnSequenceMatches", fn := fun _ => fun
  | [d1, d2] => { results := [.lit (.bool true)], args := [d1, d2] }
  | _ => none }
def fnSequenceMatchesRow : OpenClaim := { program := "ytpmkkajbmdoflab", sum := "822d6e855eb0330dfab5adb4175ad751d621b5ca364def4725db7324bd76a651", func := "pub-traverser/laws.FnSequenceMatches", spec := "fnSequenceMatches", apart := false }
def FnSequenceMatchesSaid : Prop := fnSequenceMatchesRow.holds Try.pinned (OpenSpec.ofChange fnSequenceMatchesSpec)

/-- ITS FALSE NEIGHBOUR: 'it returns false'. Refute it at one input. -/
def fnSequenceMatchesWrong : ChangeSpec := { name := "fnSequenceMatches", fn := fun _ => fun
  | [d1, d2] => { results := [.lit (.bool false)], args := [d1, d2] }
  | _ => none }
def FnSequenceMatchesWrongFalsely : Prop := fnSequenceMatchesRow.holds Try.pinned (OpenSpec.ofChange fnSequenceMatchesWrong)

/-- 'laws.FnOutputs': WHATEVER THE INPUT: true; the input reads as it did. -/
def fnOutputsSpec : ChangeSpec := { name := "fnOutputs", fn := fun _ => fun
  | [d1, d2] => { results := [.lit (.bool true)], args := [d1, d2] }
  | _ => none }
def fnOutputsRow : OpenClaim := { program := "ytpmkkajbmdoflab", sum := "822d6e855eb0330dfab5adb4175ad751d621b5ca364def4725db7324bd76a651", func := "pub-traverser/laws.FnOutputs", spec := "fnOutputs", apart := false }
def FnOutputsSaid : Prop := fnOutputsRow.holds Try.pinned (OpenSpec.ofChange fnOutputsSpec)

/-- ITS FALSE NEIGHBOUR: 'it returns false'. Refute it at one input. -/
def fnOutputsWrong : ChangeSpec := { name := "fnOutputs", fn := fun _ => fun
  | [d1, d2] => { results := [.lit (.bool false)], args := [d1, d2] }
  | _ => none }
def FnOutputsWrongFalsely : Prop := fnOutputsRow.holds Try.pinned (OpenSpec.ofChange fnOutputsWrong)

/-- 'laws.FnKey': WHATEVER THE INPUT: true; the input reads as it did. -/
def fnKeySpec : ChangeSpec := { name := "fnKey", fn := fun _ => fun
  | [d1, d2] => { results := [.lit (.bool true)], args := [d1, d2] }
  | _ => none }
def fnKeyRow : OpenClaim := { program := "ytpmkkajbmdoflab", sum := "822d6e855eb0330dfab5adb4175ad751d621b5ca364def4725db7324bd76a651", func := "pub-traverser/laws.FnKey", spec := "fnKey", named := ["encoding/binary.LittleEndian"], apart := false }
def FnKeySaid : Prop := fnKeyRow.holds Try.pinned (OpenSpec.ofChange fnKeySpec)

/-- ITS FALSE NEIGHBOUR: 'it returns false'. Refute it at one input. -/
def fnKeyWrong : ChangeSpec := { name := "fnKey", fn := fun _ => fun
  | [d1, d2] => { results := [.lit (.bool false)], args := [d1, d2] }
  | _ => none }
def FnKeyWrongFalsely : Prop := fnKeyRow.holds Try.pinned (OpenSpec.ofChange fnKeyWrong)

/-- 'laws.FnImplies': WHATEVER THE INPUT: true; the input reads as it did. -/
def fnImpliesSpec : ChangeSpec := { name := "fnImplies", fn := fun _ => fun
  | [d1, d2, d3, d4] => { results := [.lit (.bool true)], args := [d1, d2, d3, d4] }
  | _ => none }
def fnImpliesRow : OpenClaim := { program := "ytpmkkajbmdoflab", sum := "822d6e855eb0330dfab5adb4175ad751d621b5ca364def4725db7324bd76a651", func := "pub-traverser/laws.FnImplies", spec := "fnImplies", apart := false }
def FnImpliesSaid : Prop := fnImpliesRow.holds Try.pinned (OpenSpec.ofChange fnImpliesSpec)

/-- ITS FALSE NEIGHBOUR: 'it returns false'. Refute it at one input. -/
def fnImpliesWrong : ChangeSpec := { name := "fnImplies", fn := fun _ => fun
  | [d1, d2, d3, d4] => { results := [.lit (.bool false)], args := [d1, d2, d3, d4] }
  | _ => none }
def FnImpliesWrongFalsely : Prop := fnImpliesRow.holds Try.pinned (OpenSpec.ofChange fnImpliesWrong)

/- THE SECOND FORM. 'bulk': how many values and letters a reading holds, each counted each time it is reached (what is shared counts as often as it is met; a slice's spare places count too). A statement '..UptoSaid' is the law's where the arguments, and the package variables that the reading takes, are together of bulk at most 1048576: NARROWER than '..Said'. Prove '..Said' where nothing that the law and all that it calls make is longer than what came in: it says more and counts as full. Else prove '..UptoSaid'. A law counts once. -/
mutual
def uptoBulk {H : Type} : DataW H → Nat
  | .lit (.string bytes) => bytes.length + 1
  | .lit _ => 1
  | .nil => 1
  | .ptr d => uptoBulk d + 1
  | .slice elems spare => uptoBulkAll elems + uptoBulkAll spare + 1
  | .agg parts => uptoBulkAll parts + 1
  | .iface _ d => uptoBulk d + 1
  | .map entries => uptoBulkEntries entries + 1
  | .held _ => 1
def uptoBulkAll {H : Type} : List (DataW H) → Nat
  | [] => 0
  | d :: r => uptoBulk d + uptoBulkAll r
def uptoBulkEntries {H : Type} : List (Lit × DataW H) → Nat
  | [] => 0
  | x :: r => uptoBulkEntry x + uptoBulkEntries r
def uptoBulkEntry {H : Type} : Lit × DataW H → Nat
  | (.string bytes, d) => bytes.length + uptoBulk d + 1
  | (_, d) => uptoBulk d + 1
 end
def uptoSmall : (H : Type) → List (DataW H) → Bool := fun _ ds => decide (uptoBulkAll ds ≤ 1048576)
def OpenSpec.upto (s : _root_.Go.ChangeSpec) : _root_.Go.OpenSpec := { _root_.Go.OpenSpec.ofChange s with cond := some uptoSmall }

/-- 'laws.FnPackedSize', WHERE WHAT IT READS IS OF BULK AT MOST 1048576: true; the input reads as it did. -/
def fnPackedSizeUptoRow : OpenClaim := { program := "ytpmkkajbmdoflab", sum := "822d6e855eb0330dfab5adb4175ad751d621b5ca364def4725db7324bd76a651", func := "pub-traverser/laws.FnPackedSize", spec := "fnPackedSize", apart := false, narrowed := true }
def FnPackedSizeUptoSaid : Prop := fnPackedSizeUptoRow.holds Try.pinned (OpenSpec.upto fnPackedSizeSpec)

/-- 'laws.FnSequenceMatches', WHERE WHAT IT READS IS OF BULK AT MOST 1048576: true; the input reads as it did. -/
def fnSequenceMatchesUptoRow : OpenClaim := { program := "ytpmkkajbmdoflab", sum := "822d6e855eb0330dfab5adb4175ad751d621b5ca364def4725db7324bd76a651", func := "pub-traverser/laws.FnSequenceMatches", spec := "fnSequenceMatches", apart := false, narrowed := true }
def FnSequenceMatchesUptoSaid : Prop := fnSequenceMatchesUptoRow.holds Try.pinned (OpenSpec.upto fnSequenceMatchesSpec)

/-- 'laws.FnOutputs', WHERE WHAT IT READS IS OF BULK AT MOST 1048576: true; the input reads as it did. -/
def fnOutputsUptoRow : OpenClaim := { program := "ytpmkkajbmdoflab", sum := "822d6e855eb0330dfab5adb4175ad751d621b5ca364def4725db7324bd76a651", func := "pub-traverser/laws.FnOutputs", spec := "fnOutputs", apart := false, narrowed := true }
def FnOutputsUptoSaid : Prop := fnOutputsUptoRow.holds Try.pinned (OpenSpec.upto fnOutputsSpec)

/-- 'laws.FnKey', WHERE WHAT IT READS IS OF BULK AT MOST 1048576: true; the input reads as it did. -/
def fnKeyUptoRow : OpenClaim := { program := "ytpmkkajbmdoflab", sum := "822d6e855eb0330dfab5adb4175ad751d621b5ca364def4725db7324bd76a651", func := "pub-traverser/laws.FnKey", spec := "fnKey", named := ["encoding/binary.LittleEndian"], apart := false, narrowed := true }
def FnKeyUptoSaid : Prop := fnKeyUptoRow.holds Try.pinned (OpenSpec.upto fnKeySpec)

/-- 'laws.FnImplies', WHERE WHAT IT READS IS OF BULK AT MOST 1048576: true; the input reads as it did. -/
def fnImpliesUptoRow : OpenClaim := { program := "ytpmkkajbmdoflab", sum := "822d6e855eb0330dfab5adb4175ad751d621b5ca364def4725db7324bd76a651", func := "pub-traverser/laws.FnImplies", spec := "fnImplies", apart := false, narrowed := true }
def FnImpliesUptoSaid : Prop := fnImpliesUptoRow.holds Try.pinned (OpenSpec.upto fnImpliesSpec)

end Rows
end Go.Proofs.Ytpmkkajbmdoflab
