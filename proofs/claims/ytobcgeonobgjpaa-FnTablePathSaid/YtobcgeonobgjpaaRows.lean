/-
  No cell of these rows narrows 'for every input' (looked for: loops, veiled, ifaces, maps, wideKeys, modest, calm, conditions, laid).
  DERIVED. THE GIVEN ROWS OF THIS SEAT. 3 by the template 'for every input the law returns true; each argument reads behind the call as it read before'; 0 by the template 'total and deterministic' (their statements: YtobcgeonobgjpaaTotals.lean).
  GIVEN WITH THE SEED: the statements are not yours to turn. If you find one false, say at which input.
  Laid BY PROGRAM, IN A SANDBOX (cutbox-rows.mjs): the forced cells as the released guide's own fill.sh prints them over the translation 1b74e34ac7e8362d… (all of the seat's roots in one cut). By AI agents, Wed Nov 11 2026. No macro, syntax, notation, axiom, sorry.
-/
import Derived.Test.YtobcgeonobgjpaaChecked
import GoSem.Claim
import GoSem.ClaimJoined
import GoSem.ClaimMapViews
import Derived.JoinedTies
import Derived.KernelRfl
namespace Go.Proofs.Ytobcgeonobgjpaa
/- THE CELL 'sum', in the pinned program and in every row, IS THE sha256 OF THE DUMP (.gsa) THAT YtobcgeonobgjpaaProg.lean LOADS. Nothing in Lean hashes anything: it is a label: what it is worth is what the hold of that sum in a sandbox is worth. -/
noncomputable def Try.pinned : Pinned := { name := "ytobcgeonobgjpaa", sum := "1b74e34ac7e8362d27a972e20a11028020a74c4ad2ec435c4fa282686aedb188", checked := Try.checked }
namespace Rows
def none {H : Type} : Left H := { results := [], args := [] }

/-- 'laws.FnHash': WHATEVER THE INPUT: true; the input reads as it did. -/
def fnHashSpec : ChangeSpec := { name := "fnHash", fn := fun _ => fun
  | [d1, d2, d3] => { results := [.lit (.bool true)], args := [d1, d2, d3] }
  | _ => none }
def fnHashRow : OpenClaim := { program := "ytobcgeonobgjpaa", sum := "1b74e34ac7e8362d27a972e20a11028020a74c4ad2ec435c4fa282686aedb188", func := "pub-traverser/laws.FnHash", spec := "fnHash", apart := false }
def FnHashSaid : Prop := fnHashRow.holds Try.pinned (OpenSpec.ofChange fnHashSpec)

/-- ITS FALSE NEIGHBOUR: 'it returns false'. Refute it at one input. -/
def fnHashWrong : ChangeSpec := { name := "fnHash", fn := fun _ => fun
  | [d1, d2, d3] => { results := [.lit (.bool false)], args := [d1, d2, d3] }
  | _ => none }
def FnHashWrongFalsely : Prop := fnHashRow.holds Try.pinned (OpenSpec.ofChange fnHashWrong)

/-- 'laws.FnScalarEncode': WHATEVER THE INPUT: true; the input reads as it did. -/
def fnScalarEncodeSpec : ChangeSpec := { name := "fnScalarEncode", fn := fun _ => fun
  | [d1, d2] => { results := [.lit (.bool true)], args := [d1, d2] }
  | _ => none }
def fnScalarEncodeRow : OpenClaim := { program := "ytobcgeonobgjpaa", sum := "1b74e34ac7e8362d27a972e20a11028020a74c4ad2ec435c4fa282686aedb188", func := "pub-traverser/laws.FnScalarEncode", spec := "fnScalarEncode", apart := false }
def FnScalarEncodeSaid : Prop := fnScalarEncodeRow.holds Try.pinned (OpenSpec.ofChange fnScalarEncodeSpec)

/-- ITS FALSE NEIGHBOUR: 'it returns false'. Refute it at one input. -/
def fnScalarEncodeWrong : ChangeSpec := { name := "fnScalarEncode", fn := fun _ => fun
  | [d1, d2] => { results := [.lit (.bool false)], args := [d1, d2] }
  | _ => none }
def FnScalarEncodeWrongFalsely : Prop := fnScalarEncodeRow.holds Try.pinned (OpenSpec.ofChange fnScalarEncodeWrong)

/-- 'laws.FnTablePath': WHATEVER THE INPUT: true; the input reads as it did. -/
def fnTablePathSpec : ChangeSpec := { name := "fnTablePath", fn := fun _ => fun
  | [d1, d2] => { results := [.lit (.bool true)], args := [d1, d2] }
  | _ => none }
def fnTablePathRow : OpenClaim := { program := "ytobcgeonobgjpaa", sum := "1b74e34ac7e8362d27a972e20a11028020a74c4ad2ec435c4fa282686aedb188", func := "pub-traverser/laws.FnTablePath", spec := "fnTablePath", unfollowed := true, recurses := true, apart := false }
def FnTablePathSaid : Prop := fnTablePathRow.holds Try.pinned (OpenSpec.ofChange fnTablePathSpec)

/-- ITS FALSE NEIGHBOUR: 'it returns false'. Refute it at one input. -/
def fnTablePathWrong : ChangeSpec := { name := "fnTablePath", fn := fun _ => fun
  | [d1, d2] => { results := [.lit (.bool false)], args := [d1, d2] }
  | _ => none }
def FnTablePathWrongFalsely : Prop := fnTablePathRow.holds Try.pinned (OpenSpec.ofChange fnTablePathWrong)

/- THE SECOND FORM. 'bulk': how many values and letters a reading holds, each counted each time it is reached (what is shared counts as often as it is met; a slice's spare places count too). A statement '..UptoSaid' is the law's where the arguments, and the package variables that the reading takes, are together of bulk at most 1048576: NARROWER than '..Said'. Prove '..Said' where nothing that the law and all that it calls make is longer than what came in: it says more and counts as full. Else prove '..UptoSaid'. A law counts once. -/
mutual
def uptoBulk {H : Type} : DataW H → Nat
  | .lit (.string bytes) => bytes.length + 1
  | .lit _ => 1
  | .nil => 1
  | .ptr d => uptoBulk d + 1
  | .slice elems spare => uptoBulkAll elems + uptoBulkAll spare + 1
  | .agg parts => uptoBulkAll parts + 1
  | .iface _ d => uptoBulk d + 1
  | .map entries => uptoBulkEntries entries + 1
  | .held _ => 1
def uptoBulkAll {H : Type} : List (DataW H) → Nat
  | [] => 0
  | d :: r => uptoBulk d + uptoBulkAll r
def uptoBulkEntries {H : Type} : List (Lit × DataW H) → Nat
  | [] => 0
  | x :: r => uptoBulkEntry x + uptoBulkEntries r
def uptoBulkEntry {H : Type} : Lit × DataW H → Nat
  | (.string bytes, d) => bytes.length + uptoBulk d + 1
  | (_, d) => uptoBulk d + 1
 end
def uptoSmall : (H : Type) → List (DataW H) → Bool := fun _ ds => decide (uptoBulkAll ds ≤ 1048576)
def OpenSpec.upto (s : _root_.Go.ChangeSpec) : _root_.Go.OpenSpec := { _root_.Go.OpenSpec.ofChange s with cond := some uptoSmall }

/-- 'laws.FnHash', WHERE WHAT IT READS IS OF BULK AT MOST 1048576: true; the input reads as it did. -/
def fnHashUptoRow : OpenClaim := { program := "ytobcgeonobgjpaa", sum := "1b74e34ac7e8362d27a972e20a11028020a74c4ad2ec435c4fa282686aedb188", func := "pub-traverser/laws.FnHash", spec := "fnHash", apart := false, narrowed := true }
def FnHashUptoSaid : Prop := fnHashUptoRow.holds Try.pinned (OpenSpec.upto fnHashSpec)

/-- 'laws.FnScalarEncode', WHERE WHAT IT READS IS OF BULK AT MOST 1048576: true; the input reads as it did. -/
def fnScalarEncodeUptoRow : OpenClaim := { program := "ytobcgeonobgjpaa", sum := "1b74e34ac7e8362d27a972e20a11028020a74c4ad2ec435c4fa282686aedb188", func := "pub-traverser/laws.FnScalarEncode", spec := "fnScalarEncode", apart := false, narrowed := true }
def FnScalarEncodeUptoSaid : Prop := fnScalarEncodeUptoRow.holds Try.pinned (OpenSpec.upto fnScalarEncodeSpec)

/-- 'laws.FnTablePath', WHERE WHAT IT READS IS OF BULK AT MOST 1048576: true; the input reads as it did. -/
def fnTablePathUptoRow : OpenClaim := { program := "ytobcgeonobgjpaa", sum := "1b74e34ac7e8362d27a972e20a11028020a74c4ad2ec435c4fa282686aedb188", func := "pub-traverser/laws.FnTablePath", spec := "fnTablePath", unfollowed := true, recurses := true, apart := false, narrowed := true }
def FnTablePathUptoSaid : Prop := fnTablePathUptoRow.holds Try.pinned (OpenSpec.upto fnTablePathSpec)

end Rows
end Go.Proofs.Ytobcgeonobgjpaa
