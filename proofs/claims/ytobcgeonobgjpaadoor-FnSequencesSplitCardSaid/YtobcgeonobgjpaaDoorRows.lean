/-
  NARROWER THAN 'FOR EVERY INPUT', by the rows' own cells (each row's printed sentence says how): FnSequencesOnly: laid · FnSequencesSplit: laid.
  DERIVED. THE GIVEN ROWS OF THIS SEAT. 2 by the template 'for every input the law returns true; each argument reads behind the call as it read before'; 0 by the template 'total and deterministic' (their statements: YtobcgeonobgjpaaDoorTotals.lean).
  GIVEN WITH THE SEED: the statements are not yours to turn. If you find one false, say at which input.
  Laid BY PROGRAM, IN A SANDBOX (cutbox-rows.mjs): the forced cells as the released guide's own fill.sh prints them over the translation 6cd193429bf507ec… (all of the seat's roots in one cut). By AI agents, Wed Nov 11 2026. No macro, syntax, notation, axiom, sorry.
-/
import Derived.Test.YtobcgeonobgjpaaDoorChecked
import GoSem.Claim
import GoSem.ClaimJoined
import GoSem.ClaimMapViews
import Derived.JoinedTies
import Derived.KernelRfl
namespace Go.Proofs.YtobcgeonobgjpaaDoor
/- THE CELL 'sum', in the pinned program and in every row, IS THE sha256 OF THE DUMP (.gsa) THAT YtobcgeonobgjpaaDoorProg.lean LOADS. Nothing in Lean hashes anything: it is a label: what it is worth is what the hold of that sum in a sandbox is worth. -/
noncomputable def Tryd.pinned : Pinned := { name := "ytobcgeonobgjpaadoor", sum := "6cd193429bf507ec524098204a1587e283649afbb50cd977a6245219b300d54f", checked := Tryd.checked }
namespace Rows
def none {H : Type} : Left H := { results := [], args := [] }

/- WHAT THE LISTED PACKAGE-LEVEL VARIABLES READ AS WHEN THE CALL BEGINS. Each datum BY PROGRAM (the guide's laid-datum.mjs) off the statement by which the dump's own 'gosem.cut.vars' lays the variable. In a bare row this is a premise. The card (YtobcgeonobgjpaaDoorCards.lean) ties it to the program's text. -/
def laid_pub_traverser_pub_vellum_utf8_nilRange {H : Type} : DataW H := .agg [.lit (.int .u8 255), .lit (.int .u8 0)]
def laid_pub_traverser_pub_vellum_utf8_nilScalarRange {H : Type} : DataW H := .agg [.lit (.int .i32 65535), .lit (.int .i32 0)]

/-- 'laws.FnSequencesOnly': WHATEVER THE INPUT: true; the input reads as it did. -/
def fnSequencesOnlySpec : ChangeSpec := { name := "fnSequencesOnly", fn := fun _ => fun
  | [d1, d2, d3] => { results := [.lit (.bool true)], args := [d1, d2, d3] }
  | _ => none }
def fnSequencesOnlyRow : OpenClaim := { program := "ytobcgeonobgjpaadoor", sum := "6cd193429bf507ec524098204a1587e283649afbb50cd977a6245219b300d54f", func := "pub-traverser/laws.FnSequencesOnly", spec := "fnSequencesOnly", named := ["pub-traverser/pub/vellum/utf8.nilScalarRange", "pub-traverser/pub/vellum/utf8.nilRange"], apart := false, laid := [("pub-traverser/pub/vellum/utf8.nilRange", laid_pub_traverser_pub_vellum_utf8_nilRange), ("pub-traverser/pub/vellum/utf8.nilScalarRange", laid_pub_traverser_pub_vellum_utf8_nilScalarRange)] }
def FnSequencesOnlySaid : Prop := fnSequencesOnlyRow.holds Tryd.pinned (OpenSpec.ofChange fnSequencesOnlySpec)

/-- ITS FALSE NEIGHBOUR: 'it returns false'. Refute it at one input. -/
def fnSequencesOnlyWrong : ChangeSpec := { name := "fnSequencesOnly", fn := fun _ => fun
  | [d1, d2, d3] => { results := [.lit (.bool false)], args := [d1, d2, d3] }
  | _ => none }
def FnSequencesOnlyWrongFalsely : Prop := fnSequencesOnlyRow.holds Tryd.pinned (OpenSpec.ofChange fnSequencesOnlyWrong)

/-- 'laws.FnSequencesSplit': WHATEVER THE INPUT: true; the input reads as it did. -/
def fnSequencesSplitSpec : ChangeSpec := { name := "fnSequencesSplit", fn := fun _ => fun
  | [d1, d2, d3, d4] => { results := [.lit (.bool true)], args := [d1, d2, d3, d4] }
  | _ => none }
def fnSequencesSplitRow : OpenClaim := { program := "ytobcgeonobgjpaadoor", sum := "6cd193429bf507ec524098204a1587e283649afbb50cd977a6245219b300d54f", func := "pub-traverser/laws.FnSequencesSplit", spec := "fnSequencesSplit", named := ["pub-traverser/pub/vellum/utf8.nilScalarRange", "pub-traverser/pub/vellum/utf8.nilRange"], apart := false, laid := [("pub-traverser/pub/vellum/utf8.nilRange", laid_pub_traverser_pub_vellum_utf8_nilRange), ("pub-traverser/pub/vellum/utf8.nilScalarRange", laid_pub_traverser_pub_vellum_utf8_nilScalarRange)] }
def FnSequencesSplitSaid : Prop := fnSequencesSplitRow.holds Tryd.pinned (OpenSpec.ofChange fnSequencesSplitSpec)

/-- ITS FALSE NEIGHBOUR: 'it returns false'. Refute it at one input. -/
def fnSequencesSplitWrong : ChangeSpec := { name := "fnSequencesSplit", fn := fun _ => fun
  | [d1, d2, d3, d4] => { results := [.lit (.bool false)], args := [d1, d2, d3, d4] }
  | _ => none }
def FnSequencesSplitWrongFalsely : Prop := fnSequencesSplitRow.holds Tryd.pinned (OpenSpec.ofChange fnSequencesSplitWrong)

/- THE SECOND FORM. 'bulk': how many values and letters a reading holds, each counted each time it is reached (what is shared counts as often as it is met; a slice's spare places count too). A statement '..UptoSaid' is the law's where the arguments, and the package variables that the reading takes, are together of bulk at most 1048576: NARROWER than '..Said'. Prove '..Said' where nothing that the law and all that it calls make is longer than what came in: it says more and counts as full. Else prove '..UptoSaid'. A law counts once. -/
mutual
def uptoBulk {H : Type} : DataW H → Nat
  | .lit (.string bytes) => bytes.length + 1
  | .lit _ => 1
  | .nil => 1
  | .ptr d => uptoBulk d + 1
  | .slice elems spare => uptoBulkAll elems + uptoBulkAll spare + 1
  | .agg parts => uptoBulkAll parts + 1
  | .iface _ d => uptoBulk d + 1
  | .map entries => uptoBulkEntries entries + 1
  | .held _ => 1
def uptoBulkAll {H : Type} : List (DataW H) → Nat
  | [] => 0
  | d :: r => uptoBulk d + uptoBulkAll r
def uptoBulkEntries {H : Type} : List (Lit × DataW H) → Nat
  | [] => 0
  | x :: r => uptoBulkEntry x + uptoBulkEntries r
def uptoBulkEntry {H : Type} : Lit × DataW H → Nat
  | (.string bytes, d) => bytes.length + uptoBulk d + 1
  | (_, d) => uptoBulk d + 1
 end
def uptoSmall : (H : Type) → List (DataW H) → Bool := fun _ ds => decide (uptoBulkAll ds ≤ 1048576)
def OpenSpec.upto (s : _root_.Go.ChangeSpec) : _root_.Go.OpenSpec := { _root_.Go.OpenSpec.ofChange s with cond := some uptoSmall }

/-- 'laws.FnSequencesOnly', WHERE WHAT IT READS IS OF BULK AT MOST 1048576: true; the input reads as it did. -/
def fnSequencesOnlyUptoRow : OpenClaim := { program := "ytobcgeonobgjpaadoor", sum := "6cd193429bf507ec524098204a1587e283649afbb50cd977a6245219b300d54f", func := "pub-traverser/laws.FnSequencesOnly", spec := "fnSequencesOnly", named := ["pub-traverser/pub/vellum/utf8.nilScalarRange", "pub-traverser/pub/vellum/utf8.nilRange"], apart := false, laid := [("pub-traverser/pub/vellum/utf8.nilRange", laid_pub_traverser_pub_vellum_utf8_nilRange), ("pub-traverser/pub/vellum/utf8.nilScalarRange", laid_pub_traverser_pub_vellum_utf8_nilScalarRange)], narrowed := true }
def FnSequencesOnlyUptoSaid : Prop := fnSequencesOnlyUptoRow.holds Tryd.pinned (OpenSpec.upto fnSequencesOnlySpec)

/-- 'laws.FnSequencesSplit', WHERE WHAT IT READS IS OF BULK AT MOST 1048576: true; the input reads as it did. -/
def fnSequencesSplitUptoRow : OpenClaim := { program := "ytobcgeonobgjpaadoor", sum := "6cd193429bf507ec524098204a1587e283649afbb50cd977a6245219b300d54f", func := "pub-traverser/laws.FnSequencesSplit", spec := "fnSequencesSplit", named := ["pub-traverser/pub/vellum/utf8.nilScalarRange", "pub-traverser/pub/vellum/utf8.nilRange"], apart := false, laid := [("pub-traverser/pub/vellum/utf8.nilRange", laid_pub_traverser_pub_vellum_utf8_nilRange), ("pub-traverser/pub/vellum/utf8.nilScalarRange", laid_pub_traverser_pub_vellum_utf8_nilScalarRange)], narrowed := true }
def FnSequencesSplitUptoSaid : Prop := fnSequencesSplitUptoRow.holds Tryd.pinned (OpenSpec.upto fnSequencesSplitSpec)

end Rows
end Go.Proofs.YtobcgeonobgjpaaDoor
