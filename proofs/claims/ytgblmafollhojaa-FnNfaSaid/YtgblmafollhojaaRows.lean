/-
  No cell of these rows narrows 'for every input' (looked for: loops, veiled, ifaces, maps, wideKeys, modest, calm, conditions, laid).
  DERIVED. THE GIVEN ROWS OF THIS SEAT. 4 by the template 'for every input the law returns true; each argument reads behind the call as it read before'; 0 by the template 'total and deterministic' (their statements: YtgblmafollhojaaTotals.lean).
  GIVEN WITH THE SEED: the statements are not yours to turn. If you find one false, say at which input.
  Laid BY PROGRAM, IN A SANDBOX (cutbox-rows.mjs): the forced cells as the released guide's own fill.sh prints them over the translation 4d808ff4283820bc… (all of the seat's roots in one cut). By AI agents, Wed Nov 11 2026. No macro, syntax, notation, axiom, sorry.
-/
import Derived.Test.YtgblmafollhojaaChecked
import GoSem.Claim
import GoSem.ClaimJoined
import GoSem.ClaimMapViews
import Derived.JoinedTies
import Derived.KernelRfl
namespace Go.Proofs.Ytgblmafollhojaa
/- THE CELL 'sum', in the pinned program and in every row, IS THE sha256 OF THE DUMP (.gsa) THAT YtgblmafollhojaaProg.lean LOADS. Nothing in Lean hashes anything: it is a label: what it is worth is what the hold of that sum in a sandbox is worth. -/
noncomputable def Try.pinned : Pinned := { name := "ytgblmafollhojaa", sum := "4d808ff4283820bc717a48aa30cfb32400027da953ab3b5b47047d1df78e71a6", checked := Try.checked }
namespace Rows
def none {H : Type} : Left H := { results := [], args := [] }

/-- 'laws.FnSortRunes': WHATEVER THE INPUT: true; the input reads as it did. -/
def fnSortRunesSpec : ChangeSpec := { name := "fnSortRunes", fn := fun _ => fun
  | [d] => { results := [.lit (.bool true)], args := [d] }
  | _ => none }
def fnSortRunesRow : OpenClaim := { program := "ytgblmafollhojaa", sum := "4d808ff4283820bc717a48aa30cfb32400027da953ab3b5b47047d1df78e71a6", func := "pub-traverser/laws.FnSortRunes", spec := "fnSortRunes", unfollowed := true, recurses := true, apart := false }
def FnSortRunesSaid : Prop := fnSortRunesRow.holds Try.pinned (OpenSpec.ofChange fnSortRunesSpec)

/-- ITS FALSE NEIGHBOUR: 'it returns false'. Refute it at one input. -/
def fnSortRunesWrong : ChangeSpec := { name := "fnSortRunes", fn := fun _ => fun
  | [d] => { results := [.lit (.bool false)], args := [d] }
  | _ => none }
def FnSortRunesWrongFalsely : Prop := fnSortRunesRow.holds Try.pinned (OpenSpec.ofChange fnSortRunesWrong)

/-- 'laws.FnNormalOrder': WHATEVER THE INPUT: true; the input reads as it did. -/
def fnNormalOrderSpec : ChangeSpec := { name := "fnNormalOrder", fn := fun _ => fun
  | [d] => { results := [.lit (.bool true)], args := [d] }
  | _ => none }
def fnNormalOrderRow : OpenClaim := { program := "ytgblmafollhojaa", sum := "4d808ff4283820bc717a48aa30cfb32400027da953ab3b5b47047d1df78e71a6", func := "pub-traverser/laws.FnNormalOrder", spec := "fnNormalOrder", unfollowed := true, recurses := true, apart := false }
def FnNormalOrderSaid : Prop := fnNormalOrderRow.holds Try.pinned (OpenSpec.ofChange fnNormalOrderSpec)

/-- ITS FALSE NEIGHBOUR: 'it returns false'. Refute it at one input. -/
def fnNormalOrderWrong : ChangeSpec := { name := "fnNormalOrder", fn := fun _ => fun
  | [d] => { results := [.lit (.bool false)], args := [d] }
  | _ => none }
def FnNormalOrderWrongFalsely : Prop := fnNormalOrderRow.holds Try.pinned (OpenSpec.ofChange fnNormalOrderWrong)

/-- 'laws.FnPlacesKept': WHATEVER THE INPUT: true; the input reads as it did. -/
def fnPlacesKeptSpec : ChangeSpec := { name := "fnPlacesKept", fn := fun _ => fun
  | [d1, d2, d3, d4] => { results := [.lit (.bool true)], args := [d1, d2, d3, d4] }
  | _ => none }
def fnPlacesKeptRow : OpenClaim := { program := "ytgblmafollhojaa", sum := "4d808ff4283820bc717a48aa30cfb32400027da953ab3b5b47047d1df78e71a6", func := "pub-traverser/laws.FnPlacesKept", spec := "fnPlacesKept", unfollowed := true, recurses := true, apart := false }
def FnPlacesKeptSaid : Prop := fnPlacesKeptRow.holds Try.pinned (OpenSpec.ofChange fnPlacesKeptSpec)

/-- ITS FALSE NEIGHBOUR: 'it returns false'. Refute it at one input. -/
def fnPlacesKeptWrong : ChangeSpec := { name := "fnPlacesKept", fn := fun _ => fun
  | [d1, d2, d3, d4] => { results := [.lit (.bool false)], args := [d1, d2, d3, d4] }
  | _ => none }
def FnPlacesKeptWrongFalsely : Prop := fnPlacesKeptRow.holds Try.pinned (OpenSpec.ofChange fnPlacesKeptWrong)

/-- 'laws.FnNfa': WHATEVER THE INPUT: true; the input reads as it did. -/
def fnNfaSpec : ChangeSpec := { name := "fnNfa", fn := fun _ => fun
  | [d1, d2, d3, d4] => { results := [.lit (.bool true)], args := [d1, d2, d3, d4] }
  | _ => none }
def fnNfaRow : OpenClaim := { program := "ytgblmafollhojaa", sum := "4d808ff4283820bc717a48aa30cfb32400027da953ab3b5b47047d1df78e71a6", func := "pub-traverser/laws.FnNfa", spec := "fnNfa", unfollowed := true, recurses := true, apart := false }
def FnNfaSaid : Prop := fnNfaRow.holds Try.pinned (OpenSpec.ofChange fnNfaSpec)

/-- ITS FALSE NEIGHBOUR: 'it returns false'. Refute it at one input. -/
def fnNfaWrong : ChangeSpec := { name := "fnNfa", fn := fun _ => fun
  | [d1, d2, d3, d4] => { results := [.lit (.bool false)], args := [d1, d2, d3, d4] }
  | _ => none }
def FnNfaWrongFalsely : Prop := fnNfaRow.holds Try.pinned (OpenSpec.ofChange fnNfaWrong)

/- THE SECOND FORM. 'bulk': how many values and letters a reading holds, each counted each time it is reached (what is shared counts as often as it is met; a slice's spare places count too). A statement '..UptoSaid' is the law's where the arguments, and the package variables that the reading takes, are together of bulk at most 1048576: NARROWER than '..Said'. Prove '..Said' where nothing that the law and all that it calls make is longer than what came in: it says more and counts as full. Else prove '..UptoSaid'. A law counts once. -/
mutual
def uptoBulk {H : Type} : DataW H → Nat
  | .lit (.string bytes) => bytes.length + 1
  | .lit _ => 1
  | .nil => 1
  | .ptr d => uptoBulk d + 1
  | .slice elems spare => uptoBulkAll elems + uptoBulkAll spare + 1
  | .agg parts => uptoBulkAll parts + 1
  | .iface _ d => uptoBulk d + 1
  | .map entries => uptoBulkEntries entries + 1
  | .held _ => 1
def uptoBulkAll {H : Type} : List (DataW H) → Nat
  | [] => 0
  | d :: r => uptoBulk d + uptoBulkAll r
def uptoBulkEntries {H : Type} : List (Lit × DataW H) → Nat
  | [] => 0
  | x :: r => uptoBulkEntry x + uptoBulkEntries r
def uptoBulkEntry {H : Type} : Lit × DataW H → Nat
  | (.string bytes, d) => bytes.length + uptoBulk d + 1
  | (_, d) => uptoBulk d + 1
 end
def uptoSmall : (H : Type) → List (DataW H) → Bool := fun _ ds => decide (uptoBulkAll ds ≤ 1048576)
def OpenSpec.upto (s : _root_.Go.ChangeSpec) : _root_.Go.OpenSpec := { _root_.Go.OpenSpec.ofChange s with cond := some uptoSmall }

/-- 'laws.FnSortRunes', WHERE WHAT IT READS IS OF BULK AT MOST 1048576: true; the input reads as it did. -/
def fnSortRunesUptoRow : OpenClaim := { program := "ytgblmafollhojaa", sum := "4d808ff4283820bc717a48aa30cfb32400027da953ab3b5b47047d1df78e71a6", func := "pub-traverser/laws.FnSortRunes", spec := "fnSortRunes", unfollowed := true, recurses := true, apart := false, narrowed := true }
def FnSortRunesUptoSaid : Prop := fnSortRunesUptoRow.holds Try.pinned (OpenSpec.upto fnSortRunesSpec)

/-- 'laws.FnNormalOrder', WHERE WHAT IT READS IS OF BULK AT MOST 1048576: true; the input reads as it did. -/
def fnNormalOrderUptoRow : OpenClaim := { program := "ytgblmafollhojaa", sum := "4d808ff4283820bc717a48aa30cfb32400027da953ab3b5b47047d1df78e71a6", func := "pub-traverser/laws.FnNormalOrder", spec := "fnNormalOrder", unfollowed := true, recurses := true, apart := false, narrowed := true }
def FnNormalOrderUptoSaid : Prop := fnNormalOrderUptoRow.holds Try.pinned (OpenSpec.upto fnNormalOrderSpec)

/-- 'laws.FnPlacesKept', WHERE WHAT IT READS IS OF BULK AT MOST 1048576: true; the input reads as it did. -/
def fnPlacesKeptUptoRow : OpenClaim := { program := "ytgblmafollhojaa", sum := "4d808ff4283820bc717a48aa30cfb32400027da953ab3b5b47047d1df78e71a6", func := "pub-traverser/laws.FnPlacesKept", spec := "fnPlacesKept", unfollowed := true, recurses := true, apart := false, narrowed := true }
def FnPlacesKeptUptoSaid : Prop := fnPlacesKeptUptoRow.holds Try.pinned (OpenSpec.upto fnPlacesKeptSpec)

/-- 'laws.FnNfa', WHERE WHAT IT READS IS OF BULK AT MOST 1048576: true; the input reads as it did. -/
def fnNfaUptoRow : OpenClaim := { program := "ytgblmafollhojaa", sum := "4d808ff4283820bc717a48aa30cfb32400027da953ab3b5b47047d1df78e71a6", func := "pub-traverser/laws.FnNfa", spec := "fnNfa", unfollowed := true, recurses := true, apart := false, narrowed := true }
def FnNfaUptoSaid : Prop := fnNfaUptoRow.holds Try.pinned (OpenSpec.upto fnNfaSpec)

end Rows
end Go.Proofs.Ytgblmafollhojaa
