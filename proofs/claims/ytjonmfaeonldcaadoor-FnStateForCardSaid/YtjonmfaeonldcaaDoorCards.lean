/-
  DERIVED. GIVEN WITH THE SEED: THE CARDS: each row of YtjonmfaeonldcaaDoorRows.lean that lists a variable, with what it lists TIED to the program's text (the seventh form; the later family's looks); each row that meets fmt, with fmt's text TOLD by the authors' own Lean function (tested against real Go, not proved from fmt's source: count such statements apart). THE CARD IS WHAT COUNTS. Prove the row's statement (the work); the ties are given (YtjonmfaeonldcaaDoorTie.lean); close each card by the builder's one call (the guide's Derived/Test/ToyasCard.lean, 'card_holds'). Laid BY PROGRAM, IN A SANDBOX (cutbox-door.mjs). By AI agents, Wed Nov 11 2026. No macro, syntax, notation, axiom, sorry.
-/
import Derived.Test.YtjonmfaeonldcaaDoorRows
import GoSem.ClaimSeven
namespace Go.Proofs.YtjonmfaeonldcaaDoor
namespace Rows

/-- THE TIED CARD OF 'laws.FnStateFor'. -/
def fnStateForCard : Claim7 := { stood := { row := fnStateForRow, standIns := [], harness := (true, "dc4897eb894b8a88758fb407f35ab6a1e7cf4fd98c294df9fab4207964fbc213"), looks := true }, kinds := [], alts := [], laidByText := true, laidKinds := [.sentinel, .data, .data], laidTests := true, laidLooks := .later }
def FnStateForCardSaid : Prop := Claim7.holds Tryd.pinned (.plain (OpenSpec.ofChange fnStateForSpec)) fnStateForCard

/-- THE SECOND FORM's CARD OF 'laws.FnStateFor'. -/
def fnStateForUptoCard : Claim7 := { stood := { row := fnStateForUptoRow, standIns := [], harness := (true, "dc4897eb894b8a88758fb407f35ab6a1e7cf4fd98c294df9fab4207964fbc213"), looks := true }, kinds := [], alts := [], laidByText := true, laidKinds := [.sentinel, .data, .data], laidTests := true, laidLooks := .later }
def FnStateForUptoCardSaid : Prop := Claim7.holds Tryd.pinned (.plain (OpenSpec.upto fnStateForSpec)) fnStateForUptoCard
end Rows
end Go.Proofs.YtjonmfaeonldcaaDoor
