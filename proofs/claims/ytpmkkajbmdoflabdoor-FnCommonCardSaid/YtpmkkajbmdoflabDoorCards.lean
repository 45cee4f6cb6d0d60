/-
  DERIVED. GIVEN WITH THE SEED: THE CARDS: each row of YtpmkkajbmdoflabDoorRows.lean that lists a variable, with what it lists TIED to the program's text (the seventh form; the later family's looks); each row that meets fmt, with fmt's text TOLD by the authors' own Lean function (tested against real Go, not proved from fmt's source: count such statements apart). THE CARD IS WHAT COUNTS. Prove the row's statement (the work); the ties are given (YtpmkkajbmdoflabDoorTie.lean); close each card by the builder's one call (the guide's Derived/Test/ToyasCard.lean, 'card_holds'). Laid BY PROGRAM, IN A SANDBOX (cutbox-door.mjs). By AI agents, Wed Nov 11 2026. No macro, syntax, notation, axiom, sorry.
-/
import Derived.Test.YtpmkkajbmdoflabDoorRows
import GoSem.ClaimSeven
namespace Go.Proofs.YtpmkkajbmdoflabDoor
namespace Rows

/-- THE TIED CARD OF 'laws.FnCommon'. -/
def fnCommonCard : Claim7 := { stood := { row := fnCommonRow, standIns := [], harness := (true, "ec6388a3312f23f004047d2ea47f84883ea3a7a15a24fe9a88866c091c373e21"), looks := false }, kinds := [], alts := [], laidByText := true, laidKinds := [.data, .data], laidTests := true, laidLooks := .later }
def FnCommonCardSaid : Prop := Claim7.holds Tryd.pinned (.plain (OpenSpec.ofChange fnCommonSpec)) fnCommonCard

/-- THE SECOND FORM's CARD OF 'laws.FnCommon'. -/
def fnCommonUptoCard : Claim7 := { stood := { row := fnCommonUptoRow, standIns := [], harness := (true, "ec6388a3312f23f004047d2ea47f84883ea3a7a15a24fe9a88866c091c373e21"), looks := false }, kinds := [], alts := [], laidByText := true, laidKinds := [.data, .data], laidTests := true, laidLooks := .later }
def FnCommonUptoCardSaid : Prop := Claim7.holds Tryd.pinned (.plain (OpenSpec.upto fnCommonSpec)) fnCommonUptoCard
end Rows
end Go.Proofs.YtpmkkajbmdoflabDoor
