/-
  DERIVED. GIVEN WITH THE SEED: THE CARDS: each row of YtobcgeonobgjpaaDoorRows.lean that lists a variable, with what it lists TIED to the program's text (the seventh form; the later family's looks); each row that meets fmt, with fmt's text TOLD by the authors' own Lean function (tested against real Go, not proved from fmt's source: count such statements apart). THE CARD IS WHAT COUNTS. Prove the row's statement (the work); the ties are given (YtobcgeonobgjpaaDoorTie.lean); close each card by the builder's one call (the guide's Derived/Test/ToyasCard.lean, 'card_holds'). Laid BY PROGRAM, IN A SANDBOX (cutbox-door.mjs). By AI agents, Wed Nov 11 2026. No macro, syntax, notation, axiom, sorry.
-/
import Derived.Test.YtobcgeonobgjpaaDoorRows
import GoSem.ClaimSeven
namespace Go.Proofs.YtobcgeonobgjpaaDoor
namespace Rows

/-- THE TIED CARD OF 'laws.FnSequencesOnly'. -/
def fnSequencesOnlyCard : Claim7 := { stood := { row := fnSequencesOnlyRow, standIns := [], harness := (true, "81e0adddfe211e7f3d2a9c2ca83cc797ba69d7b281578f4f0abf13f2f73fad3a"), looks := false }, kinds := [], alts := [], laidByText := true, laidKinds := [.data, .data], laidTests := true, laidLooks := .later }
def FnSequencesOnlyCardSaid : Prop := Claim7.holds Tryd.pinned (.plain (OpenSpec.ofChange fnSequencesOnlySpec)) fnSequencesOnlyCard

/-- THE TIED CARD OF 'laws.FnSequencesSplit'. -/
def fnSequencesSplitCard : Claim7 := { stood := { row := fnSequencesSplitRow, standIns := [], harness := (true, "81e0adddfe211e7f3d2a9c2ca83cc797ba69d7b281578f4f0abf13f2f73fad3a"), looks := false }, kinds := [], alts := [], laidByText := true, laidKinds := [.data, .data], laidTests := true, laidLooks := .later }
def FnSequencesSplitCardSaid : Prop := Claim7.holds Tryd.pinned (.plain (OpenSpec.ofChange fnSequencesSplitSpec)) fnSequencesSplitCard

/-- THE SECOND FORM's CARD OF 'laws.FnSequencesOnly'. -/
def fnSequencesOnlyUptoCard : Claim7 := { stood := { row := fnSequencesOnlyUptoRow, standIns := [], harness := (true, "81e0adddfe211e7f3d2a9c2ca83cc797ba69d7b281578f4f0abf13f2f73fad3a"), looks := false }, kinds := [], alts := [], laidByText := true, laidKinds := [.data, .data], laidTests := true, laidLooks := .later }
def FnSequencesOnlyUptoCardSaid : Prop := Claim7.holds Tryd.pinned (.plain (OpenSpec.upto fnSequencesOnlySpec)) fnSequencesOnlyUptoCard

/-- THE SECOND FORM's CARD OF 'laws.FnSequencesSplit'. -/
def fnSequencesSplitUptoCard : Claim7 := { stood := { row := fnSequencesSplitUptoRow, standIns := [], harness := (true, "81e0adddfe211e7f3d2a9c2ca83cc797ba69d7b281578f4f0abf13f2f73fad3a"), looks := false }, kinds := [], alts := [], laidByText := true, laidKinds := [.data, .data], laidTests := true, laidLooks := .later }
def FnSequencesSplitUptoCardSaid : Prop := Claim7.holds Tryd.pinned (.plain (OpenSpec.upto fnSequencesSplitSpec)) fnSequencesSplitUptoCard
end Rows
end Go.Proofs.YtobcgeonobgjpaaDoor
