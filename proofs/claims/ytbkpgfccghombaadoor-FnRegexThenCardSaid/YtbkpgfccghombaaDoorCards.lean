/-
  DERIVED. GIVEN WITH THE SEED: THE CARDS: each row of YtbkpgfccghombaaDoorRows.lean that lists a variable, with what it lists TIED to the program's text (the seventh form; the later family's looks); each row that meets fmt, with fmt's text TOLD by the authors' own Lean function (tested against real Go, not proved from fmt's source: count such statements apart). THE CARD IS WHAT COUNTS. Prove the row's statement (the work); the ties are given (YtbkpgfccghombaaDoorTie.lean); close each card by the builder's one call (the guide's Derived/Test/ToyasCard.lean, 'card_holds'). Laid BY PROGRAM, IN A SANDBOX (cutbox-door.mjs). By AI agents, Wed Nov 11 2026. No macro, syntax, notation, axiom, sorry.
-/
import Derived.Test.YtbkpgfccghombaaDoorRows
import GoSem.ClaimSeven
namespace Go.Proofs.YtbkpgfccghombaaDoor
namespace Rows

/-- THE TIED CARD OF 'laws.FnCompile'. -/
def fnCompileCard : Claim7 := { stood := { row := fnCompileRow, standIns := [], harness := (true, "5814af3b7a25388bd0d18c9debba035d30f62e07fd36fd891a6cb6db585194c5"), looks := true }, kinds := [], alts := [], laidByText := true, laidKinds := [.data, .data, .data, .data, .sentinel, .sentinel, .sentinel, .sentinel, .sentinel, .pinned], laidTests := true, laidLooks := .later }
def FnCompileCardSaid : Prop := Claim7.holds Tryd.pinned (.plain (OpenSpec.ofChange fnCompileSpec)) fnCompileCard

/-- THE TIED CARD OF 'laws.FnRegexLimit'. -/
def fnRegexLimitCard : Claim7 := { stood := { row := fnRegexLimitRow, standIns := [], harness := (true, "5814af3b7a25388bd0d18c9debba035d30f62e07fd36fd891a6cb6db585194c5"), looks := true }, kinds := [], alts := [], laidByText := true, laidKinds := [.data, .data, .data, .data, .sentinel, .sentinel, .sentinel, .sentinel, .sentinel, .pinned], laidTests := true, laidLooks := .later }
def FnRegexLimitCardSaid : Prop := Claim7.holds Tryd.pinned (.plain (OpenSpec.ofChange fnRegexLimitSpec)) fnRegexLimitCard

/-- THE TIED CARD OF 'laws.FnRegexClass'. -/
def fnRegexClassCard : Claim7 := { stood := { row := fnRegexClassRow, standIns := [], harness := (true, "5814af3b7a25388bd0d18c9debba035d30f62e07fd36fd891a6cb6db585194c5"), looks := true }, kinds := [], alts := [], laidByText := true, laidKinds := [.data, .data, .data, .data, .sentinel, .sentinel, .sentinel, .sentinel, .sentinel, .pinned], laidTests := true, laidLooks := .later }
def FnRegexClassCardSaid : Prop := Claim7.holds Tryd.pinned (.plain (OpenSpec.ofChange fnRegexClassSpec)) fnRegexClassCard

/-- THE TIED CARD OF 'laws.FnRegexThen'. -/
def fnRegexThenCard : Claim7 := { stood := { row := fnRegexThenRow, standIns := [], harness := (true, "5814af3b7a25388bd0d18c9debba035d30f62e07fd36fd891a6cb6db585194c5"), looks := true }, kinds := [], alts := [], laidByText := true, laidKinds := [.data, .data, .data, .data, .sentinel, .sentinel, .sentinel, .sentinel, .sentinel, .pinned], laidTests := true, laidLooks := .later }
def FnRegexThenCardSaid : Prop := Claim7.holds Tryd.pinned (.plain (OpenSpec.ofChange fnRegexThenSpec)) fnRegexThenCard

/-- THE TIED CARD OF 'laws.FnProgramRoads'. -/
def fnProgramRoadsCard : Claim7 := { stood := { row := fnProgramRoadsRow, standIns := [], harness := (true, "5814af3b7a25388bd0d18c9debba035d30f62e07fd36fd891a6cb6db585194c5"), looks := true }, kinds := [], alts := [], laidByText := true, laidKinds := [.data, .data, .data, .data, .sentinel, .sentinel, .sentinel, .sentinel, .sentinel, .pinned], laidTests := true, laidLooks := .later }
def FnProgramRoadsCardSaid : Prop := Claim7.holds Tryd.pinned (.plain (OpenSpec.ofChange fnProgramRoadsSpec)) fnProgramRoadsCard

/-- THE SECOND FORM's CARD OF 'laws.FnCompile'. -/
def fnCompileUptoCard : Claim7 := { stood := { row := fnCompileUptoRow, standIns := [], harness := (true, "5814af3b7a25388bd0d18c9debba035d30f62e07fd36fd891a6cb6db585194c5"), looks := true }, kinds := [], alts := [], laidByText := true, laidKinds := [.data, .data, .data, .data, .sentinel, .sentinel, .sentinel, .sentinel, .sentinel, .pinned], laidTests := true, laidLooks := .later }
def FnCompileUptoCardSaid : Prop := Claim7.holds Tryd.pinned (.plain (OpenSpec.upto fnCompileSpec)) fnCompileUptoCard

/-- THE SECOND FORM's CARD OF 'laws.FnRegexLimit'. -/
def fnRegexLimitUptoCard : Claim7 := { stood := { row := fnRegexLimitUptoRow, standIns := [], harness := (true, "5814af3b7a25388bd0d18c9debba035d30f62e07fd36fd891a6cb6db585194c5"), looks := true }, kinds := [], alts := [], laidByText := true, laidKinds := [.data, .data, .data, .data, .sentinel, .sentinel, .sentinel, .sentinel, .sentinel, .pinned], laidTests := true, laidLooks := .later }
def FnRegexLimitUptoCardSaid : Prop := Claim7.holds Tryd.pinned (.plain (OpenSpec.upto fnRegexLimitSpec)) fnRegexLimitUptoCard

/-- THE SECOND FORM's CARD OF 'laws.FnRegexClass'. -/
def fnRegexClassUptoCard : Claim7 := { stood := { row := fnRegexClassUptoRow, standIns := [], harness := (true, "5814af3b7a25388bd0d18c9debba035d30f62e07fd36fd891a6cb6db585194c5"), looks := true }, kinds := [], alts := [], laidByText := true, laidKinds := [.data, .data, .data, .data, .sentinel, .sentinel, .sentinel, .sentinel, .sentinel, .pinned], laidTests := true, laidLooks := .later }
def FnRegexClassUptoCardSaid : Prop := Claim7.holds Tryd.pinned (.plain (OpenSpec.upto fnRegexClassSpec)) fnRegexClassUptoCard

/-- THE SECOND FORM's CARD OF 'laws.FnRegexThen'. -/
def fnRegexThenUptoCard : Claim7 := { stood := { row := fnRegexThenUptoRow, standIns := [], harness := (true, "5814af3b7a25388bd0d18c9debba035d30f62e07fd36fd891a6cb6db585194c5"), looks := true }, kinds := [], alts := [], laidByText := true, laidKinds := [.data, .data, .data, .data, .sentinel, .sentinel, .sentinel, .sentinel, .sentinel, .pinned], laidTests := true, laidLooks := .later }
def FnRegexThenUptoCardSaid : Prop := Claim7.holds Tryd.pinned (.plain (OpenSpec.upto fnRegexThenSpec)) fnRegexThenUptoCard

/-- THE SECOND FORM's CARD OF 'laws.FnProgramRoads'. -/
def fnProgramRoadsUptoCard : Claim7 := { stood := { row := fnProgramRoadsUptoRow, standIns := [], harness := (true, "5814af3b7a25388bd0d18c9debba035d30f62e07fd36fd891a6cb6db585194c5"), looks := true }, kinds := [], alts := [], laidByText := true, laidKinds := [.data, .data, .data, .data, .sentinel, .sentinel, .sentinel, .sentinel, .sentinel, .pinned], laidTests := true, laidLooks := .later }
def FnProgramRoadsUptoCardSaid : Prop := Claim7.holds Tryd.pinned (.plain (OpenSpec.upto fnProgramRoadsSpec)) fnProgramRoadsUptoCard
end Rows
end Go.Proofs.YtbkpgfccghombaaDoor
