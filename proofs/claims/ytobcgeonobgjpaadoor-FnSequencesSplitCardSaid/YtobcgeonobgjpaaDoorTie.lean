/-
  DERIVED. GIVEN WITH THE SEED: THE PROGRAM's TIES (one call each: nine closed facts by the kernel) AND EACH ROW's TIE, after the 31st guide's Derived/Test/Toyas{Tie, Card}.lean. No idea stands in it: it is a product of the set-up. Laid BY PROGRAM, IN A SANDBOX (cutbox-door.mjs). By AI agents, Wed Nov 11 2026. No macro, syntax, notation, axiom, sorry.
-/
import Derived.Test.YtobcgeonobgjpaaDoorRows
import Derived.LaidByTextLater
import Derived.SevenTiedAt
import Derived.LaidSub
import Derived.LaidOnce
namespace Go.Proofs.YtobcgeonobgjpaaDoor
open Go
set_option maxRecDepth 100000
theorem seatTie1 : Tryd.prog.laidByTextLater [("pub-traverser/pub/vellum/utf8.nilRange", Rows.laid_pub_traverser_pub_vellum_utf8_nilRange), ("pub-traverser/pub/vellum/utf8.nilScalarRange", Rows.laid_pub_traverser_pub_vellum_utf8_nilScalarRange)] [.data, .data] true :=
  Program.laidByTextLater_by_one 19 8 3 (by kernel_rfl) (by kernel_rfl) (by kernel_rfl) (by kernel_rfl) (by kernel_rfl) (by kernel_rfl) (fun _ _ => by kernel_rfl)
theorem noOwnUnsafe : Tryd.pinned.checked.prog.headLifts.contains "ownunsafe" = false := by kernel_rfl
theorem tie : Tryd.prog.laidByTextLater [("pub-traverser/pub/vellum/utf8.nilRange", Rows.laid_pub_traverser_pub_vellum_utf8_nilRange), ("pub-traverser/pub/vellum/utf8.nilScalarRange", Rows.laid_pub_traverser_pub_vellum_utf8_nilScalarRange)] [.data, .data] true :=
  Program.laidByTextLater.sub seatTie1 ["pub-traverser/pub/vellum/utf8.nilRange", "pub-traverser/pub/vellum/utf8.nilScalarRange"] (by kernel_rfl) (by kernel_rfl)
theorem fnSequencesOnly_row_tie : Rows.fnSequencesOnlyRow.laidByTextAt .later Tryd.pinned [.data, .data] true :=
  OpenClaim.laidByTextAt_later rfl rfl tie noOwnUnsafe
theorem fnSequencesSplit_row_tie : Rows.fnSequencesSplitRow.laidByTextAt .later Tryd.pinned [.data, .data] true :=
  OpenClaim.laidByTextAt_later rfl rfl tie noOwnUnsafe
theorem fnSequencesOnlyUpto_row_tie : Rows.fnSequencesOnlyUptoRow.laidByTextAt .later Tryd.pinned [.data, .data] true :=
  OpenClaim.laidByTextAt_later rfl rfl tie noOwnUnsafe
theorem fnSequencesSplitUpto_row_tie : Rows.fnSequencesSplitUptoRow.laidByTextAt .later Tryd.pinned [.data, .data] true :=
  OpenClaim.laidByTextAt_later rfl rfl tie noOwnUnsafe
end Go.Proofs.YtobcgeonobgjpaaDoor
