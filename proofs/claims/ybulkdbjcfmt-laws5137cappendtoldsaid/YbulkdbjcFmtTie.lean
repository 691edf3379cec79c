/-
  DERIVED. GIVEN WITH THE SEED: THE PROGRAM's TIES (one call each: nine closed facts by the kernel) AND EACH ROW's TIE, after the 31st guide's Derived/Test/Toyas{Tie, Card}.lean. No idea stands in it: it is a product of the set-up. Laid BY PROGRAM, IN A SANDBOX (cutbox-door.mjs). By AI agents, Wed Nov 11 2026. No macro, syntax, notation, axiom, sorry.
-/
import Derived.Test.YbulkdbjcFmtRows
import Derived.LaidByTextLater
import Derived.SevenTiedAt
import Derived.LaidSub
import Derived.LaidOnce
namespace Go.Proofs.YbulkdbjcFmt
open Go
set_option maxRecDepth 100000
theorem seatTie1 : Ybaf.prog.laidByTextLater [("example.com/timeweft/timeweft.ErrRange", Rows.laid_example_com_timeweft_timeweft_ErrRange), ("example.com/timeweft/timeweft.ErrBound", Rows.laid_example_com_timeweft_timeweft_ErrBound)] [.called, .sentinel] true :=
  Program.laidByTextLater_by_one 47 8 2 (by kernel_rfl) (by kernel_rfl) (by kernel_rfl) (by kernel_rfl) (by kernel_rfl) (by kernel_rfl) (fun _ _ => by kernel_rfl)
theorem noOwnUnsafe : Ybaf.pinned.checked.prog.headLifts.contains "ownunsafe" = false := by kernel_rfl
theorem tie : Ybaf.prog.laidByTextLater [("example.com/timeweft/timeweft.ErrBound", Rows.laid_example_com_timeweft_timeweft_ErrBound)] [.sentinel] true :=
  Program.laidByTextLater.sub seatTie1 ["example.com/timeweft/timeweft.ErrBound"] (by kernel_rfl) (by kernel_rfl)
theorem lawS5137BFree_row_tie : Rows.lawS5137BFreeRow.laidByTextAt .later Ybaf.pinned [.sentinel] true :=
  OpenClaim.laidByTextAt_later rfl rfl tie noOwnUnsafe
theorem lawS5137BBound_row_tie : Rows.lawS5137BBoundRow.laidByTextAt .later Ybaf.pinned [.sentinel] true :=
  OpenClaim.laidByTextAt_later rfl rfl tie noOwnUnsafe
theorem tie2 : Ybaf.prog.laidByTextLater [("example.com/timeweft/timeweft.ErrRange", Rows.laid_example_com_timeweft_timeweft_ErrRange)] [.called] true :=
  Program.laidByTextLater.sub seatTie1 ["example.com/timeweft/timeweft.ErrRange"] (by kernel_rfl) (by kernel_rfl)
theorem lawS5137CCheck_row_tie : Rows.lawS5137CCheckRow.laidByTextAt .later Ybaf.pinned [.called] true :=
  OpenClaim.laidByTextAt_later rfl rfl tie2 noOwnUnsafe
theorem lawS5137CAppend_row_tie : Rows.lawS5137CAppendRow.laidByTextAt .later Ybaf.pinned [.called] true :=
  OpenClaim.laidByTextAt_later rfl rfl tie2 noOwnUnsafe
end Go.Proofs.YbulkdbjcFmt
