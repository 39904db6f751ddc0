/-
  DERIVED. GIVEN WITH THE SEED: THE PROGRAM's TIES (one call each: nine closed facts by the kernel) AND EACH ROW's TIE, after the 31st guide's Derived/Test/Toyas{Tie, Card}.lean. No idea stands in it: it is a product of the set-up. Laid BY PROGRAM, IN A SANDBOX (cutbox-door.mjs). By AI agents, Wed Nov 11 2026. No macro, syntax, notation, axiom, sorry.
-/
import Derived.Test.YtndhaakknkkpfaaDoorRows
import Derived.LaidByTextLater
import Derived.SevenTiedAt
import Derived.LaidSub
import Derived.LaidOnce
namespace Go.Proofs.YtndhaakknkkpfaaDoor
open Go
set_option maxRecDepth 100000
theorem seatTie1 : Tryd.prog.laidByTextLater [("herald/state.fine", Rows.laid_herald_state_fine), ("herald/state.ignored", Rows.laid_herald_state_ignored), ("herald/state.barred", Rows.laid_herald_state_barred), ("herald/state.wrong", Rows.laid_herald_state_wrong), ("herald/state.shut", Rows.laid_herald_state_shut), ("herald/state.ended", Rows.laid_herald_state_ended)] [.data, .data, .data, .data, .data, .data] true :=
  Program.laidByTextLater_by_one 39 8 3 (by kernel_rfl) (by kernel_rfl) (by kernel_rfl) (by kernel_rfl) (by kernel_rfl) (by kernel_rfl) (fun _ _ => by kernel_rfl)
theorem noOwnUnsafe : Tryd.pinned.checked.prog.headLifts.contains "ownunsafe" = false := by kernel_rfl
theorem tie : Tryd.prog.laidByTextLater [("herald/state.fine", Rows.laid_herald_state_fine), ("herald/state.ignored", Rows.laid_herald_state_ignored), ("herald/state.barred", Rows.laid_herald_state_barred), ("herald/state.wrong", Rows.laid_herald_state_wrong), ("herald/state.shut", Rows.laid_herald_state_shut), ("herald/state.ended", Rows.laid_herald_state_ended)] [.data, .data, .data, .data, .data, .data] true :=
  Program.laidByTextLater.sub seatTie1 ["herald/state.fine", "herald/state.ignored", "herald/state.barred", "herald/state.wrong", "herald/state.shut", "herald/state.ended"] (by kernel_rfl) (by kernel_rfl)
theorem stateNexts_row_tie : Rows.stateNextsRow.laidByTextAt .later Tryd.pinned [.data, .data, .data, .data, .data, .data] true :=
  OpenClaim.laidByTextAt_later rfl rfl tie noOwnUnsafe
theorem stateCells_row_tie : Rows.stateCellsRow.laidByTextAt .later Tryd.pinned [.data, .data, .data, .data, .data, .data] true :=
  OpenClaim.laidByTextAt_later rfl rfl tie noOwnUnsafe
theorem stateBook_row_tie : Rows.stateBookRow.laidByTextAt .later Tryd.pinned [.data, .data, .data, .data, .data, .data] true :=
  OpenClaim.laidByTextAt_later rfl rfl tie noOwnUnsafe
theorem stateMirror_row_tie : Rows.stateMirrorRow.laidByTextAt .later Tryd.pinned [.data, .data, .data, .data, .data, .data] true :=
  OpenClaim.laidByTextAt_later rfl rfl tie noOwnUnsafe
theorem stateEnds_row_tie : Rows.stateEndsRow.laidByTextAt .later Tryd.pinned [.data, .data, .data, .data, .data, .data] true :=
  OpenClaim.laidByTextAt_later rfl rfl tie noOwnUnsafe
theorem stateNextsUpto_row_tie : Rows.stateNextsUptoRow.laidByTextAt .later Tryd.pinned [.data, .data, .data, .data, .data, .data] true :=
  OpenClaim.laidByTextAt_later rfl rfl tie noOwnUnsafe
theorem stateCellsUpto_row_tie : Rows.stateCellsUptoRow.laidByTextAt .later Tryd.pinned [.data, .data, .data, .data, .data, .data] true :=
  OpenClaim.laidByTextAt_later rfl rfl tie noOwnUnsafe
theorem stateBookUpto_row_tie : Rows.stateBookUptoRow.laidByTextAt .later Tryd.pinned [.data, .data, .data, .data, .data, .data] true :=
  OpenClaim.laidByTextAt_later rfl rfl tie noOwnUnsafe
theorem stateMirrorUpto_row_tie : Rows.stateMirrorUptoRow.laidByTextAt .later Tryd.pinned [.data, .data, .data, .data, .data, .data] true :=
  OpenClaim.laidByTextAt_later rfl rfl tie noOwnUnsafe
theorem stateEndsUpto_row_tie : Rows.stateEndsUptoRow.laidByTextAt .later Tryd.pinned [.data, .data, .data, .data, .data, .data] true :=
  OpenClaim.laidByTextAt_later rfl rfl tie noOwnUnsafe
end Go.Proofs.YtndhaakknkkpfaaDoor
