/-
  DERIVED. GIVEN WITH THE SEED: THE PROGRAM's TIES (one call each: nine closed facts by the kernel) AND EACH ROW's TIE, after the 31st guide's Derived/Test/Toyas{Tie, Card}.lean. No idea stands in it: it is a product of the set-up. Laid BY PROGRAM, IN A SANDBOX (cutbox-door.mjs). By AI agents, Wed Nov 11 2026. No macro, syntax, notation, axiom, sorry.
-/
import Derived.Test.YtagkncjdohljgaaDoorRows
import Derived.LaidByTextLater
import Derived.SevenTiedAt
import Derived.LaidSub
import Derived.LaidOnce
namespace Go.Proofs.YtagkncjdohljgaaDoor
open Go
set_option maxRecDepth 100000
theorem seatTie1 : Tryd.prog.laidByTextLater [("herald/state.fine", Rows.laid_herald_state_fine), ("herald/state.ignored", Rows.laid_herald_state_ignored), ("herald/state.barred", Rows.laid_herald_state_barred), ("herald/state.wrong", Rows.laid_herald_state_wrong), ("herald/state.shut", Rows.laid_herald_state_shut), ("herald/state.ended", Rows.laid_herald_state_ended)] [.data, .data, .data, .data, .data, .data] true :=
  Program.laidByTextLater_by_one 39 8 3 (by kernel_rfl) (by kernel_rfl) (by kernel_rfl) (by kernel_rfl) (by kernel_rfl) (by kernel_rfl) (fun _ _ => by kernel_rfl)
theorem noOwnUnsafe : Tryd.pinned.checked.prog.headLifts.contains "ownunsafe" = false := by kernel_rfl
theorem tie : Tryd.prog.laidByTextLater [("herald/state.fine", Rows.laid_herald_state_fine), ("herald/state.ignored", Rows.laid_herald_state_ignored), ("herald/state.barred", Rows.laid_herald_state_barred), ("herald/state.wrong", Rows.laid_herald_state_wrong), ("herald/state.shut", Rows.laid_herald_state_shut), ("herald/state.ended", Rows.laid_herald_state_ended)] [.data, .data, .data, .data, .data, .data] true :=
  Program.laidByTextLater.sub seatTie1 ["herald/state.fine", "herald/state.ignored", "herald/state.barred", "herald/state.wrong", "herald/state.shut", "herald/state.ended"] (by kernel_rfl) (by kernel_rfl)
theorem streamsPlays_row_tie : Rows.streamsPlaysRow.laidByTextAt .later Tryd.pinned [.data, .data, .data, .data, .data, .data] true :=
  OpenClaim.laidByTextAt_later rfl rfl tie noOwnUnsafe
theorem streamsBirths_row_tie : Rows.streamsBirthsRow.laidByTextAt .later Tryd.pinned [.data, .data, .data, .data, .data, .data] true :=
  OpenClaim.laidByTextAt_later rfl rfl tie noOwnUnsafe
theorem streamsEnds_row_tie : Rows.streamsEndsRow.laidByTextAt .later Tryd.pinned [.data, .data, .data, .data, .data, .data] true :=
  OpenClaim.laidByTextAt_later rfl rfl tie noOwnUnsafe
theorem streamsLate_row_tie : Rows.streamsLateRow.laidByTextAt .later Tryd.pinned [.data, .data, .data, .data, .data, .data] true :=
  OpenClaim.laidByTextAt_later rfl rfl tie noOwnUnsafe
theorem streamsApart_row_tie : Rows.streamsApartRow.laidByTextAt .later Tryd.pinned [.data, .data, .data, .data, .data, .data] true :=
  OpenClaim.laidByTextAt_later rfl rfl tie noOwnUnsafe
theorem streamsPlaysUpto_row_tie : Rows.streamsPlaysUptoRow.laidByTextAt .later Tryd.pinned [.data, .data, .data, .data, .data, .data] true :=
  OpenClaim.laidByTextAt_later rfl rfl tie noOwnUnsafe
theorem streamsBirthsUpto_row_tie : Rows.streamsBirthsUptoRow.laidByTextAt .later Tryd.pinned [.data, .data, .data, .data, .data, .data] true :=
  OpenClaim.laidByTextAt_later rfl rfl tie noOwnUnsafe
theorem streamsEndsUpto_row_tie : Rows.streamsEndsUptoRow.laidByTextAt .later Tryd.pinned [.data, .data, .data, .data, .data, .data] true :=
  OpenClaim.laidByTextAt_later rfl rfl tie noOwnUnsafe
theorem streamsLateUpto_row_tie : Rows.streamsLateUptoRow.laidByTextAt .later Tryd.pinned [.data, .data, .data, .data, .data, .data] true :=
  OpenClaim.laidByTextAt_later rfl rfl tie noOwnUnsafe
theorem streamsApartUpto_row_tie : Rows.streamsApartUptoRow.laidByTextAt .later Tryd.pinned [.data, .data, .data, .data, .data, .data] true :=
  OpenClaim.laidByTextAt_later rfl rfl tie noOwnUnsafe
end Go.Proofs.YtagkncjdohljgaaDoor
