/-
  DERIVED. GIVEN WITH THE SEED: THE PROGRAM's TIES (one call each: nine closed facts by the kernel) AND EACH ROW's TIE, after the 31st guide's Derived/Test/Toyas{Tie, Card}.lean. No idea stands in it: it is a product of the set-up. Laid BY PROGRAM, IN A SANDBOX (cutbox-door.mjs). By AI agents, Wed Nov 11 2026. No macro, syntax, notation, axiom, sorry.
-/
import Derived.Test.YtcjphkgmcfpfeaaDoorRows
import Derived.LaidByTextLater
import Derived.SevenTiedAt
import Derived.LaidSub
import Derived.LaidOnce
namespace Go.Proofs.YtcjphkgmcfpfeaaDoor
open Go
set_option maxRecDepth 100000
theorem seatTie1 : Tryd.prog.laidByTextLater [("herald/heraldref08.low", Rows.laid_herald_heraldref08_low), ("herald/heraldref08.high", Rows.laid_herald_heraldref08_high), ("herald/heraldref08.top", Rows.laid_herald_heraldref08_top), ("herald/setting.initial", Rows.laid_herald_setting_initial)] [.data, .data, .data, .data] true :=
  Program.laidByTextLater_by_one 29 8 7 (by kernel_rfl) (by kernel_rfl) (by kernel_rfl) (by kernel_rfl) (by kernel_rfl) (by kernel_rfl) (fun _ _ => by kernel_rfl)
theorem noOwnUnsafe : Tryd.pinned.checked.prog.headLifts.contains "ownunsafe" = false := by kernel_rfl
theorem tie : Tryd.prog.laidByTextLater [("herald/heraldref08.low", Rows.laid_herald_heraldref08_low), ("herald/heraldref08.high", Rows.laid_herald_heraldref08_high), ("herald/heraldref08.top", Rows.laid_herald_heraldref08_top), ("herald/setting.initial", Rows.laid_herald_setting_initial)] [.data, .data, .data, .data] true :=
  Program.laidByTextLater.sub seatTie1 ["herald/heraldref08.low", "herald/heraldref08.high", "herald/heraldref08.top", "herald/setting.initial"] (by kernel_rfl) (by kernel_rfl)
theorem settingParams_row_tie : Rows.settingParamsRow.laidByTextAt .later Tryd.pinned [.data, .data, .data, .data] true :=
  OpenClaim.laidByTextAt_later rfl rfl tie noOwnUnsafe
theorem tie2 : Tryd.prog.laidByTextLater [("herald/heraldref08.top", Rows.laid_herald_heraldref08_top), ("herald/setting.initial", Rows.laid_herald_setting_initial)] [.data, .data] true :=
  Program.laidByTextLater.sub seatTie1 ["herald/heraldref08.top", "herald/setting.initial"] (by kernel_rfl) (by kernel_rfl)
theorem settingBooks_row_tie : Rows.settingBooksRow.laidByTextAt .later Tryd.pinned [.data, .data] true :=
  OpenClaim.laidByTextAt_later rfl rfl tie2 noOwnUnsafe
theorem tie3 : Tryd.prog.laidByTextLater [("herald/setting.initial", Rows.laid_herald_setting_initial)] [.data] true :=
  Program.laidByTextLater.sub seatTie1 ["herald/setting.initial"] (by kernel_rfl) (by kernel_rfl)
theorem settingBack_row_tie : Rows.settingBackRow.laidByTextAt .later Tryd.pinned [.data] true :=
  OpenClaim.laidByTextAt_later rfl rfl tie3 noOwnUnsafe
theorem settingOneByOne_row_tie : Rows.settingOneByOneRow.laidByTextAt .later Tryd.pinned [.data] true :=
  OpenClaim.laidByTextAt_later rfl rfl tie3 noOwnUnsafe
theorem settingHolds_row_tie : Rows.settingHoldsRow.laidByTextAt .later Tryd.pinned [.data] true :=
  OpenClaim.laidByTextAt_later rfl rfl tie3 noOwnUnsafe
theorem settingParamsUpto_row_tie : Rows.settingParamsUptoRow.laidByTextAt .later Tryd.pinned [.data, .data, .data, .data] true :=
  OpenClaim.laidByTextAt_later rfl rfl tie noOwnUnsafe
theorem settingBooksUpto_row_tie : Rows.settingBooksUptoRow.laidByTextAt .later Tryd.pinned [.data, .data] true :=
  OpenClaim.laidByTextAt_later rfl rfl tie2 noOwnUnsafe
theorem settingBackUpto_row_tie : Rows.settingBackUptoRow.laidByTextAt .later Tryd.pinned [.data] true :=
  OpenClaim.laidByTextAt_later rfl rfl tie3 noOwnUnsafe
theorem settingOneByOneUpto_row_tie : Rows.settingOneByOneUptoRow.laidByTextAt .later Tryd.pinned [.data] true :=
  OpenClaim.laidByTextAt_later rfl rfl tie3 noOwnUnsafe
theorem settingHoldsUpto_row_tie : Rows.settingHoldsUptoRow.laidByTextAt .later Tryd.pinned [.data] true :=
  OpenClaim.laidByTextAt_later rfl rfl tie3 noOwnUnsafe
end Go.Proofs.YtcjphkgmcfpfeaaDoor
