/-
  DERIVED. GIVEN WITH THE SEED: THE CARDS: each row of YtcjphkgmcfpfeaaDoorRows.lean that lists a variable, with what it lists TIED to the program's text (the seventh form; the later family's looks); each row that meets fmt, with fmt's text TOLD by the authors' own Lean function (tested against real Go, not proved from fmt's source: count such statements apart). THE CARD IS WHAT COUNTS. Prove the row's statement (the work); the ties are given (YtcjphkgmcfpfeaaDoorTie.lean); close each card by the builder's one call (the guide's Derived/Test/ToyasCard.lean, 'card_holds'). Laid BY PROGRAM, IN A SANDBOX (cutbox-door.mjs). By AI agents, Wed Nov 11 2026. No macro, syntax, notation, axiom, sorry.
-/
import Derived.Test.YtcjphkgmcfpfeaaDoorRows
import GoSem.ClaimSeven
namespace Go.Proofs.YtcjphkgmcfpfeaaDoor
namespace Rows

/-- THE TIED CARD OF 'heraldlaw08.SettingParams'. -/
def settingParamsCard : Claim7 := { stood := { row := settingParamsRow, standIns := [], harness := (true, "caf3cbd89b3263fb4017fa159dac656fb82025904045a4339170c81f31f8efaa"), looks := false }, kinds := [], alts := [], laidByText := true, laidKinds := [.data, .data, .data, .data], laidTests := true, laidLooks := .later }
def SettingParamsCardSaid : Prop := Claim7.holds Tryd.pinned (.plain (OpenSpec.ofChange settingParamsSpec)) settingParamsCard

/-- THE TIED CARD OF 'heraldlaw08.SettingBooks'. -/
def settingBooksCard : Claim7 := { stood := { row := settingBooksRow, standIns := [], harness := (true, "caf3cbd89b3263fb4017fa159dac656fb82025904045a4339170c81f31f8efaa"), looks := false }, kinds := [], alts := [], laidByText := true, laidKinds := [.data, .data], laidTests := true, laidLooks := .later }
def SettingBooksCardSaid : Prop := Claim7.holds Tryd.pinned (.plain (OpenSpec.ofChange settingBooksSpec)) settingBooksCard

/-- THE TIED CARD OF 'heraldlaw08.SettingBack'. -/
def settingBackCard : Claim7 := { stood := { row := settingBackRow, standIns := [], harness := (true, "caf3cbd89b3263fb4017fa159dac656fb82025904045a4339170c81f31f8efaa"), looks := false }, kinds := [], alts := [], laidByText := true, laidKinds := [.data], laidTests := true, laidLooks := .later }
def SettingBackCardSaid : Prop := Claim7.holds Tryd.pinned (.plain (OpenSpec.ofChange settingBackSpec)) settingBackCard

/-- THE TIED CARD OF 'heraldlaw08.SettingOneByOne'. -/
def settingOneByOneCard : Claim7 := { stood := { row := settingOneByOneRow, standIns := [], harness := (true, "caf3cbd89b3263fb4017fa159dac656fb82025904045a4339170c81f31f8efaa"), looks := false }, kinds := [], alts := [], laidByText := true, laidKinds := [.data], laidTests := true, laidLooks := .later }
def SettingOneByOneCardSaid : Prop := Claim7.holds Tryd.pinned (.plain (OpenSpec.ofChange settingOneByOneSpec)) settingOneByOneCard

/-- THE TIED CARD OF 'heraldlaw08.SettingHolds'. -/
def settingHoldsCard : Claim7 := { stood := { row := settingHoldsRow, standIns := [], harness := (true, "caf3cbd89b3263fb4017fa159dac656fb82025904045a4339170c81f31f8efaa"), looks := false }, kinds := [], alts := [], laidByText := true, laidKinds := [.data], laidTests := true, laidLooks := .later }
def SettingHoldsCardSaid : Prop := Claim7.holds Tryd.pinned (.plain (OpenSpec.ofChange settingHoldsSpec)) settingHoldsCard

/-- THE SECOND FORM's CARD OF 'heraldlaw08.SettingParams'. -/
def settingParamsUptoCard : Claim7 := { stood := { row := settingParamsUptoRow, standIns := [], harness := (true, "caf3cbd89b3263fb4017fa159dac656fb82025904045a4339170c81f31f8efaa"), looks := false }, kinds := [], alts := [], laidByText := true, laidKinds := [.data, .data, .data, .data], laidTests := true, laidLooks := .later }
def SettingParamsUptoCardSaid : Prop := Claim7.holds Tryd.pinned (.plain (OpenSpec.upto settingParamsSpec)) settingParamsUptoCard

/-- THE SECOND FORM's CARD OF 'heraldlaw08.SettingBooks'. -/
def settingBooksUptoCard : Claim7 := { stood := { row := settingBooksUptoRow, standIns := [], harness := (true, "caf3cbd89b3263fb4017fa159dac656fb82025904045a4339170c81f31f8efaa"), looks := false }, kinds := [], alts := [], laidByText := true, laidKinds := [.data, .data], laidTests := true, laidLooks := .later }
def SettingBooksUptoCardSaid : Prop := Claim7.holds Tryd.pinned (.plain (OpenSpec.upto settingBooksSpec)) settingBooksUptoCard

/-- THE SECOND FORM's CARD OF 'heraldlaw08.SettingBack'. -/
def settingBackUptoCard : Claim7 := { stood := { row := settingBackUptoRow, standIns := [], harness := (true, "caf3cbd89b3263fb4017fa159dac656fb82025904045a4339170c81f31f8efaa"), looks := false }, kinds := [], alts := [], laidByText := true, laidKinds := [.data], laidTests := true, laidLooks := .later }
def SettingBackUptoCardSaid : Prop := Claim7.holds Tryd.pinned (.plain (OpenSpec.upto settingBackSpec)) settingBackUptoCard

/-- THE SECOND FORM's CARD OF 'heraldlaw08.SettingOneByOne'. -/
def settingOneByOneUptoCard : Claim7 := { stood := { row := settingOneByOneUptoRow, standIns := [], harness := (true, "caf3cbd89b3263fb4017fa159dac656fb82025904045a4339170c81f31f8efaa"), looks := false }, kinds := [], alts := [], laidByText := true, laidKinds := [.data], laidTests := true, laidLooks := .later }
def SettingOneByOneUptoCardSaid : Prop := Claim7.holds Tryd.pinned (.plain (OpenSpec.upto settingOneByOneSpec)) settingOneByOneUptoCard

/-- THE SECOND FORM's CARD OF 'heraldlaw08.SettingHolds'. -/
def settingHoldsUptoCard : Claim7 := { stood := { row := settingHoldsUptoRow, standIns := [], harness := (true, "caf3cbd89b3263fb4017fa159dac656fb82025904045a4339170c81f31f8efaa"), looks := false }, kinds := [], alts := [], laidByText := true, laidKinds := [.data], laidTests := true, laidLooks := .later }
def SettingHoldsUptoCardSaid : Prop := Claim7.holds Tryd.pinned (.plain (OpenSpec.upto settingHoldsSpec)) settingHoldsUptoCard
end Rows
end Go.Proofs.YtcjphkgmcfpfeaaDoor
