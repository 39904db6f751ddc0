/-
  DERIVED. GIVEN WITH THE SEED: THE CARDS: each row of YtndhaakknkkpfaaDoorRows.lean that lists a variable, with what it lists TIED to the program's text (the seventh form; the later family's looks); each row that meets fmt, with fmt's text TOLD by the authors' own Lean function (tested against real Go, not proved from fmt's source: count such statements apart). THE CARD IS WHAT COUNTS. Prove the row's statement (the work); the ties are given (YtndhaakknkkpfaaDoorTie.lean); close each card by the builder's one call (the guide's Derived/Test/ToyasCard.lean, 'card_holds'). Laid BY PROGRAM, IN A SANDBOX (cutbox-door.mjs). By AI agents, Wed Nov 11 2026. No macro, syntax, notation, axiom, sorry.
-/
import Derived.Test.YtndhaakknkkpfaaDoorRows
import GoSem.ClaimSeven
namespace Go.Proofs.YtndhaakknkkpfaaDoor
namespace Rows

/-- THE TIED CARD OF 'heraldlaw10.StateNexts'. -/
def stateNextsCard : Claim7 := { stood := { row := stateNextsRow, standIns := [], harness := (true, "0c89798a0318a6a2fd9fd00550d80fb00fa90a5f65b67b7a32116e470f58b983"), looks := false }, kinds := [], alts := [], laidByText := true, laidKinds := [.data, .data, .data, .data, .data, .data], laidTests := true, laidLooks := .later }
def StateNextsCardSaid : Prop := Claim7.holds Tryd.pinned (.plain (OpenSpec.ofChange stateNextsSpec)) stateNextsCard

/-- THE TIED CARD OF 'heraldlaw10.StateCells'. -/
def stateCellsCard : Claim7 := { stood := { row := stateCellsRow, standIns := [], harness := (true, "0c89798a0318a6a2fd9fd00550d80fb00fa90a5f65b67b7a32116e470f58b983"), looks := false }, kinds := [], alts := [], laidByText := true, laidKinds := [.data, .data, .data, .data, .data, .data], laidTests := true, laidLooks := .later }
def StateCellsCardSaid : Prop := Claim7.holds Tryd.pinned (.plain (OpenSpec.ofChange stateCellsSpec)) stateCellsCard

/-- THE TIED CARD OF 'heraldlaw10.StateBook'. -/
def stateBookCard : Claim7 := { stood := { row := stateBookRow, standIns := [], harness := (true, "0c89798a0318a6a2fd9fd00550d80fb00fa90a5f65b67b7a32116e470f58b983"), looks := false }, kinds := [], alts := [], laidByText := true, laidKinds := [.data, .data, .data, .data, .data, .data], laidTests := true, laidLooks := .later }
def StateBookCardSaid : Prop := Claim7.holds Tryd.pinned (.plain (OpenSpec.ofChange stateBookSpec)) stateBookCard

/-- THE TIED CARD OF 'heraldlaw10.StateMirror'. -/
def stateMirrorCard : Claim7 := { stood := { row := stateMirrorRow, standIns := [], harness := (true, "0c89798a0318a6a2fd9fd00550d80fb00fa90a5f65b67b7a32116e470f58b983"), looks := false }, kinds := [], alts := [], laidByText := true, laidKinds := [.data, .data, .data, .data, .data, .data], laidTests := true, laidLooks := .later }
def StateMirrorCardSaid : Prop := Claim7.holds Tryd.pinned (.plain (OpenSpec.ofChange stateMirrorSpec)) stateMirrorCard

/-- THE TIED CARD OF 'heraldlaw10.StateEnds'. -/
def stateEndsCard : Claim7 := { stood := { row := stateEndsRow, standIns := [], harness := (true, "0c89798a0318a6a2fd9fd00550d80fb00fa90a5f65b67b7a32116e470f58b983"), looks := false }, kinds := [], alts := [], laidByText := true, laidKinds := [.data, .data, .data, .data, .data, .data], laidTests := true, laidLooks := .later }
def StateEndsCardSaid : Prop := Claim7.holds Tryd.pinned (.plain (OpenSpec.ofChange stateEndsSpec)) stateEndsCard

/-- THE SECOND FORM's CARD OF 'heraldlaw10.StateNexts'. -/
def stateNextsUptoCard : Claim7 := { stood := { row := stateNextsUptoRow, standIns := [], harness := (true, "0c89798a0318a6a2fd9fd00550d80fb00fa90a5f65b67b7a32116e470f58b983"), looks := false }, kinds := [], alts := [], laidByText := true, laidKinds := [.data, .data, .data, .data, .data, .data], laidTests := true, laidLooks := .later }
def StateNextsUptoCardSaid : Prop := Claim7.holds Tryd.pinned (.plain (OpenSpec.upto stateNextsSpec)) stateNextsUptoCard

/-- THE SECOND FORM's CARD OF 'heraldlaw10.StateCells'. -/
def stateCellsUptoCard : Claim7 := { stood := { row := stateCellsUptoRow, standIns := [], harness := (true, "0c89798a0318a6a2fd9fd00550d80fb00fa90a5f65b67b7a32116e470f58b983"), looks := false }, kinds := [], alts := [], laidByText := true, laidKinds := [.data, .data, .data, .data, .data, .data], laidTests := true, laidLooks := .later }
def StateCellsUptoCardSaid : Prop := Claim7.holds Tryd.pinned (.plain (OpenSpec.upto stateCellsSpec)) stateCellsUptoCard

/-- THE SECOND FORM's CARD OF 'heraldlaw10.StateBook'. -/
def stateBookUptoCard : Claim7 := { stood := { row := stateBookUptoRow, standIns := [], harness := (true, "0c89798a0318a6a2fd9fd00550d80fb00fa90a5f65b67b7a32116e470f58b983"), looks := false }, kinds := [], alts := [], laidByText := true, laidKinds := [.data, .data, .data, .data, .data, .data], laidTests := true, laidLooks := .later }
def StateBookUptoCardSaid : Prop := Claim7.holds Tryd.pinned (.plain (OpenSpec.upto stateBookSpec)) stateBookUptoCard

/-- THE SECOND FORM's CARD OF 'heraldlaw10.StateMirror'. -/
def stateMirrorUptoCard : Claim7 := { stood := { row := stateMirrorUptoRow, standIns := [], harness := (true, "0c89798a0318a6a2fd9fd00550d80fb00fa90a5f65b67b7a32116e470f58b983"), looks := false }, kinds := [], alts := [], laidByText := true, laidKinds := [.data, .data, .data, .data, .data, .data], laidTests := true, laidLooks := .later }
def StateMirrorUptoCardSaid : Prop := Claim7.holds Tryd.pinned (.plain (OpenSpec.upto stateMirrorSpec)) stateMirrorUptoCard

/-- THE SECOND FORM's CARD OF 'heraldlaw10.StateEnds'. -/
def stateEndsUptoCard : Claim7 := { stood := { row := stateEndsUptoRow, standIns := [], harness := (true, "0c89798a0318a6a2fd9fd00550d80fb00fa90a5f65b67b7a32116e470f58b983"), looks := false }, kinds := [], alts := [], laidByText := true, laidKinds := [.data, .data, .data, .data, .data, .data], laidTests := true, laidLooks := .later }
def StateEndsUptoCardSaid : Prop := Claim7.holds Tryd.pinned (.plain (OpenSpec.upto stateEndsSpec)) stateEndsUptoCard
end Rows
end Go.Proofs.YtndhaakknkkpfaaDoor
