/-
  DERIVED. GIVEN WITH THE SEED: THE CARDS: each row of YtagkncjdohljgaaDoorRows.lean that lists a variable, with what it lists TIED to the program's text (the seventh form; the later family's looks); each row that meets fmt, with fmt's text TOLD by the authors' own Lean function (tested against real Go, not proved from fmt's source: count such statements apart). THE CARD IS WHAT COUNTS. Prove the row's statement (the work); the ties are given (YtagkncjdohljgaaDoorTie.lean); close each card by the builder's one call (the guide's Derived/Test/ToyasCard.lean, 'card_holds'). Laid BY PROGRAM, IN A SANDBOX (cutbox-door.mjs). By AI agents, Wed Nov 11 2026. No macro, syntax, notation, axiom, sorry.
-/
import Derived.Test.YtagkncjdohljgaaDoorRows
import GoSem.ClaimSeven
namespace Go.Proofs.YtagkncjdohljgaaDoor
namespace Rows

/-- THE TIED CARD OF 'heraldlaw11.StreamsPlays'. -/
def streamsPlaysCard : Claim7 := { stood := { row := streamsPlaysRow, standIns := [], harness := (true, "5d70a72b538473cd2b0279e00d9a2a08be69ecc014bb7ffb4dd1842d65f009dc"), looks := false }, kinds := [], alts := [], laidByText := true, laidKinds := [.data, .data, .data, .data, .data, .data], laidTests := true, laidLooks := .later }
def StreamsPlaysCardSaid : Prop := Claim7.holds Tryd.pinned (.plain (OpenSpec.ofChange streamsPlaysSpec)) streamsPlaysCard

/-- THE TIED CARD OF 'heraldlaw11.StreamsBirths'. -/
def streamsBirthsCard : Claim7 := { stood := { row := streamsBirthsRow, standIns := [], harness := (true, "5d70a72b538473cd2b0279e00d9a2a08be69ecc014bb7ffb4dd1842d65f009dc"), looks := false }, kinds := [], alts := [], laidByText := true, laidKinds := [.data, .data, .data, .data, .data, .data], laidTests := true, laidLooks := .later }
def StreamsBirthsCardSaid : Prop := Claim7.holds Tryd.pinned (.plain (OpenSpec.ofChange streamsBirthsSpec)) streamsBirthsCard

/-- THE TIED CARD OF 'heraldlaw11.StreamsEnds'. -/
def streamsEndsCard : Claim7 := { stood := { row := streamsEndsRow, standIns := [], harness := (true, "5d70a72b538473cd2b0279e00d9a2a08be69ecc014bb7ffb4dd1842d65f009dc"), looks := false }, kinds := [], alts := [], laidByText := true, laidKinds := [.data, .data, .data, .data, .data, .data], laidTests := true, laidLooks := .later }
def StreamsEndsCardSaid : Prop := Claim7.holds Tryd.pinned (.plain (OpenSpec.ofChange streamsEndsSpec)) streamsEndsCard

/-- THE TIED CARD OF 'heraldlaw11.StreamsLate'. -/
def streamsLateCard : Claim7 := { stood := { row := streamsLateRow, standIns := [], harness := (true, "5d70a72b538473cd2b0279e00d9a2a08be69ecc014bb7ffb4dd1842d65f009dc"), looks := false }, kinds := [], alts := [], laidByText := true, laidKinds := [.data, .data, .data, .data, .data, .data], laidTests := true, laidLooks := .later }
def StreamsLateCardSaid : Prop := Claim7.holds Tryd.pinned (.plain (OpenSpec.ofChange streamsLateSpec)) streamsLateCard

/-- THE TIED CARD OF 'heraldlaw11.StreamsApart'. -/
def streamsApartCard : Claim7 := { stood := { row := streamsApartRow, standIns := [], harness := (true, "5d70a72b538473cd2b0279e00d9a2a08be69ecc014bb7ffb4dd1842d65f009dc"), looks := false }, kinds := [], alts := [], laidByText := true, laidKinds := [.data, .data, .data, .data, .data, .data], laidTests := true, laidLooks := .later }
def StreamsApartCardSaid : Prop := Claim7.holds Tryd.pinned (.plain (OpenSpec.ofChange streamsApartSpec)) streamsApartCard

/-- THE SECOND FORM's CARD OF 'heraldlaw11.StreamsPlays'. -/
def streamsPlaysUptoCard : Claim7 := { stood := { row := streamsPlaysUptoRow, standIns := [], harness := (true, "5d70a72b538473cd2b0279e00d9a2a08be69ecc014bb7ffb4dd1842d65f009dc"), looks := false }, kinds := [], alts := [], laidByText := true, laidKinds := [.data, .data, .data, .data, .data, .data], laidTests := true, laidLooks := .later }
def StreamsPlaysUptoCardSaid : Prop := Claim7.holds Tryd.pinned (.plain (OpenSpec.upto streamsPlaysSpec)) streamsPlaysUptoCard

/-- THE SECOND FORM's CARD OF 'heraldlaw11.StreamsBirths'. -/
def streamsBirthsUptoCard : Claim7 := { stood := { row := streamsBirthsUptoRow, standIns := [], harness := (true, "5d70a72b538473cd2b0279e00d9a2a08be69ecc014bb7ffb4dd1842d65f009dc"), looks := false }, kinds := [], alts := [], laidByText := true, laidKinds := [.data, .data, .data, .data, .data, .data], laidTests := true, laidLooks := .later }
def StreamsBirthsUptoCardSaid : Prop := Claim7.holds Tryd.pinned (.plain (OpenSpec.upto streamsBirthsSpec)) streamsBirthsUptoCard

/-- THE SECOND FORM's CARD OF 'heraldlaw11.StreamsEnds'. -/
def streamsEndsUptoCard : Claim7 := { stood := { row := streamsEndsUptoRow, standIns := [], harness := (true, "5d70a72b538473cd2b0279e00d9a2a08be69ecc014bb7ffb4dd1842d65f009dc"), looks := false }, kinds := [], alts := [], laidByText := true, laidKinds := [.data, .data, .data, .data, .data, .data], laidTests := true, laidLooks := .later }
def StreamsEndsUptoCardSaid : Prop := Claim7.holds Tryd.pinned (.plain (OpenSpec.upto streamsEndsSpec)) streamsEndsUptoCard

/-- THE SECOND FORM's CARD OF 'heraldlaw11.StreamsLate'. -/
def streamsLateUptoCard : Claim7 := { stood := { row := streamsLateUptoRow, standIns := [], harness := (true, "5d70a72b538473cd2b0279e00d9a2a08be69ecc014bb7ffb4dd1842d65f009dc"), looks := false }, kinds := [], alts := [], laidByText := true, laidKinds := [.data, .data, .data, .data, .data, .data], laidTests := true, laidLooks := .later }
def StreamsLateUptoCardSaid : Prop := Claim7.holds Tryd.pinned (.plain (OpenSpec.upto streamsLateSpec)) streamsLateUptoCard

/-- THE SECOND FORM's CARD OF 'heraldlaw11.StreamsApart'. -/
def streamsApartUptoCard : Claim7 := { stood := { row := streamsApartUptoRow, standIns := [], harness := (true, "5d70a72b538473cd2b0279e00d9a2a08be69ecc014bb7ffb4dd1842d65f009dc"), looks := false }, kinds := [], alts := [], laidByText := true, laidKinds := [.data, .data, .data, .data, .data, .data], laidTests := true, laidLooks := .later }
def StreamsApartUptoCardSaid : Prop := Claim7.holds Tryd.pinned (.plain (OpenSpec.upto streamsApartSpec)) streamsApartUptoCard
end Rows
end Go.Proofs.YtagkncjdohljgaaDoor
