/-
  DERIVED. GIVEN WITH THE SEED: THE CARDS: each row of YtoffhlbdfhhhjaaDoorRows.lean that lists a variable, with what it lists TIED to the program's text (the seventh form; the later family's looks); each row that meets fmt, with fmt's text TOLD by the authors' own Lean function (tested against real Go, not proved from fmt's source: count such statements apart). THE CARD IS WHAT COUNTS. Prove the row's statement (the work); the ties are given (YtoffhlbdfhhhjaaDoorTie.lean); close each card by the builder's one call (the guide's Derived/Test/ToyasCard.lean, 'card_holds'). Laid BY PROGRAM, IN A SANDBOX (cutbox-door.mjs). By AI agents, Wed Nov 11 2026. No macro, syntax, notation, axiom, sorry.
-/
import Derived.Test.YtoffhlbdfhhhjaaDoorRows
import GoSem.ClaimSeven
namespace Go.Proofs.YtoffhlbdfhhhjaaDoor
namespace Rows

/-- THE TIED CARD OF 'heraldlaw06.FrameWrites'. -/
def frameWritesCard : Claim7 := { stood := { row := frameWritesRow, standIns := [], harness := (true, "4e37a257b64d1436d4a1016a206a1e3b705675fa842dc3cec3d066aa3be1cd06"), looks := false }, kinds := [], alts := [], laidByText := true, laidKinds := [.data], laidTests := true, laidLooks := .later }
def FrameWritesCardSaid : Prop := Claim7.holds Tryd.pinned (.plain (OpenSpec.ofChange frameWritesSpec)) frameWritesCard

/-- THE TIED CARD OF 'heraldlaw06.FrameReads'. -/
def frameReadsCard : Claim7 := { stood := { row := frameReadsRow, standIns := [], harness := (true, "4e37a257b64d1436d4a1016a206a1e3b705675fa842dc3cec3d066aa3be1cd06"), looks := false }, kinds := [], alts := [], laidByText := true, laidKinds := [.data], laidTests := true, laidLooks := .later }
def FrameReadsCardSaid : Prop := Claim7.holds Tryd.pinned (.plain (OpenSpec.ofChange frameReadsSpec)) frameReadsCard

/-- THE TIED CARD OF 'heraldlaw06.FrameApart'. -/
def frameApartCard : Claim7 := { stood := { row := frameApartRow, standIns := [], harness := (true, "4e37a257b64d1436d4a1016a206a1e3b705675fa842dc3cec3d066aa3be1cd06"), looks := false }, kinds := [], alts := [], laidByText := true, laidKinds := [.data], laidTests := true, laidLooks := .later }
def FrameApartCardSaid : Prop := Claim7.holds Tryd.pinned (.plain (OpenSpec.ofChange frameApartSpec)) frameApartCard

/-- THE TIED CARD OF 'heraldlaw06.FrameBack'. -/
def frameBackCard : Claim7 := { stood := { row := frameBackRow, standIns := [], harness := (true, "4e37a257b64d1436d4a1016a206a1e3b705675fa842dc3cec3d066aa3be1cd06"), looks := false }, kinds := [], alts := [], laidByText := true, laidKinds := [.data], laidTests := true, laidLooks := .later }
def FrameBackCardSaid : Prop := Claim7.holds Tryd.pinned (.plain (OpenSpec.ofChange frameBackSpec)) frameBackCard

/-- THE TIED CARD OF 'heraldlaw06.FrameOne'. -/
def frameOneCard : Claim7 := { stood := { row := frameOneRow, standIns := [], harness := (true, "4e37a257b64d1436d4a1016a206a1e3b705675fa842dc3cec3d066aa3be1cd06"), looks := false }, kinds := [], alts := [], laidByText := true, laidKinds := [.data], laidTests := true, laidLooks := .later }
def FrameOneCardSaid : Prop := Claim7.holds Tryd.pinned (.plain (OpenSpec.ofChange frameOneSpec)) frameOneCard

/-- THE TIED CARD OF 'heraldlaw06.FrameRefuses'. -/
def frameRefusesCard : Claim7 := { stood := { row := frameRefusesRow, standIns := [], harness := (true, "4e37a257b64d1436d4a1016a206a1e3b705675fa842dc3cec3d066aa3be1cd06"), looks := false }, kinds := [], alts := [], laidByText := true, laidKinds := [.data], laidTests := true, laidLooks := .later }
def FrameRefusesCardSaid : Prop := Claim7.holds Tryd.pinned (.plain (OpenSpec.ofChange frameRefusesSpec)) frameRefusesCard

/-- THE TIED CARD OF 'heraldlaw07.FeedChunks'. -/
def feedChunksCard : Claim7 := { stood := { row := feedChunksRow, standIns := [], harness := (true, "4e37a257b64d1436d4a1016a206a1e3b705675fa842dc3cec3d066aa3be1cd06"), looks := false }, kinds := [], alts := [], laidByText := true, laidKinds := [.data], laidTests := true, laidLooks := .later }
def FeedChunksCardSaid : Prop := Claim7.holds Tryd.pinned (.plain (OpenSpec.ofChange feedChunksSpec)) feedChunksCard

/-- THE TIED CARD OF 'heraldlaw07.FeedPreface'. -/
def feedPrefaceCard : Claim7 := { stood := { row := feedPrefaceRow, standIns := [], harness := (true, "4e37a257b64d1436d4a1016a206a1e3b705675fa842dc3cec3d066aa3be1cd06"), looks := false }, kinds := [], alts := [], laidByText := true, laidKinds := [.data], laidTests := true, laidLooks := .later }
def FeedPrefaceCardSaid : Prop := Claim7.holds Tryd.pinned (.plain (OpenSpec.ofChange feedPrefaceSpec)) feedPrefaceCard

/-- THE TIED CARD OF 'heraldlaw07.FeedPlays'. -/
def feedPlaysCard : Claim7 := { stood := { row := feedPlaysRow, standIns := [], harness := (true, "4e37a257b64d1436d4a1016a206a1e3b705675fa842dc3cec3d066aa3be1cd06"), looks := false }, kinds := [], alts := [], laidByText := true, laidKinds := [.data], laidTests := true, laidLooks := .later }
def FeedPlaysCardSaid : Prop := Claim7.holds Tryd.pinned (.plain (OpenSpec.ofChange feedPlaysSpec)) feedPlaysCard

/-- THE TIED CARD OF 'heraldlaw07.FeedBroken'. -/
def feedBrokenCard : Claim7 := { stood := { row := feedBrokenRow, standIns := [], harness := (true, "4e37a257b64d1436d4a1016a206a1e3b705675fa842dc3cec3d066aa3be1cd06"), looks := false }, kinds := [], alts := [], laidByText := true, laidKinds := [.data], laidTests := true, laidLooks := .later }
def FeedBrokenCardSaid : Prop := Claim7.holds Tryd.pinned (.plain (OpenSpec.ofChange feedBrokenSpec)) feedBrokenCard

/-- THE TIED CARD OF 'heraldlaw07.FeedFrames'. -/
def feedFramesCard : Claim7 := { stood := { row := feedFramesRow, standIns := [], harness := (true, "4e37a257b64d1436d4a1016a206a1e3b705675fa842dc3cec3d066aa3be1cd06"), looks := false }, kinds := [], alts := [], laidByText := true, laidKinds := [.data], laidTests := true, laidLooks := .later }
def FeedFramesCardSaid : Prop := Claim7.holds Tryd.pinned (.plain (OpenSpec.ofChange feedFramesSpec)) feedFramesCard

/-- THE TIED CARD OF 'heraldlaw07.FeedApart'. -/
def feedApartCard : Claim7 := { stood := { row := feedApartRow, standIns := [], harness := (true, "4e37a257b64d1436d4a1016a206a1e3b705675fa842dc3cec3d066aa3be1cd06"), looks := false }, kinds := [], alts := [], laidByText := true, laidKinds := [.data], laidTests := true, laidLooks := .later }
def FeedApartCardSaid : Prop := Claim7.holds Tryd.pinned (.plain (OpenSpec.ofChange feedApartSpec)) feedApartCard

/-- THE SECOND FORM's CARD OF 'heraldlaw06.FrameWrites'. -/
def frameWritesUptoCard : Claim7 := { stood := { row := frameWritesUptoRow, standIns := [], harness := (true, "4e37a257b64d1436d4a1016a206a1e3b705675fa842dc3cec3d066aa3be1cd06"), looks := false }, kinds := [], alts := [], laidByText := true, laidKinds := [.data], laidTests := true, laidLooks := .later }
def FrameWritesUptoCardSaid : Prop := Claim7.holds Tryd.pinned (.plain (OpenSpec.upto frameWritesSpec)) frameWritesUptoCard

/-- THE SECOND FORM's CARD OF 'heraldlaw06.FrameReads'. -/
def frameReadsUptoCard : Claim7 := { stood := { row := frameReadsUptoRow, standIns := [], harness := (true, "4e37a257b64d1436d4a1016a206a1e3b705675fa842dc3cec3d066aa3be1cd06"), looks := false }, kinds := [], alts := [], laidByText := true, laidKinds := [.data], laidTests := true, laidLooks := .later }
def FrameReadsUptoCardSaid : Prop := Claim7.holds Tryd.pinned (.plain (OpenSpec.upto frameReadsSpec)) frameReadsUptoCard

/-- THE SECOND FORM's CARD OF 'heraldlaw06.FrameApart'. -/
def frameApartUptoCard : Claim7 := { stood := { row := frameApartUptoRow, standIns := [], harness := (true, "4e37a257b64d1436d4a1016a206a1e3b705675fa842dc3cec3d066aa3be1cd06"), looks := false }, kinds := [], alts := [], laidByText := true, laidKinds := [.data], laidTests := true, laidLooks := .later }
def FrameApartUptoCardSaid : Prop := Claim7.holds Tryd.pinned (.plain (OpenSpec.upto frameApartSpec)) frameApartUptoCard

/-- THE SECOND FORM's CARD OF 'heraldlaw06.FrameBack'. -/
def frameBackUptoCard : Claim7 := { stood := { row := frameBackUptoRow, standIns := [], harness := (true, "4e37a257b64d1436d4a1016a206a1e3b705675fa842dc3cec3d066aa3be1cd06"), looks := false }, kinds := [], alts := [], laidByText := true, laidKinds := [.data], laidTests := true, laidLooks := .later }
def FrameBackUptoCardSaid : Prop := Claim7.holds Tryd.pinned (.plain (OpenSpec.upto frameBackSpec)) frameBackUptoCard

/-- THE SECOND FORM's CARD OF 'heraldlaw06.FrameOne'. -/
def frameOneUptoCard : Claim7 := { stood := { row := frameOneUptoRow, standIns := [], harness := (true, "4e37a257b64d1436d4a1016a206a1e3b705675fa842dc3cec3d066aa3be1cd06"), looks := false }, kinds := [], alts := [], laidByText := true, laidKinds := [.data], laidTests := true, laidLooks := .later }
def FrameOneUptoCardSaid : Prop := Claim7.holds Tryd.pinned (.plain (OpenSpec.upto frameOneSpec)) frameOneUptoCard

/-- THE SECOND FORM's CARD OF 'heraldlaw06.FrameRefuses'. -/
def frameRefusesUptoCard : Claim7 := { stood := { row := frameRefusesUptoRow, standIns := [], harness := (true, "4e37a257b64d1436d4a1016a206a1e3b705675fa842dc3cec3d066aa3be1cd06"), looks := false }, kinds := [], alts := [], laidByText := true, laidKinds := [.data], laidTests := true, laidLooks := .later }
def FrameRefusesUptoCardSaid : Prop := Claim7.holds Tryd.pinned (.plain (OpenSpec.upto frameRefusesSpec)) frameRefusesUptoCard

/-- THE SECOND FORM's CARD OF 'heraldlaw07.FeedChunks'. -/
def feedChunksUptoCard : Claim7 := { stood := { row := feedChunksUptoRow, standIns := [], harness := (true, "4e37a257b64d1436d4a1016a206a1e3b705675fa842dc3cec3d066aa3be1cd06"), looks := false }, kinds := [], alts := [], laidByText := true, laidKinds := [.data], laidTests := true, laidLooks := .later }
def FeedChunksUptoCardSaid : Prop := Claim7.holds Tryd.pinned (.plain (OpenSpec.upto feedChunksSpec)) feedChunksUptoCard

/-- THE SECOND FORM's CARD OF 'heraldlaw07.FeedPreface'. -/
def feedPrefaceUptoCard : Claim7 := { stood := { row := feedPrefaceUptoRow, standIns := [], harness := (true, "4e37a257b64d1436d4a1016a206a1e3b705675fa842dc3cec3d066aa3be1cd06"), looks := false }, kinds := [], alts := [], laidByText := true, laidKinds := [.data], laidTests := true, laidLooks := .later }
def FeedPrefaceUptoCardSaid : Prop := Claim7.holds Tryd.pinned (.plain (OpenSpec.upto feedPrefaceSpec)) feedPrefaceUptoCard

/-- THE SECOND FORM's CARD OF 'heraldlaw07.FeedPlays'. -/
def feedPlaysUptoCard : Claim7 := { stood := { row := feedPlaysUptoRow, standIns := [], harness := (true, "4e37a257b64d1436d4a1016a206a1e3b705675fa842dc3cec3d066aa3be1cd06"), looks := false }, kinds := [], alts := [], laidByText := true, laidKinds := [.data], laidTests := true, laidLooks := .later }
def FeedPlaysUptoCardSaid : Prop := Claim7.holds Tryd.pinned (.plain (OpenSpec.upto feedPlaysSpec)) feedPlaysUptoCard

/-- THE SECOND FORM's CARD OF 'heraldlaw07.FeedBroken'. -/
def feedBrokenUptoCard : Claim7 := { stood := { row := feedBrokenUptoRow, standIns := [], harness := (true, "4e37a257b64d1436d4a1016a206a1e3b705675fa842dc3cec3d066aa3be1cd06"), looks := false }, kinds := [], alts := [], laidByText := true, laidKinds := [.data], laidTests := true, laidLooks := .later }
def FeedBrokenUptoCardSaid : Prop := Claim7.holds Tryd.pinned (.plain (OpenSpec.upto feedBrokenSpec)) feedBrokenUptoCard

/-- THE SECOND FORM's CARD OF 'heraldlaw07.FeedFrames'. -/
def feedFramesUptoCard : Claim7 := { stood := { row := feedFramesUptoRow, standIns := [], harness := (true, "4e37a257b64d1436d4a1016a206a1e3b705675fa842dc3cec3d066aa3be1cd06"), looks := false }, kinds := [], alts := [], laidByText := true, laidKinds := [.data], laidTests := true, laidLooks := .later }
def FeedFramesUptoCardSaid : Prop := Claim7.holds Tryd.pinned (.plain (OpenSpec.upto feedFramesSpec)) feedFramesUptoCard

/-- THE SECOND FORM's CARD OF 'heraldlaw07.FeedApart'. -/
def feedApartUptoCard : Claim7 := { stood := { row := feedApartUptoRow, standIns := [], harness := (true, "4e37a257b64d1436d4a1016a206a1e3b705675fa842dc3cec3d066aa3be1cd06"), looks := false }, kinds := [], alts := [], laidByText := true, laidKinds := [.data], laidTests := true, laidLooks := .later }
def FeedApartUptoCardSaid : Prop := Claim7.holds Tryd.pinned (.plain (OpenSpec.upto feedApartSpec)) feedApartUptoCard
end Rows
end Go.Proofs.YtoffhlbdfhhhjaaDoor
