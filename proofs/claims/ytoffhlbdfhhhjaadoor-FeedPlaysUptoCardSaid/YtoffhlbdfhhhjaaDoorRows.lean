/-
  NARROWER THAN 'FOR EVERY INPUT', by the rows' own cells (each row's printed sentence says how): FrameWrites: laid · FrameReads: laid · FrameApart: laid · FrameBack: laid · FrameOne: laid · FrameRefuses: laid · FeedChunks: laid · FeedPreface: laid · FeedPlays: laid · FeedBroken: laid · FeedFrames: laid · FeedApart: laid.
  DERIVED. THE GIVEN ROWS OF THIS SEAT. 12 by the template 'for every input the law returns true; each argument reads behind the call as it read before'; 0 by the template 'total and deterministic' (their statements: YtoffhlbdfhhhjaaDoorTotals.lean).
  GIVEN WITH THE SEED: the statements are not yours to turn. If you find one false, say at which input.
  Laid BY PROGRAM, IN A SANDBOX (cutbox-rows.mjs): the forced cells as the released guide's own fill.sh prints them over the translation 88ecad58706dbcb0… (all of the seat's roots in one cut). By AI agents, Wed Nov 11 2026. No macro, syntax, notation, axiom, sorry.
-/
import Derived.Test.YtoffhlbdfhhhjaaDoorChecked
import GoSem.Claim
import GoSem.ClaimJoined
import GoSem.ClaimMapViews
import Derived.JoinedTies
import Derived.KernelRfl
namespace Go.Proofs.YtoffhlbdfhhhjaaDoor
/- THE CELL 'sum', in the pinned program and in every row, IS THE sha256 OF THE DUMP (.gsa) THAT YtoffhlbdfhhhjaaDoorProg.lean LOADS. Nothing in Lean hashes anything: it is a label: what it is worth is what the hold of that sum in a sandbox is worth. -/
noncomputable def Tryd.pinned : Pinned := { name := "ytoffhlbdfhhhjaadoor", sum := "88ecad58706dbcb04a669b34503bdbb1c177a3cc57301c70c5f356f2dc0143a3", checked := Tryd.checked }
namespace Rows
def none {H : Type} : Left H := { results := [], args := [] }

/- WHAT THE LISTED PACKAGE-LEVEL VARIABLES READ AS WHEN THE CALL BEGINS. Each datum BY PROGRAM (the guide's laid-datum.mjs) off the statement by which the dump's own 'gosem.cut.vars' lays the variable. In a bare row this is a premise. The card (YtoffhlbdfhhhjaaDoorCards.lean) ties it to the program's text. -/
def laid_herald_frame_kinds {H : Type} : DataW H := .agg [.agg [.lit (.int .i64 9), .lit (.int .i64 0)], .agg [.lit (.int .i64 45), .lit (.int .i64 0)], .agg [.lit (.int .i64 0), .lit (.int .i64 0)], .agg [.lit (.int .i64 0), .lit (.int .i64 0)], .agg [.lit (.int .i64 1), .lit (.int .i64 1)], .agg [.lit (.int .i64 12), .lit (.int .i64 0)], .agg [.lit (.int .i64 1), .lit (.int .i64 1)], .agg [.lit (.int .i64 0), .lit (.int .i64 1)], .agg [.lit (.int .i64 0), .lit (.int .i64 2)], .agg [.lit (.int .i64 4), .lit (.int .i64 0)]]

/-- 'heraldlaw06.FrameWrites': WHATEVER THE INPUT: true; the input reads as it did. -/
def frameWritesSpec : ChangeSpec := { name := "frameWrites", fn := fun _ => fun
  | [d] => { results := [.lit (.bool true)], args := [d] }
  | _ => none }
def frameWritesRow : OpenClaim := { program := "ytoffhlbdfhhhjaadoor", sum := "88ecad58706dbcb04a669b34503bdbb1c177a3cc57301c70c5f356f2dc0143a3", func := "herald/heraldlaw06.FrameWrites", spec := "frameWrites", inPlace := ["internal/abi.NoEscape", "internal/bytealg.MakeNoZero"], unfollowed := true, recurses := true, named := ["herald/frame.kinds"], apart := false, laid := [("herald/frame.kinds", laid_herald_frame_kinds)] }
def FrameWritesSaid : Prop := frameWritesRow.holds Tryd.pinned (OpenSpec.ofChange frameWritesSpec)

/-- ITS FALSE NEIGHBOUR: 'it returns false'. Refute it at one input. -/
def frameWritesWrong : ChangeSpec := { name := "frameWrites", fn := fun _ => fun
  | [d] => { results := [.lit (.bool false)], args := [d] }
  | _ => none }
def FrameWritesWrongFalsely : Prop := frameWritesRow.holds Tryd.pinned (OpenSpec.ofChange frameWritesWrong)

/-- 'heraldlaw06.FrameReads': WHATEVER THE INPUT: true; the input reads as it did. -/
def frameReadsSpec : ChangeSpec := { name := "frameReads", fn := fun _ => fun
  | [d1, d2] => { results := [.lit (.bool true)], args := [d1, d2] }
  | _ => none }
def frameReadsRow : OpenClaim := { program := "ytoffhlbdfhhhjaadoor", sum := "88ecad58706dbcb04a669b34503bdbb1c177a3cc57301c70c5f356f2dc0143a3", func := "herald/heraldlaw06.FrameReads", spec := "frameReads", inPlace := ["internal/abi.NoEscape", "internal/bytealg.MakeNoZero"], unfollowed := true, recurses := true, named := ["herald/frame.kinds"], apart := false, laid := [("herald/frame.kinds", laid_herald_frame_kinds)] }
def FrameReadsSaid : Prop := frameReadsRow.holds Tryd.pinned (OpenSpec.ofChange frameReadsSpec)

/-- ITS FALSE NEIGHBOUR: 'it returns false'. Refute it at one input. -/
def frameReadsWrong : ChangeSpec := { name := "frameReads", fn := fun _ => fun
  | [d1, d2] => { results := [.lit (.bool false)], args := [d1, d2] }
  | _ => none }
def FrameReadsWrongFalsely : Prop := frameReadsRow.holds Tryd.pinned (OpenSpec.ofChange frameReadsWrong)

/-- 'heraldlaw06.FrameApart': WHATEVER THE INPUT: true; the input reads as it did. -/
def frameApartSpec : ChangeSpec := { name := "frameApart", fn := fun _ => fun
  | [d] => { results := [.lit (.bool true)], args := [d] }
  | _ => none }
def frameApartRow : OpenClaim := { program := "ytoffhlbdfhhhjaadoor", sum := "88ecad58706dbcb04a669b34503bdbb1c177a3cc57301c70c5f356f2dc0143a3", func := "herald/heraldlaw06.FrameApart", spec := "frameApart", inPlace := ["internal/abi.NoEscape", "internal/bytealg.MakeNoZero"], unfollowed := true, recurses := true, named := ["herald/frame.kinds"], apart := false, laid := [("herald/frame.kinds", laid_herald_frame_kinds)] }
def FrameApartSaid : Prop := frameApartRow.holds Tryd.pinned (OpenSpec.ofChange frameApartSpec)

/-- ITS FALSE NEIGHBOUR: 'it returns false'. Refute it at one input. -/
def frameApartWrong : ChangeSpec := { name := "frameApart", fn := fun _ => fun
  | [d] => { results := [.lit (.bool false)], args := [d] }
  | _ => none }
def FrameApartWrongFalsely : Prop := frameApartRow.holds Tryd.pinned (OpenSpec.ofChange frameApartWrong)

/-- 'heraldlaw06.FrameBack': WHATEVER THE INPUT: true; the input reads as it did. -/
def frameBackSpec : ChangeSpec := { name := "frameBack", fn := fun _ => fun
  | [d1, d2, d3] => { results := [.lit (.bool true)], args := [d1, d2, d3] }
  | _ => none }
def frameBackRow : OpenClaim := { program := "ytoffhlbdfhhhjaadoor", sum := "88ecad58706dbcb04a669b34503bdbb1c177a3cc57301c70c5f356f2dc0143a3", func := "herald/heraldlaw06.FrameBack", spec := "frameBack", inPlace := ["internal/abi.NoEscape", "internal/bytealg.MakeNoZero"], unfollowed := true, recurses := true, named := ["herald/frame.kinds"], apart := false, laid := [("herald/frame.kinds", laid_herald_frame_kinds)] }
def FrameBackSaid : Prop := frameBackRow.holds Tryd.pinned (OpenSpec.ofChange frameBackSpec)

/-- ITS FALSE NEIGHBOUR: 'it returns false'. Refute it at one input. -/
def frameBackWrong : ChangeSpec := { name := "frameBack", fn := fun _ => fun
  | [d1, d2, d3] => { results := [.lit (.bool false)], args := [d1, d2, d3] }
  | _ => none }
def FrameBackWrongFalsely : Prop := frameBackRow.holds Tryd.pinned (OpenSpec.ofChange frameBackWrong)

/-- 'heraldlaw06.FrameOne': WHATEVER THE INPUT: true; the input reads as it did. -/
def frameOneSpec : ChangeSpec := { name := "frameOne", fn := fun _ => fun
  | [d1, d2] => { results := [.lit (.bool true)], args := [d1, d2] }
  | _ => none }
def frameOneRow : OpenClaim := { program := "ytoffhlbdfhhhjaadoor", sum := "88ecad58706dbcb04a669b34503bdbb1c177a3cc57301c70c5f356f2dc0143a3", func := "herald/heraldlaw06.FrameOne", spec := "frameOne", inPlace := ["internal/abi.NoEscape", "internal/bytealg.MakeNoZero"], unfollowed := true, recurses := true, named := ["herald/frame.kinds"], apart := false, laid := [("herald/frame.kinds", laid_herald_frame_kinds)] }
def FrameOneSaid : Prop := frameOneRow.holds Tryd.pinned (OpenSpec.ofChange frameOneSpec)

/-- ITS FALSE NEIGHBOUR: 'it returns false'. Refute it at one input. -/
def frameOneWrong : ChangeSpec := { name := "frameOne", fn := fun _ => fun
  | [d1, d2] => { results := [.lit (.bool false)], args := [d1, d2] }
  | _ => none }
def FrameOneWrongFalsely : Prop := frameOneRow.holds Tryd.pinned (OpenSpec.ofChange frameOneWrong)

/-- 'heraldlaw06.FrameRefuses': WHATEVER THE INPUT: true; the input reads as it did. -/
def frameRefusesSpec : ChangeSpec := { name := "frameRefuses", fn := fun _ => fun
  | [d1, d2, d3] => { results := [.lit (.bool true)], args := [d1, d2, d3] }
  | _ => none }
def frameRefusesRow : OpenClaim := { program := "ytoffhlbdfhhhjaadoor", sum := "88ecad58706dbcb04a669b34503bdbb1c177a3cc57301c70c5f356f2dc0143a3", func := "herald/heraldlaw06.FrameRefuses", spec := "frameRefuses", inPlace := ["internal/abi.NoEscape", "internal/bytealg.MakeNoZero"], unfollowed := true, recurses := true, named := ["herald/frame.kinds"], apart := false, laid := [("herald/frame.kinds", laid_herald_frame_kinds)] }
def FrameRefusesSaid : Prop := frameRefusesRow.holds Tryd.pinned (OpenSpec.ofChange frameRefusesSpec)

/-- ITS FALSE NEIGHBOUR: 'it returns false'. Refute it at one input. -/
def frameRefusesWrong : ChangeSpec := { name := "frameRefuses", fn := fun _ => fun
  | [d1, d2, d3] => { results := [.lit (.bool false)], args := [d1, d2, d3] }
  | _ => none }
def FrameRefusesWrongFalsely : Prop := frameRefusesRow.holds Tryd.pinned (OpenSpec.ofChange frameRefusesWrong)

/-- 'heraldlaw07.FeedChunks': WHATEVER THE INPUT: true; the input reads as it did. -/
def feedChunksSpec : ChangeSpec := { name := "feedChunks", fn := fun _ => fun
  | [d1, d2, d3, d4, d5] => { results := [.lit (.bool true)], args := [d1, d2, d3, d4, d5] }
  | _ => none }
def feedChunksRow : OpenClaim := { program := "ytoffhlbdfhhhjaadoor", sum := "88ecad58706dbcb04a669b34503bdbb1c177a3cc57301c70c5f356f2dc0143a3", func := "herald/heraldlaw07.FeedChunks", spec := "feedChunks", inPlace := ["internal/abi.NoEscape"], unfollowed := true, recurses := true, named := ["herald/frame.kinds"], apart := false, laid := [("herald/frame.kinds", laid_herald_frame_kinds)] }
def FeedChunksSaid : Prop := feedChunksRow.holds Tryd.pinned (OpenSpec.ofChange feedChunksSpec)

/-- ITS FALSE NEIGHBOUR: 'it returns false'. Refute it at one input. -/
def feedChunksWrong : ChangeSpec := { name := "feedChunks", fn := fun _ => fun
  | [d1, d2, d3, d4, d5] => { results := [.lit (.bool false)], args := [d1, d2, d3, d4, d5] }
  | _ => none }
def FeedChunksWrongFalsely : Prop := feedChunksRow.holds Tryd.pinned (OpenSpec.ofChange feedChunksWrong)

/-- 'heraldlaw07.FeedPreface': WHATEVER THE INPUT: true; the input reads as it did. -/
def feedPrefaceSpec : ChangeSpec := { name := "feedPreface", fn := fun _ => fun
  | [d1, d2, d3] => { results := [.lit (.bool true)], args := [d1, d2, d3] }
  | _ => none }
def feedPrefaceRow : OpenClaim := { program := "ytoffhlbdfhhhjaadoor", sum := "88ecad58706dbcb04a669b34503bdbb1c177a3cc57301c70c5f356f2dc0143a3", func := "herald/heraldlaw07.FeedPreface", spec := "feedPreface", inPlace := ["internal/abi.NoEscape"], unfollowed := true, recurses := true, named := ["herald/frame.kinds"], apart := false, laid := [("herald/frame.kinds", laid_herald_frame_kinds)] }
def FeedPrefaceSaid : Prop := feedPrefaceRow.holds Tryd.pinned (OpenSpec.ofChange feedPrefaceSpec)

/-- ITS FALSE NEIGHBOUR: 'it returns false'. Refute it at one input. -/
def feedPrefaceWrong : ChangeSpec := { name := "feedPreface", fn := fun _ => fun
  | [d1, d2, d3] => { results := [.lit (.bool false)], args := [d1, d2, d3] }
  | _ => none }
def FeedPrefaceWrongFalsely : Prop := feedPrefaceRow.holds Tryd.pinned (OpenSpec.ofChange feedPrefaceWrong)

/-- 'heraldlaw07.FeedPlays': WHATEVER THE INPUT: true; the input reads as it did. -/
def feedPlaysSpec : ChangeSpec := { name := "feedPlays", fn := fun _ => fun
  | [d1, d2, d3] => { results := [.lit (.bool true)], args := [d1, d2, d3] }
  | _ => none }
def feedPlaysRow : OpenClaim := { program := "ytoffhlbdfhhhjaadoor", sum := "88ecad58706dbcb04a669b34503bdbb1c177a3cc57301c70c5f356f2dc0143a3", func := "herald/heraldlaw07.FeedPlays", spec := "feedPlays", inPlace := ["internal/abi.NoEscape"], unfollowed := true, recurses := true, named := ["herald/frame.kinds"], apart := false, laid := [("herald/frame.kinds", laid_herald_frame_kinds)] }
def FeedPlaysSaid : Prop := feedPlaysRow.holds Tryd.pinned (OpenSpec.ofChange feedPlaysSpec)

/-- ITS FALSE NEIGHBOUR: 'it returns false'. Refute it at one input. -/
def feedPlaysWrong : ChangeSpec := { name := "feedPlays", fn := fun _ => fun
  | [d1, d2, d3] => { results := [.lit (.bool false)], args := [d1, d2, d3] }
  | _ => none }
def FeedPlaysWrongFalsely : Prop := feedPlaysRow.holds Tryd.pinned (OpenSpec.ofChange feedPlaysWrong)

/-- 'heraldlaw07.FeedBroken': WHATEVER THE INPUT: true; the input reads as it did. -/
def feedBrokenSpec : ChangeSpec := { name := "feedBroken", fn := fun _ => fun
  | [d1, d2, d3, d4] => { results := [.lit (.bool true)], args := [d1, d2, d3, d4] }
  | _ => none }
def feedBrokenRow : OpenClaim := { program := "ytoffhlbdfhhhjaadoor", sum := "88ecad58706dbcb04a669b34503bdbb1c177a3cc57301c70c5f356f2dc0143a3", func := "herald/heraldlaw07.FeedBroken", spec := "feedBroken", inPlace := ["internal/abi.NoEscape"], unfollowed := true, recurses := true, named := ["herald/frame.kinds"], apart := false, laid := [("herald/frame.kinds", laid_herald_frame_kinds)] }
def FeedBrokenSaid : Prop := feedBrokenRow.holds Tryd.pinned (OpenSpec.ofChange feedBrokenSpec)

/-- ITS FALSE NEIGHBOUR: 'it returns false'. Refute it at one input. -/
def feedBrokenWrong : ChangeSpec := { name := "feedBroken", fn := fun _ => fun
  | [d1, d2, d3, d4] => { results := [.lit (.bool false)], args := [d1, d2, d3, d4] }
  | _ => none }
def FeedBrokenWrongFalsely : Prop := feedBrokenRow.holds Tryd.pinned (OpenSpec.ofChange feedBrokenWrong)

/-- 'heraldlaw07.FeedFrames': WHATEVER THE INPUT: true; the input reads as it did. -/
def feedFramesSpec : ChangeSpec := { name := "feedFrames", fn := fun _ => fun
  | [d1, d2, d3, d4] => { results := [.lit (.bool true)], args := [d1, d2, d3, d4] }
  | _ => none }
def feedFramesRow : OpenClaim := { program := "ytoffhlbdfhhhjaadoor", sum := "88ecad58706dbcb04a669b34503bdbb1c177a3cc57301c70c5f356f2dc0143a3", func := "herald/heraldlaw07.FeedFrames", spec := "feedFrames", inPlace := ["internal/abi.NoEscape", "internal/bytealg.MakeNoZero"], unfollowed := true, recurses := true, named := ["herald/frame.kinds"], apart := false, laid := [("herald/frame.kinds", laid_herald_frame_kinds)] }
def FeedFramesSaid : Prop := feedFramesRow.holds Tryd.pinned (OpenSpec.ofChange feedFramesSpec)

/-- ITS FALSE NEIGHBOUR: 'it returns false'. Refute it at one input. -/
def feedFramesWrong : ChangeSpec := { name := "feedFrames", fn := fun _ => fun
  | [d1, d2, d3, d4] => { results := [.lit (.bool false)], args := [d1, d2, d3, d4] }
  | _ => none }
def FeedFramesWrongFalsely : Prop := feedFramesRow.holds Tryd.pinned (OpenSpec.ofChange feedFramesWrong)

/-- 'heraldlaw07.FeedApart': WHATEVER THE INPUT: true; the input reads as it did. -/
def feedApartSpec : ChangeSpec := { name := "feedApart", fn := fun _ => fun
  | [d] => { results := [.lit (.bool true)], args := [d] }
  | _ => none }
def feedApartRow : OpenClaim := { program := "ytoffhlbdfhhhjaadoor", sum := "88ecad58706dbcb04a669b34503bdbb1c177a3cc57301c70c5f356f2dc0143a3", func := "herald/heraldlaw07.FeedApart", spec := "feedApart", inPlace := ["internal/abi.NoEscape", "internal/bytealg.MakeNoZero"], unfollowed := true, recurses := true, named := ["herald/frame.kinds"], apart := false, laid := [("herald/frame.kinds", laid_herald_frame_kinds)] }
def FeedApartSaid : Prop := feedApartRow.holds Tryd.pinned (OpenSpec.ofChange feedApartSpec)

/-- ITS FALSE NEIGHBOUR: 'it returns false'. Refute it at one input. -/
def feedApartWrong : ChangeSpec := { name := "feedApart", fn := fun _ => fun
  | [d] => { results := [.lit (.bool false)], args := [d] }
  | _ => none }
def FeedApartWrongFalsely : Prop := feedApartRow.holds Tryd.pinned (OpenSpec.ofChange feedApartWrong)

/- THE SECOND FORM. 'bulk': how many values and letters a reading holds, each counted each time it is reached (what is shared counts as often as it is met; a slice's spare places count too). A statement '..UptoSaid' is the law's where the arguments, and the package variables that the reading takes, are together of bulk at most 1048576: NARROWER than '..Said'. Prove '..Said' where nothing that the law and all that it calls make is longer than what came in: it says more and counts as full. Else prove '..UptoSaid'. A law counts once. -/
mutual
def uptoBulk {H : Type} : DataW H → Nat
  | .lit (.string bytes) => bytes.length + 1
  | .lit _ => 1
  | .nil => 1
  | .ptr d => uptoBulk d + 1
  | .slice elems spare => uptoBulkAll elems + uptoBulkAll spare + 1
  | .agg parts => uptoBulkAll parts + 1
  | .iface _ d => uptoBulk d + 1
  | .map entries => uptoBulkEntries entries + 1
  | .held _ => 1
def uptoBulkAll {H : Type} : List (DataW H) → Nat
  | [] => 0
  | d :: r => uptoBulk d + uptoBulkAll r
def uptoBulkEntries {H : Type} : List (Lit × DataW H) → Nat
  | [] => 0
  | x :: r => uptoBulkEntry x + uptoBulkEntries r
def uptoBulkEntry {H : Type} : Lit × DataW H → Nat
  | (.string bytes, d) => bytes.length + uptoBulk d + 1
  | (_, d) => uptoBulk d + 1
 end
def uptoSmall : (H : Type) → List (DataW H) → Bool := fun _ ds => decide (uptoBulkAll ds ≤ 1048576)
def OpenSpec.upto (s : _root_.Go.ChangeSpec) : _root_.Go.OpenSpec := { _root_.Go.OpenSpec.ofChange s with cond := some uptoSmall }

/-- 'heraldlaw06.FrameWrites', WHERE WHAT IT READS IS OF BULK AT MOST 1048576: true; the input reads as it did. -/
def frameWritesUptoRow : OpenClaim := { program := "ytoffhlbdfhhhjaadoor", sum := "88ecad58706dbcb04a669b34503bdbb1c177a3cc57301c70c5f356f2dc0143a3", func := "herald/heraldlaw06.FrameWrites", spec := "frameWrites", inPlace := ["internal/abi.NoEscape", "internal/bytealg.MakeNoZero"], unfollowed := true, recurses := true, named := ["herald/frame.kinds"], apart := false, laid := [("herald/frame.kinds", laid_herald_frame_kinds)], narrowed := true }
def FrameWritesUptoSaid : Prop := frameWritesUptoRow.holds Tryd.pinned (OpenSpec.upto frameWritesSpec)

/-- 'heraldlaw06.FrameReads', WHERE WHAT IT READS IS OF BULK AT MOST 1048576: true; the input reads as it did. -/
def frameReadsUptoRow : OpenClaim := { program := "ytoffhlbdfhhhjaadoor", sum := "88ecad58706dbcb04a669b34503bdbb1c177a3cc57301c70c5f356f2dc0143a3", func := "herald/heraldlaw06.FrameReads", spec := "frameReads", inPlace := ["internal/abi.NoEscape", "internal/bytealg.MakeNoZero"], unfollowed := true, recurses := true, named := ["herald/frame.kinds"], apart := false, laid := [("herald/frame.kinds", laid_herald_frame_kinds)], narrowed := true }
def FrameReadsUptoSaid : Prop := frameReadsUptoRow.holds Tryd.pinned (OpenSpec.upto frameReadsSpec)

/-- 'heraldlaw06.FrameApart', WHERE WHAT IT READS IS OF BULK AT MOST 1048576: true; the input reads as it did. -/
def frameApartUptoRow : OpenClaim := { program := "ytoffhlbdfhhhjaadoor", sum := "88ecad58706dbcb04a669b34503bdbb1c177a3cc57301c70c5f356f2dc0143a3", func := "herald/heraldlaw06.FrameApart", spec := "frameApart", inPlace := ["internal/abi.NoEscape", "internal/bytealg.MakeNoZero"], unfollowed := true, recurses := true, named := ["herald/frame.kinds"], apart := false, laid := [("herald/frame.kinds", laid_herald_frame_kinds)], narrowed := true }
def FrameApartUptoSaid : Prop := frameApartUptoRow.holds Tryd.pinned (OpenSpec.upto frameApartSpec)

/-- 'heraldlaw06.FrameBack', WHERE WHAT IT READS IS OF BULK AT MOST 1048576: true; the input reads as it did. -/
def frameBackUptoRow : OpenClaim := { program := "ytoffhlbdfhhhjaadoor", sum := "88ecad58706dbcb04a669b34503bdbb1c177a3cc57301c70c5f356f2dc0143a3", func := "herald/heraldlaw06.FrameBack", spec := "frameBack", inPlace := ["internal/abi.NoEscape", "internal/bytealg.MakeNoZero"], unfollowed := true, recurses := true, named := ["herald/frame.kinds"], apart := false, laid := [("herald/frame.kinds", laid_herald_frame_kinds)], narrowed := true }
def FrameBackUptoSaid : Prop := frameBackUptoRow.holds Tryd.pinned (OpenSpec.upto frameBackSpec)

/-- 'heraldlaw06.FrameOne', WHERE WHAT IT READS IS OF BULK AT MOST 1048576: true; the input reads as it did. -/
def frameOneUptoRow : OpenClaim := { program := "ytoffhlbdfhhhjaadoor", sum := "88ecad58706dbcb04a669b34503bdbb1c177a3cc57301c70c5f356f2dc0143a3", func := "herald/heraldlaw06.FrameOne", spec := "frameOne", inPlace := ["internal/abi.NoEscape", "internal/bytealg.MakeNoZero"], unfollowed := true, recurses := true, named := ["herald/frame.kinds"], apart := false, laid := [("herald/frame.kinds", laid_herald_frame_kinds)], narrowed := true }
def FrameOneUptoSaid : Prop := frameOneUptoRow.holds Tryd.pinned (OpenSpec.upto frameOneSpec)

/-- 'heraldlaw06.FrameRefuses', WHERE WHAT IT READS IS OF BULK AT MOST 1048576: true; the input reads as it did. -/
def frameRefusesUptoRow : OpenClaim := { program := "ytoffhlbdfhhhjaadoor", sum := "88ecad58706dbcb04a669b34503bdbb1c177a3cc57301c70c5f356f2dc0143a3", func := "herald/heraldlaw06.FrameRefuses", spec := "frameRefuses", inPlace := ["internal/abi.NoEscape", "internal/bytealg.MakeNoZero"], unfollowed := true, recurses := true, named := ["herald/frame.kinds"], apart := false, laid := [("herald/frame.kinds", laid_herald_frame_kinds)], narrowed := true }
def FrameRefusesUptoSaid : Prop := frameRefusesUptoRow.holds Tryd.pinned (OpenSpec.upto frameRefusesSpec)

/-- 'heraldlaw07.FeedChunks', WHERE WHAT IT READS IS OF BULK AT MOST 1048576: true; the input reads as it did. -/
def feedChunksUptoRow : OpenClaim := { program := "ytoffhlbdfhhhjaadoor", sum := "88ecad58706dbcb04a669b34503bdbb1c177a3cc57301c70c5f356f2dc0143a3", func := "herald/heraldlaw07.FeedChunks", spec := "feedChunks", inPlace := ["internal/abi.NoEscape"], unfollowed := true, recurses := true, named := ["herald/frame.kinds"], apart := false, laid := [("herald/frame.kinds", laid_herald_frame_kinds)], narrowed := true }
def FeedChunksUptoSaid : Prop := feedChunksUptoRow.holds Tryd.pinned (OpenSpec.upto feedChunksSpec)

/-- 'heraldlaw07.FeedPreface', WHERE WHAT IT READS IS OF BULK AT MOST 1048576: true; the input reads as it did. -/
def feedPrefaceUptoRow : OpenClaim := { program := "ytoffhlbdfhhhjaadoor", sum := "88ecad58706dbcb04a669b34503bdbb1c177a3cc57301c70c5f356f2dc0143a3", func := "herald/heraldlaw07.FeedPreface", spec := "feedPreface", inPlace := ["internal/abi.NoEscape"], unfollowed := true, recurses := true, named := ["herald/frame.kinds"], apart := false, laid := [("herald/frame.kinds", laid_herald_frame_kinds)], narrowed := true }
def FeedPrefaceUptoSaid : Prop := feedPrefaceUptoRow.holds Tryd.pinned (OpenSpec.upto feedPrefaceSpec)

/-- 'heraldlaw07.FeedPlays', WHERE WHAT IT READS IS OF BULK AT MOST 1048576: true; the input reads as it did. -/
def feedPlaysUptoRow : OpenClaim := { program := "ytoffhlbdfhhhjaadoor", sum := "88ecad58706dbcb04a669b34503bdbb1c177a3cc57301c70c5f356f2dc0143a3", func := "herald/heraldlaw07.FeedPlays", spec := "feedPlays", inPlace := ["internal/abi.NoEscape"], unfollowed := true, recurses := true, named := ["herald/frame.kinds"], apart := false, laid := [("herald/frame.kinds", laid_herald_frame_kinds)], narrowed := true }
def FeedPlaysUptoSaid : Prop := feedPlaysUptoRow.holds Tryd.pinned (OpenSpec.upto feedPlaysSpec)

/-- 'heraldlaw07.FeedBroken', WHERE WHAT IT READS IS OF BULK AT MOST 1048576: true; the input reads as it did. -/
def feedBrokenUptoRow : OpenClaim := { program := "ytoffhlbdfhhhjaadoor", sum := "88ecad58706dbcb04a669b34503bdbb1c177a3cc57301c70c5f356f2dc0143a3", func := "herald/heraldlaw07.FeedBroken", spec := "feedBroken", inPlace := ["internal/abi.NoEscape"], unfollowed := true, recurses := true, named := ["herald/frame.kinds"], apart := false, laid := [("herald/frame.kinds", laid_herald_frame_kinds)], narrowed := true }
def FeedBrokenUptoSaid : Prop := feedBrokenUptoRow.holds Tryd.pinned (OpenSpec.upto feedBrokenSpec)

/-- 'heraldlaw07.FeedFrames', WHERE WHAT IT READS IS OF BULK AT MOST 1048576: true; the input reads as it did. -/
def feedFramesUptoRow : OpenClaim := { program := "ytoffhlbdfhhhjaadoor", sum := "88ecad58706dbcb04a669b34503bdbb1c177a3cc57301c70c5f356f2dc0143a3", func := "herald/heraldlaw07.FeedFrames", spec := "feedFrames", inPlace := ["internal/abi.NoEscape", "internal/bytealg.MakeNoZero"], unfollowed := true, recurses := true, named := ["herald/frame.kinds"], apart := false, laid := [("herald/frame.kinds", laid_herald_frame_kinds)], narrowed := true }
def FeedFramesUptoSaid : Prop := feedFramesUptoRow.holds Tryd.pinned (OpenSpec.upto feedFramesSpec)

/-- 'heraldlaw07.FeedApart', WHERE WHAT IT READS IS OF BULK AT MOST 1048576: true; the input reads as it did. -/
def feedApartUptoRow : OpenClaim := { program := "ytoffhlbdfhhhjaadoor", sum := "88ecad58706dbcb04a669b34503bdbb1c177a3cc57301c70c5f356f2dc0143a3", func := "herald/heraldlaw07.FeedApart", spec := "feedApart", inPlace := ["internal/abi.NoEscape", "internal/bytealg.MakeNoZero"], unfollowed := true, recurses := true, named := ["herald/frame.kinds"], apart := false, laid := [("herald/frame.kinds", laid_herald_frame_kinds)], narrowed := true }
def FeedApartUptoSaid : Prop := feedApartUptoRow.holds Tryd.pinned (OpenSpec.upto feedApartSpec)

end Rows
end Go.Proofs.YtoffhlbdfhhhjaaDoor
