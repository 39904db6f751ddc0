/-
  No cell of these rows narrows 'for every input' (looked for: loops, veiled, ifaces, maps, wideKeys, modest, calm, conditions, laid).
  DERIVED. THE GIVEN ROWS OF THIS SEAT. 5 by the template 'for every input the law returns true; each argument reads behind the call as it read before'; 0 by the template 'total and deterministic' (their statements: YtedkjbdkokdgdaaTotals.lean).
  GIVEN WITH THE SEED: the statements are not yours to turn. If you find one false, say at which input.
  Laid BY PROGRAM, IN A SANDBOX (cutbox-rows.mjs): the forced cells as the released guide's own fill.sh prints them over the translation 207df70d856aae57… (all of the seat's roots in one cut). By AI agents, Wed Nov 11 2026. No macro, syntax, notation, axiom, sorry.
-/
import Derived.Test.YtedkjbdkokdgdaaChecked
import GoSem.Claim
import GoSem.ClaimJoined
import GoSem.ClaimMapViews
import Derived.JoinedTies
import Derived.KernelRfl
namespace Go.Proofs.Ytedkjbdkokdgdaa
/- THE CELL 'sum', in the pinned program and in every row, IS THE sha256 OF THE DUMP (.gsa) THAT YtedkjbdkokdgdaaProg.lean LOADS. Nothing in Lean hashes anything: it is a label: what it is worth is what the hold of that sum in a sandbox is worth. -/
noncomputable def Try.pinned : Pinned := { name := "ytedkjbdkokdgdaa", sum := "207df70d856aae57ba3441d90204dd3fd46cdeda5538c476b03edbdaed99f55b", checked := Try.checked }
namespace Rows
def none {H : Type} : Left H := { results := [], args := [] }

/-- 'heraldlaw20.SharePicks': WHATEVER THE INPUT: true; the input reads as it did. -/
def sharePicksSpec : ChangeSpec := { name := "sharePicks", fn := fun _ => fun
  | [d1, d2] => { results := [.lit (.bool true)], args := [d1, d2] }
  | _ => none }
def sharePicksRow : OpenClaim := { program := "ytedkjbdkokdgdaa", sum := "207df70d856aae57ba3441d90204dd3fd46cdeda5538c476b03edbdaed99f55b", func := "herald/heraldlaw20.SharePicks", spec := "sharePicks", unfollowed := true, recurses := true, apart := false }
def SharePicksSaid : Prop := sharePicksRow.holds Try.pinned (OpenSpec.ofChange sharePicksSpec)

/-- ITS FALSE NEIGHBOUR: 'it returns false'. Refute it at one input. -/
def sharePicksWrong : ChangeSpec := { name := "sharePicks", fn := fun _ => fun
  | [d1, d2] => { results := [.lit (.bool false)], args := [d1, d2] }
  | _ => none }
def SharePicksWrongFalsely : Prop := sharePicksRow.holds Try.pinned (OpenSpec.ofChange sharePicksWrong)

/-- 'heraldlaw20.SharePlays': WHATEVER THE INPUT: true; the input reads as it did. -/
def sharePlaysSpec : ChangeSpec := { name := "sharePlays", fn := fun _ => fun
  | [d] => { results := [.lit (.bool true)], args := [d] }
  | _ => none }
def sharePlaysRow : OpenClaim := { program := "ytedkjbdkokdgdaa", sum := "207df70d856aae57ba3441d90204dd3fd46cdeda5538c476b03edbdaed99f55b", func := "herald/heraldlaw20.SharePlays", spec := "sharePlays", unfollowed := true, recurses := true, apart := false }
def SharePlaysSaid : Prop := sharePlaysRow.holds Try.pinned (OpenSpec.ofChange sharePlaysSpec)

/-- ITS FALSE NEIGHBOUR: 'it returns false'. Refute it at one input. -/
def sharePlaysWrong : ChangeSpec := { name := "sharePlays", fn := fun _ => fun
  | [d] => { results := [.lit (.bool false)], args := [d] }
  | _ => none }
def SharePlaysWrongFalsely : Prop := sharePlaysRow.holds Try.pinned (OpenSpec.ofChange sharePlaysWrong)

/-- 'heraldlaw20.ShareWhole': WHATEVER THE INPUT: true; the input reads as it did. -/
def shareWholeSpec : ChangeSpec := { name := "shareWhole", fn := fun _ => fun
  | [d1, d2] => { results := [.lit (.bool true)], args := [d1, d2] }
  | _ => none }
def shareWholeRow : OpenClaim := { program := "ytedkjbdkokdgdaa", sum := "207df70d856aae57ba3441d90204dd3fd46cdeda5538c476b03edbdaed99f55b", func := "herald/heraldlaw20.ShareWhole", spec := "shareWhole", unfollowed := true, recurses := true, apart := false }
def ShareWholeSaid : Prop := shareWholeRow.holds Try.pinned (OpenSpec.ofChange shareWholeSpec)

/-- ITS FALSE NEIGHBOUR: 'it returns false'. Refute it at one input. -/
def shareWholeWrong : ChangeSpec := { name := "shareWhole", fn := fun _ => fun
  | [d1, d2] => { results := [.lit (.bool false)], args := [d1, d2] }
  | _ => none }
def ShareWholeWrongFalsely : Prop := shareWholeRow.holds Try.pinned (OpenSpec.ofChange shareWholeWrong)

/-- 'heraldlaw20.ShareRising': WHATEVER THE INPUT: true; the input reads as it did. -/
def shareRisingSpec : ChangeSpec := { name := "shareRising", fn := fun _ => fun
  | [d1, d2] => { results := [.lit (.bool true)], args := [d1, d2] }
  | _ => none }
def shareRisingRow : OpenClaim := { program := "ytedkjbdkokdgdaa", sum := "207df70d856aae57ba3441d90204dd3fd46cdeda5538c476b03edbdaed99f55b", func := "herald/heraldlaw20.ShareRising", spec := "shareRising", unfollowed := true, recurses := true, apart := false }
def ShareRisingSaid : Prop := shareRisingRow.holds Try.pinned (OpenSpec.ofChange shareRisingSpec)

/-- ITS FALSE NEIGHBOUR: 'it returns false'. Refute it at one input. -/
def shareRisingWrong : ChangeSpec := { name := "shareRising", fn := fun _ => fun
  | [d1, d2] => { results := [.lit (.bool false)], args := [d1, d2] }
  | _ => none }
def ShareRisingWrongFalsely : Prop := shareRisingRow.holds Try.pinned (OpenSpec.ofChange shareRisingWrong)

/-- 'heraldlaw20.ShareRefuses': WHATEVER THE INPUT: true; the input reads as it did. -/
def shareRefusesSpec : ChangeSpec := { name := "shareRefuses", fn := fun _ => fun
  | [d1, d2, d3] => { results := [.lit (.bool true)], args := [d1, d2, d3] }
  | _ => none }
def shareRefusesRow : OpenClaim := { program := "ytedkjbdkokdgdaa", sum := "207df70d856aae57ba3441d90204dd3fd46cdeda5538c476b03edbdaed99f55b", func := "herald/heraldlaw20.ShareRefuses", spec := "shareRefuses", unfollowed := true, recurses := true, apart := false }
def ShareRefusesSaid : Prop := shareRefusesRow.holds Try.pinned (OpenSpec.ofChange shareRefusesSpec)

/-- ITS FALSE NEIGHBOUR: 'it returns false'. Refute it at one input. -/
def shareRefusesWrong : ChangeSpec := { name := "shareRefuses", fn := fun _ => fun
  | [d1, d2, d3] => { results := [.lit (.bool false)], args := [d1, d2, d3] }
  | _ => none }
def ShareRefusesWrongFalsely : Prop := shareRefusesRow.holds Try.pinned (OpenSpec.ofChange shareRefusesWrong)

/- THE SECOND FORM. 'bulk': how many values and letters a reading holds, each counted each time it is reached (what is shared counts as often as it is met; a slice's spare places count too). A statement '..UptoSaid' is the law's where the arguments, and the package variables that the reading takes, are together of bulk at most 1048576: NARROWER than '..Said'. Prove '..Said' where nothing that the law and all that it calls make is longer than what came in: it says more and counts as full. Else prove '..UptoSaid'. A law counts once. -/
mutual
def uptoBulk {H : Type} : DataW H → Nat
  | .lit (.string bytes) => bytes.length + 1
  | .lit _ => 1
  | .nil => 1
  | .ptr d => uptoBulk d + 1
  | .slice elems spare => uptoBulkAll elems + uptoBulkAll spare + 1
  | .agg parts => uptoBulkAll parts + 1
  | .iface _ d => uptoBulk d + 1
  | .map entries => uptoBulkEntries entries + 1
  | .held _ => 1
def uptoBulkAll {H : Type} : List (DataW H) → Nat
  | [] => 0
  | d :: r => uptoBulk d + uptoBulkAll r
def uptoBulkEntries {H : Type} : List (Lit × DataW H) → Nat
  | [] => 0
  | x :: r => uptoBulkEntry x + uptoBulkEntries r
def uptoBulkEntry {H : Type} : Lit × DataW H → Nat
  | (.string bytes, d) => bytes.length + uptoBulk d + 1
  | (_, d) => uptoBulk d + 1
 end
def uptoSmall : (H : Type) → List (DataW H) → Bool := fun _ ds => decide (uptoBulkAll ds ≤ 1048576)
def OpenSpec.upto (s : _root_.Go.ChangeSpec) : _root_.Go.OpenSpec := { _root_.Go.OpenSpec.ofChange s with cond := some uptoSmall }

/-- 'heraldlaw20.SharePicks', WHERE WHAT IT READS IS OF BULK AT MOST 1048576: true; the input reads as it did. -/
def sharePicksUptoRow : OpenClaim := { program := "ytedkjbdkokdgdaa", sum := "207df70d856aae57ba3441d90204dd3fd46cdeda5538c476b03edbdaed99f55b", func := "herald/heraldlaw20.SharePicks", spec := "sharePicks", unfollowed := true, recurses := true, apart := false, narrowed := true }
def SharePicksUptoSaid : Prop := sharePicksUptoRow.holds Try.pinned (OpenSpec.upto sharePicksSpec)

/-- 'heraldlaw20.SharePlays', WHERE WHAT IT READS IS OF BULK AT MOST 1048576: true; the input reads as it did. -/
def sharePlaysUptoRow : OpenClaim := { program := "ytedkjbdkokdgdaa", sum := "207df70d856aae57ba3441d90204dd3fd46cdeda5538c476b03edbdaed99f55b", func := "herald/heraldlaw20.SharePlays", spec := "sharePlays", unfollowed := true, recurses := true, apart := false, narrowed := true }
def SharePlaysUptoSaid : Prop := sharePlaysUptoRow.holds Try.pinned (OpenSpec.upto sharePlaysSpec)

/-- 'heraldlaw20.ShareWhole', WHERE WHAT IT READS IS OF BULK AT MOST 1048576: true; the input reads as it did. -/
def shareWholeUptoRow : OpenClaim := { program := "ytedkjbdkokdgdaa", sum := "207df70d856aae57ba3441d90204dd3fd46cdeda5538c476b03edbdaed99f55b", func := "herald/heraldlaw20.ShareWhole", spec := "shareWhole", unfollowed := true, recurses := true, apart := false, narrowed := true }
def ShareWholeUptoSaid : Prop := shareWholeUptoRow.holds Try.pinned (OpenSpec.upto shareWholeSpec)

/-- 'heraldlaw20.ShareRising', WHERE WHAT IT READS IS OF BULK AT MOST 1048576: true; the input reads as it did. -/
def shareRisingUptoRow : OpenClaim := { program := "ytedkjbdkokdgdaa", sum := "207df70d856aae57ba3441d90204dd3fd46cdeda5538c476b03edbdaed99f55b", func := "herald/heraldlaw20.ShareRising", spec := "shareRising", unfollowed := true, recurses := true, apart := false, narrowed := true }
def ShareRisingUptoSaid : Prop := shareRisingUptoRow.holds Try.pinned (OpenSpec.upto shareRisingSpec)

/-- 'heraldlaw20.ShareRefuses', WHERE WHAT IT READS IS OF BULK AT MOST 1048576: true; the input reads as it did. -/
def shareRefusesUptoRow : OpenClaim := { program := "ytedkjbdkokdgdaa", sum := "207df70d856aae57ba3441d90204dd3fd46cdeda5538c476b03edbdaed99f55b", func := "herald/heraldlaw20.ShareRefuses", spec := "shareRefuses", unfollowed := true, recurses := true, apart := false, narrowed := true }
def ShareRefusesUptoSaid : Prop := shareRefusesUptoRow.holds Try.pinned (OpenSpec.upto shareRefusesSpec)

end Rows
end Go.Proofs.Ytedkjbdkokdgdaa
