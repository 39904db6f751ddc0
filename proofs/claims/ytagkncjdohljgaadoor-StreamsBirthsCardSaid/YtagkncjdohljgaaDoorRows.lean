/-
  NARROWER THAN 'FOR EVERY INPUT', by the rows' own cells (each row's printed sentence says how): StreamsPlays: laid · StreamsBirths: laid · StreamsEnds: laid · StreamsLate: laid · StreamsApart: laid.
  DERIVED. THE GIVEN ROWS OF THIS SEAT. 5 by the template 'for every input the law returns true; each argument reads behind the call as it read before'; 0 by the template 'total and deterministic' (their statements: YtagkncjdohljgaaDoorTotals.lean).
  GIVEN WITH THE SEED: the statements are not yours to turn. If you find one false, say at which input.
  Laid BY PROGRAM, IN A SANDBOX (cutbox-rows.mjs): the forced cells as the released guide's own fill.sh prints them over the translation ccaf3648f92abee1… (all of the seat's roots in one cut). By AI agents, Wed Nov 11 2026. No macro, syntax, notation, axiom, sorry.
-/
import Derived.Test.YtagkncjdohljgaaDoorChecked
import GoSem.Claim
import GoSem.ClaimJoined
import GoSem.ClaimMapViews
import Derived.JoinedTies
import Derived.KernelRfl
namespace Go.Proofs.YtagkncjdohljgaaDoor
/- THE CELL 'sum', in the pinned program and in every row, IS THE sha256 OF THE DUMP (.gsa) THAT YtagkncjdohljgaaDoorProg.lean LOADS. Nothing in Lean hashes anything: it is a label: what it is worth is what the hold of that sum in a sandbox is worth. -/
noncomputable def Tryd.pinned : Pinned := { name := "ytagkncjdohljgaadoor", sum := "ccaf3648f92abee1359417ce4caa2834c60c3a4db2a73455da80cc6ed172106d", checked := Tryd.checked }
namespace Rows
def none {H : Type} : Left H := { results := [], args := [] }

/- WHAT THE LISTED PACKAGE-LEVEL VARIABLES READ AS WHEN THE CALL BEGINS. Each datum BY PROGRAM (the guide's laid-datum.mjs) off the statement by which the dump's own 'gosem.cut.vars' lays the variable. In a bare row this is a premise. The card (YtagkncjdohljgaaDoorCards.lean) ties it to the program's text. -/
def laid_herald_state_fine {H : Type} : DataW H := .agg [.lit (.int .i64 0), .lit (.int .i64 0)]
def laid_herald_state_ignored {H : Type} : DataW H := .agg [.lit (.int .i64 1), .lit (.int .i64 0)]
def laid_herald_state_barred {H : Type} : DataW H := .agg [.lit (.int .i64 4), .lit (.int .i64 0)]
def laid_herald_state_wrong {H : Type} : DataW H := .agg [.lit (.int .i64 3), .lit (.int .i64 1)]
def laid_herald_state_shut {H : Type} : DataW H := .agg [.lit (.int .i64 3), .lit (.int .i64 5)]
def laid_herald_state_ended {H : Type} : DataW H := .agg [.lit (.int .i64 2), .lit (.int .i64 5)]

/-- 'heraldlaw11.StreamsPlays': WHATEVER THE INPUT: true; the input reads as it did. -/
def streamsPlaysSpec : ChangeSpec := { name := "streamsPlays", fn := fun _ => fun
  | [d] => { results := [.lit (.bool true)], args := [d] }
  | _ => none }
def streamsPlaysRow : OpenClaim := { program := "ytagkncjdohljgaadoor", sum := "ccaf3648f92abee1359417ce4caa2834c60c3a4db2a73455da80cc6ed172106d", func := "herald/heraldlaw11.StreamsPlays", spec := "streamsPlays", unfollowed := true, recurses := true, named := ["herald/state.barred", "herald/state.fine", "herald/state.ended", "herald/state.shut", "herald/state.wrong", "herald/state.ignored"], apart := false, laid := [("herald/state.fine", laid_herald_state_fine), ("herald/state.ignored", laid_herald_state_ignored), ("herald/state.barred", laid_herald_state_barred), ("herald/state.wrong", laid_herald_state_wrong), ("herald/state.shut", laid_herald_state_shut), ("herald/state.ended", laid_herald_state_ended)] }
def StreamsPlaysSaid : Prop := streamsPlaysRow.holds Tryd.pinned (OpenSpec.ofChange streamsPlaysSpec)

/-- ITS FALSE NEIGHBOUR: 'it returns false'. Refute it at one input. -/
def streamsPlaysWrong : ChangeSpec := { name := "streamsPlays", fn := fun _ => fun
  | [d] => { results := [.lit (.bool false)], args := [d] }
  | _ => none }
def StreamsPlaysWrongFalsely : Prop := streamsPlaysRow.holds Tryd.pinned (OpenSpec.ofChange streamsPlaysWrong)

/-- 'heraldlaw11.StreamsBirths': WHATEVER THE INPUT: true; the input reads as it did. -/
def streamsBirthsSpec : ChangeSpec := { name := "streamsBirths", fn := fun _ => fun
  | [d1, d2] => { results := [.lit (.bool true)], args := [d1, d2] }
  | _ => none }
def streamsBirthsRow : OpenClaim := { program := "ytagkncjdohljgaadoor", sum := "ccaf3648f92abee1359417ce4caa2834c60c3a4db2a73455da80cc6ed172106d", func := "herald/heraldlaw11.StreamsBirths", spec := "streamsBirths", unfollowed := true, recurses := true, named := ["herald/state.barred", "herald/state.fine", "herald/state.ended", "herald/state.shut", "herald/state.wrong", "herald/state.ignored"], apart := false, laid := [("herald/state.fine", laid_herald_state_fine), ("herald/state.ignored", laid_herald_state_ignored), ("herald/state.barred", laid_herald_state_barred), ("herald/state.wrong", laid_herald_state_wrong), ("herald/state.shut", laid_herald_state_shut), ("herald/state.ended", laid_herald_state_ended)] }
def StreamsBirthsSaid : Prop := streamsBirthsRow.holds Tryd.pinned (OpenSpec.ofChange streamsBirthsSpec)

/-- ITS FALSE NEIGHBOUR: 'it returns false'. Refute it at one input. -/
def streamsBirthsWrong : ChangeSpec := { name := "streamsBirths", fn := fun _ => fun
  | [d1, d2] => { results := [.lit (.bool false)], args := [d1, d2] }
  | _ => none }
def StreamsBirthsWrongFalsely : Prop := streamsBirthsRow.holds Tryd.pinned (OpenSpec.ofChange streamsBirthsWrong)

/-- 'heraldlaw11.StreamsEnds': WHATEVER THE INPUT: true; the input reads as it did. -/
def streamsEndsSpec : ChangeSpec := { name := "streamsEnds", fn := fun _ => fun
  | [d] => { results := [.lit (.bool true)], args := [d] }
  | _ => none }
def streamsEndsRow : OpenClaim := { program := "ytagkncjdohljgaadoor", sum := "ccaf3648f92abee1359417ce4caa2834c60c3a4db2a73455da80cc6ed172106d", func := "herald/heraldlaw11.StreamsEnds", spec := "streamsEnds", unfollowed := true, recurses := true, named := ["herald/state.barred", "herald/state.fine", "herald/state.ended", "herald/state.shut", "herald/state.wrong", "herald/state.ignored"], apart := false, laid := [("herald/state.fine", laid_herald_state_fine), ("herald/state.ignored", laid_herald_state_ignored), ("herald/state.barred", laid_herald_state_barred), ("herald/state.wrong", laid_herald_state_wrong), ("herald/state.shut", laid_herald_state_shut), ("herald/state.ended", laid_herald_state_ended)] }
def StreamsEndsSaid : Prop := streamsEndsRow.holds Tryd.pinned (OpenSpec.ofChange streamsEndsSpec)

/-- ITS FALSE NEIGHBOUR: 'it returns false'. Refute it at one input. -/
def streamsEndsWrong : ChangeSpec := { name := "streamsEnds", fn := fun _ => fun
  | [d] => { results := [.lit (.bool false)], args := [d] }
  | _ => none }
def StreamsEndsWrongFalsely : Prop := streamsEndsRow.holds Tryd.pinned (OpenSpec.ofChange streamsEndsWrong)

/-- 'heraldlaw11.StreamsLate': WHATEVER THE INPUT: true; the input reads as it did. -/
def streamsLateSpec : ChangeSpec := { name := "streamsLate", fn := fun _ => fun
  | [d1, d2, d3, d4] => { results := [.lit (.bool true)], args := [d1, d2, d3, d4] }
  | _ => none }
def streamsLateRow : OpenClaim := { program := "ytagkncjdohljgaadoor", sum := "ccaf3648f92abee1359417ce4caa2834c60c3a4db2a73455da80cc6ed172106d", func := "herald/heraldlaw11.StreamsLate", spec := "streamsLate", unfollowed := true, recurses := true, named := ["herald/state.barred", "herald/state.fine", "herald/state.ended", "herald/state.shut", "herald/state.wrong", "herald/state.ignored"], apart := false, laid := [("herald/state.fine", laid_herald_state_fine), ("herald/state.ignored", laid_herald_state_ignored), ("herald/state.barred", laid_herald_state_barred), ("herald/state.wrong", laid_herald_state_wrong), ("herald/state.shut", laid_herald_state_shut), ("herald/state.ended", laid_herald_state_ended)] }
def StreamsLateSaid : Prop := streamsLateRow.holds Tryd.pinned (OpenSpec.ofChange streamsLateSpec)

/-- ITS FALSE NEIGHBOUR: 'it returns false'. Refute it at one input. -/
def streamsLateWrong : ChangeSpec := { name := "streamsLate", fn := fun _ => fun
  | [d1, d2, d3, d4] => { results := [.lit (.bool false)], args := [d1, d2, d3, d4] }
  | _ => none }
def StreamsLateWrongFalsely : Prop := streamsLateRow.holds Tryd.pinned (OpenSpec.ofChange streamsLateWrong)

/-- 'heraldlaw11.StreamsApart': WHATEVER THE INPUT: true; the input reads as it did. -/
def streamsApartSpec : ChangeSpec := { name := "streamsApart", fn := fun _ => fun
  | [d1, d2] => { results := [.lit (.bool true)], args := [d1, d2] }
  | _ => none }
def streamsApartRow : OpenClaim := { program := "ytagkncjdohljgaadoor", sum := "ccaf3648f92abee1359417ce4caa2834c60c3a4db2a73455da80cc6ed172106d", func := "herald/heraldlaw11.StreamsApart", spec := "streamsApart", unfollowed := true, recurses := true, named := ["herald/state.barred", "herald/state.fine", "herald/state.ended", "herald/state.shut", "herald/state.wrong", "herald/state.ignored"], apart := false, laid := [("herald/state.fine", laid_herald_state_fine), ("herald/state.ignored", laid_herald_state_ignored), ("herald/state.barred", laid_herald_state_barred), ("herald/state.wrong", laid_herald_state_wrong), ("herald/state.shut", laid_herald_state_shut), ("herald/state.ended", laid_herald_state_ended)] }
def StreamsApartSaid : Prop := streamsApartRow.holds Tryd.pinned (OpenSpec.ofChange streamsApartSpec)

/-- ITS FALSE NEIGHBOUR: 'it returns false'. Refute it at one input. -/
def streamsApartWrong : ChangeSpec := { name := "streamsApart", fn := fun _ => fun
  | [d1, d2] => { results := [.lit (.bool false)], args := [d1, d2] }
  | _ => none }
def StreamsApartWrongFalsely : Prop := streamsApartRow.holds Tryd.pinned (OpenSpec.ofChange streamsApartWrong)

/- THE SECOND FORM. 'bulk': how many values and letters a reading holds, each counted each time it is reached (what is shared counts as often as it is met; a slice's spare places count too). A statement '..UptoSaid' is the law's where the arguments, and the package variables that the reading takes, are together of bulk at most 1048576: NARROWER than '..Said'. Prove '..Said' where nothing that the law and all that it calls make is longer than what came in: it says more and counts as full. Else prove '..UptoSaid'. A law counts once. -/
mutual
def uptoBulk {H : Type} : DataW H → Nat
  | .lit (.string bytes) => bytes.length + 1
  | .lit _ => 1
  | .nil => 1
  | .ptr d => uptoBulk d + 1
  | .slice elems spare => uptoBulkAll elems + uptoBulkAll spare + 1
  | .agg parts => uptoBulkAll parts + 1
  | .iface _ d => uptoBulk d + 1
  | .map entries => uptoBulkEntries entries + 1
  | .held _ => 1
def uptoBulkAll {H : Type} : List (DataW H) → Nat
  | [] => 0
  | d :: r => uptoBulk d + uptoBulkAll r
def uptoBulkEntries {H : Type} : List (Lit × DataW H) → Nat
  | [] => 0
  | x :: r => uptoBulkEntry x + uptoBulkEntries r
def uptoBulkEntry {H : Type} : Lit × DataW H → Nat
  | (.string bytes, d) => bytes.length + uptoBulk d + 1
  | (_, d) => uptoBulk d + 1
 end
def uptoSmall : (H : Type) → List (DataW H) → Bool := fun _ ds => decide (uptoBulkAll ds ≤ 1048576)
def OpenSpec.upto (s : _root_.Go.ChangeSpec) : _root_.Go.OpenSpec := { _root_.Go.OpenSpec.ofChange s with cond := some uptoSmall }

/-- 'heraldlaw11.StreamsPlays', WHERE WHAT IT READS IS OF BULK AT MOST 1048576: true; the input reads as it did. -/
def streamsPlaysUptoRow : OpenClaim := { program := "ytagkncjdohljgaadoor", sum := "ccaf3648f92abee1359417ce4caa2834c60c3a4db2a73455da80cc6ed172106d", func := "herald/heraldlaw11.StreamsPlays", spec := "streamsPlays", unfollowed := true, recurses := true, named := ["herald/state.barred", "herald/state.fine", "herald/state.ended", "herald/state.shut", "herald/state.wrong", "herald/state.ignored"], apart := false, laid := [("herald/state.fine", laid_herald_state_fine), ("herald/state.ignored", laid_herald_state_ignored), ("herald/state.barred", laid_herald_state_barred), ("herald/state.wrong", laid_herald_state_wrong), ("herald/state.shut", laid_herald_state_shut), ("herald/state.ended", laid_herald_state_ended)], narrowed := true }
def StreamsPlaysUptoSaid : Prop := streamsPlaysUptoRow.holds Tryd.pinned (OpenSpec.upto streamsPlaysSpec)

/-- 'heraldlaw11.StreamsBirths', WHERE WHAT IT READS IS OF BULK AT MOST 1048576: true; the input reads as it did. -/
def streamsBirthsUptoRow : OpenClaim := { program := "ytagkncjdohljgaadoor", sum := "ccaf3648f92abee1359417ce4caa2834c60c3a4db2a73455da80cc6ed172106d", func := "herald/heraldlaw11.StreamsBirths", spec := "streamsBirths", unfollowed := true, recurses := true, named := ["herald/state.barred", "herald/state.fine", "herald/state.ended", "herald/state.shut", "herald/state.wrong", "herald/state.ignored"], apart := false, laid := [("herald/state.fine", laid_herald_state_fine), ("herald/state.ignored", laid_herald_state_ignored), ("herald/state.barred", laid_herald_state_barred), ("herald/state.wrong", laid_herald_state_wrong), ("herald/state.shut", laid_herald_state_shut), ("herald/state.ended", laid_herald_state_ended)], narrowed := true }
def StreamsBirthsUptoSaid : Prop := streamsBirthsUptoRow.holds Tryd.pinned (OpenSpec.upto streamsBirthsSpec)

/-- 'heraldlaw11.StreamsEnds', WHERE WHAT IT READS IS OF BULK AT MOST 1048576: true; the input reads as it did. -/
def streamsEndsUptoRow : OpenClaim := { program := "ytagkncjdohljgaadoor", sum := "ccaf3648f92abee1359417ce4caa2834c60c3a4db2a73455da80cc6ed172106d", func := "herald/heraldlaw11.StreamsEnds", spec := "streamsEnds", unfollowed := true, recurses := true, named := ["herald/state.barred", "herald/state.fine", "herald/state.ended", "herald/state.shut", "herald/state.wrong", "herald/state.ignored"], apart := false, laid := [("herald/state.fine", laid_herald_state_fine), ("herald/state.ignored", laid_herald_state_ignored), ("herald/state.barred", laid_herald_state_barred), ("herald/state.wrong", laid_herald_state_wrong), ("herald/state.shut", laid_herald_state_shut), ("herald/state.ended", laid_herald_state_ended)], narrowed := true }
def StreamsEndsUptoSaid : Prop := streamsEndsUptoRow.holds Tryd.pinned (OpenSpec.upto streamsEndsSpec)

/-- 'heraldlaw11.StreamsLate', WHERE WHAT IT READS IS OF BULK AT MOST 1048576: true; the input reads as it did. -/
def streamsLateUptoRow : OpenClaim := { program := "ytagkncjdohljgaadoor", sum := "ccaf3648f92abee1359417ce4caa2834c60c3a4db2a73455da80cc6ed172106d", func := "herald/heraldlaw11.StreamsLate", spec := "streamsLate", unfollowed := true, recurses := true, named := ["herald/state.barred", "herald/state.fine", "herald/state.ended", "herald/state.shut", "herald/state.wrong", "herald/state.ignored"], apart := false, laid := [("herald/state.fine", laid_herald_state_fine), ("herald/state.ignored", laid_herald_state_ignored), ("herald/state.barred", laid_herald_state_barred), ("herald/state.wrong", laid_herald_state_wrong), ("herald/state.shut", laid_herald_state_shut), ("herald/state.ended", laid_herald_state_ended)], narrowed := true }
def StreamsLateUptoSaid : Prop := streamsLateUptoRow.holds Tryd.pinned (OpenSpec.upto streamsLateSpec)

/-- 'heraldlaw11.StreamsApart', WHERE WHAT IT READS IS OF BULK AT MOST 1048576: true; the input reads as it did. -/
def streamsApartUptoRow : OpenClaim := { program := "ytagkncjdohljgaadoor", sum := "ccaf3648f92abee1359417ce4caa2834c60c3a4db2a73455da80cc6ed172106d", func := "herald/heraldlaw11.StreamsApart", spec := "streamsApart", unfollowed := true, recurses := true, named := ["herald/state.barred", "herald/state.fine", "herald/state.ended", "herald/state.shut", "herald/state.wrong", "herald/state.ignored"], apart := false, laid := [("herald/state.fine", laid_herald_state_fine), ("herald/state.ignored", laid_herald_state_ignored), ("herald/state.barred", laid_herald_state_barred), ("herald/state.wrong", laid_herald_state_wrong), ("herald/state.shut", laid_herald_state_shut), ("herald/state.ended", laid_herald_state_ended)], narrowed := true }
def StreamsApartUptoSaid : Prop := streamsApartUptoRow.holds Tryd.pinned (OpenSpec.upto streamsApartSpec)

end Rows
end Go.Proofs.YtagkncjdohljgaaDoor
