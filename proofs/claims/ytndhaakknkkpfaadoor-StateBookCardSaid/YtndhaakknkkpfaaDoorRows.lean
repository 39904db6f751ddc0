/-
  NARROWER THAN 'FOR EVERY INPUT', by the rows' own cells (each row's printed sentence says how): StateNexts: laid · StateCells: laid · StateBook: laid · StateMirror: laid · StateEnds: laid.
  DERIVED. THE GIVEN ROWS OF THIS SEAT. 5 by the template 'for every input the law returns true; each argument reads behind the call as it read before'; 0 by the template 'total and deterministic' (their statements: YtndhaakknkkpfaaDoorTotals.lean).
  GIVEN WITH THE SEED: the statements are not yours to turn. If you find one false, say at which input.
  Laid BY PROGRAM, IN A SANDBOX (cutbox-rows.mjs): the forced cells as the released guide's own fill.sh prints them over the translation 79609b3da87485fb… (all of the seat's roots in one cut). By AI agents, Wed Nov 11 2026. No macro, syntax, notation, axiom, sorry.
-/
import Derived.Test.YtndhaakknkkpfaaDoorChecked
import GoSem.Claim
import GoSem.ClaimJoined
import GoSem.ClaimMapViews
import Derived.JoinedTies
import Derived.KernelRfl
namespace Go.Proofs.YtndhaakknkkpfaaDoor
/- THE CELL 'sum', in the pinned program and in every row, IS THE sha256 OF THE DUMP (.gsa) THAT YtndhaakknkkpfaaDoorProg.lean LOADS. Nothing in Lean hashes anything: it is a label: what it is worth is what the hold of that sum in a sandbox is worth. -/
noncomputable def Tryd.pinned : Pinned := { name := "ytndhaakknkkpfaadoor", sum := "79609b3da87485fb0938f30ee86000bd4eda480829692e2f5dd322bc7dc23b12", checked := Tryd.checked }
namespace Rows
def none {H : Type} : Left H := { results := [], args := [] }

/- WHAT THE LISTED PACKAGE-LEVEL VARIABLES READ AS WHEN THE CALL BEGINS. Each datum BY PROGRAM (the guide's laid-datum.mjs) off the statement by which the dump's own 'gosem.cut.vars' lays the variable. In a bare row this is a premise. The card (YtndhaakknkkpfaaDoorCards.lean) ties it to the program's text. -/
def laid_herald_state_fine {H : Type} : DataW H := .agg [.lit (.int .i64 0), .lit (.int .i64 0)]
def laid_herald_state_ignored {H : Type} : DataW H := .agg [.lit (.int .i64 1), .lit (.int .i64 0)]
def laid_herald_state_barred {H : Type} : DataW H := .agg [.lit (.int .i64 4), .lit (.int .i64 0)]
def laid_herald_state_wrong {H : Type} : DataW H := .agg [.lit (.int .i64 3), .lit (.int .i64 1)]
def laid_herald_state_shut {H : Type} : DataW H := .agg [.lit (.int .i64 3), .lit (.int .i64 5)]
def laid_herald_state_ended {H : Type} : DataW H := .agg [.lit (.int .i64 2), .lit (.int .i64 5)]

/-- 'heraldlaw10.StateNexts': WHATEVER THE INPUT: true; the input reads as it did. -/
def stateNextsSpec : ChangeSpec := { name := "stateNexts", fn := fun _ => fun
  | [d1, d2] => { results := [.lit (.bool true)], args := [d1, d2] }
  | _ => none }
def stateNextsRow : OpenClaim := { program := "ytndhaakknkkpfaadoor", sum := "79609b3da87485fb0938f30ee86000bd4eda480829692e2f5dd322bc7dc23b12", func := "herald/heraldlaw10.StateNexts", spec := "stateNexts", unfollowed := true, recurses := true, named := ["herald/state.barred", "herald/state.fine", "herald/state.ended", "herald/state.shut", "herald/state.wrong", "herald/state.ignored"], apart := false, laid := [("herald/state.fine", laid_herald_state_fine), ("herald/state.ignored", laid_herald_state_ignored), ("herald/state.barred", laid_herald_state_barred), ("herald/state.wrong", laid_herald_state_wrong), ("herald/state.shut", laid_herald_state_shut), ("herald/state.ended", laid_herald_state_ended)] }
def StateNextsSaid : Prop := stateNextsRow.holds Tryd.pinned (OpenSpec.ofChange stateNextsSpec)

/-- ITS FALSE NEIGHBOUR: 'it returns false'. Refute it at one input. -/
def stateNextsWrong : ChangeSpec := { name := "stateNexts", fn := fun _ => fun
  | [d1, d2] => { results := [.lit (.bool false)], args := [d1, d2] }
  | _ => none }
def StateNextsWrongFalsely : Prop := stateNextsRow.holds Tryd.pinned (OpenSpec.ofChange stateNextsWrong)

/-- 'heraldlaw10.StateCells': WHATEVER THE INPUT: true; the input reads as it did. -/
def stateCellsSpec : ChangeSpec := { name := "stateCells", fn := fun _ => fun
  | [d1, d2] => { results := [.lit (.bool true)], args := [d1, d2] }
  | _ => none }
def stateCellsRow : OpenClaim := { program := "ytndhaakknkkpfaadoor", sum := "79609b3da87485fb0938f30ee86000bd4eda480829692e2f5dd322bc7dc23b12", func := "herald/heraldlaw10.StateCells", spec := "stateCells", unfollowed := true, recurses := true, named := ["herald/state.barred", "herald/state.fine", "herald/state.ended", "herald/state.shut", "herald/state.wrong", "herald/state.ignored"], apart := false, laid := [("herald/state.fine", laid_herald_state_fine), ("herald/state.ignored", laid_herald_state_ignored), ("herald/state.barred", laid_herald_state_barred), ("herald/state.wrong", laid_herald_state_wrong), ("herald/state.shut", laid_herald_state_shut), ("herald/state.ended", laid_herald_state_ended)] }
def StateCellsSaid : Prop := stateCellsRow.holds Tryd.pinned (OpenSpec.ofChange stateCellsSpec)

/-- ITS FALSE NEIGHBOUR: 'it returns false'. Refute it at one input. -/
def stateCellsWrong : ChangeSpec := { name := "stateCells", fn := fun _ => fun
  | [d1, d2] => { results := [.lit (.bool false)], args := [d1, d2] }
  | _ => none }
def StateCellsWrongFalsely : Prop := stateCellsRow.holds Tryd.pinned (OpenSpec.ofChange stateCellsWrong)

/-- 'heraldlaw10.StateBook': WHATEVER THE INPUT: true; the input reads as it did. -/
def stateBookSpec : ChangeSpec := { name := "stateBook", fn := fun _ => fun
  | [d] => { results := [.lit (.bool true)], args := [d] }
  | _ => none }
def stateBookRow : OpenClaim := { program := "ytndhaakknkkpfaadoor", sum := "79609b3da87485fb0938f30ee86000bd4eda480829692e2f5dd322bc7dc23b12", func := "herald/heraldlaw10.StateBook", spec := "stateBook", unfollowed := true, recurses := true, named := ["herald/state.barred", "herald/state.fine", "herald/state.ended", "herald/state.shut", "herald/state.wrong", "herald/state.ignored"], apart := false, laid := [("herald/state.fine", laid_herald_state_fine), ("herald/state.ignored", laid_herald_state_ignored), ("herald/state.barred", laid_herald_state_barred), ("herald/state.wrong", laid_herald_state_wrong), ("herald/state.shut", laid_herald_state_shut), ("herald/state.ended", laid_herald_state_ended)] }
def StateBookSaid : Prop := stateBookRow.holds Tryd.pinned (OpenSpec.ofChange stateBookSpec)

/-- ITS FALSE NEIGHBOUR: 'it returns false'. Refute it at one input. -/
def stateBookWrong : ChangeSpec := { name := "stateBook", fn := fun _ => fun
  | [d] => { results := [.lit (.bool false)], args := [d] }
  | _ => none }
def StateBookWrongFalsely : Prop := stateBookRow.holds Tryd.pinned (OpenSpec.ofChange stateBookWrong)

/-- 'heraldlaw10.StateMirror': WHATEVER THE INPUT: true; the input reads as it did. -/
def stateMirrorSpec : ChangeSpec := { name := "stateMirror", fn := fun _ => fun
  | [d1, d2] => { results := [.lit (.bool true)], args := [d1, d2] }
  | _ => none }
def stateMirrorRow : OpenClaim := { program := "ytndhaakknkkpfaadoor", sum := "79609b3da87485fb0938f30ee86000bd4eda480829692e2f5dd322bc7dc23b12", func := "herald/heraldlaw10.StateMirror", spec := "stateMirror", unfollowed := true, recurses := true, named := ["herald/state.barred", "herald/state.fine", "herald/state.ended", "herald/state.shut", "herald/state.wrong", "herald/state.ignored"], apart := false, laid := [("herald/state.fine", laid_herald_state_fine), ("herald/state.ignored", laid_herald_state_ignored), ("herald/state.barred", laid_herald_state_barred), ("herald/state.wrong", laid_herald_state_wrong), ("herald/state.shut", laid_herald_state_shut), ("herald/state.ended", laid_herald_state_ended)] }
def StateMirrorSaid : Prop := stateMirrorRow.holds Tryd.pinned (OpenSpec.ofChange stateMirrorSpec)

/-- ITS FALSE NEIGHBOUR: 'it returns false'. Refute it at one input. -/
def stateMirrorWrong : ChangeSpec := { name := "stateMirror", fn := fun _ => fun
  | [d1, d2] => { results := [.lit (.bool false)], args := [d1, d2] }
  | _ => none }
def StateMirrorWrongFalsely : Prop := stateMirrorRow.holds Tryd.pinned (OpenSpec.ofChange stateMirrorWrong)

/-- 'heraldlaw10.StateEnds': WHATEVER THE INPUT: true; the input reads as it did. -/
def stateEndsSpec : ChangeSpec := { name := "stateEnds", fn := fun _ => fun
  | [d1, d2] => { results := [.lit (.bool true)], args := [d1, d2] }
  | _ => none }
def stateEndsRow : OpenClaim := { program := "ytndhaakknkkpfaadoor", sum := "79609b3da87485fb0938f30ee86000bd4eda480829692e2f5dd322bc7dc23b12", func := "herald/heraldlaw10.StateEnds", spec := "stateEnds", unfollowed := true, recurses := true, named := ["herald/state.barred", "herald/state.fine", "herald/state.ended", "herald/state.shut", "herald/state.wrong", "herald/state.ignored"], apart := false, laid := [("herald/state.fine", laid_herald_state_fine), ("herald/state.ignored", laid_herald_state_ignored), ("herald/state.barred", laid_herald_state_barred), ("herald/state.wrong", laid_herald_state_wrong), ("herald/state.shut", laid_herald_state_shut), ("herald/state.ended", laid_herald_state_ended)] }
def StateEndsSaid : Prop := stateEndsRow.holds Tryd.pinned (OpenSpec.ofChange stateEndsSpec)

/-- ITS FALSE NEIGHBOUR: 'it returns false'. Refute it at one input. -/
def stateEndsWrong : ChangeSpec := { name := "stateEnds", fn := fun _ => fun
  | [d1, d2] => { results := [.lit (.bool false)], args := [d1, d2] }
  | _ => none }
def StateEndsWrongFalsely : Prop := stateEndsRow.holds Tryd.pinned (OpenSpec.ofChange stateEndsWrong)

/- THE SECOND FORM. 'bulk': how many values and letters a reading holds, each counted each time it is reached (what is shared counts as often as it is met; a slice's spare places count too). A statement '..UptoSaid' is the law's where the arguments, and the package variables that the reading takes, are together of bulk at most 1048576: NARROWER than '..Said'. Prove '..Said' where nothing that the law and all that it calls make is longer than what came in: it says more and counts as full. Else prove '..UptoSaid'. A law counts once. -/
mutual
def uptoBulk {H : Type} : DataW H → Nat
  | .lit (.string bytes) => bytes.length + 1
  | .lit _ => 1
  | .nil => 1
  | .ptr d => uptoBulk d + 1
  | .slice elems spare => uptoBulkAll elems + uptoBulkAll spare + 1
  | .agg parts => uptoBulkAll parts + 1
  | .iface _ d => uptoBulk d + 1
  | .map entries => uptoBulkEntries entries + 1
  | .held _ => 1
def uptoBulkAll {H : Type} : List (DataW H) → Nat
  | [] => 0
  | d :: r => uptoBulk d + uptoBulkAll r
def uptoBulkEntries {H : Type} : List (Lit × DataW H) → Nat
  | [] => 0
  | x :: r => uptoBulkEntry x + uptoBulkEntries r
def uptoBulkEntry {H : Type} : Lit × DataW H → Nat
  | (.string bytes, d) => bytes.length + uptoBulk d + 1
  | (_, d) => uptoBulk d + 1
 end
def uptoSmall : (H : Type) → List (DataW H) → Bool := fun _ ds => decide (uptoBulkAll ds ≤ 1048576)
def OpenSpec.upto (s : _root_.Go.ChangeSpec) : _root_.Go.OpenSpec := { _root_.Go.OpenSpec.ofChange s with cond := some uptoSmall }

/-- 'heraldlaw10.StateNexts', WHERE WHAT IT READS IS OF BULK AT MOST 1048576: true; the input reads as it did. -/
def stateNextsUptoRow : OpenClaim := { program := "ytndhaakknkkpfaadoor", sum := "79609b3da87485fb0938f30ee86000bd4eda480829692e2f5dd322bc7dc23b12", func := "herald/heraldlaw10.StateNexts", spec := "stateNexts", unfollowed := true, recurses := true, named := ["herald/state.barred", "herald/state.fine", "herald/state.ended", "herald/state.shut", "herald/state.wrong", "herald/state.ignored"], apart := false, laid := [("herald/state.fine", laid_herald_state_fine), ("herald/state.ignored", laid_herald_state_ignored), ("herald/state.barred", laid_herald_state_barred), ("herald/state.wrong", laid_herald_state_wrong), ("herald/state.shut", laid_herald_state_shut), ("herald/state.ended", laid_herald_state_ended)], narrowed := true }
def StateNextsUptoSaid : Prop := stateNextsUptoRow.holds Tryd.pinned (OpenSpec.upto stateNextsSpec)

/-- 'heraldlaw10.StateCells', WHERE WHAT IT READS IS OF BULK AT MOST 1048576: true; the input reads as it did. -/
def stateCellsUptoRow : OpenClaim := { program := "ytndhaakknkkpfaadoor", sum := "79609b3da87485fb0938f30ee86000bd4eda480829692e2f5dd322bc7dc23b12", func := "herald/heraldlaw10.StateCells", spec := "stateCells", unfollowed := true, recurses := true, named := ["herald/state.barred", "herald/state.fine", "herald/state.ended", "herald/state.shut", "herald/state.wrong", "herald/state.ignored"], apart := false, laid := [("herald/state.fine", laid_herald_state_fine), ("herald/state.ignored", laid_herald_state_ignored), ("herald/state.barred", laid_herald_state_barred), ("herald/state.wrong", laid_herald_state_wrong), ("herald/state.shut", laid_herald_state_shut), ("herald/state.ended", laid_herald_state_ended)], narrowed := true }
def StateCellsUptoSaid : Prop := stateCellsUptoRow.holds Tryd.pinned (OpenSpec.upto stateCellsSpec)

/-- 'heraldlaw10.StateBook', WHERE WHAT IT READS IS OF BULK AT MOST 1048576: true; the input reads as it did. -/
def stateBookUptoRow : OpenClaim := { program := "ytndhaakknkkpfaadoor", sum := "79609b3da87485fb0938f30ee86000bd4eda480829692e2f5dd322bc7dc23b12", func := "herald/heraldlaw10.StateBook", spec := "stateBook", unfollowed := true, recurses := true, named := ["herald/state.barred", "herald/state.fine", "herald/state.ended", "herald/state.shut", "herald/state.wrong", "herald/state.ignored"], apart := false, laid := [("herald/state.fine", laid_herald_state_fine), ("herald/state.ignored", laid_herald_state_ignored), ("herald/state.barred", laid_herald_state_barred), ("herald/state.wrong", laid_herald_state_wrong), ("herald/state.shut", laid_herald_state_shut), ("herald/state.ended", laid_herald_state_ended)], narrowed := true }
def StateBookUptoSaid : Prop := stateBookUptoRow.holds Tryd.pinned (OpenSpec.upto stateBookSpec)

/-- 'heraldlaw10.StateMirror', WHERE WHAT IT READS IS OF BULK AT MOST 1048576: true; the input reads as it did. -/
def stateMirrorUptoRow : OpenClaim := { program := "ytndhaakknkkpfaadoor", sum := "79609b3da87485fb0938f30ee86000bd4eda480829692e2f5dd322bc7dc23b12", func := "herald/heraldlaw10.StateMirror", spec := "stateMirror", unfollowed := true, recurses := true, named := ["herald/state.barred", "herald/state.fine", "herald/state.ended", "herald/state.shut", "herald/state.wrong", "herald/state.ignored"], apart := false, laid := [("herald/state.fine", laid_herald_state_fine), ("herald/state.ignored", laid_herald_state_ignored), ("herald/state.barred", laid_herald_state_barred), ("herald/state.wrong", laid_herald_state_wrong), ("herald/state.shut", laid_herald_state_shut), ("herald/state.ended", laid_herald_state_ended)], narrowed := true }
def StateMirrorUptoSaid : Prop := stateMirrorUptoRow.holds Tryd.pinned (OpenSpec.upto stateMirrorSpec)

/-- 'heraldlaw10.StateEnds', WHERE WHAT IT READS IS OF BULK AT MOST 1048576: true; the input reads as it did. -/
def stateEndsUptoRow : OpenClaim := { program := "ytndhaakknkkpfaadoor", sum := "79609b3da87485fb0938f30ee86000bd4eda480829692e2f5dd322bc7dc23b12", func := "herald/heraldlaw10.StateEnds", spec := "stateEnds", unfollowed := true, recurses := true, named := ["herald/state.barred", "herald/state.fine", "herald/state.ended", "herald/state.shut", "herald/state.wrong", "herald/state.ignored"], apart := false, laid := [("herald/state.fine", laid_herald_state_fine), ("herald/state.ignored", laid_herald_state_ignored), ("herald/state.barred", laid_herald_state_barred), ("herald/state.wrong", laid_herald_state_wrong), ("herald/state.shut", laid_herald_state_shut), ("herald/state.ended", laid_herald_state_ended)], narrowed := true }
def StateEndsUptoSaid : Prop := stateEndsUptoRow.holds Tryd.pinned (OpenSpec.upto stateEndsSpec)

end Rows
end Go.Proofs.YtndhaakknkkpfaaDoor
