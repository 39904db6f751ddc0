/- Written by a program of this session (a changed run of the kit's printer): what the Go functions of one call tree answer, as plain functions, and that the machine's calls answer so; no condition but those in each statement. -/
import Derived.Test.YtagkncjdohljgaaDoorProg
import Derived.Below
import Derived.Deep.Draws
import Derived.Deep.AppendLies
import Derived.Maps.AppendAt
import Derived.OwnWalk
import Derived.Laws.BytesArg
import Derived.Laws.MakeOwn
import Derived.Laws.OwnMore
import Derived.Deep.OwnRows
import Derived.Tactics
import Derived.Lib.ConvBytes
import Derived.Laws.Slices
import Derived.WalkKit
import Derived.KernelRfl
import Derived.RowKit3
import Derived.Deep.LoopGhost
import Derived.Deep.QuietTactic
import Derived.BigQuiet
import Derived.WideLaws
import Derived.Deep.DeepCutAuto
import Derived.Deep.CutBlock
import Derived.Deep.RegionHeld3
import Derived.Laws.Rows
import Derived.Lib.AppendStr
import Derived.ArgAppend
import Derived.Laws.IdiomCopy
import Derived.OrdersHeld
import Derived.Laws.BitsLemmas
import Derived.RowKit
import Derived.Test.YtagkncjdohljgaaDoorWWords
import Derived.Test.YtagkncjdohljgaaDoorWLast
import Derived.Test.YtagkncjdohljgaaDoorWTab
import Derived.Test.YtagkncjdohljgaaDoorWFour
import Derived.Test.YtagkncjdohljgaaDoorWQPut
import Derived.Test.YtagkncjdohljgaaDoorWApart
import Derived.Test.YtagkncjdohljgaaDoorWArr
import Derived.Test.YtagkncjdohljgaaDoorWZeros
import Derived.Test.YtagkncjdohljgaaDoorWFoot
import Derived.Test.YtagkncjdohljgaaDoorWKept
import Derived.Test.YtagkncjdohljgaaDoorWShare
import Derived.Test.YtagkncjdohljgaaDoorWN
import Derived.Test.YtagkncjdohljgaaDoorWFootNe
import Derived.Test.YtagkncjdohljgaaDoorWAt
import Derived.Test.YtagkncjdohljgaaDoorWEqStruct
import Derived.Test.YtagkncjdohljgaaDoorWRepsOne
import Derived.Test.YtagkncjdohljgaaDoorWInv
import Derived.Test.YtagkncjdohljgaaDoorWInvWords
import Derived.Test.YtagkncjdohljgaaDoorWGuard
import Derived.Test.YtagkncjdohljgaaDoorWNEv
import Derived.Test.YtagkncjdohljgaaDoorWMore
namespace Go.Proofs.YtagkncjdohljgaaDoor.QL
open Go.RowKit Go.Proofs.YtagkncjdohljgaaDoorW.PrintWords Go.Proofs.YtagkncjdohljgaaDoorW.PrintLast Go.Proofs.YtagkncjdohljgaaDoorW.PrintMore
attribute [local go_sem] max2_int min2_int max_two min_two max_three min_three max_four min_four   -- for this text's walks alone
set_option linter.unusedVariables false
set_option linter.unusedSimpArgs false



def errW : Option Int → Value
  | none => .nilIface
  | some c => .iface 0 (.int .i64 c)
theorem errW_none : errW none = .nilIface := rfl
theorem errW_some (c : Int) : errW (some c) = .iface 0 (.int .i64 c) := rfl

theorem info3 : (Tryd.prog.info? 3).map (fun i => (i.zero, i.size, i.bytes)) = some (some (.int .i64 0), 1, 8) := by kernel_rfl
-- the values' own types

end Go.Proofs.YtagkncjdohljgaaDoor.QL
