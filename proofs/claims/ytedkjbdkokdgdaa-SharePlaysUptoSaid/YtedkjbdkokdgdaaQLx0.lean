/- Written by a program of this session (a changed run of the kit's printer): what the Go functions of one call tree answer, as plain functions, and that the machine's calls answer so; no condition but those in each statement. -/
import Derived.Test.YtedkjbdkokdgdaaProg
import Derived.Below
import Derived.Deep.Draws
import Derived.Deep.AppendLies
import Derived.Maps.AppendAt
import Derived.OwnWalk
import Derived.Laws.BytesArg
import Derived.Laws.MakeOwn
import Derived.Laws.OwnMore
import Derived.Deep.OwnRows
import Derived.Tactics
import Derived.Lib.ConvBytes
import Derived.Laws.Slices
import Derived.WalkKit
import Derived.KernelRfl
import Derived.RowKit3
import Derived.Deep.LoopGhost
import Derived.Deep.QuietTactic
import Derived.BigQuiet
import Derived.WideLaws
import Derived.Deep.DeepCutAuto
import Derived.Deep.CutBlock
import Derived.Deep.RegionHeld3
import Derived.Laws.Rows
import Derived.Lib.AppendStr
import Derived.ArgAppend
import Derived.Laws.IdiomCopy
import Derived.OrdersHeld
import Derived.Laws.BitsLemmas
import Derived.RowKit
import Derived.Test.YtedkjbdkokdgdaaWWords
import Derived.Test.YtedkjbdkokdgdaaWLast
import Derived.Test.YtedkjbdkokdgdaaWTab
import Derived.Test.YtedkjbdkokdgdaaWFour
import Derived.Test.YtedkjbdkokdgdaaWQPut
import Derived.Test.YtedkjbdkokdgdaaWApart
import Derived.Test.YtedkjbdkokdgdaaWArr
import Derived.Test.YtedkjbdkokdgdaaWZeros
import Derived.Test.YtedkjbdkokdgdaaWFoot
import Derived.Test.YtedkjbdkokdgdaaWKept
import Derived.Test.YtedkjbdkokdgdaaWShare
import Derived.Test.YtedkjbdkokdgdaaWN
import Derived.Test.YtedkjbdkokdgdaaWFootNe
import Derived.Test.YtedkjbdkokdgdaaWAt
import Derived.Test.YtedkjbdkokdgdaaWEqStruct
import Derived.Test.YtedkjbdkokdgdaaWRepsOne
import Derived.Test.YtedkjbdkokdgdaaWInv
import Derived.Test.YtedkjbdkokdgdaaWInvWords
import Derived.Test.YtedkjbdkokdgdaaWGuard
import Derived.Test.YtedkjbdkokdgdaaWNEv
import Derived.Test.YtedkjbdkokdgdaaWMore
namespace Go.Proofs.Ytedkjbdkokdgdaa.QL
open Go.RowKit Go.Proofs.YtedkjbdkokdgdaaW.PrintWords Go.Proofs.YtedkjbdkokdgdaaW.PrintLast Go.Proofs.YtedkjbdkokdgdaaW.PrintMore
attribute [local go_sem] max2_int min2_int max_two min_two max_three min_three max_four min_four   -- for this text's walks alone
set_option linter.unusedVariables false
set_option linter.unusedSimpArgs false



def errW : Option Int → Value
  | none => .nilIface
  | some c => .iface 0 (.int .i64 c)
theorem errW_none : errW none = .nilIface := rfl
theorem errW_some (c : Int) : errW (some c) = .iface 0 (.int .i64 c) := rfl

-- the values' own types

end Go.Proofs.Ytedkjbdkokdgdaa.QL
