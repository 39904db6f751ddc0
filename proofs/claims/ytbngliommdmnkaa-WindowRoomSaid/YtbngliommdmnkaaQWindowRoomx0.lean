/- Written by a program of this session (a changed run of the kit's printer): what the Go functions of one call tree answer, as plain functions, and that the machine's calls answer so; no condition but those in each statement. -/
import Derived.Test.YtbngliommdmnkaaProg
import Derived.Below
import Derived.Deep.Draws
import Derived.Deep.AppendLies
import Derived.Maps.AppendAt
import Derived.OwnWalk
import Derived.Laws.BytesArg
import Derived.Laws.MakeOwn
import Derived.Laws.OwnMore
import Derived.Deep.OwnRows
import Derived.Tactics
import Derived.Lib.ConvBytes
import Derived.Laws.Slices
import Derived.WalkKit
import Derived.KernelRfl
import Derived.RowKit3
import Derived.Deep.LoopGhost
import Derived.Deep.QuietTactic
import Derived.BigQuiet
import Derived.WideLaws
import Derived.Deep.DeepCutAuto
import Derived.Deep.CutBlock
import Derived.Deep.RegionHeld3
import Derived.Laws.Rows
import Derived.Lib.AppendStr
import Derived.ArgAppend
import Derived.Laws.IdiomCopy
import Derived.OrdersHeld
import Derived.Laws.BitsLemmas
import Derived.RowKit
import Derived.Test.YtbngliommdmnkaaWWords
import Derived.Test.YtbngliommdmnkaaWLast
import Derived.Test.YtbngliommdmnkaaWTab
import Derived.Test.YtbngliommdmnkaaWFour
import Derived.Test.YtbngliommdmnkaaWQPut
import Derived.Test.YtbngliommdmnkaaWApart
import Derived.Test.YtbngliommdmnkaaWArr
import Derived.Test.YtbngliommdmnkaaWZeros
import Derived.Test.YtbngliommdmnkaaWFoot
import Derived.Test.YtbngliommdmnkaaWKept
import Derived.Test.YtbngliommdmnkaaWShare
import Derived.Test.YtbngliommdmnkaaWN
import Derived.Test.YtbngliommdmnkaaWFootNe
import Derived.Test.YtbngliommdmnkaaWAt
import Derived.Test.YtbngliommdmnkaaWEqStruct
import Derived.Test.YtbngliommdmnkaaWRepsOne
import Derived.Test.YtbngliommdmnkaaWInv
import Derived.Test.YtbngliommdmnkaaWInvWords
import Derived.Test.YtbngliommdmnkaaWGuard
import Derived.Test.YtbngliommdmnkaaWNEv
import Derived.Test.YtbngliommdmnkaaWMore
namespace Go.Proofs.Ytbngliommdmnkaa.QWindowRoom
open Go.RowKit Go.Proofs.YtbngliommdmnkaaW.PrintWords Go.Proofs.YtbngliommdmnkaaW.PrintLast Go.Proofs.YtbngliommdmnkaaW.PrintMore
attribute [local go_sem] max2_int min2_int max_two min_two max_three min_three max_four min_four   -- for this text's walks alone
set_option linter.unusedVariables false
set_option linter.unusedSimpArgs false



def errW : Option Int → Value
  | none => .nilIface
  | some c => .iface 0 (.int .i64 c)
theorem errW_none : errW none = .nilIface := rfl
theorem errW_some (c : Int) : errW (some c) = .iface 0 (.int .i64 c) := rfl

-- the values' own types

end Go.Proofs.Ytbngliommdmnkaa.QWindowRoom
