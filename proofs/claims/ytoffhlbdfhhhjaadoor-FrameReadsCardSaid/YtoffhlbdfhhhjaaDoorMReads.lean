/- FrameReads as one function and its call: always true. Condition: the package's variable holds what the program lays; the arguments fit in memory. -/
import Derived.Test.YtoffhlbdfhhhjaaDoorMFrRd
import Derived.Test.YtoffhlbdfhhhjaaDoorMFp1
namespace Go.Proofs.YtoffhlbdfhhhjaaDoor.QL
open Go Go.RowKit Go.Proofs.YtoffhlbdfhhhjaaDoorW.PrintWords Go.Proofs.YtoffhlbdfhhhjaaDoorW.PrintLast
set_option linter.unusedVariables false
def heraldlaw06_FrameReads.f (a0 : ByteArray) (a1 : Int) : Option Bool := if a0.size ≤ 140737488351232 then some true else none
theorem heraldlaw06_FrameReads.calls (a0 : ByteArray) (a1 : Int) (r : Bool) (w : World) (hG : Go.Proofs.YtoffhlbdfhhhjaaDoor.Fr20.GL w) (h : heraldlaw06_FrameReads.f a0 a1 = some r) :
    Calls Tryd.prog 4 #[.string a0, .int .i64 a1] w fun e w' => e = .returned (.bool r) ∧ Below w.heap.size w w' := by
  unfold heraldlaw06_FrameReads.f at h
  split at h
  · rename_i hb
    obtain rfl : true = r := Option.some.inj h
    exact Go.Proofs.YtoffhlbdfhhhjaaDoor.Fr.reads_calls a0 a1 w hG.fr (by omega)
  · cases h
end Go.Proofs.YtoffhlbdfhhhjaaDoor.QL
