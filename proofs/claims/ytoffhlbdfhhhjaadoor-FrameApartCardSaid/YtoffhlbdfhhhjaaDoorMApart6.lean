/- FrameApart as one function and its call: always true. Condition: the package's variable holds what the program lays; the arguments fit in memory. -/
import Derived.Test.YtoffhlbdfhhhjaaDoorMFkC
import Derived.Test.YtoffhlbdfhhhjaaDoorMFp1
namespace Go.Proofs.YtoffhlbdfhhhjaaDoor.QL
open Go Go.RowKit Go.Proofs.YtoffhlbdfhhhjaaDoorW.PrintWords Go.Proofs.YtoffhlbdfhhhjaaDoorW.PrintLast
set_option linter.unusedVariables false
def heraldlaw06_FrameApart.f (l0 : List S32) : Option Bool := if l0.length ≤ 8796093022208 then some true else none
theorem heraldlaw06_FrameApart.calls (A0 : Option Addr) (c0 : Nat) (l0 : List S32) (r : Bool) (w : World) (hG : Go.Proofs.YtoffhlbdfhhhjaaDoor.Fr20.GL w) (hr0 : Kd.C k32 w A0 l0.length l0) (hc0 : l0.length ≤ c0) (h : heraldlaw06_FrameApart.f l0 = some r) :
    Calls Tryd.prog 5 #[.slice A0 l0.length c0] w fun e w' => e = .returned (.bool r) ∧ Below w.heap.size w w' := by
  unfold heraldlaw06_FrameApart.f at h
  split at h
  · rename_i hb
    obtain rfl : true = r := Option.some.inj h
    exact Go.Proofs.YtoffhlbdfhhhjaaDoor.Fr.apart6_calls A0 c0 l0 w hG.fr hr0 hc0 hb
  · cases h
end Go.Proofs.YtoffhlbdfhhhjaaDoor.QL
