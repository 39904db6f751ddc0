/- FeedPreface as one function and its call: always true. Condition: the package's variable holds what the program lays; the arguments fit in memory. -/
import Derived.Test.YtoffhlbdfhhhjaaDoorMFdP
import Derived.Test.YtoffhlbdfhhhjaaDoorMFp1
namespace Go.Proofs.YtoffhlbdfhhhjaaDoor.QL
open Go Go.RowKit Go.Proofs.YtoffhlbdfhhhjaaDoorW.PrintWords Go.Proofs.YtoffhlbdfhhhjaaDoorW.PrintLast
set_option linter.unusedVariables false
def heraldlaw07_FeedPreface.f (a0 : Int) (a1 : Int) (a2 : ByteArray) : Option Bool := if 0 ≤ a1 ∧ a1 ≤ 255 ∧ a2.size ≤ 140737488351232 then some true else none
theorem heraldlaw07_FeedPreface.calls (a0 : Int) (a1 : Int) (a2 : ByteArray) (r : Bool) (w : World) (hG : Go.Proofs.YtoffhlbdfhhhjaaDoor.Fr20.GL w) (h : heraldlaw07_FeedPreface.f a0 a1 a2 = some r) :
    Calls Tryd.prog 10 #[.int .i64 a0, .int .u8 a1, .string a2] w fun e w' => e = .returned (.bool r) ∧ Below w.heap.size w w' := by
  unfold heraldlaw07_FeedPreface.f at h
  split at h
  · rename_i hb
    obtain rfl : true = r := Option.some.inj h
    exact Go.Proofs.YtoffhlbdfhhhjaaDoor.Fr.preface_calls a0 a1 a2 w hG.fr ⟨hb.1, hb.2.1⟩ hb.2.2
  · cases h
end Go.Proofs.YtoffhlbdfhhhjaaDoor.QL
