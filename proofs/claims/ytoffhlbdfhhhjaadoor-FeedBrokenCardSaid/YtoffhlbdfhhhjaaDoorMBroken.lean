/- FeedBroken as one function and its call: always true. Condition: the package's variable holds what the program lays; the arguments fit in memory. -/
import Derived.Test.YtoffhlbdfhhhjaaDoorMFdR
import Derived.Test.YtoffhlbdfhhhjaaDoorMFp1
namespace Go.Proofs.YtoffhlbdfhhhjaaDoor.QL
open Go Go.RowKit Go.Proofs.YtoffhlbdfhhhjaaDoorW.PrintWords Go.Proofs.YtoffhlbdfhhhjaaDoorW.PrintLast
set_option linter.unusedVariables false
def heraldlaw07_FeedBroken.f (l0 : List ByteArray) (a1 a2 a3 : Int) : Option Bool := if l0.length ≤ 8796093022208 ∧ 0 ≤ a2 ∧ a2 ≤ 4294967295 then some true else none
theorem heraldlaw07_FeedBroken.calls (A0 : Option Addr) (c0 : Nat) (l0 : List ByteArray) (a1 a2 a3 : Int) (r : Bool) (w : World) (hG : Go.Proofs.YtoffhlbdfhhhjaaDoor.Fr20.GL w) (hr0 : Kd.C Kd.string w A0 l0.length l0) (hc0 : l0.length ≤ c0) (h : heraldlaw07_FeedBroken.f l0 a1 a2 a3 = some r) :
    Calls Tryd.prog 12 #[.slice A0 l0.length c0, .int .i64 a1, .int .u32 a2, .int .u32 a3] w fun e w' => e = .returned (.bool r) ∧ Below w.heap.size w w' := by
  unfold heraldlaw07_FeedBroken.f at h
  split at h
  · rename_i hb
    obtain rfl : true = r := Option.some.inj h
    exact Go.Proofs.YtoffhlbdfhhhjaaDoor.Fr.brokenlaw_calls A0 c0 l0 a1 a2 a3 w hG.fr hr0 hc0 hb.1 hb.2
  · cases h
end Go.Proofs.YtoffhlbdfhhhjaaDoor.QL
