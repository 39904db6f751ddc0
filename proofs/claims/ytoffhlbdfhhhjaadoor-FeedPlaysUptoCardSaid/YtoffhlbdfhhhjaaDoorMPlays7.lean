/- FeedPlays as one function and its call: true where the arguments are small. Condition: the package's variable holds what the program lays. -/
import Derived.Test.YtoffhlbdfhhhjaaDoorMFyL
import Derived.Test.YtoffhlbdfhhhjaaDoorMFyR
import Derived.Test.YtoffhlbdfhhhjaaDoorMFp1
namespace Go.Proofs.YtoffhlbdfhhhjaaDoor.QL
open Go Go.RowKit Go.Proofs.YtoffhlbdfhhhjaaDoorW.PrintWords Go.Proofs.YtoffhlbdfhhhjaaDoorW.PrintLast
set_option linter.unusedVariables false
def heraldlaw07_FeedPlays.f (s0 s1 : Bool) (m0 m1 : Int) (l2 : List S71) : Option Bool :=
  if l2.length ≤ 1048576 ∧ (∀ x ∈ l2, x.f2.size ≤ 1048576) ∧ (∀ x ∈ l2, x.f3 ≤ 9223372036854775807) then some true else none
theorem heraldlaw07_FeedPlays.calls (s0 s1 : Bool) (m0 m1 : Int) (A2 : Option Addr) (c2 : Nat) (l2 : List S71) (r : Bool) (w : World) (hG : Go.Proofs.YtoffhlbdfhhhjaaDoor.Fr20.GL w) (hr2 : Kd.C k71 w A2 l2.length l2) (hc2 : l2.length ≤ c2) (h : heraldlaw07_FeedPlays.f s0 s1 m0 m1 l2 = some r) :
    Calls Tryd.prog 11 #[.agg #[.bool s0, .bool s1], .agg #[.int .i64 m0, .int .i64 m1], .slice A2 l2.length c2] w fun e w' => e = .returned (.bool r) ∧ Below w.heap.size w w' := by
  unfold heraldlaw07_FeedPlays.f at h
  split at h
  · rename_i hb
    obtain rfl : true = r := Option.some.inj h
    exact Go.Proofs.YtoffhlbdfhhhjaaDoor.Fr.plays7_calls s0 s1 m0 m1 A2 c2 l2 w hG.fr hr2 hb.1 hb.2.1 hb.2.2
  · cases h
end Go.Proofs.YtoffhlbdfhhhjaaDoor.QL
