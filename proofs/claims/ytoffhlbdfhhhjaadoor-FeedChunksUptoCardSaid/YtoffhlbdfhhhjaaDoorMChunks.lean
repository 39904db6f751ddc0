/- FeedChunks as one function and its call: true where the arguments are small. Condition: the package's variable holds what the program lays. -/
import Derived.Test.YtoffhlbdfhhhjaaDoorMFcD
import Derived.Test.YtoffhlbdfhhhjaaDoorMFp1
namespace Go.Proofs.YtoffhlbdfhhhjaaDoor.QL
open Go Go.RowKit Go.Proofs.YtoffhlbdfhhhjaaDoorW.PrintWords Go.Proofs.YtoffhlbdfhhhjaaDoorW.PrintLast
set_option linter.unusedVariables false
def heraldlaw07_FeedChunks.f (a0 : Bool) (a1 : Int) (a2 : ByteArray) (l3 : List Int) (a4 : Bool) : Option Bool :=
  if a2.size ≤ 1048576 ∧ l3.length ≤ 1048576 ∧ (-9223372036854775808 ≤ a1 ∧ a1 ≤ 9223372036854775807) ∧ (∀ x ∈ l3, -9223372036854775808 ≤ x ∧ x ≤ 9223372036854775807) then some true else none
theorem heraldlaw07_FeedChunks.calls (a0 : Bool) (a1 : Int) (a2 : ByteArray) (A3 : Option Addr) (c3 : Nat) (l3 : List Int) (a4 : Bool) (r : Bool) (w : World) (hG : Go.Proofs.YtoffhlbdfhhhjaaDoor.Fr20.GL w) (hr3 : Kd.C (Kd.int .i64) w A3 l3.length l3) (hc3 : l3.length ≤ c3) (h : heraldlaw07_FeedChunks.f a0 a1 a2 l3 a4 = some r) :
    Calls Tryd.prog 9 #[.bool a0, .int .i64 a1, .string a2, .slice A3 l3.length c3, .bool a4] w fun e w' => e = .returned (.bool r) ∧ Below w.heap.size w w' := by
  unfold heraldlaw07_FeedChunks.f at h
  split at h
  · rename_i hb
    obtain rfl : true = r := Option.some.inj h
    exact Go.Proofs.YtoffhlbdfhhhjaaDoor.Fr.chunks_calls a0 a1 a2 A3 c3 l3 a4 w hG.fr hr3 hb.1 hb.2.1 hb.2.2.1 hb.2.2.2
  · cases h
end Go.Proofs.YtoffhlbdfhhhjaaDoor.QL
