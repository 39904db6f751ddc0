/- ShareRefuses as one function and its call: true where the text is small. No further condition. -/
import Derived.Test.YtedkjbdkokdgdaaMRefuses
namespace Go.Proofs.Ytedkjbdkokdgdaa.QL
open Go Go.RowKit Go.Proofs.YtedkjbdkokdgdaaW.PrintWords Go.Proofs.YtedkjbdkokdgdaaW.PrintLast
set_option linter.unusedVariables false
def heraldlaw20_ShareRefuses.f (a0 : Int) (a1 : ByteArray) (a2 : Int) : Option Bool :=
  if a1.size ≤ 1048576 ∧ (-9223372036854775808 ≤ a2 ∧ a2 ≤ 9223372036854775807) then some true else none
theorem heraldlaw20_ShareRefuses.calls (a0 : Int) (a1 : ByteArray) (a2 : Int) (r : Bool) (w : World) (h : heraldlaw20_ShareRefuses.f a0 a1 a2 = some r) :
    Calls Try.prog 7 #[.int .i64 a0, .string a1, .int .i64 a2] w fun e w' => e = .returned (.bool r) ∧ Below w.heap.size w w' := by
  unfold heraldlaw20_ShareRefuses.f at h
  split at h
  · rename_i hb
    obtain rfl : true = r := Option.some.inj h
    exact Go.Proofs.Ytedkjbdkokdgdaa.Sh.refuses_calls a0 a2 a1 w hb.1 hb.2
  · cases h
end Go.Proofs.Ytedkjbdkokdgdaa.QL
