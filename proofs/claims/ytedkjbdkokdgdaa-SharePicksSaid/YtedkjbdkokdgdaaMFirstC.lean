/- The first answers as one function and its call. No condition. -/
import Derived.Test.YtedkjbdkokdgdaaMFirstB
namespace Go.Proofs.Ytedkjbdkokdgdaa.QL
open Go Go.RowKit Go.Proofs.YtedkjbdkokdgdaaW.PrintWords Go.Proofs.YtedkjbdkokdgdaaW.PrintLast
def heraldlaw20_first.f : Option Bool := some true
theorem heraldlaw20_first.calls (r : Bool) (w : World) (h : heraldlaw20_first.f = some r) : Calls Try.prog 10 #[] w fun e w' => e = .returned (.bool r) ∧ Below w.heap.size w w' := by
  obtain rfl : true = r := Option.some.inj h
  exact Go.Proofs.Ytedkjbdkokdgdaa.Sh.first_calls w
end Go.Proofs.Ytedkjbdkokdgdaa.QL
