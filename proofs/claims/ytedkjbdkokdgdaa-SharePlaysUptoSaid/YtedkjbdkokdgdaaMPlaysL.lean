/- SharePlays as one function and its call: true where the script is small. No further condition. -/
import Derived.Test.YtedkjbdkokdgdaaMRdy2
import Derived.Test.YtedkjbdkokdgdaaMPlaysM
namespace Go.Proofs.Ytedkjbdkokdgdaa.QL
open Go Go.RowKit Go.Proofs.YtedkjbdkokdgdaaW.PrintWords Go.Proofs.YtedkjbdkokdgdaaW.PrintLast Go.Proofs.Ytedkjbdkokdgdaa.Sh
set_option linter.unusedVariables false
noncomputable def heraldlaw20_SharePlays.f (a0 : List S37) : Option Bool :=
  haveI := Classical.propDecidable; if a0.length ≤ 1048576 ∧ (∀ x ∈ a0, x.f3.size ≤ 1048576 ∧ W64 x.f2 ∧ x.f8.length ≤ 1048576) then some true else none
theorem heraldlaw20_SharePlays.calls (A0 : Option Addr) (c0 : Nat) (a0 : List S37) (r : Bool) (w : World) (hC : Kd.C k37 w A0 a0.length a0) (hle : a0.length ≤ c0) (h : heraldlaw20_SharePlays.f a0 = some r) :
    Calls Try.prog 4 #[.slice A0 a0.length c0] w fun e w' => e = .returned (.bool r) ∧ Below w.heap.size w w' := by
  unfold heraldlaw20_SharePlays.f at h
  split at h
  · rename_i hb
    obtain rfl : true = r := Option.some.inj h
    exact Go.Proofs.Ytedkjbdkokdgdaa.Sh.splays_calls Go.Proofs.Ytedkjbdkokdgdaa.Sh.ready25 A0 c0 a0 w hb.1 hC hb.2
  · cases h
end Go.Proofs.Ytedkjbdkokdgdaa.QL
