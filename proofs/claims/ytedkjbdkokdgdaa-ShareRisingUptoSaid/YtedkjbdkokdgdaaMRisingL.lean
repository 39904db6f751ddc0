/- ShareRising as one function and its call: true where the script is small. No further condition. -/
import Derived.Test.YtedkjbdkokdgdaaMRising
namespace Go.Proofs.Ytedkjbdkokdgdaa.QL
open Go Go.RowKit Go.Proofs.YtedkjbdkokdgdaaW.PrintWords Go.Proofs.YtedkjbdkokdgdaaW.PrintLast Go.Proofs.Ytedkjbdkokdgdaa.Sh
set_option linter.unusedVariables false
noncomputable def heraldlaw20_ShareRising.f (a0 : List S37) (a1 : Int) : Option Bool :=
  haveI := Classical.propDecidable; if a0.length ≤ 1048576 ∧ (∀ x ∈ a0, x.f3.size ≤ 1048576 ∧ W64 x.f2) ∧ W64 a1 then some true else none
theorem heraldlaw20_ShareRising.calls (A0 : Option Addr) (c0 : Nat) (a0 : List S37) (a1 : Int) (r : Bool) (w : World) (hC : Kd.C k37 w A0 a0.length a0) (hle : a0.length ≤ c0) (h : heraldlaw20_ShareRising.f a0 a1 = some r) :
    Calls Try.prog 6 #[.slice A0 a0.length c0, .int .i64 a1] w fun e w' => e = .returned (.bool r) ∧ Below w.heap.size w w' := by
  unfold heraldlaw20_ShareRising.f at h
  split at h
  · rename_i hb
    obtain rfl : true = r := Option.some.inj h
    exact Go.Proofs.Ytedkjbdkokdgdaa.Sh.rising_calls A0 c0 a0 a1 w hb.1 hC hb.2.1 hb.2.2
  · cases h
end Go.Proofs.Ytedkjbdkokdgdaa.QL
