/- ShareWhole as one function and its call: true where the pieces are small. No further condition. -/
import Derived.Test.YtedkjbdkokdgdaaMWhole
namespace Go.Proofs.Ytedkjbdkokdgdaa.QL
open Go Go.RowKit Go.Proofs.YtedkjbdkokdgdaaW.PrintWords Go.Proofs.YtedkjbdkokdgdaaW.PrintLast Go.Proofs.Ytedkjbdkokdgdaa.Sh
set_option linter.unusedVariables false
noncomputable def heraldlaw20_ShareWhole.f (a0 : Int) (a1 : List S42) : Option Bool :=
  haveI := Classical.propDecidable; if a1.length ≤ 1048576 ∧ (∀ x ∈ a1, x.f0.size ≤ 1048576) then some true else none
theorem heraldlaw20_ShareWhole.calls (a0 : Int) (A1 : Option Addr) (c1 : Nat) (a1 : List S42) (r : Bool) (w : World) (hC : Kd.C k42 w A1 a1.length a1) (hle : a1.length ≤ c1) (h : heraldlaw20_ShareWhole.f a0 a1 = some r) :
    Calls Try.prog 5 #[.int .i64 a0, .slice A1 a1.length c1] w fun e w' => e = .returned (.bool r) ∧ Below w.heap.size w w' := by
  unfold heraldlaw20_ShareWhole.f at h
  split at h
  · rename_i hb
    obtain rfl : true = r := Option.some.inj h
    exact Go.Proofs.Ytedkjbdkokdgdaa.Sh.whole_calls A1 c1 a0 a1 w hb.1 hC hb.2
  · cases h
end Go.Proofs.Ytedkjbdkokdgdaa.QL
