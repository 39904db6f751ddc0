/- StreamsBirths as one function and its call: true where the numbers are numbers. Condition: the package's variables hold what the program lays. -/
import Derived.Test.YtagkncjdohljgaaDoorMBirth
namespace Go.Proofs.YtagkncjdohljgaaDoor.QL
open Go Go.RowKit Go.Proofs.YtagkncjdohljgaaDoorW.PrintWords Go.Proofs.YtagkncjdohljgaaDoorW.PrintLast Go.Proofs.YtagkncjdohljgaaDoor.St
set_option linter.unusedVariables false
noncomputable def heraldlaw11_StreamsBirths.f (a0 : Bool) (a1 : List S30) : Option Bool :=
  haveI := Classical.propDecidable; if ∀ x ∈ a1, W64 x.f1 then some true else none
theorem heraldlaw11_StreamsBirths.calls (a0 : Bool) (A1 : Option Addr) (c1 : Nat) (a1 : List S30) (r : Bool) (w : World) (hG : GL w) (hC : Kd.C k30 w A1 a1.length a1) (hle : a1.length ≤ c1) (h : heraldlaw11_StreamsBirths.f a0 a1 = some r) :
    Calls Tryd.prog 4 #[.bool a0, .slice A1 a1.length c1] w fun e w' => e = .returned (.bool r) ∧ Below w.heap.size w w' := by
  unfold heraldlaw11_StreamsBirths.f at h
  split at h
  · rename_i hb
    obtain rfl : true = r := Option.some.inj h
    exact Go.Proofs.YtagkncjdohljgaaDoor.St.births_calls A1 c1 a0 a1 w hG hC hb
  · cases h
end Go.Proofs.YtagkncjdohljgaaDoor.QL
