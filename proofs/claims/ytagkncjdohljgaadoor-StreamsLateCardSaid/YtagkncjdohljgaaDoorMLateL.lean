/- StreamsLate as one function and its call: true where the numbers are numbers. Condition: the package's variables hold what the program lays. -/
import Derived.Test.YtagkncjdohljgaaDoorMLate
namespace Go.Proofs.YtagkncjdohljgaaDoor.QL
open Go Go.RowKit Go.Proofs.YtagkncjdohljgaaDoorW.PrintWords Go.Proofs.YtagkncjdohljgaaDoorW.PrintLast Go.Proofs.YtagkncjdohljgaaDoor.St
set_option linter.unusedVariables false
noncomputable def heraldlaw11_StreamsLate.f (a0 : Bool) (a1 : List S30) (a2 : Int) (a3 : List Int) : Option Bool :=
  haveI := Classical.propDecidable; if (∀ x ∈ a1, W64 x.f1) ∧ W64 a2 then some true else none
theorem heraldlaw11_StreamsLate.calls (a0 : Bool) (A1 : Option Addr) (c1 : Nat) (a1 : List S30) (a2 : Int) (A3 : Option Addr) (c3 : Nat) (a3 : List Int) (r : Bool) (w : World) (hG : GL w) (hC : Kd.C k30 w A1 a1.length a1) (hle : a1.length ≤ c1) (hC3 : Kd.C (Kd.int .i64) w A3 a3.length a3) (hle3 : a3.length ≤ c3) (h : heraldlaw11_StreamsLate.f a0 a1 a2 a3 = some r) :
    Calls Tryd.prog 6 #[.bool a0, .slice A1 a1.length c1, .int .i64 a2, .slice A3 a3.length c3] w fun e w' => e = .returned (.bool r) ∧ Below w.heap.size w w' := by
  unfold heraldlaw11_StreamsLate.f at h
  split at h
  · rename_i hb
    obtain rfl : true = r := Option.some.inj h
    exact Go.Proofs.YtagkncjdohljgaaDoor.St.late_calls A1 c1 a0 a1 a2 A3 c3 a3 w hG hC hb.1 hb.2 hC3
  · cases h
end Go.Proofs.YtagkncjdohljgaaDoor.QL
