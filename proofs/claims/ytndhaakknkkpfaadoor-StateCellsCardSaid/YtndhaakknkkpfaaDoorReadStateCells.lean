/- What the arguments of StateCells read as, and the plain statement that is left of it. No condition. -/
import Derived.Test.YtndhaakknkkpfaaDoorQCellsx4
import Derived.Test.YtndhaakknkkpfaaDoorZRow
namespace Go.Proofs.YtndhaakknkkpfaaDoor.QCells
open Go Go.RowKit Go.Proofs.YtndhaakknkkpfaaDoorW.PrintWords Go.Proofs.YtndhaakknkkpfaaDoorW.PrintLast Go.Proofs.YtndhaakknkkpfaaDoor.ZRow
set_option linter.unusedVariables false
theorem rd3 : Rd Tryd.prog 3 (Kd.int .i64) (fun n : Int => (Lit.int .i64 n).wf = true) (fun _ : Int => 1) := Rd.int Tryd.underlying3 (by kernel_rfl)
/-- The plain statement of StateCells. -/
def Plain : Prop := ∀ (a0 : Int) (a1 : Int), (fun n : Int => (Lit.int .i64 n).wf = true) a0 → (fun n : Int => (Lit.int .i64 n).wf = true) a1 → ∃ k, heraldlaw10_StateCells.f k a0 a1 = some true
end Go.Proofs.YtndhaakknkkpfaaDoor.QCells
