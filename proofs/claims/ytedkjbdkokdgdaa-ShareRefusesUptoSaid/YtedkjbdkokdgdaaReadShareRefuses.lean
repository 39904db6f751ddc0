/- What the arguments of ShareRefuses read as, and the plain statement that is left of it. No condition. -/
import Derived.Test.YtedkjbdkokdgdaaMRefusesL
import Derived.Test.YtedkjbdkokdgdaaZRow
namespace Go.Proofs.Ytedkjbdkokdgdaa.QL
open Go Go.RowKit Go.Proofs.YtedkjbdkokdgdaaW.PrintWords Go.Proofs.YtedkjbdkokdgdaaW.PrintLast Go.Proofs.Ytedkjbdkokdgdaa.ZRow
set_option linter.unusedVariables false
theorem rd2 : Rd Try.prog 2 (Kd.int .i64) (fun n : Int => (Lit.int .i64 n).wf = true) (fun _ : Int => 1) := Rd.int Try.underlying2 (by kernel_rfl)
theorem rd9 : Rd Try.prog 9 Kd.string (fun s : ByteArray => s.size ≤ 140737488351232) (fun s : ByteArray => s.size + 1) := Rd.string Try.underlying9 (by kernel_rfl)
/-- The plain statement of ShareRefuses. -/
def Plain : Prop := ∀ (a0 : Int) (a1 : ByteArray) (a2 : Int), (fun n : Int => (Lit.int .i64 n).wf = true) a0 → (fun s : ByteArray => s.size ≤ 140737488351232) a1 → (fun n : Int => (Lit.int .i64 n).wf = true) a2 → (fun _ : Int => 1) a0 + (fun s : ByteArray => s.size + 1) a1 + (fun _ : Int => 1) a2 ≤ 1048576 → heraldlaw20_ShareRefuses.f a0 a1 a2 = some true
end Go.Proofs.Ytedkjbdkokdgdaa.QL
