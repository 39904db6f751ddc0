/- What the arguments of SharePicks read as, and the plain statement that is left of it. No condition. -/
import Derived.Test.YtedkjbdkokdgdaaQSharePicksx2
import Derived.Test.YtedkjbdkokdgdaaZRow
namespace Go.Proofs.Ytedkjbdkokdgdaa.QSharePicks
open Go Go.RowKit Go.Proofs.YtedkjbdkokdgdaaW.PrintWords Go.Proofs.YtedkjbdkokdgdaaW.PrintLast Go.Proofs.Ytedkjbdkokdgdaa.ZRow
set_option linter.unusedVariables false
theorem rd2 : Rd Try.prog 2 (Kd.int .i64) (fun n : Int => (Lit.int .i64 n).wf = true) (fun _ : Int => 1) := Rd.int Try.underlying2 (by kernel_rfl)
theorem rd22 : Rd Try.prog 22 (Kd.slice 2 (Kd.int .i64)) (GdL 8 (fun n : Int => (Lit.int .i64 n).wf = true)) (muL (fun _ : Int => 1)) := Rd.slice Try.underlying22 (by kernel_rfl) (by kernel_rfl) rd2
theorem rd3 : Rd Try.prog 3 (Kd.int .i64) (fun n : Int => (Lit.int .i64 n).wf = true) (fun _ : Int => 1) := Rd.int Try.underlying3 (by kernel_rfl)
/-- The plain statement of SharePicks. -/
def Plain : Prop := ∀ (l0 : List (Int)) (a1 : Int), (GdL 8 (fun n : Int => (Lit.int .i64 n).wf = true)) l0 → (fun n : Int => (Lit.int .i64 n).wf = true) a1 → ∃ k, heraldlaw20_SharePicks.f k l0 a1 = some true
end Go.Proofs.Ytedkjbdkokdgdaa.QSharePicks
