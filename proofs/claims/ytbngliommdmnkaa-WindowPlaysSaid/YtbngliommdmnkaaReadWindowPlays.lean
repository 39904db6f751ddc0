/- What the arguments of WindowPlays read as, and the plain statement that is left of it. No condition. -/
import Derived.Test.YtbngliommdmnkaaMLaw
import Derived.Test.YtbngliommdmnkaaZRow
namespace Go.Proofs.Ytbngliommdmnkaa.QWindowSums
open Go Go.RowKit Go.Proofs.YtbngliommdmnkaaW.PrintWords Go.Proofs.YtbngliommdmnkaaW.PrintLast Go.Proofs.Ytbngliommdmnkaa.ZRow
set_option linter.unusedVariables false
theorem rd2 : Rd Try.prog 2 (Kd.int .i64) (fun n : Int => (Lit.int .i64 n).wf = true) (fun _ : Int => 1) := Rd.int Try.underlying2 (by kernel_rfl)
theorem rd3 : Rd Try.prog 3 (Kd.int .i64) (fun n : Int => (Lit.int .i64 n).wf = true) (fun _ : Int => 1) := Rd.int Try.underlying3 (by kernel_rfl)
def G31 (x : S31) : Prop := (fun n : Int => (Lit.int .i64 n).wf = true) x.f0 ∧ (fun n : Int => (Lit.int .i64 n).wf = true) x.f1 ∧ (fun n : Int => (Lit.int .i64 n).wf = true) x.f2
def mu31 (x : S31) : Nat := ((fun _ : Int => 1) x.f0 + ((fun _ : Int => 1) x.f1 + (fun _ : Int => 1) x.f2)) + 1
theorem rd31 : Rd Try.prog 31 k31 G31 mu31 := Rd.struct Try.underlying31 (by kernel_rfl) (RdF.cons rfl rd3 (RdF.cons rfl rd3 (RdF.last rfl rd2))) _ (fun v => ⟨v.1, v.2.1, v.2.2⟩) (fun _ => rfl)
theorem rd22 : Rd Try.prog 22 (Kd.slice 31 k31) (GdL 24 G31) (muL mu31) := Rd.slice Try.underlying22 (by kernel_rfl) (by kernel_rfl) rd31
/-- The plain statement of WindowPlays. -/
def Plain : Prop := ∀ (a0 : Int) (a1 : Int) (l2 : List (S31)), (fun n : Int => (Lit.int .i64 n).wf = true) a0 → (fun n : Int => (Lit.int .i64 n).wf = true) a1 → (GdL 24 G31) l2 → heraldlaw09_WindowPlays.f a0 a1 l2 = some true
end Go.Proofs.Ytbngliommdmnkaa.QWindowSums
