/- What the arguments of ShareWhole read as, and the plain statement that is left of it. No condition. -/
import Derived.Test.YtedkjbdkokdgdaaMWholeL
import Derived.Test.YtedkjbdkokdgdaaZRow
namespace Go.Proofs.Ytedkjbdkokdgdaa.QL
open Go Go.RowKit Go.Proofs.YtedkjbdkokdgdaaW.PrintWords Go.Proofs.YtedkjbdkokdgdaaW.PrintLast Go.Proofs.Ytedkjbdkokdgdaa.ZRow
set_option linter.unusedVariables false
theorem rd2 : Rd Try.prog 2 (Kd.int .i64) (fun n : Int => (Lit.int .i64 n).wf = true) (fun _ : Int => 1) := Rd.int Try.underlying2 (by kernel_rfl)
theorem rd9 : Rd Try.prog 9 Kd.string (fun s : ByteArray => s.size ≤ 140737488351232) (fun s : ByteArray => s.size + 1) := Rd.string Try.underlying9 (by kernel_rfl)
theorem rd3 : Rd Try.prog 3 (Kd.int .i64) (fun n : Int => (Lit.int .i64 n).wf = true) (fun _ : Int => 1) := Rd.int Try.underlying3 (by kernel_rfl)
def G42 (x : S42) : Prop := (fun s : ByteArray => s.size ≤ 140737488351232) x.f0 ∧ (fun n : Int => (Lit.int .i64 n).wf = true) x.f1 ∧ (fun n : Int => (Lit.int .i64 n).wf = true) x.f2 ∧ (fun n : Int => (Lit.int .i64 n).wf = true) x.f3 ∧ (fun n : Int => (Lit.int .i64 n).wf = true) x.f4
def mu42 (x : S42) : Nat := ((fun s : ByteArray => s.size + 1) x.f0 + ((fun _ : Int => 1) x.f1 + ((fun _ : Int => 1) x.f2 + ((fun _ : Int => 1) x.f3 + (fun _ : Int => 1) x.f4)))) + 1
theorem rd42 : Rd Try.prog 42 k42 G42 mu42 := Rd.struct Try.underlying42 (by kernel_rfl) (RdF.cons rfl rd9 (RdF.cons rfl rd3 (RdF.cons rfl rd2 (RdF.cons rfl rd2 (RdF.last rfl rd2))))) _ (fun v => ⟨v.1, v.2.1, v.2.2.1, v.2.2.2.1, v.2.2.2.2⟩) (fun _ => rfl)
theorem rd40 : Rd Try.prog 40 (Kd.slice 42 k42) (GdL 48 G42) (muL mu42) := Rd.slice Try.underlying40 (by kernel_rfl) (by kernel_rfl) rd42
/-- The plain statement of ShareWhole. -/
def Plain : Prop := ∀ (a0 : Int) (l1 : List (S42)), (fun n : Int => (Lit.int .i64 n).wf = true) a0 → (GdL 48 G42) l1 → (fun _ : Int => 1) a0 + (muL mu42) l1 ≤ 1048576 → heraldlaw20_ShareWhole.f a0 l1 = some true
end Go.Proofs.Ytedkjbdkokdgdaa.QL
