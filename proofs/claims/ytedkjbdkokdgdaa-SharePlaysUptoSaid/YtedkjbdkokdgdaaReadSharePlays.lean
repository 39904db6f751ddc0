/- What the arguments of SharePlays read as, and the plain statement that is left of it. No condition. -/
import Derived.Test.YtedkjbdkokdgdaaMPlaysL
import Derived.Test.YtedkjbdkokdgdaaZRow
namespace Go.Proofs.Ytedkjbdkokdgdaa.QL
open Go Go.RowKit Go.Proofs.YtedkjbdkokdgdaaW.PrintWords Go.Proofs.YtedkjbdkokdgdaaW.PrintLast Go.Proofs.Ytedkjbdkokdgdaa.ZRow
set_option linter.unusedVariables false
theorem rd3 : Rd Try.prog 3 (Kd.int .i64) (fun n : Int => (Lit.int .i64 n).wf = true) (fun _ : Int => 1) := Rd.int Try.underlying3 (by kernel_rfl)
theorem rd2 : Rd Try.prog 2 (Kd.int .i64) (fun n : Int => (Lit.int .i64 n).wf = true) (fun _ : Int => 1) := Rd.int Try.underlying2 (by kernel_rfl)
theorem rd9 : Rd Try.prog 9 Kd.string (fun s : ByteArray => s.size ≤ 140737488351232) (fun s : ByteArray => s.size + 1) := Rd.string Try.underlying9 (by kernel_rfl)
theorem rd4 : Rd Try.prog 4 Kd.bool (fun _ : Bool => True) (fun _ : Bool => 1) := Rd.bool Try.underlying4 (by kernel_rfl)
def G50 (x : S50) : Prop := (fun n : Int => (Lit.int .i64 n).wf = true) x.f0 ∧ (fun n : Int => (Lit.int .i64 n).wf = true) x.f1
def mu50 (x : S50) : Nat := ((fun _ : Int => 1) x.f0 + (fun _ : Int => 1) x.f1) + 1
theorem rd50 : Rd Try.prog 50 k50 G50 mu50 := Rd.struct Try.underlying50 (by kernel_rfl) (RdF.cons rfl rd2 (RdF.last rfl rd2)) _ (fun v => ⟨v.1, v.2⟩) (fun _ => rfl)
theorem rd35 : Rd Try.prog 35 (Kd.slice 50 k50) (GdL 16 G50) (muL mu50) := Rd.slice Try.underlying35 (by kernel_rfl) (by kernel_rfl) rd50
def G37 (x : S37) : Prop := (fun n : Int => (Lit.int .i64 n).wf = true) x.f0 ∧ (fun n : Int => (Lit.int .i64 n).wf = true) x.f1 ∧ (fun n : Int => (Lit.int .i64 n).wf = true) x.f2 ∧ (fun s : ByteArray => s.size ≤ 140737488351232) x.f3 ∧ (fun _ : Bool => True) x.f4 ∧ (fun n : Int => (Lit.int .i64 n).wf = true) x.f5 ∧ (fun n : Int => (Lit.int .i64 n).wf = true) x.f6 ∧ (fun n : Int => (Lit.int .i64 n).wf = true) x.f7 ∧ (GdL 16 G50) x.f8
def mu37 (x : S37) : Nat := ((fun _ : Int => 1) x.f0 + ((fun _ : Int => 1) x.f1 + ((fun _ : Int => 1) x.f2 + ((fun s : ByteArray => s.size + 1) x.f3 + ((fun _ : Bool => 1) x.f4 + ((fun _ : Int => 1) x.f5 + ((fun _ : Int => 1) x.f6 + ((fun _ : Int => 1) x.f7 + (muL mu50) x.f8)))))))) + 1
theorem rd37 : Rd Try.prog 37 k37 G37 mu37 := Rd.struct Try.underlying37 (by kernel_rfl) (RdF.cons rfl rd3 (RdF.cons rfl rd3 (RdF.cons rfl rd2 (RdF.cons rfl rd9 (RdF.cons rfl rd4 (RdF.cons rfl rd2 (RdF.cons rfl rd2 (RdF.cons rfl rd3 (RdF.last rfl rd35))))))))) _ (fun v => ⟨v.1, v.2.1, v.2.2.1, v.2.2.2.1, v.2.2.2.2.1, v.2.2.2.2.2.1, v.2.2.2.2.2.2.1, v.2.2.2.2.2.2.2.1, v.2.2.2.2.2.2.2.2⟩) (fun _ => rfl)
theorem rd28 : Rd Try.prog 28 (Kd.slice 37 k37) (GdL 96 G37) (muL mu37) := Rd.slice Try.underlying28 (by kernel_rfl) (by kernel_rfl) rd37
/-- The plain statement of SharePlays. -/
def Plain : Prop := ∀ (l0 : List (S37)), (GdL 96 G37) l0 → (muL mu37) l0 ≤ 1048576 → heraldlaw20_SharePlays.f l0 = some true
end Go.Proofs.Ytedkjbdkokdgdaa.QL
