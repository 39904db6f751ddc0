/- What the arguments of FrameApart read as, and the plain statement that is left of it. No condition. -/
import Derived.Test.YtoffhlbdfhhhjaaDoorMApart6
import Derived.Test.YtoffhlbdfhhhjaaDoorZRow
namespace Go.Proofs.YtoffhlbdfhhhjaaDoor.QL
open Go Go.RowKit Go.Proofs.YtoffhlbdfhhhjaaDoorW.PrintWords Go.Proofs.YtoffhlbdfhhhjaaDoorW.PrintLast Go.Proofs.YtoffhlbdfhhhjaaDoor.ZRow
set_option linter.unusedVariables false
theorem rd3 : Rd Tryd.prog 3 (Kd.int .i64) (fun n : Int => (Lit.int .i64 n).wf = true) (fun _ : Int => 1) := Rd.int Tryd.underlying3 (by kernel_rfl)
theorem rd2 : Rd Tryd.prog 2 (Kd.int .i64) (fun n : Int => (Lit.int .i64 n).wf = true) (fun _ : Int => 1) := Rd.int Tryd.underlying2 (by kernel_rfl)
def G32 (x : S32) : Prop := (fun n : Int => (Lit.int .i64 n).wf = true) x.f0 ∧ (fun n : Int => (Lit.int .i64 n).wf = true) x.f1
def mu32 (x : S32) : Nat := ((fun _ : Int => 1) x.f0 + (fun _ : Int => 1) x.f1) + 1
theorem rd32 : Rd Tryd.prog 32 k32 G32 mu32 := Rd.struct Tryd.underlying32 (by kernel_rfl) (RdF.cons rfl rd3 (RdF.last rfl rd2)) _ (fun v => ⟨v.1, v.2⟩) (fun _ => rfl)
theorem rd22 : Rd Tryd.prog 22 (Kd.slice 32 k32) (GdL 16 G32) (muL mu32) := Rd.slice Tryd.underlying22 (by kernel_rfl) (by kernel_rfl) rd32
/-- The plain statement of FrameApart. -/
def Plain : Prop := ∀ (l0 : List (S32)), (GdL 16 G32) l0 → heraldlaw06_FrameApart.f l0 = some true
end Go.Proofs.YtoffhlbdfhhhjaaDoor.QL
