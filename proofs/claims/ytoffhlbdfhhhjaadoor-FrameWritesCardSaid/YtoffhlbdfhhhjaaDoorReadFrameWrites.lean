/- What the arguments of FrameWrites read as, and the plain statement that is left of it. No condition. -/
import Derived.Test.YtoffhlbdfhhhjaaDoorMWrites
import Derived.Test.YtoffhlbdfhhhjaaDoorZRow
namespace Go.Proofs.YtoffhlbdfhhhjaaDoor.QL
open Go Go.RowKit Go.Proofs.YtoffhlbdfhhhjaaDoorW.PrintWords Go.Proofs.YtoffhlbdfhhhjaaDoorW.PrintLast Go.Proofs.YtoffhlbdfhhhjaaDoor.ZRow
set_option linter.unusedVariables false
theorem rd3 : Rd Tryd.prog 3 (Kd.int .i64) (fun n : Int => (Lit.int .i64 n).wf = true) (fun _ : Int => 1) := Rd.int Tryd.underlying3 (by kernel_rfl)
theorem rd2 : Rd Tryd.prog 2 (Kd.int .i64) (fun n : Int => (Lit.int .i64 n).wf = true) (fun _ : Int => 1) := Rd.int Tryd.underlying2 (by kernel_rfl)
theorem rd9 : Rd Tryd.prog 9 Kd.string (fun s : ByteArray => s.size ≤ 140737488351232) (fun s : ByteArray => s.size + 1) := Rd.string Tryd.underlying9 (by kernel_rfl)
theorem rd4 : Rd Tryd.prog 4 Kd.bool (fun _ : Bool => True) (fun _ : Bool => 1) := Rd.bool Tryd.underlying4 (by kernel_rfl)
def G32 (x : S32) : Prop := (fun n : Int => (Lit.int .i64 n).wf = true) x.f0 ∧ (fun n : Int => (Lit.int .i64 n).wf = true) x.f1
def mu32 (x : S32) : Nat := ((fun _ : Int => 1) x.f0 + (fun _ : Int => 1) x.f1) + 1
theorem rd32 : Rd Tryd.prog 32 k32 G32 mu32 := Rd.struct Tryd.underlying32 (by kernel_rfl) (RdF.cons rfl rd3 (RdF.last rfl rd2)) _ (fun v => ⟨v.1, v.2⟩) (fun _ => rfl)
theorem rd22 : Rd Tryd.prog 22 (Kd.slice 32 k32) (GdL 16 G32) (muL mu32) := Rd.slice Tryd.underlying22 (by kernel_rfl) (by kernel_rfl) rd32
def G24 (x : S24) : Prop := (fun n : Int => (Lit.int .i64 n).wf = true) x.f0 ∧ (fun n : Int => (Lit.int .i64 n).wf = true) x.f1 ∧ (fun n : Int => (Lit.int .i64 n).wf = true) x.f2 ∧ (fun s : ByteArray => s.size ≤ 140737488351232) x.f3 ∧ (fun n : Int => (Lit.int .i64 n).wf = true) x.f4 ∧ (fun n : Int => (Lit.int .i64 n).wf = true) x.f5 ∧ (fun _ : Bool => True) x.f6 ∧ (fun n : Int => (Lit.int .i64 n).wf = true) x.f7 ∧ (fun n : Int => (Lit.int .i64 n).wf = true) x.f8 ∧ (fun n : Int => (Lit.int .i64 n).wf = true) x.f9 ∧ (GdL 16 G32) x.f10
def mu24 (x : S24) : Nat := ((fun _ : Int => 1) x.f0 + ((fun _ : Int => 1) x.f1 + ((fun _ : Int => 1) x.f2 + ((fun s : ByteArray => s.size + 1) x.f3 + ((fun _ : Int => 1) x.f4 + ((fun _ : Int => 1) x.f5 + ((fun _ : Bool => 1) x.f6 + ((fun _ : Int => 1) x.f7 + ((fun _ : Int => 1) x.f8 + ((fun _ : Int => 1) x.f9 + (muL mu32) x.f10)))))))))) + 1
theorem rd24 : Rd Tryd.prog 24 k24 G24 mu24 := Rd.struct Tryd.underlying24 (by kernel_rfl) (RdF.cons rfl rd3 (RdF.cons rfl rd3 (RdF.cons rfl rd2 (RdF.cons rfl rd9 (RdF.cons rfl rd3 (RdF.cons rfl rd2 (RdF.cons rfl rd4 (RdF.cons rfl rd3 (RdF.cons rfl rd2 (RdF.cons rfl rd2 (RdF.last rfl rd22))))))))))) _ (fun v => ⟨v.1, v.2.1, v.2.2.1, v.2.2.2.1, v.2.2.2.2.1, v.2.2.2.2.2.1, v.2.2.2.2.2.2.1, v.2.2.2.2.2.2.2.1, v.2.2.2.2.2.2.2.2.1, v.2.2.2.2.2.2.2.2.2.1, v.2.2.2.2.2.2.2.2.2.2⟩) (fun _ => rfl)
/-- The plain statement of FrameWrites. -/
def Plain : Prop := ∀ (x0 : S24), G24 x0 → heraldlaw06_FrameWrites.f (x0.f0) (x0.f1) (x0.f2) (x0.f3) (x0.f4) (x0.f5) (x0.f6) (x0.f7) (x0.f8) (x0.f9) (x0.f10) = some true
end Go.Proofs.YtoffhlbdfhhhjaaDoor.QL
