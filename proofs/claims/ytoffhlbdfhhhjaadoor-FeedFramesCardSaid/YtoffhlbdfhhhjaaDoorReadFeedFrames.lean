/- What the arguments of FeedFrames read as, and the plain statement that is left of it. No condition. -/
import Derived.Test.YtoffhlbdfhhhjaaDoorMFrames
import Derived.Test.YtoffhlbdfhhhjaaDoorZRow
namespace Go.Proofs.YtoffhlbdfhhhjaaDoor.QL
open Go Go.RowKit Go.Proofs.YtoffhlbdfhhhjaaDoorW.PrintWords Go.Proofs.YtoffhlbdfhhhjaaDoorW.PrintLast Go.Proofs.YtoffhlbdfhhhjaaDoor.ZRow
set_option linter.unusedVariables false
theorem rd4 : Rd Tryd.prog 4 Kd.bool (fun _ : Bool => True) (fun _ : Bool => 1) := Rd.bool Tryd.underlying4 (by kernel_rfl)
theorem rd3 : Rd Tryd.prog 3 (Kd.int .i64) (fun n : Int => (Lit.int .i64 n).wf = true) (fun _ : Int => 1) := Rd.int Tryd.underlying3 (by kernel_rfl)
theorem rd2 : Rd Tryd.prog 2 (Kd.int .i64) (fun n : Int => (Lit.int .i64 n).wf = true) (fun _ : Int => 1) := Rd.int Tryd.underlying2 (by kernel_rfl)
theorem rd9 : Rd Tryd.prog 9 Kd.string (fun s : ByteArray => s.size ≤ 140737488351232) (fun s : ByteArray => s.size + 1) := Rd.string Tryd.underlying9 (by kernel_rfl)
def G32 (x : S32) : Prop := (fun n : Int => (Lit.int .i64 n).wf = true) x.f0 ∧ (fun n : Int => (Lit.int .i64 n).wf = true) x.f1
def mu32 (x : S32) : Nat := ((fun _ : Int => 1) x.f0 + (fun _ : Int => 1) x.f1) + 1
theorem rd32 : Rd Tryd.prog 32 k32 G32 mu32 := Rd.struct Tryd.underlying32 (by kernel_rfl) (RdF.cons rfl rd3 (RdF.last rfl rd2)) _ (fun v => ⟨v.1, v.2⟩) (fun _ => rfl)
theorem rd22 : Rd Tryd.prog 22 (Kd.slice 32 k32) (GdL 16 G32) (muL mu32) := Rd.slice Tryd.underlying22 (by kernel_rfl) (by kernel_rfl) rd32
def G24 (x : S24) : Prop := (fun n : Int => (Lit.int .i64 n).wf = true) x.f0 ∧ (fun n : Int => (Lit.int .i64 n).wf = true) x.f1 ∧ (fun n : Int => (Lit.int .i64 n).wf = true) x.f2 ∧ (fun s : ByteArray => s.size ≤ 140737488351232) x.f3 ∧ (fun n : Int => (Lit.int .i64 n).wf = true) x.f4 ∧ (fun n : Int => (Lit.int .i64 n).wf = true) x.f5 ∧ (fun _ : Bool => True) x.f6 ∧ (fun n : Int => (Lit.int .i64 n).wf = true) x.f7 ∧ (fun n : Int => (Lit.int .i64 n).wf = true) x.f8 ∧ (fun n : Int => (Lit.int .i64 n).wf = true) x.f9 ∧ (GdL 16 G32) x.f10
def mu24 (x : S24) : Nat := ((fun _ : Int => 1) x.f0 + ((fun _ : Int => 1) x.f1 + ((fun _ : Int => 1) x.f2 + ((fun s : ByteArray => s.size + 1) x.f3 + ((fun _ : Int => 1) x.f4 + ((fun _ : Int => 1) x.f5 + ((fun _ : Bool => 1) x.f6 + ((fun _ : Int => 1) x.f7 + ((fun _ : Int => 1) x.f8 + ((fun _ : Int => 1) x.f9 + (muL mu32) x.f10)))))))))) + 1
theorem rd24 : Rd Tryd.prog 24 k24 G24 mu24 := Rd.struct Tryd.underlying24 (by kernel_rfl) (RdF.cons rfl rd3 (RdF.cons rfl rd3 (RdF.cons rfl rd2 (RdF.cons rfl rd9 (RdF.cons rfl rd3 (RdF.cons rfl rd2 (RdF.cons rfl rd4 (RdF.cons rfl rd3 (RdF.cons rfl rd2 (RdF.cons rfl rd2 (RdF.last rfl rd22))))))))))) _ (fun v => ⟨v.1, v.2.1, v.2.2.1, v.2.2.2.1, v.2.2.2.2.1, v.2.2.2.2.2.1, v.2.2.2.2.2.2.1, v.2.2.2.2.2.2.2.1, v.2.2.2.2.2.2.2.2.1, v.2.2.2.2.2.2.2.2.2.1, v.2.2.2.2.2.2.2.2.2.2⟩) (fun _ => rfl)
theorem rd78 : Rd Tryd.prog 78 (Kd.slice 24 k24) (GdL 112 G24) (muL mu24) := Rd.slice Tryd.underlying78 (by kernel_rfl) (by kernel_rfl) rd24
/-- The plain statement of FeedFrames. -/
def Plain : Prop := ∀ (a0 : Bool) (l1 : List (S24)) (x2 : S24) (a3 : Int), (fun _ : Bool => True) a0 → (GdL 112 G24) l1 → G24 x2 → (fun n : Int => (Lit.int .i64 n).wf = true) a3 → heraldlaw07_FeedFrames.f a0 l1 (x2.f0) (x2.f1) (x2.f2) (x2.f3) (x2.f4) (x2.f5) (x2.f6) (x2.f7) (x2.f8) (x2.f9) (x2.f10) a3 = some true
end Go.Proofs.YtoffhlbdfhhhjaaDoor.QL
