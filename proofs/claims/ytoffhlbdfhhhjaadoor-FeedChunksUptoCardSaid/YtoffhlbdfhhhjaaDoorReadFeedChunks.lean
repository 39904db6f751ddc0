/- What the arguments of FeedChunks read as, and the plain statement that is left of it. No condition. -/
import Derived.Test.YtoffhlbdfhhhjaaDoorMChunks
import Derived.Test.YtoffhlbdfhhhjaaDoorZRow
namespace Go.Proofs.YtoffhlbdfhhhjaaDoor.QL
open Go Go.RowKit Go.Proofs.YtoffhlbdfhhhjaaDoorW.PrintWords Go.Proofs.YtoffhlbdfhhhjaaDoorW.PrintLast Go.Proofs.YtoffhlbdfhhhjaaDoor.ZRow
set_option linter.unusedVariables false
theorem rd4 : Rd Tryd.prog 4 Kd.bool (fun _ : Bool => True) (fun _ : Bool => 1) := Rd.bool Tryd.underlying4 (by kernel_rfl)
theorem rd2 : Rd Tryd.prog 2 (Kd.int .i64) (fun n : Int => (Lit.int .i64 n).wf = true) (fun _ : Int => 1) := Rd.int Tryd.underlying2 (by kernel_rfl)
theorem rd9 : Rd Tryd.prog 9 Kd.string (fun s : ByteArray => s.size ≤ 140737488351232) (fun s : ByteArray => s.size + 1) := Rd.string Tryd.underlying9 (by kernel_rfl)
theorem rd3 : Rd Tryd.prog 3 (Kd.int .i64) (fun n : Int => (Lit.int .i64 n).wf = true) (fun _ : Int => 1) := Rd.int Tryd.underlying3 (by kernel_rfl)
theorem rd48 : Rd Tryd.prog 48 (Kd.slice 3 (Kd.int .i64)) (GdL 8 (fun n : Int => (Lit.int .i64 n).wf = true)) (muL (fun _ : Int => 1)) := Rd.slice Tryd.underlying48 (by kernel_rfl) (by kernel_rfl) rd3
/-- The plain statement of FeedChunks. -/
def Plain : Prop := ∀ (a0 : Bool) (a1 : Int) (a2 : ByteArray) (l3 : List (Int)) (a4 : Bool), (fun _ : Bool => True) a0 → (fun n : Int => (Lit.int .i64 n).wf = true) a1 → (fun s : ByteArray => s.size ≤ 140737488351232) a2 → (GdL 8 (fun n : Int => (Lit.int .i64 n).wf = true)) l3 → (fun _ : Bool => True) a4 → (fun _ : Bool => 1) a0 + (fun _ : Int => 1) a1 + (fun s : ByteArray => s.size + 1) a2 + (muL (fun _ : Int => 1)) l3 + (fun _ : Bool => 1) a4 ≤ 1048576 → heraldlaw07_FeedChunks.f a0 a1 a2 l3 a4 = some true
end Go.Proofs.YtoffhlbdfhhhjaaDoor.QL
