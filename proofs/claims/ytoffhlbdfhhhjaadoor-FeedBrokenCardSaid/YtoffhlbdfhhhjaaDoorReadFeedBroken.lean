/- What the arguments of FeedBroken read as, and the plain statement that is left of it. No condition. -/
import Derived.Test.YtoffhlbdfhhhjaaDoorMBroken
import Derived.Test.YtoffhlbdfhhhjaaDoorZRow
namespace Go.Proofs.YtoffhlbdfhhhjaaDoor.QL
open Go Go.RowKit Go.Proofs.YtoffhlbdfhhhjaaDoorW.PrintWords Go.Proofs.YtoffhlbdfhhhjaaDoorW.PrintLast Go.Proofs.YtoffhlbdfhhhjaaDoor.ZRow
set_option linter.unusedVariables false
theorem rd9 : Rd Tryd.prog 9 Kd.string (fun s : ByteArray => s.size ≤ 140737488351232) (fun s : ByteArray => s.size + 1) := Rd.string Tryd.underlying9 (by kernel_rfl)
theorem rd75 : Rd Tryd.prog 75 (Kd.slice 9 Kd.string) (GdL 16 (fun s : ByteArray => s.size ≤ 140737488351232)) (muL (fun s : ByteArray => s.size + 1)) := Rd.slice Tryd.underlying75 (by kernel_rfl) (by kernel_rfl) rd9
theorem rd2 : Rd Tryd.prog 2 (Kd.int .i64) (fun n : Int => (Lit.int .i64 n).wf = true) (fun _ : Int => 1) := Rd.int Tryd.underlying2 (by kernel_rfl)
theorem rd76 : Rd Tryd.prog 76 (Kd.int .u32) (fun n : Int => (Lit.int .u32 n).wf = true) (fun _ : Int => 1) := Rd.int Tryd.underlying76 (by kernel_rfl)
/-- The plain statement of FeedBroken. -/
def Plain : Prop := ∀ (l0 : List (ByteArray)) (a1 : Int) (a2 : Int) (a3 : Int), (GdL 16 (fun s : ByteArray => s.size ≤ 140737488351232)) l0 → (fun n : Int => (Lit.int .i64 n).wf = true) a1 → (fun n : Int => (Lit.int .u32 n).wf = true) a2 → (fun n : Int => (Lit.int .u32 n).wf = true) a3 → heraldlaw07_FeedBroken.f l0 a1 a2 a3 = some true
end Go.Proofs.YtoffhlbdfhhhjaaDoor.QL
