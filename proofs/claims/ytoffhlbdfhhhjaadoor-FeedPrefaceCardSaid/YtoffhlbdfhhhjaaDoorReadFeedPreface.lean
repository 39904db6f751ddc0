/- What the arguments of FeedPreface read as, and the plain statement that is left of it. No condition. -/
import Derived.Test.YtoffhlbdfhhhjaaDoorMPreface
import Derived.Test.YtoffhlbdfhhhjaaDoorZRow
namespace Go.Proofs.YtoffhlbdfhhhjaaDoor.QL
open Go Go.RowKit Go.Proofs.YtoffhlbdfhhhjaaDoorW.PrintWords Go.Proofs.YtoffhlbdfhhhjaaDoorW.PrintLast Go.Proofs.YtoffhlbdfhhhjaaDoor.ZRow
set_option linter.unusedVariables false
theorem rd3 : Rd Tryd.prog 3 (Kd.int .i64) (fun n : Int => (Lit.int .i64 n).wf = true) (fun _ : Int => 1) := Rd.int Tryd.underlying3 (by kernel_rfl)
theorem rd5 : Rd Tryd.prog 5 (Kd.int .u8) (fun n : Int => (Lit.int .u8 n).wf = true) (fun _ : Int => 1) := Rd.int Tryd.underlying5 (by kernel_rfl)
theorem rd9 : Rd Tryd.prog 9 Kd.string (fun s : ByteArray => s.size ≤ 140737488351232) (fun s : ByteArray => s.size + 1) := Rd.string Tryd.underlying9 (by kernel_rfl)
/-- The plain statement of FeedPreface. -/
def Plain : Prop := ∀ (a0 : Int) (a1 : Int) (a2 : ByteArray), (fun n : Int => (Lit.int .i64 n).wf = true) a0 → (fun n : Int => (Lit.int .u8 n).wf = true) a1 → (fun s : ByteArray => s.size ≤ 140737488351232) a2 → heraldlaw07_FeedPreface.f a0 a1 a2 = some true
end Go.Proofs.YtoffhlbdfhhhjaaDoor.QL
