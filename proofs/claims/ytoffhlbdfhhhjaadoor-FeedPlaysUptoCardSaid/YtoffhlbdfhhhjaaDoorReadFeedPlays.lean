/- What the arguments of FeedPlays read as, and the plain statement that is left of it. No condition. -/
import Derived.Test.YtoffhlbdfhhhjaaDoorMPlays7
import Derived.Test.YtoffhlbdfhhhjaaDoorZRow
namespace Go.Proofs.YtoffhlbdfhhhjaaDoor.QL
open Go Go.RowKit Go.Proofs.YtoffhlbdfhhhjaaDoorW.PrintWords Go.Proofs.YtoffhlbdfhhhjaaDoorW.PrintLast Go.Proofs.YtoffhlbdfhhhjaaDoor.ZRow
set_option linter.unusedVariables false
theorem rd4 : Rd Tryd.prog 4 Kd.bool (fun _ : Bool => True) (fun _ : Bool => 1) := Rd.bool Tryd.underlying4 (by kernel_rfl)
def G63 (x : S63) : Prop := (fun _ : Bool => True) x.f0 ∧ (fun _ : Bool => True) x.f1
def mu63 (x : S63) : Nat := ((fun _ : Bool => 1) x.f0 + (fun _ : Bool => 1) x.f1) + 1
theorem rd63 : Rd Tryd.prog 63 k63 G63 mu63 := Rd.arr2 Tryd.underlying63 (by kernel_rfl) rd4 _ (fun v => ⟨v.1, v.2⟩) (fun _ => rfl)
theorem rd2 : Rd Tryd.prog 2 (Kd.int .i64) (fun n : Int => (Lit.int .i64 n).wf = true) (fun _ : Int => 1) := Rd.int Tryd.underlying2 (by kernel_rfl)
def G64 (x : S64) : Prop := (fun n : Int => (Lit.int .i64 n).wf = true) x.f0 ∧ (fun n : Int => (Lit.int .i64 n).wf = true) x.f1
def mu64 (x : S64) : Nat := ((fun _ : Int => 1) x.f0 + (fun _ : Int => 1) x.f1) + 1
theorem rd64 : Rd Tryd.prog 64 k64 G64 mu64 := Rd.arr2 Tryd.underlying64 (by kernel_rfl) rd2 _ (fun v => ⟨v.1, v.2⟩) (fun _ => rfl)
theorem rd3 : Rd Tryd.prog 3 (Kd.int .i64) (fun n : Int => (Lit.int .i64 n).wf = true) (fun _ : Int => 1) := Rd.int Tryd.underlying3 (by kernel_rfl)
theorem rd9 : Rd Tryd.prog 9 Kd.string (fun s : ByteArray => s.size ≤ 140737488351232) (fun s : ByteArray => s.size + 1) := Rd.string Tryd.underlying9 (by kernel_rfl)
def G71 (x : S71) : Prop := (fun n : Int => (Lit.int .i64 n).wf = true) x.f0 ∧ (fun _ : Bool => True) x.f1 ∧ (fun s : ByteArray => s.size ≤ 140737488351232) x.f2 ∧ (fun n : Int => (Lit.int .i64 n).wf = true) x.f3 ∧ (fun n : Int => (Lit.int .i64 n).wf = true) x.f4
def mu71 (x : S71) : Nat := ((fun _ : Int => 1) x.f0 + ((fun _ : Bool => 1) x.f1 + ((fun s : ByteArray => s.size + 1) x.f2 + ((fun _ : Int => 1) x.f3 + (fun _ : Int => 1) x.f4)))) + 1
theorem rd71 : Rd Tryd.prog 71 k71 G71 mu71 := Rd.struct Tryd.underlying71 (by kernel_rfl) (RdF.cons rfl rd3 (RdF.cons rfl rd4 (RdF.cons rfl rd9 (RdF.cons rfl rd3 (RdF.last rfl rd2))))) _ (fun v => ⟨v.1, v.2.1, v.2.2.1, v.2.2.2.1, v.2.2.2.2⟩) (fun _ => rfl)
theorem rd65 : Rd Tryd.prog 65 (Kd.slice 71 k71) (GdL 48 G71) (muL mu71) := Rd.slice Tryd.underlying65 (by kernel_rfl) (by kernel_rfl) rd71
/-- The plain statement of FeedPlays. -/
def Plain : Prop := ∀ (x0 : S63) (x1 : S64) (l2 : List (S71)), G63 x0 → G64 x1 → (GdL 48 G71) l2 → mu63 x0 + mu64 x1 + (muL mu71) l2 ≤ 1048576 → heraldlaw07_FeedPlays.f (x0.f0) (x0.f1) (x1.f0) (x1.f1) l2 = some true
end Go.Proofs.YtoffhlbdfhhhjaaDoor.QL
