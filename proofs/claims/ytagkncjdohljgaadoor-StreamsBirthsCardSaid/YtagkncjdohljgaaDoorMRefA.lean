/- What the rows of the document's two tables are. No condition. -/
import Derived.Test.YtagkncjdohljgaaDoorMNext
import Derived.RegionTactic
import Derived.ChangeAlike
import Derived.WalkLawsBesides
import Derived.WalkSpells
namespace Go.Proofs.YtagkncjdohljgaaDoor.QL
open Go Go.RowKit Go.Proofs.YtagkncjdohljgaaDoorW.PrintWords Go.Proofs.YtagkncjdohljgaaDoorW.PrintLast
set_option linter.unusedSimpArgs false
set_option linter.unusedVariables false
theorem r_sent_0 (w : World) : Calls Tryd.prog 46 #[.int .i64 0] w fun e w' => e = .returned (.string ⟨#[51, 52, 66, 66, 49, 66, 66, 46]⟩) ∧ Below w.heap.size w w' := by
  have i0 : ∀ w, (Instr.index 90 (.agg #[.string ⟨#[51, 52, 66, 66, 49, 66, 66, 46]⟩, .string ⟨#[53, 54, 66, 66, 66, 54, 66, 46]⟩, .string ⟨#[66, 66, 66, 66, 66, 54, 46, 46]⟩, .string ⟨#[46, 52, 46, 52, 66, 54, 46, 46]⟩, .string ⟨#[66, 66, 66, 66, 66, 54, 46, 46]⟩, .string ⟨#[46, 54, 46, 54, 66, 54, 46, 46]⟩, .string ⟨#[66, 66, 66, 66, 66, 66, 66, 46]⟩]) (.int .i64 0)).run Tryd.prog w = .ok (.string ⟨#[51, 52, 66, 66, 49, 66, 66, 46]⟩) w := fun _ => by kernel_rfl
  go_enter Tryd.func46, Tryd.ntmps46
  go_wp2
  go_ret
  exact ⟨rfl, Below.refl _ _⟩
theorem r_sent_1 (w : World) : Calls Tryd.prog 46 #[.int .i64 1] w fun e w' => e = .returned (.string ⟨#[53, 54, 66, 66, 66, 54, 66, 46]⟩) ∧ Below w.heap.size w w' := by
  have i0 : ∀ w, (Instr.index 90 (.agg #[.string ⟨#[51, 52, 66, 66, 49, 66, 66, 46]⟩, .string ⟨#[53, 54, 66, 66, 66, 54, 66, 46]⟩, .string ⟨#[66, 66, 66, 66, 66, 54, 46, 46]⟩, .string ⟨#[46, 52, 46, 52, 66, 54, 46, 46]⟩, .string ⟨#[66, 66, 66, 66, 66, 54, 46, 46]⟩, .string ⟨#[46, 54, 46, 54, 66, 54, 46, 46]⟩, .string ⟨#[66, 66, 66, 66, 66, 66, 66, 46]⟩]) (.int .i64 1)).run Tryd.prog w = .ok (.string ⟨#[53, 54, 66, 66, 66, 54, 66, 46]⟩) w := fun _ => by kernel_rfl
  go_enter Tryd.func46, Tryd.ntmps46
  go_wp2
  go_ret
  exact ⟨rfl, Below.refl _ _⟩
theorem r_sent_2 (w : World) : Calls Tryd.prog 46 #[.int .i64 2] w fun e w' => e = .returned (.string ⟨#[66, 66, 66, 66, 66, 54, 46, 46]⟩) ∧ Below w.heap.size w w' := by
  have i0 : ∀ w, (Instr.index 90 (.agg #[.string ⟨#[51, 52, 66, 66, 49, 66, 66, 46]⟩, .string ⟨#[53, 54, 66, 66, 66, 54, 66, 46]⟩, .string ⟨#[66, 66, 66, 66, 66, 54, 46, 46]⟩, .string ⟨#[46, 52, 46, 52, 66, 54, 46, 46]⟩, .string ⟨#[66, 66, 66, 66, 66, 54, 46, 46]⟩, .string ⟨#[46, 54, 46, 54, 66, 54, 46, 46]⟩, .string ⟨#[66, 66, 66, 66, 66, 66, 66, 46]⟩]) (.int .i64 2)).run Tryd.prog w = .ok (.string ⟨#[66, 66, 66, 66, 66, 54, 46, 46]⟩) w := fun _ => by kernel_rfl
  go_enter Tryd.func46, Tryd.ntmps46
  go_wp2
  go_ret
  exact ⟨rfl, Below.refl _ _⟩
theorem r_sent_3 (w : World) : Calls Tryd.prog 46 #[.int .i64 3] w fun e w' => e = .returned (.string ⟨#[46, 52, 46, 52, 66, 54, 46, 46]⟩) ∧ Below w.heap.size w w' := by
  have i0 : ∀ w, (Instr.index 90 (.agg #[.string ⟨#[51, 52, 66, 66, 49, 66, 66, 46]⟩, .string ⟨#[53, 54, 66, 66, 66, 54, 66, 46]⟩, .string ⟨#[66, 66, 66, 66, 66, 54, 46, 46]⟩, .string ⟨#[46, 52, 46, 52, 66, 54, 46, 46]⟩, .string ⟨#[66, 66, 66, 66, 66, 54, 46, 46]⟩, .string ⟨#[46, 54, 46, 54, 66, 54, 46, 46]⟩, .string ⟨#[66, 66, 66, 66, 66, 66, 66, 46]⟩]) (.int .i64 3)).run Tryd.prog w = .ok (.string ⟨#[46, 52, 46, 52, 66, 54, 46, 46]⟩) w := fun _ => by kernel_rfl
  go_enter Tryd.func46, Tryd.ntmps46
  go_wp2
  go_ret
  exact ⟨rfl, Below.refl _ _⟩
theorem r_sent_4 (w : World) : Calls Tryd.prog 46 #[.int .i64 4] w fun e w' => e = .returned (.string ⟨#[66, 66, 66, 66, 66, 54, 46, 46]⟩) ∧ Below w.heap.size w w' := by
  have i0 : ∀ w, (Instr.index 90 (.agg #[.string ⟨#[51, 52, 66, 66, 49, 66, 66, 46]⟩, .string ⟨#[53, 54, 66, 66, 66, 54, 66, 46]⟩, .string ⟨#[66, 66, 66, 66, 66, 54, 46, 46]⟩, .string ⟨#[46, 52, 46, 52, 66, 54, 46, 46]⟩, .string ⟨#[66, 66, 66, 66, 66, 54, 46, 46]⟩, .string ⟨#[46, 54, 46, 54, 66, 54, 46, 46]⟩, .string ⟨#[66, 66, 66, 66, 66, 66, 66, 46]⟩]) (.int .i64 4)).run Tryd.prog w = .ok (.string ⟨#[66, 66, 66, 66, 66, 54, 46, 46]⟩) w := fun _ => by kernel_rfl
  go_enter Tryd.func46, Tryd.ntmps46
  go_wp2
  go_ret
  exact ⟨rfl, Below.refl _ _⟩
theorem r_sent_5 (w : World) : Calls Tryd.prog 46 #[.int .i64 5] w fun e w' => e = .returned (.string ⟨#[46, 54, 46, 54, 66, 54, 46, 46]⟩) ∧ Below w.heap.size w w' := by
  have i0 : ∀ w, (Instr.index 90 (.agg #[.string ⟨#[51, 52, 66, 66, 49, 66, 66, 46]⟩, .string ⟨#[53, 54, 66, 66, 66, 54, 66, 46]⟩, .string ⟨#[66, 66, 66, 66, 66, 54, 46, 46]⟩, .string ⟨#[46, 52, 46, 52, 66, 54, 46, 46]⟩, .string ⟨#[66, 66, 66, 66, 66, 54, 46, 46]⟩, .string ⟨#[46, 54, 46, 54, 66, 54, 46, 46]⟩, .string ⟨#[66, 66, 66, 66, 66, 66, 66, 46]⟩]) (.int .i64 5)).run Tryd.prog w = .ok (.string ⟨#[46, 54, 46, 54, 66, 54, 46, 46]⟩) w := fun _ => by kernel_rfl
  go_enter Tryd.func46, Tryd.ntmps46
  go_wp2
  go_ret
  exact ⟨rfl, Below.refl _ _⟩
theorem r_sent_6 (w : World) : Calls Tryd.prog 46 #[.int .i64 6] w fun e w' => e = .returned (.string ⟨#[66, 66, 66, 66, 66, 66, 66, 46]⟩) ∧ Below w.heap.size w w' := by
  have i0 : ∀ w, (Instr.index 90 (.agg #[.string ⟨#[51, 52, 66, 66, 49, 66, 66, 46]⟩, .string ⟨#[53, 54, 66, 66, 66, 54, 66, 46]⟩, .string ⟨#[66, 66, 66, 66, 66, 54, 46, 46]⟩, .string ⟨#[46, 52, 46, 52, 66, 54, 46, 46]⟩, .string ⟨#[66, 66, 66, 66, 66, 54, 46, 46]⟩, .string ⟨#[46, 54, 46, 54, 66, 54, 46, 46]⟩, .string ⟨#[66, 66, 66, 66, 66, 66, 66, 46]⟩]) (.int .i64 6)).run Tryd.prog w = .ok (.string ⟨#[66, 66, 66, 66, 66, 66, 66, 46]⟩) w := fun _ => by kernel_rfl
  go_enter Tryd.func46, Tryd.ntmps46
  go_wp2
  go_ret
  exact ⟨rfl, Below.refl _ _⟩
theorem r_got_0 (w : World) : Calls Tryd.prog 47 #[.int .i64 0] w fun e w' => e = .returned (.string ⟨#[51, 53, 80, 80, 50, 80, 80, 46]⟩) ∧ Below w.heap.size w w' := by
  have i0 : ∀ w, (Instr.index 90 (.agg #[.string ⟨#[51, 53, 80, 80, 50, 80, 80, 46]⟩, .string ⟨#[80, 80, 80, 80, 80, 54, 46, 46]⟩, .string ⟨#[52, 54, 80, 80, 80, 54, 80, 46]⟩, .string ⟨#[46, 53, 46, 53, 80, 54, 46, 46]⟩, .string ⟨#[46, 54, 46, 54, 80, 54, 46, 46]⟩, .string ⟨#[83, 83, 83, 83, 80, 54, 46, 46]⟩, .string ⟨#[67, 67, 67, 67, 80, 105, 105, 105]⟩]) (.int .i64 0)).run Tryd.prog w = .ok (.string ⟨#[51, 53, 80, 80, 50, 80, 80, 46]⟩) w := fun _ => by kernel_rfl
  go_enter Tryd.func47, Tryd.ntmps47
  go_wp2
  go_ret
  exact ⟨rfl, Below.refl _ _⟩
theorem r_got_1 (w : World) : Calls Tryd.prog 47 #[.int .i64 1] w fun e w' => e = .returned (.string ⟨#[80, 80, 80, 80, 80, 54, 46, 46]⟩) ∧ Below w.heap.size w w' := by
  have i0 : ∀ w, (Instr.index 90 (.agg #[.string ⟨#[51, 53, 80, 80, 50, 80, 80, 46]⟩, .string ⟨#[80, 80, 80, 80, 80, 54, 46, 46]⟩, .string ⟨#[52, 54, 80, 80, 80, 54, 80, 46]⟩, .string ⟨#[46, 53, 46, 53, 80, 54, 46, 46]⟩, .string ⟨#[46, 54, 46, 54, 80, 54, 46, 46]⟩, .string ⟨#[83, 83, 83, 83, 80, 54, 46, 46]⟩, .string ⟨#[67, 67, 67, 67, 80, 105, 105, 105]⟩]) (.int .i64 1)).run Tryd.prog w = .ok (.string ⟨#[80, 80, 80, 80, 80, 54, 46, 46]⟩) w := fun _ => by kernel_rfl
  go_enter Tryd.func47, Tryd.ntmps47
  go_wp2
  go_ret
  exact ⟨rfl, Below.refl _ _⟩
theorem r_got_2 (w : World) : Calls Tryd.prog 47 #[.int .i64 2] w fun e w' => e = .returned (.string ⟨#[52, 54, 80, 80, 80, 54, 80, 46]⟩) ∧ Below w.heap.size w w' := by
  have i0 : ∀ w, (Instr.index 90 (.agg #[.string ⟨#[51, 53, 80, 80, 50, 80, 80, 46]⟩, .string ⟨#[80, 80, 80, 80, 80, 54, 46, 46]⟩, .string ⟨#[52, 54, 80, 80, 80, 54, 80, 46]⟩, .string ⟨#[46, 53, 46, 53, 80, 54, 46, 46]⟩, .string ⟨#[46, 54, 46, 54, 80, 54, 46, 46]⟩, .string ⟨#[83, 83, 83, 83, 80, 54, 46, 46]⟩, .string ⟨#[67, 67, 67, 67, 80, 105, 105, 105]⟩]) (.int .i64 2)).run Tryd.prog w = .ok (.string ⟨#[52, 54, 80, 80, 80, 54, 80, 46]⟩) w := fun _ => by kernel_rfl
  go_enter Tryd.func47, Tryd.ntmps47
  go_wp2
  go_ret
  exact ⟨rfl, Below.refl _ _⟩
theorem r_got_3 (w : World) : Calls Tryd.prog 47 #[.int .i64 3] w fun e w' => e = .returned (.string ⟨#[46, 53, 46, 53, 80, 54, 46, 46]⟩) ∧ Below w.heap.size w w' := by
  have i0 : ∀ w, (Instr.index 90 (.agg #[.string ⟨#[51, 53, 80, 80, 50, 80, 80, 46]⟩, .string ⟨#[80, 80, 80, 80, 80, 54, 46, 46]⟩, .string ⟨#[52, 54, 80, 80, 80, 54, 80, 46]⟩, .string ⟨#[46, 53, 46, 53, 80, 54, 46, 46]⟩, .string ⟨#[46, 54, 46, 54, 80, 54, 46, 46]⟩, .string ⟨#[83, 83, 83, 83, 80, 54, 46, 46]⟩, .string ⟨#[67, 67, 67, 67, 80, 105, 105, 105]⟩]) (.int .i64 3)).run Tryd.prog w = .ok (.string ⟨#[46, 53, 46, 53, 80, 54, 46, 46]⟩) w := fun _ => by kernel_rfl
  go_enter Tryd.func47, Tryd.ntmps47
  go_wp2
  go_ret
  exact ⟨rfl, Below.refl _ _⟩
theorem r_got_4 (w : World) : Calls Tryd.prog 47 #[.int .i64 4] w fun e w' => e = .returned (.string ⟨#[46, 54, 46, 54, 80, 54, 46, 46]⟩) ∧ Below w.heap.size w w' := by
  have i0 : ∀ w, (Instr.index 90 (.agg #[.string ⟨#[51, 53, 80, 80, 50, 80, 80, 46]⟩, .string ⟨#[80, 80, 80, 80, 80, 54, 46, 46]⟩, .string ⟨#[52, 54, 80, 80, 80, 54, 80, 46]⟩, .string ⟨#[46, 53, 46, 53, 80, 54, 46, 46]⟩, .string ⟨#[46, 54, 46, 54, 80, 54, 46, 46]⟩, .string ⟨#[83, 83, 83, 83, 80, 54, 46, 46]⟩, .string ⟨#[67, 67, 67, 67, 80, 105, 105, 105]⟩]) (.int .i64 4)).run Tryd.prog w = .ok (.string ⟨#[46, 54, 46, 54, 80, 54, 46, 46]⟩) w := fun _ => by kernel_rfl
  go_enter Tryd.func47, Tryd.ntmps47
  go_wp2
  go_ret
  exact ⟨rfl, Below.refl _ _⟩
theorem r_got_5 (w : World) : Calls Tryd.prog 47 #[.int .i64 5] w fun e w' => e = .returned (.string ⟨#[83, 83, 83, 83, 80, 54, 46, 46]⟩) ∧ Below w.heap.size w w' := by
  have i0 : ∀ w, (Instr.index 90 (.agg #[.string ⟨#[51, 53, 80, 80, 50, 80, 80, 46]⟩, .string ⟨#[80, 80, 80, 80, 80, 54, 46, 46]⟩, .string ⟨#[52, 54, 80, 80, 80, 54, 80, 46]⟩, .string ⟨#[46, 53, 46, 53, 80, 54, 46, 46]⟩, .string ⟨#[46, 54, 46, 54, 80, 54, 46, 46]⟩, .string ⟨#[83, 83, 83, 83, 80, 54, 46, 46]⟩, .string ⟨#[67, 67, 67, 67, 80, 105, 105, 105]⟩]) (.int .i64 5)).run Tryd.prog w = .ok (.string ⟨#[83, 83, 83, 83, 80, 54, 46, 46]⟩) w := fun _ => by kernel_rfl
  go_enter Tryd.func47, Tryd.ntmps47
  go_wp2
  go_ret
  exact ⟨rfl, Below.refl _ _⟩
theorem r_got_6 (w : World) : Calls Tryd.prog 47 #[.int .i64 6] w fun e w' => e = .returned (.string ⟨#[67, 67, 67, 67, 80, 105, 105, 105]⟩) ∧ Below w.heap.size w w' := by
  have i0 : ∀ w, (Instr.index 90 (.agg #[.string ⟨#[51, 53, 80, 80, 50, 80, 80, 46]⟩, .string ⟨#[80, 80, 80, 80, 80, 54, 46, 46]⟩, .string ⟨#[52, 54, 80, 80, 80, 54, 80, 46]⟩, .string ⟨#[46, 53, 46, 53, 80, 54, 46, 46]⟩, .string ⟨#[46, 54, 46, 54, 80, 54, 46, 46]⟩, .string ⟨#[83, 83, 83, 83, 80, 54, 46, 46]⟩, .string ⟨#[67, 67, 67, 67, 80, 105, 105, 105]⟩]) (.int .i64 6)).run Tryd.prog w = .ok (.string ⟨#[67, 67, 67, 67, 80, 105, 105, 105]⟩) w := fun _ => by kernel_rfl
  go_enter Tryd.func47, Tryd.ntmps47
  go_wp2
  go_ret
  exact ⟨rfl, Below.refl _ _⟩
end Go.Proofs.YtagkncjdohljgaaDoor.QL
