/- The package's variable, cell by cell. No condition. -/
import Derived.Test.YtoffhlbdfhhhjaaDoorMFrD
namespace Go.Proofs.YtoffhlbdfhhhjaaDoor.Fr20
open Go
def GL (w : World) : Prop := w.cell? ⟨0, 0, none⟩ = some (.int .i64 9) ∧ w.cell? ⟨0, 1, none⟩ = some (.int .i64 0) ∧ w.cell? ⟨0, 2, none⟩ = some (.int .i64 45) ∧ w.cell? ⟨0, 3, none⟩ = some (.int .i64 0) ∧ w.cell? ⟨0, 4, none⟩ = some (.int .i64 0) ∧ w.cell? ⟨0, 5, none⟩ = some (.int .i64 0) ∧ w.cell? ⟨0, 6, none⟩ = some (.int .i64 0) ∧ w.cell? ⟨0, 7, none⟩ = some (.int .i64 0) ∧ w.cell? ⟨0, 8, none⟩ = some (.int .i64 1) ∧ w.cell? ⟨0, 9, none⟩ = some (.int .i64 1) ∧ w.cell? ⟨0, 10, none⟩ = some (.int .i64 12) ∧ w.cell? ⟨0, 11, none⟩ = some (.int .i64 0) ∧ w.cell? ⟨0, 12, none⟩ = some (.int .i64 1) ∧ w.cell? ⟨0, 13, none⟩ = some (.int .i64 1) ∧ w.cell? ⟨0, 14, none⟩ = some (.int .i64 0) ∧ w.cell? ⟨0, 15, none⟩ = some (.int .i64 1) ∧ w.cell? ⟨0, 16, none⟩ = some (.int .i64 0) ∧ w.cell? ⟨0, 17, none⟩ = some (.int .i64 2) ∧ w.cell? ⟨0, 18, none⟩ = some (.int .i64 4) ∧ w.cell? ⟨0, 19, none⟩ = some (.int .i64 0)
theorem GL.fr {w : World} (h : GL w) : Go.Proofs.YtoffhlbdfhhhjaaDoor.Fr.GL w := by
  obtain ⟨h0, h1, h2, h3, h4, h5, h6, h7, h8, h9, h10, h11, h12, h13, h14, h15, h16, h17, h18, h19⟩ := h
  intro i n hi
  have hlt : i < 20 := (List.getElem?_eq_some_iff.1 hi).1
  obtain rfl | rfl | rfl | rfl | rfl | rfl | rfl | rfl | rfl | rfl | rfl | rfl | rfl | rfl | rfl | rfl | rfl | rfl | rfl | rfl : i = 0 ∨ i = 1 ∨ i = 2 ∨ i = 3 ∨ i = 4 ∨ i = 5 ∨ i = 6 ∨ i = 7 ∨ i = 8 ∨ i = 9 ∨ i = 10 ∨ i = 11 ∨ i = 12 ∨ i = 13 ∨ i = 14 ∨ i = 15 ∨ i = 16 ∨ i = 17 ∨ i = 18 ∨ i = 19 := by omega
  · obtain rfl : 9 = n := Option.some.inj hi
    exact h0
  · obtain rfl : 0 = n := Option.some.inj hi
    exact h1
  · obtain rfl : 45 = n := Option.some.inj hi
    exact h2
  · obtain rfl : 0 = n := Option.some.inj hi
    exact h3
  · obtain rfl : 0 = n := Option.some.inj hi
    exact h4
  · obtain rfl : 0 = n := Option.some.inj hi
    exact h5
  · obtain rfl : 0 = n := Option.some.inj hi
    exact h6
  · obtain rfl : 0 = n := Option.some.inj hi
    exact h7
  · obtain rfl : 1 = n := Option.some.inj hi
    exact h8
  · obtain rfl : 1 = n := Option.some.inj hi
    exact h9
  · obtain rfl : 12 = n := Option.some.inj hi
    exact h10
  · obtain rfl : 0 = n := Option.some.inj hi
    exact h11
  · obtain rfl : 1 = n := Option.some.inj hi
    exact h12
  · obtain rfl : 1 = n := Option.some.inj hi
    exact h13
  · obtain rfl : 0 = n := Option.some.inj hi
    exact h14
  · obtain rfl : 1 = n := Option.some.inj hi
    exact h15
  · obtain rfl : 0 = n := Option.some.inj hi
    exact h16
  · obtain rfl : 2 = n := Option.some.inj hi
    exact h17
  · obtain rfl : 4 = n := Option.some.inj hi
    exact h18
  · obtain rfl : 0 = n := Option.some.inj hi
    exact h19
end Go.Proofs.YtoffhlbdfhhhjaaDoor.Fr20
