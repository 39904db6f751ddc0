/- Plain facts on what Next and Counts of the package state answer. No condition. -/
import Derived.Test.YtndhaakknkkpfaaDoorQBookx6
namespace Go.Proofs.YtndhaakknkkpfaaDoor.QBook
open Go.RowKit Go.Proofs.YtndhaakknkkpfaaDoor.QAll Go.Proofs.YtndhaakknkkpfaaDoorW.PrintWords Go.Proofs.YtndhaakknkkpfaaDoorW.PrintLast

theorem next_eq (s : Int) (g : Bool) (k : Int) : heraldlaw10_next.f s g k = state_Next.f s g k := by
  unfold heraldlaw10_next.f
  cases state_Next.f s g k <;> rfl

/-- The triple that Next answers. -/
def N3 (s : Int) (g : Bool) (k : Int) : Int × Int × Int := if s < 0 ∨ 6 < s ∨ k < 1 ∨ 8 < k then (s, 4, 0) else nx g k s

theorem next_N3 (s : Int) (g : Bool) (k : Int) : state_Next.f s g k = some (N3 s g k) := by
  unfold state_Next.f N3
  split <;> rfl

theorem law_next (s : Int) (g : Bool) (k : Int) : heraldlaw10_next.f s g k = some (N3 s g k) := (next_eq s g k).trans (next_N3 s g k)

theorem N3_out (s : Int) (g : Bool) (k : Int) (h : s < 0 ∨ 6 < s ∨ k < 1 ∨ 8 < k) : N3 s g k = (s, 4, 0) := if_pos h

/-- From one of the seven states Next leads to one of them. -/
theorem N3_in (s : Int) (g : Bool) (k : Int) (h0 : 0 ≤ s) (h6 : s ≤ 6) : 0 ≤ (N3 s g k).1 ∧ (N3 s g k).1 ≤ 6 := by
  by_cases hk : 1 ≤ k ∧ k ≤ 8
  · obtain rfl | rfl | rfl | rfl | rfl | rfl | rfl : s = 0 ∨ s = 1 ∨ s = 2 ∨ s = 3 ∨ s = 4 ∨ s = 5 ∨ s = 6 := by omega
    all_goals obtain rfl | rfl | rfl | rfl | rfl | rfl | rfl | rfl : k = 1 ∨ k = 2 ∨ k = 3 ∨ k = 4 ∨ k = 5 ∨ k = 6 ∨ k = 7 ∨ k = 8 := by omega
    all_goals cases g <;> decide +kernel
  · rw [N3_out s g k (by omega)]
    exact ⟨h0, h6⟩

theorem head10 : heraldlaw10_head.f 10 = some true := by decide +kernel
theorem head_all (k : Nat) (hk : 10 ≤ k) : heraldlaw10_head.f k = some true := at_rounds heraldlaw10_head.mono hk head10

theorem counts_no (s : Int) (h3 : s ≠ 3) (h4 : s ≠ 4) (h5 : s ≠ 5) : state_Counts.f 10 s = some false := by
  simp [state_Counts.f, state_is.f, state_is.l0, rd, wrap64, h3, h4, h5]

theorem counts_all (s : Int) (k : Nat) (hk : 10 ≤ k) : state_Counts.f k s = some (decide (s = 3 ∨ s = 4 ∨ s = 5)) := by
  refine at_rounds (g := fun k => state_Counts.f k s) (fun k => state_Counts.mono s k) hk ?_
  by_cases h3 : s = 3
  · subst h3; decide +kernel
  by_cases h4 : s = 4
  · subst h4; decide +kernel
  by_cases h5 : s = 5
  · subst h5; decide +kernel
  show state_Counts.f 10 s = _
  rw [counts_no s h3 h4 h5, decide_eq_false (by omega)]

theorem wf64 {n : Int} (h : (Lit.int .i64 n).wf = true) : -9223372036854775808 ≤ n ∧ n ≤ 9223372036854775807 := by
  simp [Lit.wf, IntKind.min, IntKind.max, IntKind.signed, IntKind.bits] at h; omega

theorem wrap_one {i : Int} (h0 : 0 ≤ i) (h : i * 16 ≤ 140737488351232) : wrap64 (i + 1) = i + 1 := by unfold wrap64; omega

end Go.Proofs.YtndhaakknkkpfaaDoor.QBook
