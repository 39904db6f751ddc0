/- Every cell of both tables, at any kind of event, from all seven states and from any number: the document's; no condition but that numbers are of 64 bits. -/
import Derived.Test.YtndhaakknkkpfaaDoorReadStateCells
import Derived.Test.YtndhaakknkkpfaaDoorPStateCells
namespace Go.Proofs.YtndhaakknkkpfaaDoor.Pure
open Go.RowKit Go.Proofs.YtndhaakknkkpfaaDoor.QAll Go.Proofs.YtndhaakknkkpfaaDoor.QCells Go.Proofs.YtndhaakknkkpfaaDoor.ZRow Go.Proofs.YtndhaakknkkpfaaDoorW.PrintWords Go.Proofs.YtndhaakknkkpfaaDoorW.PrintLast Go.Proofs.YtndhaakknkkpfaaDoorW.PrintMore

theorem cell_facts (s k : Int) :
    ((QCells.N3 s false k).2.1 = 0 ∨ ((QCells.N3 s false k).2.1 = 4 ∧ (QCells.N3 s false k).1 = s)) ∧ ((QCells.N3 s true k).2.1 = 0 ∨ (QCells.N3 s true k).1 = s) ∧
    ((0 ≤ s ∧ s ≤ 6 ∧ 1 ≤ k ∧ k ≤ 8) → (QCells.N3 s true k).2.1 ≠ 4) ∧ (¬ (0 ≤ s ∧ s ≤ 6 ∧ 1 ≤ k ∧ k ≤ 8) → (QCells.N3 s false k).2.1 = 4 ∧ (QCells.N3 s true k).2.1 = 4) := by
  by_cases hk : 0 ≤ s ∧ s ≤ 6 ∧ 1 ≤ k ∧ k ≤ 8
  · obtain ⟨h0, h6, h1, h8⟩ := hk
    obtain rfl | rfl | rfl | rfl | rfl | rfl | rfl : s = 0 ∨ s = 1 ∨ s = 2 ∨ s = 3 ∨ s = 4 ∨ s = 5 ∨ s = 6 := by omega
    all_goals obtain rfl | rfl | rfl | rfl | rfl | rfl | rfl | rfl : k = 1 ∨ k = 2 ∨ k = 3 ∨ k = 4 ∨ k = 5 ∨ k = 6 ∨ k = 7 ∨ k = 8 := by omega
    all_goals decide +kernel
  · rw [QCells.N3_out s false k (by omega), QCells.N3_out s true k (by omega)]
    exact ⟨.inr ⟨rfl, rfl⟩, .inr rfl, fun h => absurd h hk, fun _ => ⟨rfl, rfl⟩⟩

theorem cells_five (a b i s j n v p x : Int) (r : Bool) (k : Nat) (hv : v = 0 ∨ (v = 4 ∧ n = s)) (hx : x = 0 ∨ p = s) (hr : r = true → x ≠ 4) (hn : r = false → v = 4 ∧ x = 4) :
    heraldlaw10_StateCells.j5 (k + 2) a b i s j n v p x r = heraldlaw10_StateCells.l1 k a b i s (wrap64 (j + 1)) := by
  have six : heraldlaw10_StateCells.j6 (k + 1) a b i s j false = heraldlaw10_StateCells.l1 k a b i s (wrap64 (j + 1)) := by
    simp only [heraldlaw10_StateCells.j6, Bool.false_eq_true, if_false]
  simp only [heraldlaw10_StateCells.j5]
  cases r with
  | true =>
    have hx4 := hr rfl
    rcases hv with rfl | ⟨rfl, rfl⟩
    · rw [if_pos rfl]
      by_cases h0 : x = 0
      · rw [if_pos h0, if_pos rfl, if_neg hx4, six]
      · rw [if_neg h0, if_pos (by omega), if_pos rfl, if_neg hx4, six]
    · rw [if_neg (by decide), if_pos rfl]
      by_cases h0 : x = 0
      · rw [if_pos h0, if_pos rfl, if_pos rfl, if_neg hx4, six]
      · rw [if_neg h0, if_pos (by omega), if_pos rfl, if_pos rfl, if_neg hx4, six]
  | false =>
    obtain ⟨rfl, rfl⟩ := hn rfl
    rw [if_neg (by decide), if_pos (by omega), if_neg (by decide), if_pos (by omega), if_pos rfl, if_neg (by decide)]
    exact six

theorem cells_three (a b i s j e : Int) (k : Nat) : heraldlaw10_StateCells.j3 (k + 4) a b i s j false e = heraldlaw10_StateCells.l1 k a b i s (wrap64 (j + 1)) := by
  obtain ⟨f1, f2, f3, f4⟩ := cell_facts s e
  simp only [heraldlaw10_StateCells.j3]
  rw [QCells.law_next, QCells.ref_next, QCells.law_next, QCells.ref_next]
  simp only [Option.bind_some, if_true, bne_self_eq_false, heraldlaw10_StateCells.j4, Bool.false_eq_true, if_false]
  by_cases h0 : s ≥ 0
  · rw [if_pos h0]
    by_cases h6 : s ≤ 6
    · rw [if_pos h6]
      by_cases h1 : e ≥ 1
      · rw [if_pos h1]
        exact cells_five a b i s j _ _ _ _ _ k f1 f2 (fun h => f3 ⟨h0, h6, h1, of_decide_eq_true h⟩) (fun h => f4 (fun hh => of_decide_eq_false h hh.2.2.2))
      · rw [if_neg h1]
        exact cells_five a b i s j _ _ _ _ _ k f1 f2 (fun h => by cases h) (fun _ => f4 (fun hh => h1 hh.2.2.1))
    · rw [if_neg h6]
      exact cells_five a b i s j _ _ _ _ _ k f1 f2 (fun h => by cases h) (fun _ => f4 (fun hh => h6 hh.2.1))
  · rw [if_neg h0]
    exact cells_five a b i s j _ _ _ _ _ k f1 f2 (fun h => by cases h) (fun _ => f4 (fun hh => h0 hh.1))

theorem cells_inner (a b i s : Int) (K : Nat) (d : Nat) : ∀ (j : Int), 0 ≤ j → j ≤ 11 → 11 - j = d → heraldlaw10_StateCells.l1 (K + 1 + 5 * d) a b i s j = heraldlaw10_StateCells.l0 K a b (wrap64 (i + 1)) := by
  induction d with
  | zero =>
    intro j h0 h1 hd
    simp only [heraldlaw10_StateCells.l1]
    rw [if_neg (by omega)]
  | succ d ih =>
    intro j h0 h1 hd
    have hj : wrap64 (j + 1) = j + 1 := by unfold wrap64; omega
    rw [show K + 1 + 5 * (d + 1) = (K + 1 + 5 * d + 4) + 1 by omega]
    simp only [heraldlaw10_StateCells.l1]
    rw [if_pos (by omega)]
    by_cases h10 : j = 10
    · rw [if_pos h10, cells_three, hj]
      exact ih (j + 1) (by omega) (by omega) (by omega)
    · rw [if_neg h10, cells_three, hj]
      exact ih (j + 1) (by omega) (by omega) (by omega)

theorem cells_outer (a b : Int) (d : Nat) : ∀ (i : Int), 0 ≤ i → i ≤ 8 → 8 - i = d → heraldlaw10_StateCells.l0 (1 + 58 * d) a b i = some true := by
  induction d with
  | zero =>
    intro i h0 h1 hd
    simp only [heraldlaw10_StateCells.l0]
    rw [if_neg (by omega)]
  | succ d ih =>
    intro i h0 h1 hd
    have hi : wrap64 (i + 1) = i + 1 := by unfold wrap64; omega
    have inner := fun s => cells_inner a b i s (1 + 58 * d) 11 0 (by omega) (by omega) (by omega)
    rw [show 1 + 58 * (d + 1) = (1 + 58 * d + 1 + 5 * 11) + 1 + 1 by omega]
    simp only [heraldlaw10_StateCells.l0]
    rw [if_pos (by omega)]
    by_cases h7 : i = 7
    · rw [if_pos h7]
      simp only [heraldlaw10_StateCells.j1]
      rw [inner a, hi]
      exact ih (i + 1) (by omega) (by omega) (by omega)
    · rw [if_neg h7]
      simp only [heraldlaw10_StateCells.j1]
      rw [inner i, hi]
      exact ih (i + 1) (by omega) (by omega) (by omega)

theorem StateCells : QCells.Plain := by
  intro a b _ _
  refine ⟨1 + 58 * 8, ?_⟩
  unfold heraldlaw10_StateCells.f
  rw [QCells.head_all _ (by omega)]
  simp only [Option.bind_some, if_true]
  exact cells_outer a b 8 0 (by omega) (by omega) (by omega)

end Go.Proofs.YtndhaakknkkpfaaDoor.Pure
