/- Along any events from Idle on, an event is Fine just where the book says so, and the state is the book's; no condition but that numbers are of 64 bits. -/
import Derived.Test.YtndhaakknkkpfaaDoorReadStateBook
import Derived.Test.YtndhaakknkkpfaaDoorPStateBook
namespace Go.Proofs.YtndhaakknkkpfaaDoor.Pure
open Go.RowKit Go.Proofs.YtndhaakknkkpfaaDoor.QBook Go.Proofs.YtndhaakknkkpfaaDoor.ZRow Go.Proofs.YtndhaakknkkpfaaDoorW.PrintWords Go.Proofs.YtndhaakknkkpfaaDoorW.PrintLast Go.Proofs.YtndhaakknkkpfaaDoorW.PrintMore
set_option linter.unusedSimpArgs false

/-- The books that there can be. -/
def reach (a b c d : Bool) : Bool := if a then (b || !(c && d)) else (!b && !c && !d)
def fineV (a b c d g : Bool) (e : Int) : Bool := (heraldlaw10_Book_fine.f 8 a b c d g e).getD false
def behV (a b c d g : Bool) (e : Int) : Bool × Bool × Bool × Bool := (heraldlaw10_Book_behind.f 8 a b c d g e).getD (false, false, false, false)
def stV (a b c d : Bool) : Int := (heraldlaw10_Book_state.f 8 a b c d).getD 0
def ovV (a c d : Bool) : Bool := a && !c && !d

theorem over_eq (a b c d : Bool) : heraldlaw10_Book_over.f a b c d = some (ovV a c d) := by
  cases a <;> cases b <;> cases c <;> cases d <;> rfl

theorem state_eq (a b c d : Bool) (k : Nat) (hk : 8 ≤ k) : heraldlaw10_Book_state.f k a b c d = some (stV a b c d) := by
  refine at_rounds (g := fun k => heraldlaw10_Book_state.f k a b c d) (fun k => heraldlaw10_Book_state.mono a b c d k) hk ?_
  cases a <;> cases b <;> cases c <;> cases d <;> rfl

theorem st_facts (a b c d : Bool) (h : reach a b c d = true) : 0 ≤ stV a b c d ∧ stV a b c d ≤ 6 ∧ decide (stV a b c d = 3 ∨ stV a b c d = 4 ∨ stV a b c d = 5) = (b && !ovV a c d) := by
  cases a <;> cases b <;> cases c <;> cases d <;> first | (cases h; done) | (refine ⟨?_, ?_, ?_⟩ <;> decide +kernel)

theorem fine_eq (a b c d g : Bool) (e : Int) (k : Nat) (hk : 8 ≤ k) : heraldlaw10_Book_fine.f k a b c d g e = some (fineV a b c d g e) := by
  refine at_rounds (g := fun k => heraldlaw10_Book_fine.f k a b c d g e) (fun k => heraldlaw10_Book_fine.mono a b c d g e k) hk ?_
  show heraldlaw10_Book_fine.f 8 a b c d g e = some (fineV a b c d g e)
  have some_ : (heraldlaw10_Book_fine.f 8 a b c d g e).isSome = true := by
    by_cases he : 1 ≤ e ∧ e ≤ 8
    · obtain rfl | rfl | rfl | rfl | rfl | rfl | rfl | rfl : e = 1 ∨ e = 2 ∨ e = 3 ∨ e = 4 ∨ e = 5 ∨ e = 6 ∨ e = 7 ∨ e = 8 := by omega
      all_goals cases a <;> cases b <;> cases c <;> cases d <;> cases g <;> decide +kernel
    · have h1 : e ≠ 1 := by omega
      have h2 : e ≠ 2 := by omega
      have h3 : e ≠ 3 := by omega
      have h4 : e ≠ 4 := by omega
      have h5 : e ≠ 5 := by omega
      have h6 : e ≠ 6 := by omega
      have h7 : e ≠ 7 := by omega
      have h8 : e ≠ 8 := by omega
      cases a <;> cases b <;> cases c <;> cases d <;> cases g <;> simp [heraldlaw10_Book_fine.f, heraldlaw10_Book_right.f, heraldlaw10_Book_fine.j0, heraldlaw10_Book_fine.j1, h1, h2, h3, h4, h5, h6, h7, h8]
  unfold fineV
  cases hf : heraldlaw10_Book_fine.f 8 a b c d g e with
  | none => rw [hf] at some_; cases some_
  | some v => rfl

theorem fine_out (a b c d g : Bool) (e : Int) (he : ¬ (1 ≤ e ∧ e ≤ 8)) : fineV a b c d g e = false := by
  have h1 : e ≠ 1 := by omega
  have h2 : e ≠ 2 := by omega
  have h3 : e ≠ 3 := by omega
  have h4 : e ≠ 4 := by omega
  have h5 : e ≠ 5 := by omega
  have h6 : e ≠ 6 := by omega
  have h7 : e ≠ 7 := by omega
  have h8 : e ≠ 8 := by omega
  unfold fineV
  cases a <;> cases b <;> cases c <;> cases d <;> cases g <;> simp [heraldlaw10_Book_fine.f, heraldlaw10_Book_right.f, heraldlaw10_Book_fine.j0, heraldlaw10_Book_fine.j1, h1, h2, h3, h4, h5, h6, h7, h8]

/-- What a fine event does, and what another one does. -/
def BF (a b c d g : Bool) (e : Int) : Prop :=
  (fineV a b c d g e = true → (QBook.N3 (stV a b c d) g e).2.1 = 0 ∧ (QBook.N3 (stV a b c d) g e).2.2 = 0 ∧ heraldlaw10_Book_behind.f 8 a b c d g e = some (behV a b c d g e) ∧
    reach (behV a b c d g e).1 (behV a b c d g e).2.1 (behV a b c d g e).2.2.1 (behV a b c d g e).2.2.2 = true ∧
    (QBook.N3 (stV a b c d) g e).1 = stV (behV a b c d g e).1 (behV a b c d g e).2.1 (behV a b c d g e).2.2.1 (behV a b c d g e).2.2.2) ∧
  (fineV a b c d g e = false → (QBook.N3 (stV a b c d) g e).2.1 ≠ 0 ∧ (QBook.N3 (stV a b c d) g e).1 = stV a b c d)

theorem book_facts (a b c d g : Bool) (e : Int) (h : reach a b c d = true) : BF a b c d g e := by
  by_cases he : 1 ≤ e ∧ e ≤ 8
  · obtain rfl | rfl | rfl | rfl | rfl | rfl | rfl | rfl : e = 1 ∨ e = 2 ∨ e = 3 ∨ e = 4 ∨ e = 5 ∨ e = 6 ∨ e = 7 ∨ e = 8 := by omega
    all_goals cases a <;> cases b <;> cases c <;> cases d <;> first | (cases h; done) | (cases g <;> (unfold BF; decide +kernel))
  · refine ⟨fun hf => ?_, fun _ => ?_⟩
    · rw [fine_out a b c d g e he] at hf; cases hf
    · rw [QBook.N3_out _ g e (by omega)]
      exact ⟨show (4 : Int) ≠ 0 by decide, rfl⟩

theorem book_two (l : List S28) (i : Int) (a b c d : Bool) (k : Nat) (hr : reach a b c d = true)
    (ih : ∀ k', k ≤ k' → heraldlaw10_StateBook.l0 k' l (stV a b c d) (wrap64 (i + 1)) a b c d = some true) (hk : 10 ≤ k) :
    heraldlaw10_StateBook.j2 (k + 1) l i (stV a b c d) a b c d = some true := by
  obtain ⟨_, _, hc⟩ := st_facts a b c d hr
  simp only [heraldlaw10_StateBook.j2]
  rw [state_eq a b c d k (by omega)]
  simp only [Option.bind_some, if_true]
  rw [QBook.counts_all _ k hk, over_eq, hc]
  simp only [Option.bind_some]
  cases b with
  | false => rw [if_neg (by decide), if_neg (by simp)]; exact ih k (Nat.le_refl _)
  | true =>
    rw [if_pos rfl]
    cases ovV a c d with
    | false => rw [if_pos (by decide), if_neg (by decide)]; exact ih k (Nat.le_refl _)
    | true => rw [if_neg (by decide), if_pos rfl]; exact ih k (Nat.le_refl _)

theorem book_loop (l : List S28) (hl : l.length * 16 ≤ 140737488351232) (n : Nat) : ∀ (k : Nat) (i : Int) (a b c d : Bool), 0 ≤ i → i ≤ l.length → (l.length : Int) - i = n → 3 * n + 11 ≤ k → reach a b c d = true →
    heraldlaw10_StateBook.l0 k l (stV a b c d) i a b c d = some true := by
  induction n with
  | zero =>
    intro k i a b c d h0 h1 hd hk _
    obtain ⟨k, rfl⟩ : ∃ m, k = m + 1 := ⟨k - 1, by omega⟩
    simp only [heraldlaw10_StateBook.l0]
    rw [if_neg (by omega)]
  | succ n ih =>
    intro k i a b c d h0 h1 hd hk hr
    obtain ⟨k, rfl⟩ : ∃ m, k = m + 3 := ⟨k - 3, by omega⟩
    have hi : wrap64 (i + 1) = i + 1 := QBook.wrap_one h0 (by omega)
    have hlt : i < (l.length : Int) := by omega
    obtain ⟨fy, fn⟩ := book_facts a b c d (rd_T28 l i).f0 (rd_T28 l i).f1 hr
    simp only [heraldlaw10_StateBook.l0]
    rw [if_pos hlt, if_pos h0, QBook.law_next]
    simp only [Option.bind_some]
    rw [fine_eq _ _ _ _ _ _ _ (by omega)]
    simp only [Option.bind_some]
    cases hf : fineV a b c d (rd_T28 l i).f0 (rd_T28 l i).f1 with
    | true =>
      obtain ⟨e1, e2, e3, e4, e5⟩ := fy hf
      rw [if_pos rfl, if_pos e1, e2]
      simp only [heraldlaw10_StateBook.j1, bne_self_eq_false, Bool.false_eq_true, if_false, if_true]
      rw [if_pos h0, if_pos hlt]
      have e6 := at_rounds (g := fun k => heraldlaw10_Book_behind.f k a b c d (rd_T28 l i).f0 (rd_T28 l i).f1) (fun k => heraldlaw10_Book_behind.mono a b c d _ _ k) (show 8 ≤ k + 1 by omega) e3
      rw [show heraldlaw10_Book_behind.f (k + 1) a b c d (rd_T28 l i).f0 (rd_T28 l i).f1 = _ from e6]
      simp only [Option.bind_some]
      rw [e5]
      refine book_two l i _ _ _ _ k e4 (fun k' hk' => ?_) (by omega)
      rw [hi]
      exact ih k' (i + 1) _ _ _ _ (by omega) (by omega) (by omega) (by omega) e4
    | false =>
      obtain ⟨e1, e2⟩ := fn hf
      rw [if_neg (by decide), if_neg e1, e2]
      simp only [heraldlaw10_StateBook.j1, Bool.false_eq_true, if_false]
      refine book_two l i a b c d k hr (fun k' hk' => ?_) (by omega)
      rw [hi]
      exact ih k' (i + 1) a b c d (by omega) (by omega) (by omega) (by omega) hr

theorem StateBook : QBook.Plain := by
  intro l hl
  refine ⟨3 * l.length + 13, ?_⟩
  unfold heraldlaw10_StateBook.f
  rw [QBook.head_all _ (by omega)]
  simp only [Option.bind_some, if_true]
  have h0 : stV false false false false = 0 := by decide +kernel
  have := book_loop l hl.1 l.length (3 * l.length + 13) 0 false false false false (by omega) (by omega) (by omega) (by omega) rfl
  rw [h0] at this
  exact this

end Go.Proofs.YtndhaakknkkpfaaDoor.Pure
