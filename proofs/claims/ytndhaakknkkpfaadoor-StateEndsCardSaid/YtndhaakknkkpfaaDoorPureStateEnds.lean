/- Behind END_STREAM an end sends no HEADERS and no DATA any more, and Closed stays, from any state and along any events; no condition but that numbers are of 64 bits. -/
import Derived.Test.YtndhaakknkkpfaaDoorReadStateEnds
import Derived.Test.YtndhaakknkkpfaaDoorPStateEnds
namespace Go.Proofs.YtndhaakknkkpfaaDoor.Pure
open Go.RowKit Go.Proofs.YtndhaakknkkpfaaDoor.QEnds Go.Proofs.YtndhaakknkkpfaaDoor.ZRow Go.Proofs.YtndhaakknkkpfaaDoorW.PrintWords Go.Proofs.YtndhaakknkkpfaaDoorW.PrintLast Go.Proofs.YtndhaakknkkpfaaDoorW.PrintMore
set_option linter.unusedSimpArgs false

def EF (s : Int) (g : Bool) (e n v : Int) : Prop :=
  0 ≤ n ∧ n ≤ 6 ∧ (s = 6 → n = 6) ∧ (v = 0 → 1 ≤ e → e ≤ 4 → (g = true → s ≠ 5 ∧ s ≠ 6) ∧ (g = false → s ≠ 4 ∧ s ≠ 6)) ∧
  (v = 0 → e = 2 ∨ e = 4 → (g = false → n = 4 ∨ n = 6) ∧ (g = true → n = 5 ∨ n = 6)) ∧ (s = 4 ∨ s = 6 → n = 4 ∨ n = 6) ∧ (s = 5 ∨ s = 6 → n = 5 ∨ n = 6) ∧ (v = 0 → e = 6 → n = 6)

theorem ends_facts (s : Int) (g : Bool) (e : Int) (h0 : 0 ≤ s) (h6 : s ≤ 6) : EF s g e (QEnds.N3 s g e).1 (QEnds.N3 s g e).2.1 := by
  by_cases hk : 1 ≤ e ∧ e ≤ 8
  · unfold EF
    obtain rfl | rfl | rfl | rfl | rfl | rfl | rfl : s = 0 ∨ s = 1 ∨ s = 2 ∨ s = 3 ∨ s = 4 ∨ s = 5 ∨ s = 6 := by omega
    all_goals obtain rfl | rfl | rfl | rfl | rfl | rfl | rfl | rfl : e = 1 ∨ e = 2 ∨ e = 3 ∨ e = 4 ∨ e = 5 ∨ e = 6 ∨ e = 7 ∨ e = 8 := by omega
    all_goals cases g <;> (refine ⟨?_, ?_, ?_, ?_, ?_, ?_, ?_, ?_⟩ <;> decide +kernel)
  · rw [QEnds.N3_out s g e (by omega)]
    exact ⟨h0, h6, fun h => h, fun h => absurd (show (4 : Int) = 0 from h) (by decide), fun h => absurd (show (4 : Int) = 0 from h) (by decide), fun h => h, fun h => h, fun h => absurd (show (4 : Int) = 0 from h) (by decide)⟩

/-- What the two marks say of the state. -/
def EI (s : Int) (a b : Bool) : Prop := 0 ≤ s ∧ s ≤ 6 ∧ (a = true → s = 4 ∨ s = 6) ∧ (b = true → s = 5 ∨ s = 6)

theorem ends_seven (l : List S28) (a b : Bool) (i n v e : Int) (g : Bool) (k : Nat) (hI : EI n a b) (h6 : v = 0 → e = 6 → n = 6)
    (ih : ∀ k', k ≤ k' → heraldlaw10_StateEnds.l0 k' n l a b (wrap64 (i + 1)) = some true) :
    heraldlaw10_StateEnds.j6 (k + 2) l a b i n v g e = some true := by
  have seven : heraldlaw10_StateEnds.j7 (k + 1) l a b i n false = some true := by
    simp only [heraldlaw10_StateEnds.j7, Bool.false_eq_true, if_false]
    exact ih k (Nat.le_refl _)
  have reset : v = 0 → e = 6 → (n != 6) = false := fun x y => by simp [h6 x y]
  obtain ⟨_, _, ha, hb⟩ := hI
  simp only [heraldlaw10_StateEnds.j6]
  have both : a = true → b = true → n = 6 := fun x y => by have := ha x; have := hb y; omega
  have inner : (if v = 0 then (if e = 6 then heraldlaw10_StateEnds.j7 (k + 1) l a b i n (n != 6) else heraldlaw10_StateEnds.j7 (k + 1) l a b i n false) else heraldlaw10_StateEnds.j7 (k + 1) l a b i n false) = some true := by
    by_cases hv : v = 0
    · rw [if_pos hv]
      by_cases he : e = 6
      · rw [if_pos he, reset hv he]; exact seven
      · rw [if_neg he]; exact seven
    · rw [if_neg hv]; exact seven
  by_cases h1 : a = true
  · rw [if_pos h1]
    by_cases h2 : b = true
    · rw [if_pos h2, if_pos (both h1 h2)]; exact inner
    · rw [if_neg h2]; exact inner
  · rw [if_neg h1]; exact inner

theorem ends_three (l : List S28) (a b : Bool) (i s n v e : Int) (g x : Bool) (k : Nat) (hI : EI s a b) (hF : EF s g e n v) (hx : x = true → 1 ≤ e ∧ e ≤ 4)
    (ih : ∀ k', k ≤ k' → ∀ a' b', EI n a' b' → heraldlaw10_StateEnds.l0 k' n l a' b' (wrap64 (i + 1)) = some true) :
    heraldlaw10_StateEnds.j3 (k + 5) s l a b i n v x g e = some true := by
  obtain ⟨n0, n6, hs6, hsp, hend, h4, h5, hr⟩ := hF
  obtain ⟨_, _, ha, hb⟩ := hI
  have keep : EI n a b := ⟨n0, n6, fun h => h4 (ha h), fun h => h5 (hb h)⟩
  have six : ∀ a' b', EI n a' b' → heraldlaw10_StateEnds.j6 (k + 2) l a' b' i n v g e = some true := fun a' b' h =>
    ends_seven l a' b' i n v e g k h hr fun k' hk' => ih k' hk' a' b' h
  have five : ∀ y : Bool, (y = true → v = 0 ∧ (e = 2 ∨ e = 4)) → heraldlaw10_StateEnds.j5 (k + 3) l a b i n v y g e = some true := by
    intro y hy
    simp only [heraldlaw10_StateEnds.j5]
    cases y with
    | false => rw [if_neg (by decide)]; exact six a b keep
    | true =>
      obtain ⟨hv, he⟩ := hy rfl
      obtain ⟨e1, e2⟩ := hend hv he
      rw [if_pos rfl]
      cases a <;> cases b <;> cases g <;> simp only [if_true, Bool.false_eq_true, if_false, Bool.not_true, Bool.not_false] <;>
        refine six _ _ ⟨n0, n6, fun h => ?_, fun h => ?_⟩ <;> first | (cases h; done) | exact e1 rfl | exact e2 rfl | exact keep.2.2.1 rfl | exact keep.2.2.2 rfl
  have four : heraldlaw10_StateEnds.j4 (k + 4) l a b i n v false g e = some true := by
    simp only [heraldlaw10_StateEnds.j4, Bool.false_eq_true, if_false]
    by_cases hv : v = 0
    · rw [if_pos hv]
      by_cases he : e = 2
      · rw [if_pos he]; exact five true fun _ => ⟨hv, .inl he⟩
      · rw [if_neg he]; exact five _ fun h => ⟨hv, .inr (by simpa using h)⟩
    · rw [if_neg hv]; exact five false fun h => by cases h
  have closed : s = 6 → (n != 6) = false := fun h => by simp [hs6 h]
  have tail : (if s = 6 then heraldlaw10_StateEnds.j4 (k + 4) l a b i n v (n != 6) g e else heraldlaw10_StateEnds.j4 (k + 4) l a b i n v false g e) = some true := by
    by_cases h : s = 6
    · rw [if_pos h, closed h]; exact four
    · rw [if_neg h]; exact four
  simp only [heraldlaw10_StateEnds.j3]
  by_cases h1 : x = true
  · rw [if_pos h1]
    by_cases h2 : v = 0
    · rw [if_pos h2]
      obtain ⟨p, q⟩ := hsp h2 (hx h1).1 (hx h1).2
      cases g with
      | true =>
        rw [if_pos rfl]
        have := p rfl
        rw [if_neg (fun h => by have := hb h; omega)]
        exact tail
      | false =>
        rw [if_neg (by decide)]
        have := q rfl
        rw [if_neg (fun h => by have := ha h; omega)]
        exact tail
    · rw [if_neg h2]; exact tail
  · rw [if_neg h1]; exact tail

theorem ends_loop (l : List S28) (hl : l.length * 16 ≤ 140737488351232) (d : Nat) : ∀ (k : Nat) (i s : Int) (a b : Bool), 0 ≤ i → i ≤ l.length → (l.length : Int) - i = d → 6 * d + 1 ≤ k → EI s a b →
    heraldlaw10_StateEnds.l0 k s l a b i = some true := by
  induction d with
  | zero =>
    intro k i s a b h0 h1 hd hk _
    obtain ⟨k, rfl⟩ : ∃ m, k = m + 1 := ⟨k - 1, by omega⟩
    simp only [heraldlaw10_StateEnds.l0]
    rw [if_neg (by omega)]
  | succ d ih =>
    intro k i s a b h0 h1 hd hk hI
    obtain ⟨k, rfl⟩ : ∃ m, k = m + 6 := ⟨k - 6, by omega⟩
    have hi : wrap64 (i + 1) = i + 1 := QEnds.wrap_one h0 (by omega)
    have hF := ends_facts s (rd_T28 l i).f0 (rd_T28 l i).f1 hI.1 hI.2.1
    simp only [heraldlaw10_StateEnds.l0]
    rw [if_pos (by omega), if_pos h0, QEnds.law_next]
    simp only [Option.bind_some]
    have next : ∀ k', k ≤ k' → ∀ a' b', EI (QEnds.N3 s (rd_T28 l i).f0 (rd_T28 l i).f1).1 a' b' → heraldlaw10_StateEnds.l0 k' (QEnds.N3 s (rd_T28 l i).f0 (rd_T28 l i).f1).1 l a' b' (wrap64 (i + 1)) = some true := by
      intro k' hk' a' b' h
      rw [hi]
      exact ih k' (i + 1) _ a' b' (by omega) (by omega) (by omega) (by omega) h
    by_cases h1 : (rd_T28 l i).f1 ≥ 1
    · rw [if_pos h1]
      exact ends_three l a b i s _ _ _ _ _ k hI hF (fun h => ⟨h1, of_decide_eq_true h⟩) next
    · rw [if_neg h1]
      exact ends_three l a b i s _ _ _ _ _ k hI hF (fun h => by cases h) next

theorem StateEnds : QEnds.Plain := by
  intro s l _ hl
  refine ⟨6 * l.length + 13, ?_⟩
  unfold heraldlaw10_StateEnds.f
  rw [QEnds.head_all _ (by omega)]
  simp only [Option.bind_some, if_true]
  have hloop := fun s (h0 : 0 ≤ s) (h6 : s ≤ 6) => ends_loop l hl.1 l.length (6 * l.length + 11) 0 s false false (by omega) (by omega) (by omega) (by omega) ⟨h0, h6, fun h => (by cases h), fun h => (by cases h)⟩
  by_cases h0 : s < 0
  · rw [if_pos h0]
    simp only [heraldlaw10_StateEnds.j0, heraldlaw10_StateEnds.j1, if_true]
    exact hloop 0 (by omega) (by omega)
  · rw [if_neg h0]
    by_cases h6 : s > 6
    · rw [decide_eq_true h6]
      simp only [heraldlaw10_StateEnds.j0, heraldlaw10_StateEnds.j1, if_true]
      exact hloop 0 (by omega) (by omega)
    · rw [decide_eq_false h6]
      simp only [heraldlaw10_StateEnds.j0, heraldlaw10_StateEnds.j1, Bool.false_eq_true, if_false]
      exact hloop s (by omega) (by omega)

end Go.Proofs.YtndhaakknkkpfaaDoor.Pure
