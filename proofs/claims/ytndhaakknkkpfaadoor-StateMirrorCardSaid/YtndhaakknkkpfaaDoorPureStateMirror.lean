/- Two ends in mirrored states stay mirrored, along any events; no condition but that numbers are of 64 bits. -/
import Derived.Test.YtndhaakknkkpfaaDoorReadStateMirror
import Derived.Test.YtndhaakknkkpfaaDoorPState
namespace Go.Proofs.YtndhaakknkkpfaaDoor.Pure
open Go.RowKit Go.Proofs.YtndhaakknkkpfaaDoor.QAll Go.Proofs.YtndhaakknkkpfaaDoor.ZRow Go.Proofs.YtndhaakknkkpfaaDoorW.PrintWords Go.Proofs.YtndhaakknkkpfaaDoorW.PrintLast Go.Proofs.YtndhaakknkkpfaaDoorW.PrintMore

def mir (s : Int) : Int := if s = 1 then 2 else if s = 2 then 1 else if s = 4 then 5 else if s = 5 then 4 else s

theorem mirror_eq (s : Int) : heraldlaw10_mirror.f s = some (mir s) := by
  unfold heraldlaw10_mirror.f mir
  repeat' split <;> first | rfl | skip
  all_goals first | rfl | omega

theorem mir_mir (s : Int) (h0 : 0 ≤ s) (h6 : s ≤ 6) : mir (mir s) = s ∧ 0 ≤ mir s ∧ mir s ≤ 6 := by
  obtain rfl | rfl | rfl | rfl | rfl | rfl | rfl : s = 0 ∨ s = 1 ∨ s = 2 ∨ s = 3 ∨ s = 4 ∨ s = 5 ∨ s = 6 := by omega
  all_goals decide

/-- What is sent, and how it is got. -/
theorem two_ends (s k : Int) (h0 : 0 ≤ s) (h6 : s ≤ 6) :
    ((N3 s false k).2.1 = 0 ∧ ((N3 (mir s) true k).2.1 = 0 ∨ (N3 (mir s) true k).2.1 = 1) ∧ (N3 (mir s) true k).2.2 = 0 ∧ (N3 (mir s) true k).1 = mir (N3 s false k).1 ∧ 0 ≤ (N3 s false k).1 ∧ (N3 s false k).1 ≤ 6) ∨
    ((N3 s false k).2.1 = 4 ∧ (N3 s false k).1 = s ∧ (N3 s false k).2.2 = 0) := by
  by_cases hk : 1 ≤ k ∧ k ≤ 8
  · obtain rfl | rfl | rfl | rfl | rfl | rfl | rfl : s = 0 ∨ s = 1 ∨ s = 2 ∨ s = 3 ∨ s = 4 ∨ s = 5 ∨ s = 6 := by omega
    all_goals obtain rfl | rfl | rfl | rfl | rfl | rfl | rfl | rfl : k = 1 ∨ k = 2 ∨ k = 3 ∨ k = 4 ∨ k = 5 ∨ k = 6 ∨ k = 7 ∨ k = 8 := by omega
    all_goals decide +kernel
  · rw [N3_out s false k (by omega)]
    exact .inr ⟨rfl, rfl, rfl⟩

/-- One event: sent in the state u, got in v, the mirrored one. -/
theorem mirror_round (l : List S28) (a b i u v : Int) (e : Int) (k : Nat) (h0 : 0 ≤ i) (hlt : i < (l.length : Int)) (hu0 : 0 ≤ u) (hu6 : u ≤ 6) (hv : v = mir u)
    (same : ∀ k', k ≤ k' → heraldlaw10_StateMirror.l0 k' l a b (wrap64 (i + 1)) = some true)
    (next : ∀ k', k ≤ k' → ∀ n m, 0 ≤ n → n ≤ 6 → m = mir n → (if (rd_T28 l i).f0 = true then heraldlaw10_StateMirror.l0 k' l m n (wrap64 (i + 1)) else heraldlaw10_StateMirror.l0 k' l n m (wrap64 (i + 1))) = some true) :
    heraldlaw10_StateMirror.j3 (k + 2) l a b i u v false e = some true := by
  subst hv
  simp only [heraldlaw10_StateMirror.j3]
  rw [law_next, law_next]
  simp only [Option.bind_some]
  rcases two_ends u e hu0 hu6 with ⟨h1, h2, h3, h4, h5, h6⟩ | ⟨h1, h2, h3⟩
  · rw [if_pos h1, if_neg (by omega), if_neg (by omega), if_pos h3, mirror_eq]
    simp only [Option.bind_some, heraldlaw10_StateMirror.j4, h4, bne_self_eq_false, Bool.false_eq_true, if_false]
    rw [if_pos h0, if_pos hlt]
    exact next _ (by omega) _ _ h5 h6 rfl
  · rw [if_neg (by omega), if_pos h1, if_pos h2, if_pos h3]
    exact same _ (by omega)

theorem mirror_loop (l : List S28) (hl : l.length * 16 ≤ 140737488351232) (d : Nat) : ∀ (k : Nat) (i a b : Int), 0 ≤ i → i ≤ l.length → (l.length : Int) - i = d → 3 * d + 1 ≤ k → 0 ≤ a → a ≤ 6 → b = mir a →
    heraldlaw10_StateMirror.l0 k l a b i = some true := by
  induction d with
  | zero =>
    intro k i a b h0 h1 hd hk _ _ _
    obtain ⟨k, rfl⟩ : ∃ m, k = m + 1 := ⟨k - 1, by omega⟩
    simp only [heraldlaw10_StateMirror.l0]
    rw [if_neg (by omega)]
  | succ d ih =>
    intro k i a b h0 h1 hd hk ha0 ha6 hb
    obtain ⟨k, rfl⟩ : ∃ m, k = m + 3 := ⟨k - 3, by omega⟩
    have hi : wrap64 (i + 1) = i + 1 := wrap_one h0 (by omega)
    have hm := mir_mir a ha0 ha6
    simp only [heraldlaw10_StateMirror.l0]
    rw [if_pos (by omega), if_pos h0]
    have same : ∀ k', k ≤ k' → heraldlaw10_StateMirror.l0 k' l a b (wrap64 (i + 1)) = some true := fun k' hk' => by
      rw [hi]; exact ih k' (i + 1) a b (by omega) (by omega) (by omega) (by omega) ha0 ha6 hb
    by_cases hg : (rd_T28 l i).f0 = true
    · rw [if_pos hg]
      refine mirror_round l a b i b a _ k h0 (by omega) (by omega) (by omega) (by rw [hb, hm.1]) same fun k' hk' n m hn0 hn6 hnm => ?_
      rw [if_pos hg, hi]
      have hmn := mir_mir n hn0 hn6
      exact ih k' (i + 1) m n (by omega) (by omega) (by omega) (by omega) (by omega) (by omega) (by rw [hnm, hmn.1])
    · rw [if_neg hg]
      refine mirror_round l a b i a b _ k h0 (by omega) ha0 ha6 hb same fun k' hk' n m hn0 hn6 hnm => ?_
      rw [if_neg hg, hi]
      exact ih k' (i + 1) n m (by omega) (by omega) (by omega) (by omega) hn0 hn6 hnm

theorem StateMirror : QAll.Plain := by
  intro s l _ hl
  refine ⟨3 * l.length + 13, ?_⟩
  unfold heraldlaw10_StateMirror.f
  rw [head_all _ (by omega)]
  simp only [Option.bind_some, if_true]
  have hloop := fun s a b => mirror_loop l hl.1 l.length (3 * l.length + 11) 0 s (mir s) (by omega) (by omega) (by omega) (by omega) a b rfl
  by_cases h0 : s < 0
  · rw [if_pos h0]
    simp only [heraldlaw10_StateMirror.j0, heraldlaw10_StateMirror.j1, if_true, mirror_eq, Option.bind_some]
    exact hloop 0 (by omega) (by omega)
  · rw [if_neg h0]
    by_cases h6 : s > 6
    · rw [decide_eq_true h6]
      simp only [heraldlaw10_StateMirror.j0, heraldlaw10_StateMirror.j1, if_true, mirror_eq, Option.bind_some]
      exact hloop 0 (by omega) (by omega)
    · rw [decide_eq_false h6]
      simp only [heraldlaw10_StateMirror.j0, heraldlaw10_StateMirror.j1, Bool.false_eq_true, if_false, mirror_eq, Option.bind_some]
      exact hloop s (by omega) (by omega)

end Go.Proofs.YtndhaakknkkpfaaDoor.Pure
