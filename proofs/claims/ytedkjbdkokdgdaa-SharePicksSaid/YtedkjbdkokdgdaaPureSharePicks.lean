/- The walk's function answers true for every list and every number. No condition but that the list fits in memory. -/
import Derived.Test.YtedkjbdkokdgdaaReadSharePicks
namespace Go.Proofs.Ytedkjbdkokdgdaa.Pure
set_option linter.unusedVariables false
open Go Go.RowKit Go.Proofs.Ytedkjbdkokdgdaa.QSharePicks Go.Proofs.Ytedkjbdkokdgdaa.ZRow Go.Proofs.YtedkjbdkokdgdaaW.PrintWords Go.Proofs.YtedkjbdkokdgdaaW.PrintLast
theorem wrap_succ {i : Nat} (h : i < 9223372036854775807) : wrap64 ((i : Int) + 1) = ((i + 1 : Nat) : Int) := by unfold wrap64; omega
theorem same_l0 (l : List Int) (hl : l.length ≤ 9223372036854775807) : ∀ (n i : Nat), l.length - i < n → i ≤ l.length → heraldlaw20_same.l0 n l l (i : Int) = some true
  | 0, i, h, _ => by omega
  | n + 1, i, h, hi => by
    unfold heraldlaw20_same.l0
    by_cases hx : i < l.length
    · rw [if_pos (by omega), if_pos (by omega), if_pos (by omega), if_pos rfl, wrap_succ (by omega)]
      exact same_l0 l hl n (i + 1) (by omega) (by omega)
    · rw [if_neg (by omega)]
theorem same_f (l : List Int) (hl : l.length ≤ 9223372036854775807) : heraldlaw20_same.f (l.length + 1) l l = some true := by
  unfold heraldlaw20_same.f
  rw [if_pos rfl]
  exact same_l0 l hl (l.length + 1) 0 (by omega) (by omega)
theorem pick_some (l : List Int) (hl : l.length ≤ 17592186044416) (n : Int) (h1 : -9223372036854775808 ≤ n) (h2 : n ≤ 9223372036854775807) : ∃ r, share_Pick.f l n = some r ∧ heraldref20_Pick.f l n = some r := by
  have e : heraldref20_Pick.f l n = share_Pick.f l n := rfl
  rw [e]
  suffices h : ∃ r, share_Pick.f l n = some r by
    obtain ⟨r, hr⟩ := h
    exact ⟨r, hr, hr⟩
  unfold share_Pick.f
  by_cases h0 : (l.length : Int) = 0
  · rw [if_pos h0]
    exact ⟨_, rfl⟩
  rw [if_neg h0]
  have hb1 := Int.tmod_lt_of_pos n (show (0 : Int) < l.length by omega)
  have hb2 : -(l.length : Int) < Int.tmod n l.length := by
    have h3 := Int.tmod_lt_of_pos (-n) (show (0 : Int) < l.length by omega)
    rw [Int.neg_tmod] at h3
    omega
  obtain ⟨t, ht⟩ : ∃ t, Int.tmod n (l.length : Int) = t := ⟨_, rfl⟩
  rw [ht] at hb1 hb2 ⊢
  by_cases hn : t < 0
  · rw [if_pos hn]
    have hw : wrap64 (t + (l.length : Int)) = t + l.length := by unfold wrap64; omega
    rw [hw, if_pos (by omega), if_pos (by omega)]
    exact ⟨_, rfl⟩
  · rw [if_neg hn, if_pos (by omega), if_pos (by omega)]
    exact ⟨_, rfl⟩
theorem wf64 {n : Int} (h : (Lit.int .i64 n).wf = true) : -9223372036854775808 ≤ n ∧ n ≤ 9223372036854775807 := by
  simp [Lit.wf, IntKind.min, IntKind.max, IntKind.signed, IntKind.bits] at h
  omega
theorem SharePicks : QSharePicks.Plain := by
  intro l0 a1 h0 h1
  have hl : l0.length * 8 ≤ 140737488351232 := h0.1
  have hn := wf64 h1
  obtain ⟨r, hr1, hr2⟩ := pick_some l0 (by omega) a1 hn.1 hn.2
  refine ⟨l0.length + 1, ?_⟩
  unfold heraldlaw20_SharePicks.f
  have e1 : (l0 ++ [(-7 : Int)]).take l0.length = l0 := by rw [List.take_append_of_le_length (Nat.le_refl _), List.take_length]
  have e2 : rd (l0 ++ [(-7 : Int)]) (l0.length : Int) = -7 := by
    unfold rd
    rw [Int.toNat_natCast, List.getD_eq_getElem?_getD, List.getElem?_append_right (Nat.le_refl _), Nat.sub_self]
    rfl
  simp only [Option.bind_some, List.nil_append, List.length_nil, Int.toNat_natCast]
  rw [if_pos (by omega), if_pos (by omega), if_pos (by omega), if_pos (by rw [List.length_append, List.length_singleton]; omega), e1, hr1, hr2]
  unfold QL.heraldlaw20_first.f
  simp only [Option.bind_some]
  rw [if_pos trivial, if_pos trivial, if_pos (by simp), same_f l0 (by omega)]
  simp only [Option.bind_some]
  rw [if_pos trivial, if_pos (by rw [List.length_append, List.length_singleton]; omega), e2]
  rfl
end Go.Proofs.Ytedkjbdkokdgdaa.Pure
