/- What is left of a window is what it began with, with what was given and shifted put in and what was taken taken out, along every list of calls; no condition but that numbers are of 64 bits. -/
import Derived.Test.YtbngliommdmnkaaReadWindowSums
namespace Go.Proofs.Ytbngliommdmnkaa.Pure
open Go.RowKit Go.Proofs.Ytbngliommdmnkaa.QWindowSums Go.Proofs.Ytbngliommdmnkaa.ZRow Go.Proofs.YtbngliommdmnkaaW.PrintWords Go.Proofs.YtbngliommdmnkaaW.PrintLast Go.Proofs.YtbngliommdmnkaaW.PrintMore

theorem first_sums : heraldlaw09_first.f = some true := by decide +kernel

theorem wf64 {n : Int} (h : (Lit.int .i64 n).wf = true) : -9223372036854775808 ≤ n ∧ n ≤ 9223372036854775807 := by
  simp [Lit.wf, IntKind.min, IntKind.max, IntKind.signed, IntKind.bits] at h; omega

theorem shift_yes (s y : Int) (h1 : -2147483647 ≤ s) (h2 : s ≤ 2147483647) (h3 : -2147483647 ≤ s + y) (h4 : s + y ≤ 2147483647) :
    window_Window_Shift.f s y = some (0, s + y) := by
  unfold window_Window_Shift.f wrap64
  rw [if_neg (by omega), if_neg (by omega)]
  congr 2; omega

theorem shift_no (s y : Int) (h1 : -2147483647 ≤ s) (h2 : s ≤ 2147483647) (h : s + y < -2147483647 ∨ 2147483647 < s + y) :
    window_Window_Shift.f s y = some (3, s) := by
  unfold window_Window_Shift.f wrap64
  by_cases h5 : s + y < -2147483647
  · rw [if_neg (by omega), if_pos (by omega)]
  · rw [if_pos (by omega)]

theorem give_no (s y : Int) (h : y < 1) : window_Window_Give.f s y = some (1, s) := by
  unfold window_Window_Give.f
  rw [if_pos h]

theorem give_shift (s y : Int) (h : 1 ≤ y) : window_Window_Give.f s y = window_Window_Shift.f s y := by
  unfold window_Window_Give.f
  rw [if_neg (by omega)]
  cases window_Window_Shift.f s y <;> rfl

theorem take_no (s n : Int) (h : n < 0 ∨ (0 < n ∧ s < n)) : window_Window_Take.f s n = some (false, s) := by
  unfold window_Window_Take.f
  by_cases h0 : n < 0
  · rw [if_pos h0]
  · rw [if_neg h0, if_pos (by omega), if_pos (by omega)]

theorem take_yes (s n : Int) (h1 : -2147483647 ≤ s) (h2 : s ≤ 2147483647) (h : n = 0 ∨ (0 < n ∧ n ≤ s)) : window_Window_Take.f s n = some (true, s - n) := by
  have hw : wrap64 (s - n) = s - n := by unfold wrap64; omega
  unfold window_Window_Take.f
  rw [if_neg (by omega), hw]
  by_cases h0 : n > 0
  · rw [if_pos h0, if_neg (by omega)]
  · rw [if_neg h0]

theorem sums_round (l : List S31) (i s a b n : Int) (k : Nat) (h1 : -2147483647 ≤ s) (h2 : s ≤ 2147483647) (hn : -9223372036854775808 ≤ n ∧ n ≤ 9223372036854775807)
    (ih : ∀ k', k ≤ k' → ∀ s', -2147483647 ≤ s' → s' ≤ 2147483647 → heraldlaw09_WindowSums.l0 k' s' l (wrap64 (i + 1)) s' = some true) :
    heraldlaw09_WindowSums.j3 (k + 2) s l i s false s a b n = some true := by
  simp only [heraldlaw09_WindowSums.j3]
  rw [if_neg (by decide)]
  by_cases ha1 : a = 1
  · rw [if_pos ha1]
    by_cases hy : n = 0 ∨ (0 < n ∧ n ≤ s)
    · rw [take_yes s n h1 h2 hy]
      have hw : wrap64 (s - n) = s - n := by unfold wrap64; omega
      simp only [Option.bind_some, heraldlaw09_WindowSums.j4, hw]
      by_cases h0 : n = 0
      · rw [if_pos h0, if_neg (by decide), if_pos trivial]
        exact ih _ (by omega) _ (by omega) (by omega)
      · rw [if_neg h0, if_pos (by omega), decide_eq_true (by omega : n ≤ s), if_neg (by decide), if_pos trivial]
        exact ih _ (by omega) _ (by omega) (by omega)
    · rw [take_no s n (by omega)]
      simp only [Option.bind_some, heraldlaw09_WindowSums.j4]
      rw [if_neg (by omega)]
      by_cases h0 : n > 0
      · rw [if_pos h0, decide_eq_false (by omega : ¬ n ≤ s), if_neg (by decide), if_neg (by decide)]
        exact ih _ (by omega) _ h1 h2
      · rw [if_neg h0, if_neg (by decide), if_neg (by decide)]
        exact ih _ (by omega) _ h1 h2
  · rw [if_neg ha1]
    by_cases ha2 : a = 2
    · rw [if_pos ha2]
      by_cases hn1 : n < 1
      · rw [give_no s n hn1]
        simp only [Option.bind_some]
        rw [if_neg (by decide), if_pos trivial, if_pos hn1]
        exact ih _ (by omega) _ h1 h2
      · rw [give_shift s n (by omega)]
        by_cases hs : s + n ≤ 2147483647
        · have hw : wrap64 (s + n) = s + n := by unfold wrap64; omega
          rw [shift_yes s n h1 h2 (by omega) hs]
          simp only [Option.bind_some, hw]
          rw [if_pos trivial, decide_eq_false hn1, if_neg (by decide)]
          exact ih _ (by omega) _ (by omega) (by omega)
        · rw [shift_no s n h1 h2 (by omega)]
          simp only [Option.bind_some]
          rw [if_neg (by decide), if_neg (by decide), if_pos trivial, if_neg hn1]
          exact ih _ (by omega) _ h1 h2
    · rw [if_neg ha2]
      by_cases ha3 : a = 3
      · rw [if_pos ha3]
        by_cases hs : -2147483647 ≤ s + n ∧ s + n ≤ 2147483647
        · have hw : wrap64 (s + n) = s + n := by unfold wrap64; omega
          rw [shift_yes s n h1 h2 hs.1 hs.2]
          simp only [Option.bind_some, hw]
          rw [if_pos trivial]
          exact ih _ (by omega) _ (by omega) (by omega)
        · rw [shift_no s n h1 h2 (by omega)]
          simp only [Option.bind_some]
          rw [if_neg (by decide), if_pos trivial]
          exact ih _ (by omega) _ h1 h2
      · rw [if_neg ha3]
        exact ih _ (by omega) _ h1 h2

theorem sums_loop (l : List S31) (hl : l.length * 24 ≤ 140737488351232) (hG : ∀ v ∈ l, G31 v) (d : Nat) : ∀ (k : Nat) (i s : Int), 0 ≤ i → i ≤ l.length → (l.length : Int) - i = d → 3 * d + 1 ≤ k → -2147483647 ≤ s → s ≤ 2147483647 →
    heraldlaw09_WindowSums.l0 k s l i s = some true := by
  induction d with
  | zero =>
    intro k i s h0 h1 hd hk hs1 hs2
    obtain ⟨k, rfl⟩ : ∃ m, k = m + 1 := ⟨k - 1, by omega⟩
    simp only [heraldlaw09_WindowSums.l0, window_Window_Left.f, Option.bind_some]
    rw [if_neg (by omega), if_pos trivial, if_pos (by omega), decide_eq_true hs2]
  | succ d ih =>
    intro k i s h0 h1 hd hk hs1 hs2
    obtain ⟨k, rfl⟩ : ∃ m, k = m + 3 := ⟨k - 3, by omega⟩
    have hlt : i < (l.length : Int) := by omega
    have hi : wrap64 (i + 1) = i + 1 := by unfold wrap64; omega
    have hv : G31 (rd_T31 l i) := by
      unfold rd_T31
      rw [List.getD_eq_getElem?_getD, List.getElem?_eq_getElem (by omega)]
      exact hG _ (List.getElem_mem _)
    have hn := wf64 hv.2.2
    simp only [heraldlaw09_WindowSums.l0, window_Window_Left.f, Option.bind_some]
    rw [if_pos hlt, if_pos h0, if_pos trivial, if_neg (by omega), decide_eq_false (by omega)]
    refine sums_round l i s _ _ _ k hs1 hs2 hn fun k' hk' s' a b => ?_
    rw [hi]
    exact ih k' (i + 1) s' (by omega) (by omega) (by omega) (by omega) a b

theorem WindowSums : QWindowSums.Plain := by
  intro n l hn hl
  obtain ⟨hl1, hl2⟩ := hl
  refine ⟨3 * l.length + 4, ?_⟩
  unfold heraldlaw09_WindowSums.f
  rw [first_sums]
  simp only [Option.bind_some, if_true, window_New.f]
  have hloop := fun s a b => sums_loop l hl1 hl2 l.length (3 * l.length + 1 + 1) 0 s (by omega) (by omega) (by omega) (by omega) a b
  by_cases h0 : n < 0
  · rw [if_pos h0]
    have e : mn (mx n 0) 2147483647 = 0 := by unfold mn mx; repeat' split <;> omega
    rw [e]
    simp only [heraldlaw09_WindowSums.j0, heraldlaw09_WindowSums.j1]
    rw [if_neg (by decide)]
    exact hloop 0 (by omega) (by omega)
  · rw [if_neg h0]
    by_cases h3 : n > 2147483647
    · have e : mn (mx n 0) 2147483647 = 2147483647 := by unfold mn mx; repeat' split <;> omega
      rw [e]
      simp only [heraldlaw09_WindowSums.j0, heraldlaw09_WindowSums.j1]
      rw [if_pos h3]
      exact hloop 2147483647 (by omega) (by omega)
    · have e : mn (mx n 0) 2147483647 = n := by unfold mn mx; repeat' split <;> omega
      rw [e]
      simp only [heraldlaw09_WindowSums.j0, heraldlaw09_WindowSums.j1]
      rw [if_neg h3]
      exact hloop n (by omega) (by omega)

end Go.Proofs.Ytbngliommdmnkaa.Pure
