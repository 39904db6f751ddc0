/- A window that is moved and moved back is what it was: for every three numbers of 64 bits; no further condition. -/
import Derived.Test.YtbngliommdmnkaaQWindowBackx2
namespace Go.Proofs.Ytbngliommdmnkaa.Pure
open Go.RowKit Go.Proofs.Ytbngliommdmnkaa.QWindowBack Go.Proofs.YtbngliommdmnkaaW.PrintWords Go.Proofs.YtbngliommdmnkaaW.PrintLast Go.Proofs.YtbngliommdmnkaaW.PrintMore

theorem first_back : heraldlaw09_first.f = some true := by decide +kernel

theorem wf64 {n : Int} (h : (Lit.int .i64 n).wf = true) : -9223372036854775808 ≤ n ∧ n ≤ 9223372036854775807 := by
  simp [Lit.wf, IntKind.min, IntKind.max, IntKind.signed, IntKind.bits] at h; omega

theorem shift_yes (s y : Int) (h1 : -2147483647 ≤ s) (h2 : s ≤ 2147483647) (h3 : -2147483647 ≤ s + y) (h4 : s + y ≤ 2147483647) :
    window_Window_Shift.f s y = some (0, s + y) := by
  unfold window_Window_Shift.f wrap64
  rw [if_neg (by omega), if_neg (by omega)]
  congr 2; omega

theorem shift_no (s y : Int) (h1 : -2147483647 ≤ s) (h2 : s ≤ 2147483647) (h : s + y < -2147483647 ∨ 2147483647 < s + y) :
    window_Window_Shift.f s y = some (3, s) := by
  unfold window_Window_Shift.f wrap64
  by_cases h5 : s + y < -2147483647
  · rw [if_neg (by omega), if_pos (by omega)]
  · rw [if_pos (by omega)]

theorem give_yes (s y : Int) (h0 : 1 ≤ y) (h1 : -2147483647 ≤ s) (h2 : s ≤ 2147483647) (h4 : s + y ≤ 2147483647) :
    window_Window_Give.f s y = some (0, s + y) := by
  unfold window_Window_Give.f
  rw [if_neg (by omega), shift_yes s y h1 h2 (by omega) h4]; rfl

theorem take_no (s n : Int) (h : n < 0 ∨ (0 < n ∧ s < n)) : window_Window_Take.f s n = some (false, s) := by
  unfold window_Window_Take.f
  by_cases h0 : n < 0
  · rw [if_pos h0]
  · rw [if_neg h0, if_pos (by omega), if_pos (by omega)]

theorem take_yes (s n : Int) (h1 : -2147483647 ≤ s) (h2 : s ≤ 2147483647) (h : n = 0 ∨ (0 < n ∧ n ≤ s)) : window_Window_Take.f s n = some (true, s - n) := by
  have hw : wrap64 (s - n) = s - n := by unfold wrap64; omega
  unfold window_Window_Take.f
  rw [if_neg (by omega), hw]
  by_cases h0 : n > 0
  · rw [if_pos h0, if_neg (by omega)]
  · rw [if_neg h0]

theorem back2 (s : Int) (h1 : -2147483647 ≤ s) (h2 : s ≤ 2147483647) : ∀ k, heraldlaw09_WindowBack.j2 (k + 5) s s = some true := by
  intro k
  have hw : wrap64 (-s) = -s := by unfold wrap64; omega
  have hz : s + -s = 0 := by omega
  simp only [heraldlaw09_WindowBack.j2, window_Window_Left.f, Option.bind_some, if_true, hw]
  rw [shift_yes s (-s) h1 h2 (by omega) (by omega), hz]
  have ht : window_Window_Take.f 0 0 = some (true, 0) := by decide +kernel
  have ht1 : window_Window_Take.f 0 1 = some (false, 0) := by decide +kernel
  simp [heraldlaw09_WindowBack.j3, ht, ht1, window_Window_Left.f]

theorem back0 (s t : Int) (h1 : -2147483647 ≤ s) (h2 : s ≤ 2147483647) : heraldlaw09_WindowBack.j0 8 t s s = some true := by
  simp only [heraldlaw09_WindowBack.j0, window_Window_Left.f, Option.bind_some, if_true]
  by_cases h : t = 0 ∨ (0 < t ∧ t ≤ s)
  · rw [take_yes s t h1 h2 h]
    simp only [Option.bind_some, if_true]
    by_cases h0 : t > 0
    · rw [decide_eq_true h0]
      have hw : wrap64 (s - t) = s - t := by unfold wrap64; omega
      have hz : s - t + t = s := by omega
      simp only [heraldlaw09_WindowBack.j1, window_Window_Left.f, Option.bind_some, if_true, hw]
      rw [give_yes (s - t) t (by omega) (by omega) (by omega) (by omega), hz]
      simp only [Option.bind_some, if_true]
      exact back2 s h1 h2 1
    · have ht : t = 0 := by omega
      subst ht
      have hz : s - 0 = s := by omega
      rw [decide_eq_false h0, hz]
      simp only [heraldlaw09_WindowBack.j1, Bool.false_eq_true, if_false]
      exact back2 s h1 h2 1
  · rw [take_no s t (by omega)]
    simp only [Option.bind_some, Bool.false_eq_true, if_false, heraldlaw09_WindowBack.j1]
    exact back2 s h1 h2 1

theorem WindowBack : heraldlaw09_WindowBack.Pure := by
  intro n y t _ hy _
  have hy := wf64 hy
  refine ⟨8, ?_⟩
  unfold heraldlaw09_WindowBack.f
  rw [first_back]
  simp only [Option.bind_some, if_true, window_New.f, window_Window_Left.f]
  obtain ⟨s, hs, h1, h2⟩ : ∃ s, mn (mx n 0) 2147483647 = s ∧ -2147483647 ≤ s ∧ s ≤ 2147483647 := by
    refine ⟨_, rfl, ?_, ?_⟩ <;> (unfold mn mx; repeat' split) <;> omega
  rw [hs]
  by_cases h : -2147483647 ≤ s + y ∧ s + y ≤ 2147483647
  · have hw : wrap64 (s + y) = s + y := by unfold wrap64; omega
    have hn : wrap64 (-y) = -y := by unfold wrap64; omega
    have hz : s + y + -y = s := by omega
    rw [shift_yes s y h1 h2 h.1 h.2]
    simp only [Option.bind_some, if_true, hw, hn]
    rw [shift_yes (s + y) (-y) h.1 h.2 (by omega) (by omega), hz]
    simp only [Option.bind_some, if_true]
    exact back0 s t h1 h2
  · rw [shift_no s y h1 h2 (by omega)]
    simp only [Option.bind_some]
    rw [if_neg (by decide)]
    exact back0 s t h1 h2

end Go.Proofs.Ytbngliommdmnkaa.Pure
