/- What Next of the package state tells, at all numbers. The package's variables hold what the program lays; no other condition. -/
import Derived.Test.YtndhaakknkkpfaaDoorMNext
import Derived.RegionTactic
import Derived.ChangeAlike
namespace Go.Proofs.YtndhaakknkkpfaaDoor.QAll
open Go Go.RowKit Go.Proofs.YtndhaakknkkpfaaDoorW.PrintWords Go.Proofs.YtndhaakknkkpfaaDoorW.PrintLast
set_option linter.unusedSimpArgs false
set_option linter.unusedVariables false

theorem s_bar0 (s : Int) (got : Bool) (k : Int) (h : s < 0) (w : World) (hG : GL w) : Calls Tryd.prog 20 #[.int .i64 s, .agg #[.bool got, .int .i64 k]] w fun e w' => e = .returned (.tuple #[.int .i64 s, .agg #[.int .i64 4, .int .i64 0]]) ∧ Below w.heap.size w w' := by
  have dm : decide (s < 0) = true := decide_eq_true h
  clear h
  have hG := Aside0.mk hG
  obtain ⟨g00, g01, g10, g11, g20, g21, g30, g31, g40, g41, g50, g51, z0, z1, z2, z3, z4, z5⟩ := hG.out.all
  go_enter Tryd.func20, Tryd.ntmps20
  go_wp2
  all_goals (try (go_region; go_wp2))
  refine bodyPost_ret (v := .tuple #[.int .i64 s, .agg #[.int .i64 4, .int .i64 0]]) (by simp [results, Tryd.results20, go_sem]) rfl ⟨rfl, ?_⟩
  repeat (first | exact Below.refl _ _ | apply below_alloc | apply below_drew | apply pw_below_drewN | refine below_set ?_ (Nat.le_refl _))
theorem s_bar1 (s : Int) (got : Bool) (k : Int) (n0 : ¬ s < 0) (h : 6 < s) (w : World) (hG : GL w) : Calls Tryd.prog 20 #[.int .i64 s, .agg #[.bool got, .int .i64 k]] w fun e w' => e = .returned (.tuple #[.int .i64 s, .agg #[.int .i64 4, .int .i64 0]]) ∧ Below w.heap.size w w' := by
  have d0 : decide (s < 0) = false := decide_eq_false n0
  have dm : decide (6 < s) = true := decide_eq_true h
  clear h n0
  have hG := Aside0.mk hG
  obtain ⟨g00, g01, g10, g11, g20, g21, g30, g31, g40, g41, g50, g51, z0, z1, z2, z3, z4, z5⟩ := hG.out.all
  go_enter Tryd.func20, Tryd.ntmps20
  go_wp2
  all_goals (try (go_region; go_wp2))
  refine bodyPost_ret (v := .tuple #[.int .i64 s, .agg #[.int .i64 4, .int .i64 0]]) (by simp [results, Tryd.results20, go_sem]) rfl ⟨rfl, ?_⟩
  repeat (first | exact Below.refl _ _ | apply below_alloc | apply below_drew | apply pw_below_drewN | refine below_set ?_ (Nat.le_refl _))
theorem s_bar2 (s : Int) (got : Bool) (k : Int) (n0 : ¬ s < 0) (n1 : ¬ 6 < s) (h : k < 1) (w : World) (hG : GL w) : Calls Tryd.prog 20 #[.int .i64 s, .agg #[.bool got, .int .i64 k]] w fun e w' => e = .returned (.tuple #[.int .i64 s, .agg #[.int .i64 4, .int .i64 0]]) ∧ Below w.heap.size w w' := by
  have d0 : decide (s < 0) = false := decide_eq_false n0
  have d1 : decide (6 < s) = false := decide_eq_false n1
  have dm : decide (k < 1) = true := decide_eq_true h
  clear h n0 n1
  have hG := Aside0.mk hG
  obtain ⟨g00, g01, g10, g11, g20, g21, g30, g31, g40, g41, g50, g51, z0, z1, z2, z3, z4, z5⟩ := hG.out.all
  go_enter Tryd.func20, Tryd.ntmps20
  go_wp2
  all_goals (try (go_region; go_wp2))
  refine bodyPost_ret (v := .tuple #[.int .i64 s, .agg #[.int .i64 4, .int .i64 0]]) (by simp [results, Tryd.results20, go_sem]) rfl ⟨rfl, ?_⟩
  repeat (first | exact Below.refl _ _ | apply below_alloc | apply below_drew | apply pw_below_drewN | refine below_set ?_ (Nat.le_refl _))
theorem s_bar3 (s : Int) (got : Bool) (k : Int) (n0 : ¬ s < 0) (n1 : ¬ 6 < s) (n2 : ¬ k < 1) (h : 8 < k) (w : World) (hG : GL w) : Calls Tryd.prog 20 #[.int .i64 s, .agg #[.bool got, .int .i64 k]] w fun e w' => e = .returned (.tuple #[.int .i64 s, .agg #[.int .i64 4, .int .i64 0]]) ∧ Below w.heap.size w w' := by
  have d0 : decide (s < 0) = false := decide_eq_false n0
  have d1 : decide (6 < s) = false := decide_eq_false n1
  have d2 : decide (k < 1) = false := decide_eq_false n2
  have dm : decide (8 < k) = true := decide_eq_true h
  clear h n0 n1 n2
  have hG := Aside0.mk hG
  obtain ⟨g00, g01, g10, g11, g20, g21, g30, g31, g40, g41, g50, g51, z0, z1, z2, z3, z4, z5⟩ := hG.out.all
  go_enter Tryd.func20, Tryd.ntmps20
  go_wp2
  all_goals (try (go_region; go_wp2))
  refine bodyPost_ret (v := .tuple #[.int .i64 s, .agg #[.int .i64 4, .int .i64 0]]) (by simp [results, Tryd.results20, go_sem]) rfl ⟨rfl, ?_⟩
  repeat (first | exact Below.refl _ _ | apply below_alloc | apply below_drew | apply pw_below_drewN | refine below_set ?_ (Nat.le_refl _))
theorem state_Next.calls (s : Int) (got : Bool) (k : Int) (r1 r2 r3 : Int) (w : World) (hG : GL w) (h : state_Next.f s got k = some (r1, r2, r3)) : Calls Tryd.prog 20 #[.int .i64 s, .agg #[.bool got, .int .i64 k]] w fun e w' => e = .returned (.tuple #[.int .i64 r1, .agg #[.int .i64 r2, .int .i64 r3]]) ∧ Below w.heap.size w w' := by
  unfold state_Next.f at h
  by_cases n0 : s < 0
  · rw [if_pos (by omega)] at h
    simp only [Option.some.injEq, Prod.mk.injEq] at h
    obtain ⟨rfl, rfl, rfl⟩ := h
    exact s_bar0 s got k n0 w hG
  by_cases n1 : 6 < s
  · rw [if_pos (by omega)] at h
    simp only [Option.some.injEq, Prod.mk.injEq] at h
    obtain ⟨rfl, rfl, rfl⟩ := h
    exact s_bar1 s got k n0 n1 w hG
  by_cases n2 : k < 1
  · rw [if_pos (by omega)] at h
    simp only [Option.some.injEq, Prod.mk.injEq] at h
    obtain ⟨rfl, rfl, rfl⟩ := h
    exact s_bar2 s got k n0 n1 n2 w hG
  by_cases n3 : 8 < k
  · rw [if_pos (by omega)] at h
    simp only [Option.some.injEq, Prod.mk.injEq] at h
    obtain ⟨rfl, rfl, rfl⟩ := h
    exact s_bar3 s got k n0 n1 n2 n3 w hG
  rw [if_neg (by omega)] at h
  have h := Option.some.inj h
  obtain rfl | rfl | rfl | rfl | rfl | rfl | rfl | rfl : k = 1 ∨ k = 2 ∨ k = 3 ∨ k = 4 ∨ k = 5 ∨ k = 6 ∨ k = 7 ∨ k = 8 := by omega
  · cases got
    · have e : vsentHeaders s = (r1, r2, r3) := h
      have c := w_Next_1_sent s (by omega) (by omega) w hG
      rw [e] at c
      exact c
    · have e : vgotHeaders s = (r1, r2, r3) := h
      have c := w_Next_1_got s (by omega) (by omega) w hG
      rw [e] at c
      exact c
  · cases got
    · have e : vsentHeadersEnd s = (r1, r2, r3) := h
      have c := w_Next_2_sent s (by omega) (by omega) w hG
      rw [e] at c
      exact c
    · have e : vgotHeadersEnd s = (r1, r2, r3) := h
      have c := w_Next_2_got s (by omega) (by omega) w hG
      rw [e] at c
      exact c
  · cases got
    · have e : vsentData s = (r1, r2, r3) := h
      have c := w_Next_3_sent s (by omega) (by omega) w hG
      rw [e] at c
      exact c
    · have e : vgotData s = (r1, r2, r3) := h
      have c := w_Next_3_got s (by omega) (by omega) w hG
      rw [e] at c
      exact c
  · cases got
    · have e : vsentDataEnd s = (r1, r2, r3) := h
      have c := w_Next_4_sent s (by omega) (by omega) w hG
      rw [e] at c
      exact c
    · have e : vgotDataEnd s = (r1, r2, r3) := h
      have c := w_Next_4_got s (by omega) (by omega) w hG
      rw [e] at c
      exact c
  · cases got
    · have e : vsentPromise s = (r1, r2, r3) := h
      have c := w_Next_5_sent s (by omega) (by omega) w hG
      rw [e] at c
      exact c
    · have e : vgotPromise s = (r1, r2, r3) := h
      have c := w_Next_5_got s (by omega) (by omega) w hG
      rw [e] at c
      exact c
  · cases got
    · have e : vsentReset s = (r1, r2, r3) := h
      have c := w_Next_6_sent s (by omega) (by omega) w hG
      rw [e] at c
      exact c
    · have e : vgotReset s = (r1, r2, r3) := h
      have c := w_Next_6_got s (by omega) (by omega) w hG
      rw [e] at c
      exact c
  · cases got
    · have e : vsentWindow s = (r1, r2, r3) := h
      have c := w_Next_7_sent s (by omega) (by omega) w hG
      rw [e] at c
      exact c
    · have e : vgotWindow s = (r1, r2, r3) := h
      have c := w_Next_7_got s (by omega) (by omega) w hG
      rw [e] at c
      exact c
  · cases got
    · have e : vsentPriority s = (r1, r2, r3) := h
      have c := w_Next_8_sent s (by omega) (by omega) w hG
      rw [e] at c
      exact c
    · have e : vgotPriority s = (r1, r2, r3) := h
      have c := w_Next_8_got s (by omega) (by omega) w hG
      rw [e] at c
      exact c
end Go.Proofs.YtndhaakknkkpfaaDoor.QAll
