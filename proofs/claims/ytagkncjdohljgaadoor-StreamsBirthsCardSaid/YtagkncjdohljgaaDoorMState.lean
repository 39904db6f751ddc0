/- What Next of the package state and Next of the document's answer tell, at all numbers: the same. The package's variables hold what the program lays; no other condition. -/
import Derived.Test.YtagkncjdohljgaaDoorMNext
import Derived.Test.YtagkncjdohljgaaDoorMRef1
import Derived.Test.YtagkncjdohljgaaDoorMRef2
import Derived.Test.YtagkncjdohljgaaDoorMRef3
import Derived.Test.YtagkncjdohljgaaDoorMRef4
import Derived.RegionTactic
import Derived.ChangeAlike
namespace Go.Proofs.YtagkncjdohljgaaDoor.QL
open Go Go.RowKit Go.Proofs.YtagkncjdohljgaaDoorW.PrintWords Go.Proofs.YtagkncjdohljgaaDoorW.PrintLast
set_option linter.unusedSimpArgs false
set_option linter.unusedVariables false

def heraldref10_Next.f (s : Int) (got : Bool) (k : Int) : Option (Int × Int × Int) := state_Next.f s got k
theorem s_bar0 (s : Int) (got : Bool) (k : Int) (h : s < 0) (w : World) (hG : GL w) : Calls Tryd.prog 45 #[.int .i64 s, .agg #[.bool got, .int .i64 k]] w fun e w' => e = .returned (.tuple #[.int .i64 s, .agg #[.int .i64 4, .int .i64 0]]) ∧ Below w.heap.size w w' := by
  have dm : decide (s < 0) = true := decide_eq_true h
  clear h
  have hG := Aside0.mk hG
  obtain ⟨g00, g01, g10, g11, g20, g21, g30, g31, g40, g41, g50, g51, z0, z1, z2, z3, z4, z5⟩ := hG.out.all
  go_enter Tryd.func45, Tryd.ntmps45
  go_wp2
  all_goals (try (go_region; go_wp2))
  refine bodyPost_ret (v := .tuple #[.int .i64 s, .agg #[.int .i64 4, .int .i64 0]]) (by simp [results, Tryd.results45, go_sem]) rfl ⟨rfl, ?_⟩
  repeat (first | exact Below.refl _ _ | apply below_alloc | apply below_drew | apply pw_below_drewN | refine below_set ?_ (Nat.le_refl _))
theorem s_bar1 (s : Int) (got : Bool) (k : Int) (n0 : ¬ s < 0) (h : 6 < s) (w : World) (hG : GL w) : Calls Tryd.prog 45 #[.int .i64 s, .agg #[.bool got, .int .i64 k]] w fun e w' => e = .returned (.tuple #[.int .i64 s, .agg #[.int .i64 4, .int .i64 0]]) ∧ Below w.heap.size w w' := by
  have d0 : decide (s < 0) = false := decide_eq_false n0
  have dm : decide (6 < s) = true := decide_eq_true h
  clear h n0
  have hG := Aside0.mk hG
  obtain ⟨g00, g01, g10, g11, g20, g21, g30, g31, g40, g41, g50, g51, z0, z1, z2, z3, z4, z5⟩ := hG.out.all
  go_enter Tryd.func45, Tryd.ntmps45
  go_wp2
  all_goals (try (go_region; go_wp2))
  refine bodyPost_ret (v := .tuple #[.int .i64 s, .agg #[.int .i64 4, .int .i64 0]]) (by simp [results, Tryd.results45, go_sem]) rfl ⟨rfl, ?_⟩
  repeat (first | exact Below.refl _ _ | apply below_alloc | apply below_drew | apply pw_below_drewN | refine below_set ?_ (Nat.le_refl _))
theorem s_bar2 (s : Int) (got : Bool) (k : Int) (n0 : ¬ s < 0) (n1 : ¬ 6 < s) (h : k < 1) (w : World) (hG : GL w) : Calls Tryd.prog 45 #[.int .i64 s, .agg #[.bool got, .int .i64 k]] w fun e w' => e = .returned (.tuple #[.int .i64 s, .agg #[.int .i64 4, .int .i64 0]]) ∧ Below w.heap.size w w' := by
  have d0 : decide (s < 0) = false := decide_eq_false n0
  have d1 : decide (6 < s) = false := decide_eq_false n1
  have dm : decide (k < 1) = true := decide_eq_true h
  clear h n0 n1
  have hG := Aside0.mk hG
  obtain ⟨g00, g01, g10, g11, g20, g21, g30, g31, g40, g41, g50, g51, z0, z1, z2, z3, z4, z5⟩ := hG.out.all
  go_enter Tryd.func45, Tryd.ntmps45
  go_wp2
  all_goals (try (go_region; go_wp2))
  refine bodyPost_ret (v := .tuple #[.int .i64 s, .agg #[.int .i64 4, .int .i64 0]]) (by simp [results, Tryd.results45, go_sem]) rfl ⟨rfl, ?_⟩
  repeat (first | exact Below.refl _ _ | apply below_alloc | apply below_drew | apply pw_below_drewN | refine below_set ?_ (Nat.le_refl _))
theorem s_bar3 (s : Int) (got : Bool) (k : Int) (n0 : ¬ s < 0) (n1 : ¬ 6 < s) (n2 : ¬ k < 1) (h : 8 < k) (w : World) (hG : GL w) : Calls Tryd.prog 45 #[.int .i64 s, .agg #[.bool got, .int .i64 k]] w fun e w' => e = .returned (.tuple #[.int .i64 s, .agg #[.int .i64 4, .int .i64 0]]) ∧ Below w.heap.size w w' := by
  have d0 : decide (s < 0) = false := decide_eq_false n0
  have d1 : decide (6 < s) = false := decide_eq_false n1
  have d2 : decide (k < 1) = false := decide_eq_false n2
  have dm : decide (8 < k) = true := decide_eq_true h
  clear h n0 n1 n2
  have hG := Aside0.mk hG
  obtain ⟨g00, g01, g10, g11, g20, g21, g30, g31, g40, g41, g50, g51, z0, z1, z2, z3, z4, z5⟩ := hG.out.all
  go_enter Tryd.func45, Tryd.ntmps45
  go_wp2
  all_goals (try (go_region; go_wp2))
  refine bodyPost_ret (v := .tuple #[.int .i64 s, .agg #[.int .i64 4, .int .i64 0]]) (by simp [results, Tryd.results45, go_sem]) rfl ⟨rfl, ?_⟩
  repeat (first | exact Below.refl _ _ | apply below_alloc | apply below_drew | apply pw_below_drewN | refine below_set ?_ (Nat.le_refl _))
theorem state_Next.calls (s : Int) (got : Bool) (k : Int) (r1 r2 r3 : Int) (w : World) (hG : GL w) (h : state_Next.f s got k = some (r1, r2, r3)) : Calls Tryd.prog 45 #[.int .i64 s, .agg #[.bool got, .int .i64 k]] w fun e w' => e = .returned (.tuple #[.int .i64 r1, .agg #[.int .i64 r2, .int .i64 r3]]) ∧ Below w.heap.size w w' := by
  unfold state_Next.f at h
  by_cases n0 : s < 0
  · rw [if_pos (by omega)] at h
    simp only [Option.some.injEq, Prod.mk.injEq] at h
    obtain ⟨rfl, rfl, rfl⟩ := h
    exact s_bar0 s got k n0 w hG
  by_cases n1 : 6 < s
  · rw [if_pos (by omega)] at h
    simp only [Option.some.injEq, Prod.mk.injEq] at h
    obtain ⟨rfl, rfl, rfl⟩ := h
    exact s_bar1 s got k n0 n1 w hG
  by_cases n2 : k < 1
  · rw [if_pos (by omega)] at h
    simp only [Option.some.injEq, Prod.mk.injEq] at h
    obtain ⟨rfl, rfl, rfl⟩ := h
    exact s_bar2 s got k n0 n1 n2 w hG
  by_cases n3 : 8 < k
  · rw [if_pos (by omega)] at h
    simp only [Option.some.injEq, Prod.mk.injEq] at h
    obtain ⟨rfl, rfl, rfl⟩ := h
    exact s_bar3 s got k n0 n1 n2 n3 w hG
  rw [if_neg (by omega)] at h
  have h := Option.some.inj h
  obtain rfl | rfl | rfl | rfl | rfl | rfl | rfl | rfl : k = 1 ∨ k = 2 ∨ k = 3 ∨ k = 4 ∨ k = 5 ∨ k = 6 ∨ k = 7 ∨ k = 8 := by omega
  · cases got
    · have e : vsentHeaders s = (r1, r2, r3) := h
      have c := w_Next_1_sent s (by omega) (by omega) w hG
      rw [e] at c
      exact c
    · have e : vgotHeaders s = (r1, r2, r3) := h
      have c := w_Next_1_got s (by omega) (by omega) w hG
      rw [e] at c
      exact c
  · cases got
    · have e : vsentHeadersEnd s = (r1, r2, r3) := h
      have c := w_Next_2_sent s (by omega) (by omega) w hG
      rw [e] at c
      exact c
    · have e : vgotHeadersEnd s = (r1, r2, r3) := h
      have c := w_Next_2_got s (by omega) (by omega) w hG
      rw [e] at c
      exact c
  · cases got
    · have e : vsentData s = (r1, r2, r3) := h
      have c := w_Next_3_sent s (by omega) (by omega) w hG
      rw [e] at c
      exact c
    · have e : vgotData s = (r1, r2, r3) := h
      have c := w_Next_3_got s (by omega) (by omega) w hG
      rw [e] at c
      exact c
  · cases got
    · have e : vsentDataEnd s = (r1, r2, r3) := h
      have c := w_Next_4_sent s (by omega) (by omega) w hG
      rw [e] at c
      exact c
    · have e : vgotDataEnd s = (r1, r2, r3) := h
      have c := w_Next_4_got s (by omega) (by omega) w hG
      rw [e] at c
      exact c
  · cases got
    · have e : vsentPromise s = (r1, r2, r3) := h
      have c := w_Next_5_sent s (by omega) (by omega) w hG
      rw [e] at c
      exact c
    · have e : vgotPromise s = (r1, r2, r3) := h
      have c := w_Next_5_got s (by omega) (by omega) w hG
      rw [e] at c
      exact c
  · cases got
    · have e : vsentReset s = (r1, r2, r3) := h
      have c := w_Next_6_sent s (by omega) (by omega) w hG
      rw [e] at c
      exact c
    · have e : vgotReset s = (r1, r2, r3) := h
      have c := w_Next_6_got s (by omega) (by omega) w hG
      rw [e] at c
      exact c
  · cases got
    · have e : vsentWindow s = (r1, r2, r3) := h
      have c := w_Next_7_sent s (by omega) (by omega) w hG
      rw [e] at c
      exact c
    · have e : vgotWindow s = (r1, r2, r3) := h
      have c := w_Next_7_got s (by omega) (by omega) w hG
      rw [e] at c
      exact c
  · cases got
    · have e : vsentPriority s = (r1, r2, r3) := h
      have c := w_Next_8_sent s (by omega) (by omega) w hG
      rw [e] at c
      exact c
    · have e : vgotPriority s = (r1, r2, r3) := h
      have c := w_Next_8_got s (by omega) (by omega) w hG
      rw [e] at c
      exact c
theorem r_bar0 (s : Int) (got : Bool) (k : Int) (h : s < 0) (w : World) : Calls Tryd.prog 31 #[.int .i64 s, .agg #[.bool got, .int .i64 k]] w fun e w' => e = .returned (.tuple #[.int .i64 s, .agg #[.int .i64 4, .int .i64 0]]) ∧ Below w.heap.size w w' := by
  have dm : decide (s < 0) = true := decide_eq_true h
  clear h
  go_enter Tryd.func31, Tryd.ntmps31
  go_wp2
  all_goals (try (go_region; go_wp2))
  refine bodyPost_ret (v := .tuple #[.int .i64 s, .agg #[.int .i64 4, .int .i64 0]]) (by simp [results, Tryd.results31, go_sem]) rfl ⟨rfl, ?_⟩
  repeat (first | exact Below.refl _ _ | apply below_alloc | apply below_drew | apply pw_below_drewN | refine below_set ?_ (Nat.le_refl _))
theorem r_bar1 (s : Int) (got : Bool) (k : Int) (n0 : ¬ s < 0) (h : 6 < s) (w : World) : Calls Tryd.prog 31 #[.int .i64 s, .agg #[.bool got, .int .i64 k]] w fun e w' => e = .returned (.tuple #[.int .i64 s, .agg #[.int .i64 4, .int .i64 0]]) ∧ Below w.heap.size w w' := by
  have d0 : decide (s < 0) = false := decide_eq_false n0
  have dm : decide (6 < s) = true := decide_eq_true h
  clear h n0
  go_enter Tryd.func31, Tryd.ntmps31
  go_wp2
  all_goals (try (go_region; go_wp2))
  refine bodyPost_ret (v := .tuple #[.int .i64 s, .agg #[.int .i64 4, .int .i64 0]]) (by simp [results, Tryd.results31, go_sem]) rfl ⟨rfl, ?_⟩
  repeat (first | exact Below.refl _ _ | apply below_alloc | apply below_drew | apply pw_below_drewN | refine below_set ?_ (Nat.le_refl _))
theorem r_bar2 (s : Int) (got : Bool) (k : Int) (n0 : ¬ s < 0) (n1 : ¬ 6 < s) (h : k < 1) (w : World) : Calls Tryd.prog 31 #[.int .i64 s, .agg #[.bool got, .int .i64 k]] w fun e w' => e = .returned (.tuple #[.int .i64 s, .agg #[.int .i64 4, .int .i64 0]]) ∧ Below w.heap.size w w' := by
  have d0 : decide (s < 0) = false := decide_eq_false n0
  have d1 : decide (6 < s) = false := decide_eq_false n1
  have dm : decide (k < 1) = true := decide_eq_true h
  clear h n0 n1
  go_enter Tryd.func31, Tryd.ntmps31
  go_wp2
  all_goals (try (go_region; go_wp2))
  refine bodyPost_ret (v := .tuple #[.int .i64 s, .agg #[.int .i64 4, .int .i64 0]]) (by simp [results, Tryd.results31, go_sem]) rfl ⟨rfl, ?_⟩
  repeat (first | exact Below.refl _ _ | apply below_alloc | apply below_drew | apply pw_below_drewN | refine below_set ?_ (Nat.le_refl _))
theorem r_bar3 (s : Int) (got : Bool) (k : Int) (n0 : ¬ s < 0) (n1 : ¬ 6 < s) (n2 : ¬ k < 1) (h : 8 < k) (w : World) : Calls Tryd.prog 31 #[.int .i64 s, .agg #[.bool got, .int .i64 k]] w fun e w' => e = .returned (.tuple #[.int .i64 s, .agg #[.int .i64 4, .int .i64 0]]) ∧ Below w.heap.size w w' := by
  have d0 : decide (s < 0) = false := decide_eq_false n0
  have d1 : decide (6 < s) = false := decide_eq_false n1
  have d2 : decide (k < 1) = false := decide_eq_false n2
  have dm : decide (8 < k) = true := decide_eq_true h
  clear h n0 n1 n2
  go_enter Tryd.func31, Tryd.ntmps31
  go_wp2
  all_goals (try (go_region; go_wp2))
  refine bodyPost_ret (v := .tuple #[.int .i64 s, .agg #[.int .i64 4, .int .i64 0]]) (by simp [results, Tryd.results31, go_sem]) rfl ⟨rfl, ?_⟩
  repeat (first | exact Below.refl _ _ | apply below_alloc | apply below_drew | apply pw_below_drewN | refine below_set ?_ (Nat.le_refl _))
theorem heraldref10_Next.calls (s : Int) (got : Bool) (k : Int) (r1 r2 r3 : Int) (w : World) (h : heraldref10_Next.f s got k = some (r1, r2, r3)) : Calls Tryd.prog 31 #[.int .i64 s, .agg #[.bool got, .int .i64 k]] w fun e w' => e = .returned (.tuple #[.int .i64 r1, .agg #[.int .i64 r2, .int .i64 r3]]) ∧ Below w.heap.size w w' := by
  unfold heraldref10_Next.f state_Next.f at h
  by_cases n0 : s < 0
  · rw [if_pos (by omega)] at h
    simp only [Option.some.injEq, Prod.mk.injEq] at h
    obtain ⟨rfl, rfl, rfl⟩ := h
    exact r_bar0 s got k n0 w
  by_cases n1 : 6 < s
  · rw [if_pos (by omega)] at h
    simp only [Option.some.injEq, Prod.mk.injEq] at h
    obtain ⟨rfl, rfl, rfl⟩ := h
    exact r_bar1 s got k n0 n1 w
  by_cases n2 : k < 1
  · rw [if_pos (by omega)] at h
    simp only [Option.some.injEq, Prod.mk.injEq] at h
    obtain ⟨rfl, rfl, rfl⟩ := h
    exact r_bar2 s got k n0 n1 n2 w
  by_cases n3 : 8 < k
  · rw [if_pos (by omega)] at h
    simp only [Option.some.injEq, Prod.mk.injEq] at h
    obtain ⟨rfl, rfl, rfl⟩ := h
    exact r_bar3 s got k n0 n1 n2 n3 w
  rw [if_neg (by omega)] at h
  have h := Option.some.inj h
  obtain rfl | rfl | rfl | rfl | rfl | rfl | rfl | rfl : k = 1 ∨ k = 2 ∨ k = 3 ∨ k = 4 ∨ k = 5 ∨ k = 6 ∨ k = 7 ∨ k = 8 := by omega
  · cases got
    · obtain rfl | rfl | rfl | rfl | rfl | rfl | rfl : s = 0 ∨ s = 1 ∨ s = 2 ∨ s = 3 ∨ s = 4 ∨ s = 5 ∨ s = 6 := by omega
      · obtain ⟨rfl, rfl, rfl⟩ : 3 = r1 ∧ 0 = r2 ∧ 0 = r3 := by
          have e : ((3, 0, 0) : Int × Int × Int) = (r1, r2, r3) := h
          simpa only [Prod.mk.injEq] using e
        exact r_next_sent_1_0 w
      · obtain ⟨rfl, rfl, rfl⟩ : 5 = r1 ∧ 0 = r2 ∧ 0 = r3 := by
          have e : ((5, 0, 0) : Int × Int × Int) = (r1, r2, r3) := h
          simpa only [Prod.mk.injEq] using e
        exact r_next_sent_1_1 w
      · obtain ⟨rfl, rfl, rfl⟩ : 2 = r1 ∧ 4 = r2 ∧ 0 = r3 := by
          have e : ((2, 4, 0) : Int × Int × Int) = (r1, r2, r3) := h
          simpa only [Prod.mk.injEq] using e
        exact r_next_sent_1_2 w
      · obtain ⟨rfl, rfl, rfl⟩ : 3 = r1 ∧ 0 = r2 ∧ 0 = r3 := by
          have e : ((3, 0, 0) : Int × Int × Int) = (r1, r2, r3) := h
          simpa only [Prod.mk.injEq] using e
        exact r_next_sent_1_3 w
      · obtain ⟨rfl, rfl, rfl⟩ : 4 = r1 ∧ 4 = r2 ∧ 0 = r3 := by
          have e : ((4, 4, 0) : Int × Int × Int) = (r1, r2, r3) := h
          simpa only [Prod.mk.injEq] using e
        exact r_next_sent_1_4 w
      · obtain ⟨rfl, rfl, rfl⟩ : 5 = r1 ∧ 0 = r2 ∧ 0 = r3 := by
          have e : ((5, 0, 0) : Int × Int × Int) = (r1, r2, r3) := h
          simpa only [Prod.mk.injEq] using e
        exact r_next_sent_1_5 w
      · obtain ⟨rfl, rfl, rfl⟩ : 6 = r1 ∧ 4 = r2 ∧ 0 = r3 := by
          have e : ((6, 4, 0) : Int × Int × Int) = (r1, r2, r3) := h
          simpa only [Prod.mk.injEq] using e
        exact r_next_sent_1_6 w
    · obtain rfl | rfl | rfl | rfl | rfl | rfl | rfl : s = 0 ∨ s = 1 ∨ s = 2 ∨ s = 3 ∨ s = 4 ∨ s = 5 ∨ s = 6 := by omega
      · obtain ⟨rfl, rfl, rfl⟩ : 3 = r1 ∧ 0 = r2 ∧ 0 = r3 := by
          have e : ((3, 0, 0) : Int × Int × Int) = (r1, r2, r3) := h
          simpa only [Prod.mk.injEq] using e
        exact r_next_got_1_0 w
      · obtain ⟨rfl, rfl, rfl⟩ : 1 = r1 ∧ 3 = r2 ∧ 1 = r3 := by
          have e : ((1, 3, 1) : Int × Int × Int) = (r1, r2, r3) := h
          simpa only [Prod.mk.injEq] using e
        exact r_next_got_1_1 w
      · obtain ⟨rfl, rfl, rfl⟩ : 4 = r1 ∧ 0 = r2 ∧ 0 = r3 := by
          have e : ((4, 0, 0) : Int × Int × Int) = (r1, r2, r3) := h
          simpa only [Prod.mk.injEq] using e
        exact r_next_got_1_2 w
      · obtain ⟨rfl, rfl, rfl⟩ : 3 = r1 ∧ 0 = r2 ∧ 0 = r3 := by
          have e : ((3, 0, 0) : Int × Int × Int) = (r1, r2, r3) := h
          simpa only [Prod.mk.injEq] using e
        exact r_next_got_1_3 w
      · obtain ⟨rfl, rfl, rfl⟩ : 4 = r1 ∧ 0 = r2 ∧ 0 = r3 := by
          have e : ((4, 0, 0) : Int × Int × Int) = (r1, r2, r3) := h
          simpa only [Prod.mk.injEq] using e
        exact r_next_got_1_4 w
      · obtain ⟨rfl, rfl, rfl⟩ : 5 = r1 ∧ 2 = r2 ∧ 5 = r3 := by
          have e : ((5, 2, 5) : Int × Int × Int) = (r1, r2, r3) := h
          simpa only [Prod.mk.injEq] using e
        exact r_next_got_1_5 w
      · obtain ⟨rfl, rfl, rfl⟩ : 6 = r1 ∧ 3 = r2 ∧ 5 = r3 := by
          have e : ((6, 3, 5) : Int × Int × Int) = (r1, r2, r3) := h
          simpa only [Prod.mk.injEq] using e
        exact r_next_got_1_6 w
  · cases got
    · obtain rfl | rfl | rfl | rfl | rfl | rfl | rfl : s = 0 ∨ s = 1 ∨ s = 2 ∨ s = 3 ∨ s = 4 ∨ s = 5 ∨ s = 6 := by omega
      · obtain ⟨rfl, rfl, rfl⟩ : 4 = r1 ∧ 0 = r2 ∧ 0 = r3 := by
          have e : ((4, 0, 0) : Int × Int × Int) = (r1, r2, r3) := h
          simpa only [Prod.mk.injEq] using e
        exact r_next_sent_2_0 w
      · obtain ⟨rfl, rfl, rfl⟩ : 6 = r1 ∧ 0 = r2 ∧ 0 = r3 := by
          have e : ((6, 0, 0) : Int × Int × Int) = (r1, r2, r3) := h
          simpa only [Prod.mk.injEq] using e
        exact r_next_sent_2_1 w
      · obtain ⟨rfl, rfl, rfl⟩ : 2 = r1 ∧ 4 = r2 ∧ 0 = r3 := by
          have e : ((2, 4, 0) : Int × Int × Int) = (r1, r2, r3) := h
          simpa only [Prod.mk.injEq] using e
        exact r_next_sent_2_2 w
      · obtain ⟨rfl, rfl, rfl⟩ : 4 = r1 ∧ 0 = r2 ∧ 0 = r3 := by
          have e : ((4, 0, 0) : Int × Int × Int) = (r1, r2, r3) := h
          simpa only [Prod.mk.injEq] using e
        exact r_next_sent_2_3 w
      · obtain ⟨rfl, rfl, rfl⟩ : 4 = r1 ∧ 4 = r2 ∧ 0 = r3 := by
          have e : ((4, 4, 0) : Int × Int × Int) = (r1, r2, r3) := h
          simpa only [Prod.mk.injEq] using e
        exact r_next_sent_2_4 w
      · obtain ⟨rfl, rfl, rfl⟩ : 6 = r1 ∧ 0 = r2 ∧ 0 = r3 := by
          have e : ((6, 0, 0) : Int × Int × Int) = (r1, r2, r3) := h
          simpa only [Prod.mk.injEq] using e
        exact r_next_sent_2_5 w
      · obtain ⟨rfl, rfl, rfl⟩ : 6 = r1 ∧ 4 = r2 ∧ 0 = r3 := by
          have e : ((6, 4, 0) : Int × Int × Int) = (r1, r2, r3) := h
          simpa only [Prod.mk.injEq] using e
        exact r_next_sent_2_6 w
    · obtain rfl | rfl | rfl | rfl | rfl | rfl | rfl : s = 0 ∨ s = 1 ∨ s = 2 ∨ s = 3 ∨ s = 4 ∨ s = 5 ∨ s = 6 := by omega
      · obtain ⟨rfl, rfl, rfl⟩ : 5 = r1 ∧ 0 = r2 ∧ 0 = r3 := by
          have e : ((5, 0, 0) : Int × Int × Int) = (r1, r2, r3) := h
          simpa only [Prod.mk.injEq] using e
        exact r_next_got_2_0 w
      · obtain ⟨rfl, rfl, rfl⟩ : 1 = r1 ∧ 3 = r2 ∧ 1 = r3 := by
          have e : ((1, 3, 1) : Int × Int × Int) = (r1, r2, r3) := h
          simpa only [Prod.mk.injEq] using e
        exact r_next_got_2_1 w
      · obtain ⟨rfl, rfl, rfl⟩ : 6 = r1 ∧ 0 = r2 ∧ 0 = r3 := by
          have e : ((6, 0, 0) : Int × Int × Int) = (r1, r2, r3) := h
          simpa only [Prod.mk.injEq] using e
        exact r_next_got_2_2 w
      · obtain ⟨rfl, rfl, rfl⟩ : 5 = r1 ∧ 0 = r2 ∧ 0 = r3 := by
          have e : ((5, 0, 0) : Int × Int × Int) = (r1, r2, r3) := h
          simpa only [Prod.mk.injEq] using e
        exact r_next_got_2_3 w
      · obtain ⟨rfl, rfl, rfl⟩ : 6 = r1 ∧ 0 = r2 ∧ 0 = r3 := by
          have e : ((6, 0, 0) : Int × Int × Int) = (r1, r2, r3) := h
          simpa only [Prod.mk.injEq] using e
        exact r_next_got_2_4 w
      · obtain ⟨rfl, rfl, rfl⟩ : 5 = r1 ∧ 2 = r2 ∧ 5 = r3 := by
          have e : ((5, 2, 5) : Int × Int × Int) = (r1, r2, r3) := h
          simpa only [Prod.mk.injEq] using e
        exact r_next_got_2_5 w
      · obtain ⟨rfl, rfl, rfl⟩ : 6 = r1 ∧ 3 = r2 ∧ 5 = r3 := by
          have e : ((6, 3, 5) : Int × Int × Int) = (r1, r2, r3) := h
          simpa only [Prod.mk.injEq] using e
        exact r_next_got_2_6 w
  · cases got
    · obtain rfl | rfl | rfl | rfl | rfl | rfl | rfl : s = 0 ∨ s = 1 ∨ s = 2 ∨ s = 3 ∨ s = 4 ∨ s = 5 ∨ s = 6 := by omega
      · obtain ⟨rfl, rfl, rfl⟩ : 0 = r1 ∧ 4 = r2 ∧ 0 = r3 := by
          have e : ((0, 4, 0) : Int × Int × Int) = (r1, r2, r3) := h
          simpa only [Prod.mk.injEq] using e
        exact r_next_sent_3_0 w
      · obtain ⟨rfl, rfl, rfl⟩ : 1 = r1 ∧ 4 = r2 ∧ 0 = r3 := by
          have e : ((1, 4, 0) : Int × Int × Int) = (r1, r2, r3) := h
          simpa only [Prod.mk.injEq] using e
        exact r_next_sent_3_1 w
      · obtain ⟨rfl, rfl, rfl⟩ : 2 = r1 ∧ 4 = r2 ∧ 0 = r3 := by
          have e : ((2, 4, 0) : Int × Int × Int) = (r1, r2, r3) := h
          simpa only [Prod.mk.injEq] using e
        exact r_next_sent_3_2 w
      · obtain ⟨rfl, rfl, rfl⟩ : 3 = r1 ∧ 0 = r2 ∧ 0 = r3 := by
          have e : ((3, 0, 0) : Int × Int × Int) = (r1, r2, r3) := h
          simpa only [Prod.mk.injEq] using e
        exact r_next_sent_3_3 w
      · obtain ⟨rfl, rfl, rfl⟩ : 4 = r1 ∧ 4 = r2 ∧ 0 = r3 := by
          have e : ((4, 4, 0) : Int × Int × Int) = (r1, r2, r3) := h
          simpa only [Prod.mk.injEq] using e
        exact r_next_sent_3_4 w
      · obtain ⟨rfl, rfl, rfl⟩ : 5 = r1 ∧ 0 = r2 ∧ 0 = r3 := by
          have e : ((5, 0, 0) : Int × Int × Int) = (r1, r2, r3) := h
          simpa only [Prod.mk.injEq] using e
        exact r_next_sent_3_5 w
      · obtain ⟨rfl, rfl, rfl⟩ : 6 = r1 ∧ 4 = r2 ∧ 0 = r3 := by
          have e : ((6, 4, 0) : Int × Int × Int) = (r1, r2, r3) := h
          simpa only [Prod.mk.injEq] using e
        exact r_next_sent_3_6 w
    · obtain rfl | rfl | rfl | rfl | rfl | rfl | rfl : s = 0 ∨ s = 1 ∨ s = 2 ∨ s = 3 ∨ s = 4 ∨ s = 5 ∨ s = 6 := by omega
      · obtain ⟨rfl, rfl, rfl⟩ : 0 = r1 ∧ 3 = r2 ∧ 1 = r3 := by
          have e : ((0, 3, 1) : Int × Int × Int) = (r1, r2, r3) := h
          simpa only [Prod.mk.injEq] using e
        exact r_next_got_3_0 w
      · obtain ⟨rfl, rfl, rfl⟩ : 1 = r1 ∧ 3 = r2 ∧ 1 = r3 := by
          have e : ((1, 3, 1) : Int × Int × Int) = (r1, r2, r3) := h
          simpa only [Prod.mk.injEq] using e
        exact r_next_got_3_1 w
      · obtain ⟨rfl, rfl, rfl⟩ : 2 = r1 ∧ 3 = r2 ∧ 1 = r3 := by
          have e : ((2, 3, 1) : Int × Int × Int) = (r1, r2, r3) := h
          simpa only [Prod.mk.injEq] using e
        exact r_next_got_3_2 w
      · obtain ⟨rfl, rfl, rfl⟩ : 3 = r1 ∧ 0 = r2 ∧ 0 = r3 := by
          have e : ((3, 0, 0) : Int × Int × Int) = (r1, r2, r3) := h
          simpa only [Prod.mk.injEq] using e
        exact r_next_got_3_3 w
      · obtain ⟨rfl, rfl, rfl⟩ : 4 = r1 ∧ 0 = r2 ∧ 0 = r3 := by
          have e : ((4, 0, 0) : Int × Int × Int) = (r1, r2, r3) := h
          simpa only [Prod.mk.injEq] using e
        exact r_next_got_3_4 w
      · obtain ⟨rfl, rfl, rfl⟩ : 5 = r1 ∧ 2 = r2 ∧ 5 = r3 := by
          have e : ((5, 2, 5) : Int × Int × Int) = (r1, r2, r3) := h
          simpa only [Prod.mk.injEq] using e
        exact r_next_got_3_5 w
      · obtain ⟨rfl, rfl, rfl⟩ : 6 = r1 ∧ 3 = r2 ∧ 5 = r3 := by
          have e : ((6, 3, 5) : Int × Int × Int) = (r1, r2, r3) := h
          simpa only [Prod.mk.injEq] using e
        exact r_next_got_3_6 w
  · cases got
    · obtain rfl | rfl | rfl | rfl | rfl | rfl | rfl : s = 0 ∨ s = 1 ∨ s = 2 ∨ s = 3 ∨ s = 4 ∨ s = 5 ∨ s = 6 := by omega
      · obtain ⟨rfl, rfl, rfl⟩ : 0 = r1 ∧ 4 = r2 ∧ 0 = r3 := by
          have e : ((0, 4, 0) : Int × Int × Int) = (r1, r2, r3) := h
          simpa only [Prod.mk.injEq] using e
        exact r_next_sent_4_0 w
      · obtain ⟨rfl, rfl, rfl⟩ : 1 = r1 ∧ 4 = r2 ∧ 0 = r3 := by
          have e : ((1, 4, 0) : Int × Int × Int) = (r1, r2, r3) := h
          simpa only [Prod.mk.injEq] using e
        exact r_next_sent_4_1 w
      · obtain ⟨rfl, rfl, rfl⟩ : 2 = r1 ∧ 4 = r2 ∧ 0 = r3 := by
          have e : ((2, 4, 0) : Int × Int × Int) = (r1, r2, r3) := h
          simpa only [Prod.mk.injEq] using e
        exact r_next_sent_4_2 w
      · obtain ⟨rfl, rfl, rfl⟩ : 4 = r1 ∧ 0 = r2 ∧ 0 = r3 := by
          have e : ((4, 0, 0) : Int × Int × Int) = (r1, r2, r3) := h
          simpa only [Prod.mk.injEq] using e
        exact r_next_sent_4_3 w
      · obtain ⟨rfl, rfl, rfl⟩ : 4 = r1 ∧ 4 = r2 ∧ 0 = r3 := by
          have e : ((4, 4, 0) : Int × Int × Int) = (r1, r2, r3) := h
          simpa only [Prod.mk.injEq] using e
        exact r_next_sent_4_4 w
      · obtain ⟨rfl, rfl, rfl⟩ : 6 = r1 ∧ 0 = r2 ∧ 0 = r3 := by
          have e : ((6, 0, 0) : Int × Int × Int) = (r1, r2, r3) := h
          simpa only [Prod.mk.injEq] using e
        exact r_next_sent_4_5 w
      · obtain ⟨rfl, rfl, rfl⟩ : 6 = r1 ∧ 4 = r2 ∧ 0 = r3 := by
          have e : ((6, 4, 0) : Int × Int × Int) = (r1, r2, r3) := h
          simpa only [Prod.mk.injEq] using e
        exact r_next_sent_4_6 w
    · obtain rfl | rfl | rfl | rfl | rfl | rfl | rfl : s = 0 ∨ s = 1 ∨ s = 2 ∨ s = 3 ∨ s = 4 ∨ s = 5 ∨ s = 6 := by omega
      · obtain ⟨rfl, rfl, rfl⟩ : 0 = r1 ∧ 3 = r2 ∧ 1 = r3 := by
          have e : ((0, 3, 1) : Int × Int × Int) = (r1, r2, r3) := h
          simpa only [Prod.mk.injEq] using e
        exact r_next_got_4_0 w
      · obtain ⟨rfl, rfl, rfl⟩ : 1 = r1 ∧ 3 = r2 ∧ 1 = r3 := by
          have e : ((1, 3, 1) : Int × Int × Int) = (r1, r2, r3) := h
          simpa only [Prod.mk.injEq] using e
        exact r_next_got_4_1 w
      · obtain ⟨rfl, rfl, rfl⟩ : 2 = r1 ∧ 3 = r2 ∧ 1 = r3 := by
          have e : ((2, 3, 1) : Int × Int × Int) = (r1, r2, r3) := h
          simpa only [Prod.mk.injEq] using e
        exact r_next_got_4_2 w
      · obtain ⟨rfl, rfl, rfl⟩ : 5 = r1 ∧ 0 = r2 ∧ 0 = r3 := by
          have e : ((5, 0, 0) : Int × Int × Int) = (r1, r2, r3) := h
          simpa only [Prod.mk.injEq] using e
        exact r_next_got_4_3 w
      · obtain ⟨rfl, rfl, rfl⟩ : 6 = r1 ∧ 0 = r2 ∧ 0 = r3 := by
          have e : ((6, 0, 0) : Int × Int × Int) = (r1, r2, r3) := h
          simpa only [Prod.mk.injEq] using e
        exact r_next_got_4_4 w
      · obtain ⟨rfl, rfl, rfl⟩ : 5 = r1 ∧ 2 = r2 ∧ 5 = r3 := by
          have e : ((5, 2, 5) : Int × Int × Int) = (r1, r2, r3) := h
          simpa only [Prod.mk.injEq] using e
        exact r_next_got_4_5 w
      · obtain ⟨rfl, rfl, rfl⟩ : 6 = r1 ∧ 3 = r2 ∧ 5 = r3 := by
          have e : ((6, 3, 5) : Int × Int × Int) = (r1, r2, r3) := h
          simpa only [Prod.mk.injEq] using e
        exact r_next_got_4_6 w
  · cases got
    · obtain rfl | rfl | rfl | rfl | rfl | rfl | rfl : s = 0 ∨ s = 1 ∨ s = 2 ∨ s = 3 ∨ s = 4 ∨ s = 5 ∨ s = 6 := by omega
      · obtain ⟨rfl, rfl, rfl⟩ : 1 = r1 ∧ 0 = r2 ∧ 0 = r3 := by
          have e : ((1, 0, 0) : Int × Int × Int) = (r1, r2, r3) := h
          simpa only [Prod.mk.injEq] using e
        exact r_next_sent_5_0 w
      · obtain ⟨rfl, rfl, rfl⟩ : 1 = r1 ∧ 4 = r2 ∧ 0 = r3 := by
          have e : ((1, 4, 0) : Int × Int × Int) = (r1, r2, r3) := h
          simpa only [Prod.mk.injEq] using e
        exact r_next_sent_5_1 w
      · obtain ⟨rfl, rfl, rfl⟩ : 2 = r1 ∧ 4 = r2 ∧ 0 = r3 := by
          have e : ((2, 4, 0) : Int × Int × Int) = (r1, r2, r3) := h
          simpa only [Prod.mk.injEq] using e
        exact r_next_sent_5_2 w
      · obtain ⟨rfl, rfl, rfl⟩ : 3 = r1 ∧ 4 = r2 ∧ 0 = r3 := by
          have e : ((3, 4, 0) : Int × Int × Int) = (r1, r2, r3) := h
          simpa only [Prod.mk.injEq] using e
        exact r_next_sent_5_3 w
      · obtain ⟨rfl, rfl, rfl⟩ : 4 = r1 ∧ 4 = r2 ∧ 0 = r3 := by
          have e : ((4, 4, 0) : Int × Int × Int) = (r1, r2, r3) := h
          simpa only [Prod.mk.injEq] using e
        exact r_next_sent_5_4 w
      · obtain ⟨rfl, rfl, rfl⟩ : 5 = r1 ∧ 4 = r2 ∧ 0 = r3 := by
          have e : ((5, 4, 0) : Int × Int × Int) = (r1, r2, r3) := h
          simpa only [Prod.mk.injEq] using e
        exact r_next_sent_5_5 w
      · obtain ⟨rfl, rfl, rfl⟩ : 6 = r1 ∧ 4 = r2 ∧ 0 = r3 := by
          have e : ((6, 4, 0) : Int × Int × Int) = (r1, r2, r3) := h
          simpa only [Prod.mk.injEq] using e
        exact r_next_sent_5_6 w
    · obtain rfl | rfl | rfl | rfl | rfl | rfl | rfl : s = 0 ∨ s = 1 ∨ s = 2 ∨ s = 3 ∨ s = 4 ∨ s = 5 ∨ s = 6 := by omega
      · obtain ⟨rfl, rfl, rfl⟩ : 2 = r1 ∧ 0 = r2 ∧ 0 = r3 := by
          have e : ((2, 0, 0) : Int × Int × Int) = (r1, r2, r3) := h
          simpa only [Prod.mk.injEq] using e
        exact r_next_got_5_0 w
      · obtain ⟨rfl, rfl, rfl⟩ : 1 = r1 ∧ 3 = r2 ∧ 1 = r3 := by
          have e : ((1, 3, 1) : Int × Int × Int) = (r1, r2, r3) := h
          simpa only [Prod.mk.injEq] using e
        exact r_next_got_5_1 w
      · obtain ⟨rfl, rfl, rfl⟩ : 2 = r1 ∧ 3 = r2 ∧ 1 = r3 := by
          have e : ((2, 3, 1) : Int × Int × Int) = (r1, r2, r3) := h
          simpa only [Prod.mk.injEq] using e
        exact r_next_got_5_2 w
      · obtain ⟨rfl, rfl, rfl⟩ : 3 = r1 ∧ 3 = r2 ∧ 1 = r3 := by
          have e : ((3, 3, 1) : Int × Int × Int) = (r1, r2, r3) := h
          simpa only [Prod.mk.injEq] using e
        exact r_next_got_5_3 w
      · obtain ⟨rfl, rfl, rfl⟩ : 4 = r1 ∧ 3 = r2 ∧ 1 = r3 := by
          have e : ((4, 3, 1) : Int × Int × Int) = (r1, r2, r3) := h
          simpa only [Prod.mk.injEq] using e
        exact r_next_got_5_4 w
      · obtain ⟨rfl, rfl, rfl⟩ : 5 = r1 ∧ 3 = r2 ∧ 1 = r3 := by
          have e : ((5, 3, 1) : Int × Int × Int) = (r1, r2, r3) := h
          simpa only [Prod.mk.injEq] using e
        exact r_next_got_5_5 w
      · obtain ⟨rfl, rfl, rfl⟩ : 6 = r1 ∧ 3 = r2 ∧ 1 = r3 := by
          have e : ((6, 3, 1) : Int × Int × Int) = (r1, r2, r3) := h
          simpa only [Prod.mk.injEq] using e
        exact r_next_got_5_6 w
  · cases got
    · obtain rfl | rfl | rfl | rfl | rfl | rfl | rfl : s = 0 ∨ s = 1 ∨ s = 2 ∨ s = 3 ∨ s = 4 ∨ s = 5 ∨ s = 6 := by omega
      · obtain ⟨rfl, rfl, rfl⟩ : 0 = r1 ∧ 4 = r2 ∧ 0 = r3 := by
          have e : ((0, 4, 0) : Int × Int × Int) = (r1, r2, r3) := h
          simpa only [Prod.mk.injEq] using e
        exact r_next_sent_6_0 w
      · obtain ⟨rfl, rfl, rfl⟩ : 6 = r1 ∧ 0 = r2 ∧ 0 = r3 := by
          have e : ((6, 0, 0) : Int × Int × Int) = (r1, r2, r3) := h
          simpa only [Prod.mk.injEq] using e
        exact r_next_sent_6_1 w
      · obtain ⟨rfl, rfl, rfl⟩ : 6 = r1 ∧ 0 = r2 ∧ 0 = r3 := by
          have e : ((6, 0, 0) : Int × Int × Int) = (r1, r2, r3) := h
          simpa only [Prod.mk.injEq] using e
        exact r_next_sent_6_2 w
      · obtain ⟨rfl, rfl, rfl⟩ : 6 = r1 ∧ 0 = r2 ∧ 0 = r3 := by
          have e : ((6, 0, 0) : Int × Int × Int) = (r1, r2, r3) := h
          simpa only [Prod.mk.injEq] using e
        exact r_next_sent_6_3 w
      · obtain ⟨rfl, rfl, rfl⟩ : 6 = r1 ∧ 0 = r2 ∧ 0 = r3 := by
          have e : ((6, 0, 0) : Int × Int × Int) = (r1, r2, r3) := h
          simpa only [Prod.mk.injEq] using e
        exact r_next_sent_6_4 w
      · obtain ⟨rfl, rfl, rfl⟩ : 6 = r1 ∧ 0 = r2 ∧ 0 = r3 := by
          have e : ((6, 0, 0) : Int × Int × Int) = (r1, r2, r3) := h
          simpa only [Prod.mk.injEq] using e
        exact r_next_sent_6_5 w
      · obtain ⟨rfl, rfl, rfl⟩ : 6 = r1 ∧ 4 = r2 ∧ 0 = r3 := by
          have e : ((6, 4, 0) : Int × Int × Int) = (r1, r2, r3) := h
          simpa only [Prod.mk.injEq] using e
        exact r_next_sent_6_6 w
    · obtain rfl | rfl | rfl | rfl | rfl | rfl | rfl : s = 0 ∨ s = 1 ∨ s = 2 ∨ s = 3 ∨ s = 4 ∨ s = 5 ∨ s = 6 := by omega
      · obtain ⟨rfl, rfl, rfl⟩ : 0 = r1 ∧ 3 = r2 ∧ 1 = r3 := by
          have e : ((0, 3, 1) : Int × Int × Int) = (r1, r2, r3) := h
          simpa only [Prod.mk.injEq] using e
        exact r_next_got_6_0 w
      · obtain ⟨rfl, rfl, rfl⟩ : 6 = r1 ∧ 0 = r2 ∧ 0 = r3 := by
          have e : ((6, 0, 0) : Int × Int × Int) = (r1, r2, r3) := h
          simpa only [Prod.mk.injEq] using e
        exact r_next_got_6_1 w
      · obtain ⟨rfl, rfl, rfl⟩ : 6 = r1 ∧ 0 = r2 ∧ 0 = r3 := by
          have e : ((6, 0, 0) : Int × Int × Int) = (r1, r2, r3) := h
          simpa only [Prod.mk.injEq] using e
        exact r_next_got_6_2 w
      · obtain ⟨rfl, rfl, rfl⟩ : 6 = r1 ∧ 0 = r2 ∧ 0 = r3 := by
          have e : ((6, 0, 0) : Int × Int × Int) = (r1, r2, r3) := h
          simpa only [Prod.mk.injEq] using e
        exact r_next_got_6_3 w
      · obtain ⟨rfl, rfl, rfl⟩ : 6 = r1 ∧ 0 = r2 ∧ 0 = r3 := by
          have e : ((6, 0, 0) : Int × Int × Int) = (r1, r2, r3) := h
          simpa only [Prod.mk.injEq] using e
        exact r_next_got_6_4 w
      · obtain ⟨rfl, rfl, rfl⟩ : 6 = r1 ∧ 0 = r2 ∧ 0 = r3 := by
          have e : ((6, 0, 0) : Int × Int × Int) = (r1, r2, r3) := h
          simpa only [Prod.mk.injEq] using e
        exact r_next_got_6_5 w
      · obtain ⟨rfl, rfl, rfl⟩ : 6 = r1 ∧ 1 = r2 ∧ 0 = r3 := by
          have e : ((6, 1, 0) : Int × Int × Int) = (r1, r2, r3) := h
          simpa only [Prod.mk.injEq] using e
        exact r_next_got_6_6 w
  · cases got
    · obtain rfl | rfl | rfl | rfl | rfl | rfl | rfl : s = 0 ∨ s = 1 ∨ s = 2 ∨ s = 3 ∨ s = 4 ∨ s = 5 ∨ s = 6 := by omega
      · obtain ⟨rfl, rfl, rfl⟩ : 0 = r1 ∧ 4 = r2 ∧ 0 = r3 := by
          have e : ((0, 4, 0) : Int × Int × Int) = (r1, r2, r3) := h
          simpa only [Prod.mk.injEq] using e
        exact r_next_sent_7_0 w
      · obtain ⟨rfl, rfl, rfl⟩ : 1 = r1 ∧ 4 = r2 ∧ 0 = r3 := by
          have e : ((1, 4, 0) : Int × Int × Int) = (r1, r2, r3) := h
          simpa only [Prod.mk.injEq] using e
        exact r_next_sent_7_1 w
      · obtain ⟨rfl, rfl, rfl⟩ : 2 = r1 ∧ 0 = r2 ∧ 0 = r3 := by
          have e : ((2, 0, 0) : Int × Int × Int) = (r1, r2, r3) := h
          simpa only [Prod.mk.injEq] using e
        exact r_next_sent_7_2 w
      · obtain ⟨rfl, rfl, rfl⟩ : 3 = r1 ∧ 0 = r2 ∧ 0 = r3 := by
          have e : ((3, 0, 0) : Int × Int × Int) = (r1, r2, r3) := h
          simpa only [Prod.mk.injEq] using e
        exact r_next_sent_7_3 w
      · obtain ⟨rfl, rfl, rfl⟩ : 4 = r1 ∧ 0 = r2 ∧ 0 = r3 := by
          have e : ((4, 0, 0) : Int × Int × Int) = (r1, r2, r3) := h
          simpa only [Prod.mk.injEq] using e
        exact r_next_sent_7_4 w
      · obtain ⟨rfl, rfl, rfl⟩ : 5 = r1 ∧ 0 = r2 ∧ 0 = r3 := by
          have e : ((5, 0, 0) : Int × Int × Int) = (r1, r2, r3) := h
          simpa only [Prod.mk.injEq] using e
        exact r_next_sent_7_5 w
      · obtain ⟨rfl, rfl, rfl⟩ : 6 = r1 ∧ 4 = r2 ∧ 0 = r3 := by
          have e : ((6, 4, 0) : Int × Int × Int) = (r1, r2, r3) := h
          simpa only [Prod.mk.injEq] using e
        exact r_next_sent_7_6 w
    · obtain rfl | rfl | rfl | rfl | rfl | rfl | rfl : s = 0 ∨ s = 1 ∨ s = 2 ∨ s = 3 ∨ s = 4 ∨ s = 5 ∨ s = 6 := by omega
      · obtain ⟨rfl, rfl, rfl⟩ : 0 = r1 ∧ 3 = r2 ∧ 1 = r3 := by
          have e : ((0, 3, 1) : Int × Int × Int) = (r1, r2, r3) := h
          simpa only [Prod.mk.injEq] using e
        exact r_next_got_7_0 w
      · obtain ⟨rfl, rfl, rfl⟩ : 1 = r1 ∧ 0 = r2 ∧ 0 = r3 := by
          have e : ((1, 0, 0) : Int × Int × Int) = (r1, r2, r3) := h
          simpa only [Prod.mk.injEq] using e
        exact r_next_got_7_1 w
      · obtain ⟨rfl, rfl, rfl⟩ : 2 = r1 ∧ 3 = r2 ∧ 1 = r3 := by
          have e : ((2, 3, 1) : Int × Int × Int) = (r1, r2, r3) := h
          simpa only [Prod.mk.injEq] using e
        exact r_next_got_7_2 w
      · obtain ⟨rfl, rfl, rfl⟩ : 3 = r1 ∧ 0 = r2 ∧ 0 = r3 := by
          have e : ((3, 0, 0) : Int × Int × Int) = (r1, r2, r3) := h
          simpa only [Prod.mk.injEq] using e
        exact r_next_got_7_3 w
      · obtain ⟨rfl, rfl, rfl⟩ : 4 = r1 ∧ 0 = r2 ∧ 0 = r3 := by
          have e : ((4, 0, 0) : Int × Int × Int) = (r1, r2, r3) := h
          simpa only [Prod.mk.injEq] using e
        exact r_next_got_7_4 w
      · obtain ⟨rfl, rfl, rfl⟩ : 5 = r1 ∧ 0 = r2 ∧ 0 = r3 := by
          have e : ((5, 0, 0) : Int × Int × Int) = (r1, r2, r3) := h
          simpa only [Prod.mk.injEq] using e
        exact r_next_got_7_5 w
      · obtain ⟨rfl, rfl, rfl⟩ : 6 = r1 ∧ 1 = r2 ∧ 0 = r3 := by
          have e : ((6, 1, 0) : Int × Int × Int) = (r1, r2, r3) := h
          simpa only [Prod.mk.injEq] using e
        exact r_next_got_7_6 w
  · cases got
    · obtain rfl | rfl | rfl | rfl | rfl | rfl | rfl : s = 0 ∨ s = 1 ∨ s = 2 ∨ s = 3 ∨ s = 4 ∨ s = 5 ∨ s = 6 := by omega
      · obtain ⟨rfl, rfl, rfl⟩ : 0 = r1 ∧ 0 = r2 ∧ 0 = r3 := by
          have e : ((0, 0, 0) : Int × Int × Int) = (r1, r2, r3) := h
          simpa only [Prod.mk.injEq] using e
        exact r_next_sent_8_0 w
      · obtain ⟨rfl, rfl, rfl⟩ : 1 = r1 ∧ 0 = r2 ∧ 0 = r3 := by
          have e : ((1, 0, 0) : Int × Int × Int) = (r1, r2, r3) := h
          simpa only [Prod.mk.injEq] using e
        exact r_next_sent_8_1 w
      · obtain ⟨rfl, rfl, rfl⟩ : 2 = r1 ∧ 0 = r2 ∧ 0 = r3 := by
          have e : ((2, 0, 0) : Int × Int × Int) = (r1, r2, r3) := h
          simpa only [Prod.mk.injEq] using e
        exact r_next_sent_8_2 w
      · obtain ⟨rfl, rfl, rfl⟩ : 3 = r1 ∧ 0 = r2 ∧ 0 = r3 := by
          have e : ((3, 0, 0) : Int × Int × Int) = (r1, r2, r3) := h
          simpa only [Prod.mk.injEq] using e
        exact r_next_sent_8_3 w
      · obtain ⟨rfl, rfl, rfl⟩ : 4 = r1 ∧ 0 = r2 ∧ 0 = r3 := by
          have e : ((4, 0, 0) : Int × Int × Int) = (r1, r2, r3) := h
          simpa only [Prod.mk.injEq] using e
        exact r_next_sent_8_4 w
      · obtain ⟨rfl, rfl, rfl⟩ : 5 = r1 ∧ 0 = r2 ∧ 0 = r3 := by
          have e : ((5, 0, 0) : Int × Int × Int) = (r1, r2, r3) := h
          simpa only [Prod.mk.injEq] using e
        exact r_next_sent_8_5 w
      · obtain ⟨rfl, rfl, rfl⟩ : 6 = r1 ∧ 0 = r2 ∧ 0 = r3 := by
          have e : ((6, 0, 0) : Int × Int × Int) = (r1, r2, r3) := h
          simpa only [Prod.mk.injEq] using e
        exact r_next_sent_8_6 w
    · obtain rfl | rfl | rfl | rfl | rfl | rfl | rfl : s = 0 ∨ s = 1 ∨ s = 2 ∨ s = 3 ∨ s = 4 ∨ s = 5 ∨ s = 6 := by omega
      · obtain ⟨rfl, rfl, rfl⟩ : 0 = r1 ∧ 0 = r2 ∧ 0 = r3 := by
          have e : ((0, 0, 0) : Int × Int × Int) = (r1, r2, r3) := h
          simpa only [Prod.mk.injEq] using e
        exact r_next_got_8_0 w
      · obtain ⟨rfl, rfl, rfl⟩ : 1 = r1 ∧ 0 = r2 ∧ 0 = r3 := by
          have e : ((1, 0, 0) : Int × Int × Int) = (r1, r2, r3) := h
          simpa only [Prod.mk.injEq] using e
        exact r_next_got_8_1 w
      · obtain ⟨rfl, rfl, rfl⟩ : 2 = r1 ∧ 0 = r2 ∧ 0 = r3 := by
          have e : ((2, 0, 0) : Int × Int × Int) = (r1, r2, r3) := h
          simpa only [Prod.mk.injEq] using e
        exact r_next_got_8_2 w
      · obtain ⟨rfl, rfl, rfl⟩ : 3 = r1 ∧ 0 = r2 ∧ 0 = r3 := by
          have e : ((3, 0, 0) : Int × Int × Int) = (r1, r2, r3) := h
          simpa only [Prod.mk.injEq] using e
        exact r_next_got_8_3 w
      · obtain ⟨rfl, rfl, rfl⟩ : 4 = r1 ∧ 0 = r2 ∧ 0 = r3 := by
          have e : ((4, 0, 0) : Int × Int × Int) = (r1, r2, r3) := h
          simpa only [Prod.mk.injEq] using e
        exact r_next_got_8_4 w
      · obtain ⟨rfl, rfl, rfl⟩ : 5 = r1 ∧ 0 = r2 ∧ 0 = r3 := by
          have e : ((5, 0, 0) : Int × Int × Int) = (r1, r2, r3) := h
          simpa only [Prod.mk.injEq] using e
        exact r_next_got_8_5 w
      · obtain ⟨rfl, rfl, rfl⟩ : 6 = r1 ∧ 1 = r2 ∧ 0 = r3 := by
          have e : ((6, 1, 0) : Int × Int × Int) = (r1, r2, r3) := h
          simpa only [Prod.mk.injEq] using e
        exact r_next_got_8_6 w
end Go.Proofs.YtagkncjdohljgaaDoor.QL
