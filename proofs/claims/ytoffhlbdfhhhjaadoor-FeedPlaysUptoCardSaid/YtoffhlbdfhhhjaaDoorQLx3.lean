/- Written by a program of this session (a changed run of the kit's printer): what the Go functions of one call tree answer, as plain functions, and that the machine's calls answer so; no condition but those in each statement. -/
import Derived.Test.YtoffhlbdfhhhjaaDoorQLx0
import Derived.Test.YtoffhlbdfhhhjaaDoorQLx1
import Derived.Test.YtoffhlbdfhhhjaaDoorQLx2
namespace Go.Proofs.YtoffhlbdfhhhjaaDoor.QL
open Go.RowKit Go.Proofs.YtoffhlbdfhhhjaaDoorW.PrintWords Go.Proofs.YtoffhlbdfhhhjaaDoorW.PrintLast Go.Proofs.YtoffhlbdfhhhjaaDoorW.PrintMore
attribute [local go_sem] max2_int min2_int max_two min_two max_three min_three max_four min_four   -- for this text's walks alone
set_option linter.unusedVariables false
set_option linter.unusedSimpArgs false

attribute [local go_sem high] eqA32
/-! ### heraldref06_lengthRight: function 65 -/
mutual
def heraldref06_lengthRight.j0 : Nat → Int → Int → Int → Int → Bool → Option (Bool)
  | 0, _, _, _, _, _ => none
  | k + 1, x0, x1, x2, x7, x8 => if x8 = true then ((heraldref06_ahead.f k x0 x1).bind fun t108 => (some (decide (x2 ≥ t108)))) else (if x7 = 2 then (some (x2 == 5)) else (if x7 = 3 then (heraldref06_lengthRight.j1 k x1 x2 x7 (x7 == 3)) else (heraldref06_lengthRight.j1 k x1 x2 x7 (x7 == 8))))
def heraldref06_lengthRight.j1 : Nat → Int → Int → Int → Bool → Option (Bool)
  | 0, _, _, _, _ => none
  | k + 1, x1, x2, x7, x21 => if x21 = true then (some (x2 == 4)) else (if x7 = 4 then (if (Int.tmod x2 6) = 0 then ((heraldref06_has.f x1 1).bind fun t109 => (if t109 = true then (some (x2 == 0)) else (some true))) else (some false)) else (if x7 = 6 then (some (x2 == 8)) else (if x7 = 7 then (some (decide (x2 ≥ 8))) else (some true))))
end
def heraldref06_lengthRight.f (k : Nat) (a0 : Int) (a1 : Int) (a2 : Int) : Option (Bool) := if a0 = 0 then (heraldref06_lengthRight.j0 k a0 a1 a2 a0 (a0 == 0)) else (if a0 = 1 then (heraldref06_lengthRight.j0 k a0 a1 a2 a0 (a0 == 1)) else (heraldref06_lengthRight.j0 k a0 a1 a2 a0 (a0 == 5)))
theorem heraldref06_lengthRight.mono_l : ∀ k, (∀ y0 y1 y2 y3 y4, LeO (heraldref06_lengthRight.j0 k y0 y1 y2 y3 y4) (heraldref06_lengthRight.j0 (k + 1) y0 y1 y2 y3 y4)) ∧ (∀ y0 y1 y2 y3, LeO (heraldref06_lengthRight.j1 k y0 y1 y2 y3) (heraldref06_lengthRight.j1 (k + 1) y0 y1 y2 y3))
  | 0 => ⟨fun _ _ _ _ _ r h => by simp [heraldref06_lengthRight.j0] at h, fun _ _ _ _ r h => by simp [heraldref06_lengthRight.j1] at h⟩
  | k + 1 => by
    obtain ⟨ih0, ih1⟩ := heraldref06_lengthRight.mono_l k
    refine ⟨?_, ?_⟩
    · intro y0 y1 y2 y3 y4
      unfold heraldref06_lengthRight.j0
      repeat' first
      | (with_reducible exact ih0 _ _ _ _ _)
      | (with_reducible exact ih1 _ _ _ _)
      | (with_reducible exact heraldref06_ahead.mono _ _ _)
      | (with_reducible exact LeO.refl _)
      | (with_reducible exact LeO.none _)
      | (with_reducible refine LeO.ite ?_ ?_)
      | (with_reducible refine LeO.bind ?_ (fun _ => ?_))
      | exact ih0 _ _ _ _ _
      | exact ih1 _ _ _ _
      | exact heraldref06_ahead.mono _ _ _
      | exact LeO.none _
      | refine LeO.ite ?_ ?_
      | refine LeO.bind ?_ (fun _ => ?_)
    · intro y0 y1 y2 y3
      unfold heraldref06_lengthRight.j1
      repeat' first
      | (with_reducible exact ih0 _ _ _ _ _)
      | (with_reducible exact ih1 _ _ _ _)
      | (with_reducible exact heraldref06_ahead.mono _ _ _)
      | (with_reducible exact LeO.refl _)
      | (with_reducible exact LeO.none _)
      | (with_reducible refine LeO.ite ?_ ?_)
      | (with_reducible refine LeO.bind ?_ (fun _ => ?_))
      | exact ih0 _ _ _ _ _
      | exact ih1 _ _ _ _
      | exact heraldref06_ahead.mono _ _ _
      | exact LeO.none _
      | refine LeO.ite ?_ ?_
      | refine LeO.bind ?_ (fun _ => ?_)
theorem heraldref06_lengthRight.mono : ∀ a0 a1 a2 k, LeO (heraldref06_lengthRight.f k a0 a1 a2) (heraldref06_lengthRight.f (k + 1) a0 a1 a2) := by
  intro a0 a1 a2 k
  obtain ⟨ih0, ih1⟩ := heraldref06_lengthRight.mono_l k
  unfold heraldref06_lengthRight.f
  repeat' first
      | (with_reducible exact ih0 _ _ _ _ _)
      | (with_reducible exact ih1 _ _ _ _)
      | (with_reducible exact heraldref06_ahead.mono _ _ _)
      | (with_reducible exact LeO.refl _)
      | (with_reducible exact LeO.none _)
      | (with_reducible refine LeO.ite ?_ ?_)
      | (with_reducible refine LeO.bind ?_ (fun _ => ?_))
      | exact ih0 _ _ _ _ _
      | exact ih1 _ _ _ _
      | exact heraldref06_ahead.mono _ _ _
      | exact LeO.none _
      | refine LeO.ite ?_ ?_
      | refine LeO.bind ?_ (fun _ => ?_)
set_option maxHeartbeats 8000000 in
set_option maxRecDepth 100000 in
theorem heraldref06_lengthRight.calls (k : Nat) (a0 : Int) (a1 : Int) (a2 : Int) (r : Bool) (w : World) (h : heraldref06_lengthRight.f k a0 a1 a2 = some r) :
    Calls Tryd.prog 65 #[.int .i64 a0, .int .i64 a1, .int .i64 a2] w fun e w' => e = .returned (.bool r) ∧ Drawn0 w w' := by
  have H : (if a0 = 0 then (heraldref06_lengthRight.j0 k a0 a1 a2 a0 (a0 == 0)) else (if a0 = 1 then (heraldref06_lengthRight.j0 k a0 a1 a2 a0 (a0 == 1)) else (heraldref06_lengthRight.j0 k a0 a1 a2 a0 (a0 == 5)))) = some r := h
  clear h
  have HC4 := Aside0.mk H
  clear H
  go_enter Tryd.func65, Tryd.ntmps65
  go_upto_if 8 with (fail)
  go_cut [8] (fun v8 wc => ∃ (kq : Nat) (x8_3 : Bool), v8 = .bool x8_3 ∧ Aside0 (heraldref06_lengthRight.j0 kq a0 a1 a2 a0 x8_3 = some r) ∧ Aside0 (kq ≤ k) ∧ Drawn0 w wc)
  case first =>
    have H := HC4.out
    clear HC4
    by_cases c5 : a0 = 0
    · rw [if_pos c5] at H
      have c5b0 : (a0 == 0) = true := beq_iff_eq.mpr c5
      have c5b1 : (a0 != 0) = false := bne_eq_false_iff_eq.mpr c5
      clear c5
      (first | rw [c5b0] | (simp only [i64_w, i32_w]; rw [c5b0]) | skip)
      have H' := Aside0.mk H
      clear H
      go_wp2
      go_meet
      case rel => exact ⟨_, ((a0 == 0)), (by first | rfl | (simp; done) | (simp [*]; done)), H', ⟨by first | omega | exact Nat.le_refl _⟩, by repeat (first | exact Drawn0.refl _ | apply Drawn0.step)⟩
    · rw [if_neg c5] at H
      have c5b0 : (a0 == 0) = false := beq_eq_false_iff_ne.mpr c5
      have c5b1 : (a0 != 0) = true := bne_iff_ne.mpr c5
      (first | rw [c5b0] | (simp only [i64_w, i32_w]; rw [c5b0]) | skip)
      by_cases c6 : a0 = 1
      · rw [if_pos c6] at H
        have c6b0 : (a0 == 1) = true := beq_iff_eq.mpr c6
        have c6b1 : (a0 != 1) = false := bne_eq_false_iff_eq.mpr c6
        clear c6
        have H' := Aside0.mk H
        clear H
        go_wp2
        go_meet
        case rel => exact ⟨_, ((a0 == 1)), (by first | rfl | (simp; done) | (simp [*]; done)), H', ⟨by first | omega | exact Nat.le_refl _⟩, by repeat (first | exact Drawn0.refl _ | apply Drawn0.step)⟩
      · rw [if_neg c6] at H
        have c6b0 : (a0 == 1) = false := beq_eq_false_iff_ne.mpr c6
        have c6b1 : (a0 != 1) = true := bne_iff_ne.mpr c6
        have H' := Aside0.mk H
        clear H
        go_wp2
        go_meet
        case rel => exact ⟨_, ((a0 == 5)), (by first | rfl | (simp; done) | (simp [*]; done)), H', ⟨by first | omega | exact Nat.le_refl _⟩, by repeat (first | exact Drawn0.refl _ | apply Drawn0.step)⟩
  case rest =>
    clear HC4
    try clear p2
    try clear c5
    try clear c5b0
    try clear c5b1
    try clear c6
    try clear c6b0
    try clear c6b1
    obtain ⟨kq, x8_3, rfl, HA, HJ3, ⟨mc3, rfl⟩⟩ := hcut
    cases kq with
    | zero => exact absurd HA.out (by simp [heraldref06_lengthRight.j0])
    | succ kj3 =>
      have H := HA.out
      clear HA
      simp only [heraldref06_lengthRight.j0] at H
      by_cases c7 : x8_3 = true
      · subst c7
        have H1 : ((heraldref06_ahead.f kj3 a0 a1).bind fun t108 => (some (decide (a2 ≥ t108)))) = some r := by rw [if_pos rfl] at H; exact H
        clear H
        have H := H1
        clear H1
        replace H := Option.bind_eq_some_iff.mp H
        obtain ⟨t108, A80, H⟩ := H
        replace H : (some (decide (a2 ≥ t108))) = some r := H
        have A8 := Aside0.mk A80
        clear A80
        obtain rfl := Option.some.inj H
        go_wp2_with (first | ((with_reducible refine gate_callee (f := 100) rfl ?_); refine goesL_ (some 15) rfl rfl Tryd.func100 (by kernel_rfl) rfl #[.int .i64 a0, .int .i64 a1] rfl (by (try simp only [List.map_toArray, List.map_cons, List.map_nil]); first | done | rfl | (simp only [List.length_drop, List.length_take]; rfl)) ?_; (with_reducible refine (heraldref06_ahead.calls kj3 a0 a1 t108 _ A8.out).mono ?_); rintro e w' ⟨rfl, ⟨nd, rfl⟩⟩; refine ⟨_, rfl, ?_⟩))
        go_ret
        exact ⟨by first | rfl | (simp; done) | (simp [*]; done), by repeat (first | exact Drawn0.refl _ | apply Drawn0.step)⟩
      · replace c7 := Bool.eq_false_iff.mpr c7
        subst c7
        have H1 : (if a0 = 2 then (some (a2 == 5)) else (if a0 = 3 then (heraldref06_lengthRight.j1 kj3 a1 a2 a0 (a0 == 3)) else (heraldref06_lengthRight.j1 kj3 a1 a2 a0 (a0 == 8)))) = some r := by rw [if_neg (show ¬ (false = true) by decide)] at H; exact H
        clear H
        have H := H1
        clear H1
        by_cases c9 : a0 = 2
        · rw [if_pos c9] at H
          have c9b0 : (a0 == 2) = true := beq_iff_eq.mpr c9
          have c9b1 : (a0 != 2) = false := bne_eq_false_iff_eq.mpr c9
          clear c9
          obtain rfl := Option.some.inj H
          go_wp2
          go_ret
          exact ⟨by first | rfl | (simp; done) | (simp [*]; done), by repeat (first | exact Drawn0.refl _ | apply Drawn0.step)⟩
        · rw [if_neg c9] at H
          have c9b0 : (a0 == 2) = false := beq_eq_false_iff_ne.mpr c9
          have c9b1 : (a0 != 2) = true := bne_iff_ne.mpr c9
          have HC10 := Aside0.mk H
          clear H
          go_upto_if 21 with (fail)
          go_cut [21] (fun v21 wc => ∃ (kq : Nat) (x21_9 : Bool), v21 = .bool x21_9 ∧ Aside0 (heraldref06_lengthRight.j1 kq a1 a2 a0 x21_9 = some r) ∧ Aside0 (kq ≤ kj3) ∧ Drawn0 w wc)
          case first =>
            have H := HC10.out
            clear HC10
            by_cases c11 : a0 = 3
            · rw [if_pos c11] at H
              have c11b0 : (a0 == 3) = true := beq_iff_eq.mpr c11
              have c11b1 : (a0 != 3) = false := bne_eq_false_iff_eq.mpr c11
              clear c11
              (first | rw [c11b0] | (simp only [i64_w, i32_w]; rw [c11b0]) | skip)
              have H' := Aside0.mk H
              clear H
              go_wp2
              go_meet
              case rel => exact ⟨_, ((a0 == 3)), (by first | rfl | (simp; done) | (simp [*]; done)), H', ⟨by have := HJ3.out; first | omega | exact Nat.le_refl _⟩, by repeat (first | exact Drawn0.refl _ | apply Drawn0.step)⟩
            · rw [if_neg c11] at H
              have c11b0 : (a0 == 3) = false := beq_eq_false_iff_ne.mpr c11
              have c11b1 : (a0 != 3) = true := bne_iff_ne.mpr c11
              (first | rw [c11b0] | (simp only [i64_w, i32_w]; rw [c11b0]) | skip)
              have H' := Aside0.mk H
              clear H
              go_wp2
              go_meet
              case rel => exact ⟨_, ((a0 == 8)), (by first | rfl | (simp; done) | (simp [*]; done)), H', ⟨by have := HJ3.out; first | omega | exact Nat.le_refl _⟩, by repeat (first | exact Drawn0.refl _ | apply Drawn0.step)⟩
          case rest =>
            clear HC10
            try clear c1
            try clear p2
            try clear c3
            try clear c5
            try clear c5b0
            try clear c5b1
            try clear c6
            try clear c6b0
            try clear c6b1
            try clear c7
            try clear c9
            try clear c9b0
            try clear c9b1
            try clear c10
            try clear c11
            try clear c11b0
            try clear c11b1
            try clear p2
            obtain ⟨kq, x21_9, rfl, HA, HJ9, ⟨mc9, rfl⟩⟩ := hcut
            cases kq with
            | zero => exact absurd HA.out (by simp [heraldref06_lengthRight.j1])
            | succ kj9 =>
              have H := HA.out
              clear HA
              simp only [heraldref06_lengthRight.j1] at H
              by_cases c12 : x21_9 = true
              · subst c12
                have H1 : (some (a2 == 4)) = some r := by rw [if_pos rfl] at H; exact H
                clear H
                have H := H1
                clear H1
                obtain rfl := Option.some.inj H
                go_wp2
                go_ret
                exact ⟨by first | rfl | (simp; done) | (simp [*]; done), by repeat (first | exact Drawn0.refl _ | apply Drawn0.step)⟩
              · replace c12 := Bool.eq_false_iff.mpr c12
                subst c12
                have H1 : (if a0 = 4 then (if (Int.tmod a2 6) = 0 then ((heraldref06_has.f a1 1).bind fun t109 => (if t109 = true then (some (a2 == 0)) else (some true))) else (some false)) else (if a0 = 6 then (some (a2 == 8)) else (if a0 = 7 then (some (decide (a2 ≥ 8))) else (some true)))) = some r := by rw [if_neg (show ¬ (false = true) by decide)] at H; exact H
                clear H
                have H := H1
                clear H1
                by_cases c13 : a0 = 4
                · rw [if_pos c13] at H
                  have c13b0 : (a0 == 4) = true := beq_iff_eq.mpr c13
                  have c13b1 : (a0 != 4) = false := bne_eq_false_iff_eq.mpr c13
                  clear c13
                  by_cases c14 : (Int.tmod a2 6) = 0
                  · rw [if_pos c14] at H
                    have c14b0 : ((Int.tmod a2 6) == 0) = true := beq_iff_eq.mpr c14
                    have c14b1 : ((Int.tmod a2 6) != 0) = false := bne_eq_false_iff_eq.mpr c14
                    clear c14
                    replace H := Option.bind_eq_some_iff.mp H
                    obtain ⟨t109, A150, H⟩ := H
                    replace H : (if t109 = true then (some (a2 == 0)) else (some true)) = some r := H
                    have A15 := Aside0.mk A150
                    clear A150
                    by_cases c16 : t109 = true
                    · subst c16
                      have H1 : (some (a2 == 0)) = some r := by rw [if_pos rfl] at H; exact H
                      clear H
                      have H := H1
                      clear H1
                      obtain rfl := Option.some.inj H
                      go_wp2_with (first | (go_at_call 101; (with_reducible refine (heraldref06_has.calls a1 1 true _ A15.out).mono ?_); rintro e w' ⟨rfl, ⟨nd, rfl⟩⟩))
                      go_ret
                      exact ⟨by first | rfl | (simp; done) | (simp [*]; done), by repeat (first | exact Drawn0.refl _ | apply Drawn0.step)⟩
                    · replace c16 := Bool.eq_false_iff.mpr c16
                      subst c16
                      have H1 : (some true) = some r := by rw [if_neg (show ¬ (false = true) by decide)] at H; exact H
                      clear H
                      have H := H1
                      clear H1
                      obtain rfl := Option.some.inj H
                      go_wp2_with (first | (go_at_call 101; (with_reducible refine (heraldref06_has.calls a1 1 false _ A15.out).mono ?_); rintro e w' ⟨rfl, ⟨nd, rfl⟩⟩))
                      go_ret
                      exact ⟨by first | rfl | (simp; done) | (simp [*]; done), by repeat (first | exact Drawn0.refl _ | apply Drawn0.step)⟩
                  · rw [if_neg c14] at H
                    have c14b0 : ((Int.tmod a2 6) == 0) = false := beq_eq_false_iff_ne.mpr c14
                    have c14b1 : ((Int.tmod a2 6) != 0) = true := bne_iff_ne.mpr c14
                    obtain rfl := Option.some.inj H
                    go_wp2
                    go_ret
                    exact ⟨by first | rfl | (simp; done) | (simp [*]; done), by repeat (first | exact Drawn0.refl _ | apply Drawn0.step)⟩
                · rw [if_neg c13] at H
                  have c13b0 : (a0 == 4) = false := beq_eq_false_iff_ne.mpr c13
                  have c13b1 : (a0 != 4) = true := bne_iff_ne.mpr c13
                  by_cases c17 : a0 = 6
                  · rw [if_pos c17] at H
                    have c17b0 : (a0 == 6) = true := beq_iff_eq.mpr c17
                    have c17b1 : (a0 != 6) = false := bne_eq_false_iff_eq.mpr c17
                    clear c17
                    obtain rfl := Option.some.inj H
                    go_wp2
                    go_ret
                    exact ⟨by first | rfl | (simp; done) | (simp [*]; done), by repeat (first | exact Drawn0.refl _ | apply Drawn0.step)⟩
                  · rw [if_neg c17] at H
                    have c17b0 : (a0 == 6) = false := beq_eq_false_iff_ne.mpr c17
                    have c17b1 : (a0 != 6) = true := bne_iff_ne.mpr c17
                    by_cases c18 : a0 = 7
                    · rw [if_pos c18] at H
                      have c18b0 : (a0 == 7) = true := beq_iff_eq.mpr c18
                      have c18b1 : (a0 != 7) = false := bne_eq_false_iff_eq.mpr c18
                      clear c18
                      obtain rfl := Option.some.inj H
                      go_wp2
                      go_ret
                      exact ⟨by first | rfl | (simp; done) | (simp [*]; done), by repeat (first | exact Drawn0.refl _ | apply Drawn0.step)⟩
                    · rw [if_neg c18] at H
                      have c18b0 : (a0 == 7) = false := beq_eq_false_iff_ne.mpr c18
                      have c18b1 : (a0 != 7) = true := bne_iff_ne.mpr c18
                      obtain rfl := Option.some.inj H
                      go_wp2
                      go_ret
                      exact ⟨by first | rfl | (simp; done) | (simp [*]; done), by repeat (first | exact Drawn0.refl _ | apply Drawn0.step)⟩

/-! ### heraldlaw06_sameParams: function 24 -/
def heraldlaw06_sameParams.l0 : Nat → List (S32) → List (S32) → Int → Option (Bool)
  | 0, _, _, _ => none
  | k + 1, x0, x1, x5 => if x5 < (x0.length : Int) then (if 0 ≤ x5 then (if x5 < (x1.length : Int) then (if (!(((rd_T32 x0 x5).f0) == ((rd_T32 x1 x5).f0)) || (!(((rd_T32 x0 x5).f1) == ((rd_T32 x1 x5).f1)))) = true then (some false) else (heraldlaw06_sameParams.l0 k x0 x1 (wrap64 (x5 + 1)))) else (none)) else (none)) else (some true)
def heraldlaw06_sameParams.f (k : Nat) (l0 : List (S32)) (l1 : List (S32)) : Option (Bool) := if (l0.length : Int) = (l1.length : Int) then (heraldlaw06_sameParams.l0 k l0 l1 0) else (some false)
theorem heraldlaw06_sameParams.mono_l : ∀ k, (∀ y0 y1 y2, LeO (heraldlaw06_sameParams.l0 k y0 y1 y2) (heraldlaw06_sameParams.l0 (k + 1) y0 y1 y2))
  | 0 => fun _ _ _ r h => by simp [heraldlaw06_sameParams.l0] at h
  | k + 1 => by
    have ih0 := heraldlaw06_sameParams.mono_l k
    · intro y0 y1 y2
      unfold heraldlaw06_sameParams.l0
      repeat' first
      | (with_reducible exact ih0 _ _ _)
      | (with_reducible exact LeO.refl _)
      | (with_reducible exact LeO.none _)
      | (with_reducible refine LeO.ite ?_ ?_)
      | (with_reducible refine LeO.bind ?_ (fun _ => ?_))
      | exact ih0 _ _ _
      | exact LeO.none _
      | refine LeO.ite ?_ ?_
      | refine LeO.bind ?_ (fun _ => ?_)
theorem heraldlaw06_sameParams.mono : ∀ a0 a1 k, LeO (heraldlaw06_sameParams.f k a0 a1) (heraldlaw06_sameParams.f (k + 1) a0 a1) := by
  intro a0 a1 k
  have ih0 := heraldlaw06_sameParams.mono_l k
  unfold heraldlaw06_sameParams.f
  repeat' first
      | (with_reducible exact ih0 _ _ _)
      | (with_reducible exact LeO.refl _)
      | (with_reducible exact LeO.none _)
      | (with_reducible refine LeO.ite ?_ ?_)
      | (with_reducible refine LeO.bind ?_ (fun _ => ?_))
      | exact ih0 _ _ _
      | exact LeO.none _
      | refine LeO.ite ?_ ?_
      | refine LeO.bind ?_ (fun _ => ?_)
set_option maxHeartbeats 8000000 in
set_option maxRecDepth 100000 in
theorem heraldlaw06_sameParams.calls (k : Nat) (A0 : Option Addr) (c0 : Nat) (l0 : List (S32)) (A1 : Option Addr) (c1 : Nat) (l1 : List (S32)) (r : Bool) (w : World) (hr0 : Kd.C k32 w A0 l0.length l0) (hc0 : l0.length ≤ c0) (hr1 : Kd.C k32 w A1 l1.length l1) (hc1 : l1.length ≤ c1) (h : heraldlaw06_sameParams.f k l0 l1 = some r) :
    Calls Tryd.prog 24 #[.slice A0 l0.length c0, .slice A1 l1.length c1] w fun e w' => e = .returned (.bool r) ∧ Drawn0 w w' := by
  have hu32 := Tryd.underlying32
  have HR0 := Aside0.mk hr0
  have HC0 := Aside0.mk hc0
  clear hr0 hc0
  have HR1 := Aside0.mk hr1
  have HC1 := Aside0.mk hc1
  clear hr1 hc1
  have H : (if (l0.length : Int) = (l1.length : Int) then (heraldlaw06_sameParams.l0 k l0 l1 0) else (some false)) = some r := h
  clear h
  by_cases c3 : (l0.length : Int) = (l1.length : Int)
  · rw [if_pos c3] at H
    have c3b0 : ((l0.length : Int) == (l1.length : Int)) = true := beq_iff_eq.mpr c3
    have c3b1 : ((l0.length : Int) != (l1.length : Int)) = false := bne_eq_false_iff_eq.mpr c3
    have c3b2 : (l0.length == l1.length) = true := by first | simpa using c3 | (simp at c3 ⊢; omega)
    clear c3
    have H' := Aside0.mk H
    clear H
    go_enter Tryd.func24, Tryd.ntmps24
    go_wp2
    repeat (go_quiet (fail); try go_wp2)
    go_loopg [5] k (fun kq v5 w' => ∃ (x5_1 : Int), v5 = .int .i64 x5_1 ∧ Aside0 (heraldlaw06_sameParams.l0 kq l0 l1 x5_1 = some r) ∧ Aside0 (kq ≤ k) ∧ Drawn0 w w')
    case atStart => exact ⟨(0), (by first | rfl | (simp; done) | (simp [*]; done)), H', ⟨Nat.le_refl _⟩, by repeat (first | exact Drawn0.refl _ | apply Drawn0.step)⟩
    case round =>
      clear H'
      try clear c1
      try clear c2
      try clear p2
      try clear c3
      try clear c3b0
      try clear c3b1
      try clear c3b2
      obtain ⟨x5_1, rfl, HA, HK1, ⟨m1, rfl⟩⟩ := hrel
      cases gk with
      | zero => exact absurd HA.out (by simp [heraldlaw06_sameParams.l0])
      | succ k1 =>
        have H := HA.out
        clear HA
        simp only [heraldlaw06_sameParams.l0] at H
        by_cases c4 : x5_1 < (l0.length : Int)
        · rw [if_pos c4] at H
          have c4b0 : decide (x5_1 < (l0.length : Int)) = true := decide_eq_true c4
          clear c4
          by_cases c5 : 0 ≤ x5_1
          · rw [if_pos c5] at H
            have c5b0 : decide (0 ≤ x5_1) = true := decide_eq_true c5
            clear c5
            by_cases c6 : x5_1 < (l1.length : Int)
            · rw [if_pos c6] at H
              have c6b0 : decide (x5_1 < (l1.length : Int)) = true := decide_eq_true c6
              clear c6
              by_cases c7 : (!(((rd_T32 l0 x5_1).f0) == ((rd_T32 l1 x5_1).f0)) || (!(((rd_T32 l0 x5_1).f1) == ((rd_T32 l1 x5_1).f1)))) = true
              · rw [if_pos c7] at H
                have c7b0 : (!(((rd_T32 l0 x5_1).f0) == ((rd_T32 l1 x5_1).f0)) || (!(((rd_T32 l0 x5_1).f1) == ((rd_T32 l1 x5_1).f1)))) = true := c7
                clear c7
                obtain rfl := Option.some.inj H
                have p110 : 0 ≤ (x5_1 : Int) := of_decide_eq_true (by first | (with_reducible assumption) | assumption)
                have q110 : x5_1 < (l0.length : Int) := of_decide_eq_true (by first | (with_reducible assumption) | assumption)
                obtain ⟨ad110, e110, hx110_0, hx110_1⟩ := at_T32 HR0.out x5_1 p110 q110
                cases e110
                replace p110 := eq_true p110
                replace q110 := eq_true q110
                have p111 : 0 ≤ (x5_1 : Int) := of_decide_eq_true (by first | (with_reducible assumption) | assumption)
                have q111 : x5_1 < (l1.length : Int) := of_decide_eq_true (by first | (with_reducible assumption) | assumption)
                obtain ⟨ad111, e111, hx111_0, hx111_1⟩ := at_T32 HR1.out x5_1 p111 q111
                cases e111
                replace p111 := eq_true p111
                replace q111 := eq_true q111
                go_wp2
                repeat (go_quiet (fail); try go_wp2)
                go_ret
                exact ⟨by first | rfl | (simp; done) | (simp [*]; done), by repeat (first | exact Drawn0.refl _ | apply Drawn0.step)⟩
              · rw [if_neg c7] at H
                have c7b0 : (!(((rd_T32 l0 x5_1).f0) == ((rd_T32 l1 x5_1).f0)) || (!(((rd_T32 l0 x5_1).f1) == ((rd_T32 l1 x5_1).f1)))) = false := by simpa using c7
                clear c7
                have H' := Aside0.mk H
                clear H
                have p110 : 0 ≤ (x5_1 : Int) := of_decide_eq_true (by first | (with_reducible assumption) | assumption)
                have q110 : x5_1 < (l0.length : Int) := of_decide_eq_true (by first | (with_reducible assumption) | assumption)
                obtain ⟨ad110, e110, hx110_0, hx110_1⟩ := at_T32 HR0.out x5_1 p110 q110
                cases e110
                replace p110 := eq_true p110
                replace q110 := eq_true q110
                have p111 : 0 ≤ (x5_1 : Int) := of_decide_eq_true (by first | (with_reducible assumption) | assumption)
                have q111 : x5_1 < (l1.length : Int) := of_decide_eq_true (by first | (with_reducible assumption) | assumption)
                obtain ⟨ad111, e111, hx111_0, hx111_1⟩ := at_T32 HR1.out x5_1 p111 q111
                cases e111
                replace p111 := eq_true p111
                replace q111 := eq_true q111
                go_wp2
                repeat (go_quiet (fail); try go_wp2)
                go_roundg k1
                case measure => have := HK1.out; omega
                case rel => exact ⟨(wrap64 (x5_1 + 1)), (by first | rfl | (simp; done) | (simp [*]; done)), H', ⟨by have := HK1.out; omega⟩, by repeat (first | exact Drawn0.refl _ | apply Drawn0.step)⟩
            · rw [if_neg c6] at H
              exact absurd H (by simp)
          · rw [if_neg c5] at H
            exact absurd H (by simp)
        · rw [if_neg c4] at H
          have c4b0 : decide (x5_1 < (l0.length : Int)) = false := decide_eq_false c4
          clear c4
          obtain rfl := Option.some.inj H
          go_wp2
          repeat (go_quiet (fail); try go_wp2)
          go_ret
          exact ⟨by first | rfl | (simp; done) | (simp [*]; done), by repeat (first | exact Drawn0.refl _ | apply Drawn0.step)⟩
  · rw [if_neg c3] at H
    have c3b0 : ((l0.length : Int) == (l1.length : Int)) = false := beq_eq_false_iff_ne.mpr c3
    have c3b1 : ((l0.length : Int) != (l1.length : Int)) = true := bne_iff_ne.mpr c3
    have c3b2 : (l0.length == l1.length) = false := by first | simpa using c3 | (simp at c3 ⊢; omega)
    obtain rfl := Option.some.inj H
    go_enter Tryd.func24, Tryd.ntmps24
    go_wp2
    repeat (go_quiet (fail); try go_wp2)
    go_ret
    exact ⟨by first | rfl | (simp; done) | (simp [*]; done), by repeat (first | exact Drawn0.refl _ | apply Drawn0.step)⟩

/-! ### heraldlaw06_few: function 23 -/
def heraldlaw06_few.l0 : Nat → List (S32) → List (S32) → Int → Option ((List (S32)))
  | 0, _, _, _ => none
  | k + 1, x0, x3, x4 => if x4 < (x0.length : Int) then (if x4 < 2730 then (if 0 ≤ x4 then (if x3.length < 8796093022208 then (heraldlaw06_few.l0 k x0 (x3 ++ [(⟨Go.bits .and .i64 ((rd_T32 x0 x4).f0) 65535, Go.bits .and .i64 ((rd_T32 x0 x4).f1) 4294967295⟩ : S32)]) (wrap64 (x4 + 1))) else (none)) else (none)) else (some x3)) else (some x3)
def heraldlaw06_few.f (k : Nat) (l0 : List (S32)) : Option ((List (S32))) := heraldlaw06_few.l0 k l0 ([] : List (S32)) 0
theorem heraldlaw06_few.mono_l : ∀ k, (∀ y0 y1 y2, LeO (heraldlaw06_few.l0 k y0 y1 y2) (heraldlaw06_few.l0 (k + 1) y0 y1 y2))
  | 0 => fun _ _ _ r h => by simp [heraldlaw06_few.l0] at h
  | k + 1 => by
    have ih0 := heraldlaw06_few.mono_l k
    · intro y0 y1 y2
      unfold heraldlaw06_few.l0
      repeat' first
      | (with_reducible exact ih0 _ _ _)
      | (with_reducible exact LeO.refl _)
      | (with_reducible exact LeO.none _)
      | (with_reducible refine LeO.ite ?_ ?_)
      | (with_reducible refine LeO.bind ?_ (fun _ => ?_))
      | exact ih0 _ _ _
      | exact LeO.none _
      | refine LeO.ite ?_ ?_
      | refine LeO.bind ?_ (fun _ => ?_)
theorem heraldlaw06_few.mono : ∀ a0 k, LeO (heraldlaw06_few.f k a0) (heraldlaw06_few.f (k + 1) a0) := by
  intro a0 k
  have ih0 := heraldlaw06_few.mono_l k
  unfold heraldlaw06_few.f
  repeat' first
      | (with_reducible exact ih0 _ _ _)
      | (with_reducible exact LeO.refl _)
      | (with_reducible exact LeO.none _)
      | (with_reducible refine LeO.ite ?_ ?_)
      | (with_reducible refine LeO.bind ?_ (fun _ => ?_))
      | exact ih0 _ _ _
      | exact LeO.none _
      | refine LeO.ite ?_ ?_
      | refine LeO.bind ?_ (fun _ => ?_)
def heraldlaw06_few.T5 : Bool × List (List Nat × List Nat) := (true, [([], []), ([], []), ([], []), ([1, 2], [1, 2]), ([3], [3]), ([4], [4]), ([5], [5]), ([], []), ([], []), ([7, 8], [7, 8]), ([9], [9]), ([10], [10]), ([11], [11]), ([6, 12], [6, 12]), ([13], [13]), ([0, 14], [0, 14]), ([15, 15, 0, 1, 2, 3, 4, 5, 6, 7, 8, 9, 10, 11, 12, 13, 14, 15], [0, 15])])
def heraldlaw06_few.B5 : List Nat := [0, 0, 0, 6, 14, 30, 62, 0, 0, 384, 896, 1920, 3968, 8190, 16382, 32767, 65535]
theorem heraldlaw06_few.tab5 : rtab .any (opsOf Tryd.f23 5) = heraldlaw06_few.T5 := by kernel_rfl
theorem heraldlaw06_few.bits5 : waitsOk heraldlaw06_few.T5.2 heraldlaw06_few.B5 = true := by kernel_rfl
set_option maxHeartbeats 8000000 in
set_option maxRecDepth 100000 in
theorem heraldlaw06_few.calls (k : Nat) (A0 : Option Addr) (c0 : Nat) (l0 : List (S32)) (r : List (S32)) (w : World) (hr0 : Kd.C k32 w A0 l0.length l0) (hc0 : l0.length ≤ c0) (h : heraldlaw06_few.f k l0 = some r) :
    Calls Tryd.prog 23 #[.slice A0 l0.length c0] w fun e w' => ∃ v0_ : Value, e = .returned (v0_) ∧ Kd.R k32 32 w' w.heap.size (fun _ => True) v0_ r ∧ Below w.heap.size w w' := by
  have hu32 := Tryd.underlying32
  have HR0 := Aside0.mk hr0
  have HC0 := Aside0.mk hc0
  clear hr0 hc0
  have HB := Aside0.mk (Below.refl w.heap.size w)
  have H : (heraldlaw06_few.l0 k l0 ([] : List (S32)) 0) = some r := h
  clear h
  have H' := Aside0.mk H
  clear H
  go_enter Tryd.func23, Tryd.ntmps23
  go_wp2
  go_loopg [3, 4] k (fun kq v3 v4 w' => ∃ (x3_1 : List (S32)) (x4_1 : Int), v4 = .int .i64 x4_1 ∧ Aside0 (heraldlaw06_few.l0 kq l0 x3_1 x4_1 = some r) ∧ Aside0 (kq ≤ k) ∧ Aside0 (Kd.R k32 32 w' w.heap.size (fun _ => True) v3 x3_1) ∧ Aside0 (Below w.heap.size w w'))
  case atStart => exact ⟨(([] : List (S32))), (0), (by first | rfl | (simp; done) | (simp [*]; done)), H', ⟨Nat.le_refl _⟩, ⟨by first | exact Kd.R_nil _ _ _ _ _ | exact Kd.N_nil _ _ _ _ _ | exact Kd.V_nil _ _ _ _ _ | exact Kd.Q_nil _ _ _ _ _ | exact Kd.S_nil _ _ _ _ _⟩, ⟨by repeat (first | (with_reducible first | exact HB.out | apply below_alloc | apply pw_below_drewN | apply below_drew1) | exact HB.out)⟩⟩
  case round =>
    clear H'
    obtain ⟨x3_1, x4_1, rfl, HA, HK1, HO_3, HB⟩ := hrel
    cases gk with
    | zero => exact absurd HA.out (by simp [heraldlaw06_few.l0])
    | succ k1 =>
      have H := HA.out
      clear HA
      simp only [heraldlaw06_few.l0] at H
      by_cases c2 : x4_1 < (l0.length : Int)
      · rw [if_pos c2] at H
        have c2b0 : decide (x4_1 < (l0.length : Int)) = true := decide_eq_true c2
        clear c2
        by_cases c3 : x4_1 < 2730
        · rw [if_pos c3] at H
          have c3b0 : decide (x4_1 < 2730) = true := decide_eq_true c3
          clear c3
          by_cases c4 : 0 ≤ x4_1
          · rw [if_pos c4] at H
            have c4b0 : decide (0 ≤ x4_1) = true := decide_eq_true c4
            clear c4
            by_cases c5 : x3_1.length < 8796093022208
            · rw [if_pos c5] at H
              have LMc5 := Aside0.mk c5
              clear c5
              obtain ⟨y114, hy114⟩ : ∃ y_ : List (S32), y_ = (x3_1 ++ [(⟨Go.bits .and .i64 ((rd_T32 l0 x4_1).f0) 65535, Go.bits .and .i64 ((rd_T32 l0 x4_1).f1) 4294967295⟩ : S32)]) := ⟨_, rfl⟩
              replace H : (heraldlaw06_few.l0 k1 l0 y114 (wrap64 (x4_1 + 1))) = some r := by first | (rw [hy114]; with_reducible exact H) | (have H2_ := (Option.bind_some _ _).symm.trans H; rw [hy114]; with_reducible exact H2_) | (have H2_ := (Option.bind_some _ _).symm.trans H; with_reducible exact H2_) | with_reducible exact H | (rw [hy114]; exact H) | exact H
              have Ny114 := Aside0.mk hy114
              clear hy114
              have H' := Aside0.mk H
              clear H
              try go_wp2
              have n0_ := Aside0.mk (Kd.R_drew HO_3.out)
              have n1_ := Aside0.mk (below_drew1 HB.out)
              clear HO_3
              clear HB
              have HO_3 := n0_
              have HB := n1_
              clear n0_ n1_
              have p112 : 0 ≤ (x4_1 : Int) := of_decide_eq_true (by first | (with_reducible assumption) | assumption)
              have q112 : x4_1 < (l0.length : Int) := of_decide_eq_true (by first | (with_reducible assumption) | assumption)
              obtain ⟨ad112, e112, hx112_0, hx112_1⟩ := at_T32 HR0.out x4_1 p112 q112
              have hw112_1 := hx112_1
              have hw112_0 := hx112_0
              cases e112
              replace hx112_0 := (HB.out.cell (World.block_lt_of_cell? w _ hx112_0)).trans hx112_0
              replace hx112_1 := (HB.out.cell (World.block_lt_of_cell? w _ hx112_1)).trans hx112_1
              replace p112 := eq_true p112
              replace q112 := eq_true q112
              have p113 : 0 ≤ (x4_1 : Int) := of_decide_eq_true (by first | (with_reducible assumption) | assumption)
              have q113 : x4_1 < (l0.length : Int) := of_decide_eq_true (by first | (with_reducible assumption) | assumption)
              obtain ⟨ad113, e113, hx113_0, hx113_1⟩ := at_T32 HR0.out x4_1 p113 q113
              have hw113_1 := hx113_1
              have hw113_0 := hx113_0
              obtain rfl : ad112 = ad113 := (by injection e113)
              replace hx113_0 := (HB.out.cell (World.block_lt_of_cell? w _ hx113_0)).trans hx113_0
              replace hx113_1 := (HB.out.cell (World.block_lt_of_cell? w _ hx113_1)).trans hx113_1
              replace p113 := eq_true p113
              replace q113 := eq_true q113
              refine start_ (n := 17) (S := fun w' => w'.cell? (ad112.add ((x4_1).toNat * 2)) = some (.int .i64 ((rd_T32 l0 x4_1).f0)) ∧ w'.cell? ⟨(ad112.add ((x4_1).toNat * 2)).block, (ad112.add ((x4_1).toNat * 2)).off + 1, none⟩ = some (.int .i64 ((rd_T32 l0 x4_1).f1)) ∧ w'.cell? (ad112.add ((x4_1).toNat * 2)) = some (.int .i64 ((rd_T32 l0 x4_1).f0)) ∧ w'.cell? ⟨(ad112.add ((x4_1).toNat * 2)).block, (ad112.add ((x4_1).toNat * 2)).off + 1, none⟩ = some (.int .i64 ((rd_T32 l0 x4_1).f1))) (ds := []) #[false, false, false, false, false, false, false, false, false, false, false, false, false, false, false, false, false] (by kernel_rfl) rfl rfl ⟨((HB.out.cell (World.block_lt_of_cell? w _ hw112_0)).trans hw112_0), ((HB.out.cell (World.block_lt_of_cell? w _ hw112_1)).trans hw112_1), ((HB.out.cell (World.block_lt_of_cell? w _ hw113_0)).trans hw113_0), ((HB.out.cell (World.block_lt_of_cell? w _ hw113_1)).trans hw113_1)⟩ (fun hHeld => ?_); refine with_tabW heraldlaw06_few.tab5 heraldlaw06_few.bits5 (fun HT_ HW_ => ?_)
              generalize wr.drew = w6 at HO_3 HB hx112_0 hx112_1 hx113_0 hx113_1 hHeld ⊢
              refine pure_ (i := 0) (N := some 15) (v := ?_) (a' := ?_) #[true, false, false, false, false, false, false, false, false, false, false, false, false, false, false, false, false] rfl rfl (any_of HT_.out (by kernel_rfl)) (fun _ _ _ h => h) (Or.inl ⟨by rfl, ?_⟩) ?_ ?_
              rotate_left
              · intro w'
                go_simp
                with_reducible rfl
              rotate_left
              · simp only [Act.put, List.setIfInBounds_toArray, List.set_cons_zero, List.set_cons_succ, i64_w, i32_w]
                rfl
              refine pure_ (i := 1) (N := some 16) (v := ?_) (a' := ?_) #[true, true, false, false, false, false, false, false, false, false, false, false, false, false, false, false, false] rfl rfl (any_of HT_.out (by kernel_rfl)) (fun _ _ _ h => h) (Or.inl ⟨by rfl, ?_⟩) ?_ ?_
              rotate_left
              · intro w'
                go_simp
                with_reducible rfl
              rotate_left
              · simp only [Act.put, List.setIfInBounds_toArray, List.set_cons_zero, List.set_cons_succ, i64_w, i32_w]
                rfl
              refine pure_ (i := 2) (N := some 17) (v := ?_) (a' := ?_) #[true, true, true, false, false, false, false, false, false, false, false, false, false, false, false, false, false] rfl rfl (any_of HT_.out (by kernel_rfl)) (fun _ _ _ h => h) (Or.inl ⟨by rfl, ?_⟩) ?_ ?_
              rotate_left
              · intro w'
                go_simp
                with_reducible rfl
              rotate_left
              · simp only [Act.put, List.setIfInBounds_toArray, List.set_cons_zero, List.set_cons_succ, i64_w, i32_w]
                rfl
              refine pure_ (i := 3) (N := some 18) (v := ?_) (a' := ?_) #[true, true, true, true, false, false, false, false, false, false, false, false, false, false, false, false, false] rfl rfl (any_of HT_.out (by kernel_rfl)) (fun _ _ _ h => h) (Or.inl ⟨by rfl, ?_⟩) ?_ ?_
              rotate_left
              · intro w'
                go_simp
                with_reducible rfl
              rotate_left
              · simp only [Act.put, List.setIfInBounds_toArray, List.set_cons_zero, List.set_cons_succ, i64_w, i32_w]
                rfl
              refine pure_ (i := 4) (N := some 19) (v := ?_) (a' := ?_) #[true, true, true, true, true, false, false, false, false, false, false, false, false, false, false, false, false] rfl rfl (any_of HT_.out (by kernel_rfl)) (fun _ _ _ h => h) (Or.inl ⟨by rfl, ?_⟩) ?_ ?_
              rotate_left
              · intro w'
                go_simp
                with_reducible rfl
              rotate_left
              · simp only [Act.put, List.setIfInBounds_toArray, List.set_cons_zero, List.set_cons_succ, i64_w, i32_w]
                rfl
              refine pure_ (i := 7) (N := some 22) (v := ?_) (a' := ?_) #[true, true, true, true, true, false, false, true, false, false, false, false, false, false, false, false, false] rfl rfl (any_of HT_.out (by kernel_rfl)) (fun _ _ _ h => h) (Or.inl ⟨by rfl, ?_⟩) ?_ ?_
              rotate_left
              · intro w'
                go_simp
                with_reducible rfl
              rotate_left
              · simp only [Act.put, List.setIfInBounds_toArray, List.set_cons_zero, List.set_cons_succ, i64_w, i32_w]
                rfl
              refine pure_ (i := 8) (N := some 23) (v := ?_) (a' := ?_) #[true, true, true, true, true, false, false, true, true, false, false, false, false, false, false, false, false] rfl rfl (any_of HT_.out (by kernel_rfl)) (fun _ _ _ h => h) (Or.inl ⟨by rfl, ?_⟩) ?_ ?_
              rotate_left
              · intro w'
                go_simp
                with_reducible rfl
              rotate_left
              · simp only [Act.put, List.setIfInBounds_toArray, List.set_cons_zero, List.set_cons_succ, i64_w, i32_w]
                rfl
              refine pure_ (i := 9) (N := some 24) (v := ?_) (a' := ?_) #[true, true, true, true, true, false, false, true, true, true, false, false, false, false, false, false, false] rfl rfl (any_of HT_.out (by kernel_rfl)) (fun _ _ _ h => h) (Or.inl ⟨by rfl, ?_⟩) ?_ ?_
              rotate_left
              · intro w'
                go_simp
                with_reducible rfl
              rotate_left
              · simp only [Act.put, List.setIfInBounds_toArray, List.set_cons_zero, List.set_cons_succ, i64_w, i32_w]
                rfl
              refine pure_ (i := 10) (N := some 25) (v := ?_) (a' := ?_) #[true, true, true, true, true, false, false, true, true, true, true, false, false, false, false, false, false] rfl rfl (any_of HT_.out (by kernel_rfl)) (fun _ _ _ h => h) (Or.inl ⟨by rfl, ?_⟩) ?_ ?_
              rotate_left
              · intro w'
                go_simp
                with_reducible rfl
              rotate_left
              · simp only [Act.put, List.setIfInBounds_toArray, List.set_cons_zero, List.set_cons_succ, i64_w, i32_w]
                rfl
              refine take_ (i := 5) (N := some 20) (v := ?_) (a' := ?_) #[true, true, true, true, true, true, false, true, true, true, true, false, false, false, false, false, false] rfl rfl (take_ofW HT_.out HW_.out (by kernel_rfl)) (fun _ _ _ h => h) (Or.inl ⟨by rfl, ?_⟩) hHeld ?_ ?_
              rotate_left
              · rintro w' ⟨s0, s1, s2, s3⟩
                go_simp
                with_reducible rfl
              rotate_left
              · simp only [Act.put, List.setIfInBounds_toArray, List.set_cons_zero, List.set_cons_succ, i64_w, i32_w]
                rfl
              refine pure_ (i := 6) (N := some 21) (v := ?_) (a' := ?_) #[true, true, true, true, true, true, true, true, true, true, true, false, false, false, false, false, false] rfl rfl (any_of HT_.out (by kernel_rfl)) (fun _ _ _ h => h) (Or.inl ⟨by rfl, ?_⟩) ?_ ?_
              rotate_left
              · intro w'
                go_simp
                with_reducible rfl
              rotate_left
              · simp only [Act.put, List.setIfInBounds_toArray, List.set_cons_zero, List.set_cons_succ, i64_w, i32_w]
                rfl
              refine take_ (i := 11) (N := some 26) (v := ?_) (a' := ?_) #[true, true, true, true, true, true, true, true, true, true, true, true, false, false, false, false, false] rfl rfl (take_ofW HT_.out HW_.out (by kernel_rfl)) (fun _ _ _ h => h) (Or.inl ⟨by rfl, ?_⟩) hHeld ?_ ?_
              rotate_left
              · rintro w' ⟨s0, s1, s2, s3⟩
                go_simp
                with_reducible rfl
              rotate_left
              · simp only [Act.put, List.setIfInBounds_toArray, List.set_cons_zero, List.set_cons_succ, i64_w, i32_w]
                rfl
              refine pure_ (i := 12) (N := some 27) (v := ?_) (a' := ?_) #[true, true, true, true, true, true, true, true, true, true, true, true, true, false, false, false, false] rfl rfl (any_of HT_.out (by kernel_rfl)) (fun _ _ _ h => h) (Or.inl ⟨by rfl, ?_⟩) ?_ ?_
              rotate_left
              · intro w'
                go_simp
                with_reducible rfl
              rotate_left
              · simp only [Act.put, List.setIfInBounds_toArray, List.set_cons_zero, List.set_cons_succ, i64_w, i32_w]
                rfl
              refine pure_ (i := 13) (N := some 28) (v := ?_) (a' := ?_) #[true, true, true, true, true, true, true, true, true, true, true, true, true, true, false, false, false] rfl rfl (any_of HT_.out (by kernel_rfl)) (fun _ _ _ h => h) (Or.inl ⟨by rfl, ?_⟩) ?_ ?_
              rotate_left
              · intro w'
                go_simp
                with_reducible rfl
              rotate_left
              · simp only [Act.put, List.setIfInBounds_toArray, List.set_cons_zero, List.set_cons_succ, i64_w, i32_w]
                rfl
              refine one_ (i := 14) (N := some 29) #[true, true, true, true, true, true, true, true, true, true, true, true, true, true, true, false, false] rfl rfl (one_of HT_.out (by kernel_rfl)) (by decide) (fun K hK => ?_)
              refine value_ (w1 := ?_) (v := ?_) (by rfl) rfl ?_ ?_
              rotate_left 2
              · go_simp
                constructor
                · rfl
                · rfl
              refine hK.out _ _ ⟨(World.cell?_alloc_lt _ _ _ (World.block_lt_of_cell? _ _ (((HB.out.cell (World.block_lt_of_cell? w _ hw112_0)).trans hw112_0)))).trans (((HB.out.cell (World.block_lt_of_cell? w _ hw112_0)).trans hw112_0)), (World.cell?_alloc_lt _ _ _ (World.block_lt_of_cell? _ _ (((HB.out.cell (World.block_lt_of_cell? w _ hw112_1)).trans hw112_1)))).trans (((HB.out.cell (World.block_lt_of_cell? w _ hw112_1)).trans hw112_1)), (World.cell?_alloc_lt _ _ _ (World.block_lt_of_cell? _ _ (((HB.out.cell (World.block_lt_of_cell? w _ hw113_0)).trans hw113_0)))).trans (((HB.out.cell (World.block_lt_of_cell? w _ hw113_0)).trans hw113_0)), (World.cell?_alloc_lt _ _ _ (World.block_lt_of_cell? _ _ (((HB.out.cell (World.block_lt_of_cell? w _ hw113_1)).trans hw113_1)))).trans (((HB.out.cell (World.block_lt_of_cell? w _ hw113_1)).trans hw113_1))⟩ (fun hHeld => ?_)
              clear hK K
              refine norm_ (a' := ?_) ?_ ?_
              rotate_left
              · show Act.put _ (some 29) _ = _
                simp only [Act.put, List.setIfInBounds_toArray, List.set_cons_zero, List.set_cons_succ, i64_w, i32_w]
                rfl
              refine one_ (i := 15) (N := some 30) #[true, true, true, true, true, true, true, true, true, true, true, true, true, true, true, true, false] rfl rfl (one_of HT_.out (by kernel_rfl)) (by decide) (fun K hK => ?_)
              refine Kd.R_append_step k32 (w0 := w) w.heap.size (by rfl) (.tmp 15) (.tmp 29) 22 32 (.agg #[(.int .i64 0), (.int .i64 0)]) 16 rfl Tryd.underlying22 info32 rfl (by decide) (by omega) u3 x3_1 (⟨Go.bits .and .i64 ((rd_T32 l0 x4_1).f0) 65535, Go.bits .and .i64 ((rd_T32 l0 x4_1).f1) 4294967295⟩ : S32) [.int .i64 (Go.bits .and .i64 ((rd_T32 l0 x4_1).f0) 65535), .int .i64 (Go.bits .and .i64 ((rd_T32 l0 x4_1).f1) 4294967295)] (fun _ => True) (fun _ => False) rfl rfl ?aP (fun _ hk => hk.elim) ?aF ?aO ?aB ?aS ?aL ?_
              (case aP => exact k32_mkM _ _ _ (⟨Go.bits .and .i64 ((rd_T32 l0 x4_1).f0) 65535, Go.bits .and .i64 ((rd_T32 l0 x4_1).f1) 4294967295⟩ : S32))
              (case aB => exact (by repeat (first | (with_reducible first | exact HB.out | apply below_alloc | apply pw_below_drewN | apply below_drew1) | exact HB.out)))
              (case aF => exact (fun _ _ => trivial))
              (case aO => exact (by (with_reducible repeat (first | apply Kd.R_alloc | apply Kd.R_drewN | apply Kd.R_drew)); exact HO_3.out))
              (case aS => exact (below_size (by repeat (first | (with_reducible first | exact HB.out | apply below_alloc | apply pw_below_drewN | apply below_drew1) | exact HB.out))))
              (case aL => have := LMc5.out; omega)
              intro v115 w7 ho hb hg hat
              rw [← Ny114.out] at ho
              have n0_ := Aside0.mk (hb)
              have n1_ := Aside0.mk (ho)
              clear HB
              clear HO_3
              have HB := n0_
              have HO116 := n1_
              clear n0_ n1_
              clear ho hb hg hat
              refine hK.out _ _ ⟨((HB.out.cell (World.block_lt_of_cell? w _ hw112_0)).trans hw112_0), ((HB.out.cell (World.block_lt_of_cell? w _ hw112_1)).trans hw112_1), ((HB.out.cell (World.block_lt_of_cell? w _ hw113_0)).trans hw113_0), ((HB.out.cell (World.block_lt_of_cell? w _ hw113_1)).trans hw113_1)⟩ (fun hHeld => ?_)
              clear hK K
              refine norm_ (a' := ?_) ?_ ?_
              rotate_left
              · show Act.put _ (some 30) _ = _
                simp only [Act.put, List.setIfInBounds_toArray, List.set_cons_zero, List.set_cons_succ, i64_w, i32_w]
                rfl
              refine pure_ (i := 16) (N := some 3) (v := ?_) (a' := ?_) #[true, true, true, true, true, true, true, true, true, true, true, true, true, true, true, true, true] rfl rfl (any_of HT_.out (by kernel_rfl)) (fun _ _ _ h => h) (Or.inl ⟨by rfl, ?_⟩) ?_ ?_
              rotate_left
              · intro w'
                go_simp
                with_reducible rfl
              rotate_left
              · simp only [Act.put, List.setIfInBounds_toArray, List.set_cons_zero, List.set_cons_succ, i64_w, i32_w]
                rfl
              refine done_ (done_of HT_.out (by kernel_rfl)) ?_
              try go_wp2
              go_roundg k1
              case measure => have := HK1.out; omega
              case rel => exact ⟨(y114), (wrap64 (x4_1 + 1)), (by first | rfl | (simp; done) | (simp [*]; done)), H', ⟨by have := HK1.out; omega⟩, ⟨by (with_reducible repeat (first | apply Kd.R_alloc | apply Kd.R_drewN | apply Kd.R_drew)); exact HO116.out⟩, ⟨by repeat (first | (with_reducible first | exact HB.out | apply below_alloc | apply pw_below_drewN | apply below_drew1) | exact HB.out)⟩⟩
            · rw [if_neg c5] at H
              exact absurd H (by simp)
          · rw [if_neg c4] at H
            exact absurd H (by simp)
        · rw [if_neg c3] at H
          have c3b0 : decide (x4_1 < 2730) = false := decide_eq_false c3
          clear c3
          obtain rfl := Option.some.inj H
          go_wp2
          go_ret
          exact ⟨_, by first | rfl | (simp [errW_none, errW_some] <;> rfl) | (simp [*, errW_none, errW_some] <;> rfl), by (with_reducible repeat (first | apply Kd.R_alloc | apply Kd.R_drewN | apply Kd.R_drew)); exact HO_3.out, by repeat (first | (with_reducible first | exact HB.out | apply below_alloc | apply pw_below_drewN | apply below_drew1) | exact HB.out)⟩
      · rw [if_neg c2] at H
        have c2b0 : decide (x4_1 < (l0.length : Int)) = false := decide_eq_false c2
        clear c2
        obtain rfl := Option.some.inj H
        go_wp2
        go_ret
        exact ⟨_, by first | rfl | (simp [errW_none, errW_some] <;> rfl) | (simp [*, errW_none, errW_some] <;> rfl), by (with_reducible repeat (first | apply Kd.R_alloc | apply Kd.R_drewN | apply Kd.R_drew)); exact HO_3.out, by repeat (first | (with_reducible first | exact HB.out | apply below_alloc | apply pw_below_drewN | apply below_drew1) | exact HB.out)⟩

/-! ### heraldlaw06_holds: function 28 -/
def heraldlaw06_holds.l0 : Nat → ByteArray → ByteArray → Int → Option (Bool)
  | 0, _, _, _ => none
  | k + 1, x0, x1, x5 => if (wrap64 (x5 + (x1.size : Int))) ≤ (x0.size : Int) then (if 0 ≤ x5 then (if x5 ≤ (wrap64 (x5 + (x1.size : Int))) then (if (x0.extract (x5 : Int).toNat ((wrap64 (x5 + (x1.size : Int))) : Int).toNat).toList = x1.toList then (some true) else (heraldlaw06_holds.l0 k x0 x1 (wrap64 (x5 + 1)))) else (none)) else (none)) else (some false)
def heraldlaw06_holds.f (k : Nat) (a0 : ByteArray) (a1 : ByteArray) : Option (Bool) := heraldlaw06_holds.l0 k a0 a1 0
theorem heraldlaw06_holds.mono_l : ∀ k, (∀ y0 y1 y2, LeO (heraldlaw06_holds.l0 k y0 y1 y2) (heraldlaw06_holds.l0 (k + 1) y0 y1 y2))
  | 0 => fun _ _ _ r h => by simp [heraldlaw06_holds.l0] at h
  | k + 1 => by
    have ih0 := heraldlaw06_holds.mono_l k
    · intro y0 y1 y2
      unfold heraldlaw06_holds.l0
      repeat' first
      | (with_reducible exact ih0 _ _ _)
      | (with_reducible exact LeO.refl _)
      | (with_reducible exact LeO.none _)
      | (with_reducible refine LeO.ite ?_ ?_)
      | (with_reducible refine LeO.bind ?_ (fun _ => ?_))
      | exact ih0 _ _ _
      | exact LeO.none _
      | refine LeO.ite ?_ ?_
      | refine LeO.bind ?_ (fun _ => ?_)
theorem heraldlaw06_holds.mono : ∀ a0 a1 k, LeO (heraldlaw06_holds.f k a0 a1) (heraldlaw06_holds.f (k + 1) a0 a1) := by
  intro a0 a1 k
  have ih0 := heraldlaw06_holds.mono_l k
  unfold heraldlaw06_holds.f
  repeat' first
      | (with_reducible exact ih0 _ _ _)
      | (with_reducible exact LeO.refl _)
      | (with_reducible exact LeO.none _)
      | (with_reducible refine LeO.ite ?_ ?_)
      | (with_reducible refine LeO.bind ?_ (fun _ => ?_))
      | exact ih0 _ _ _
      | exact LeO.none _
      | refine LeO.ite ?_ ?_
      | refine LeO.bind ?_ (fun _ => ?_)
set_option maxHeartbeats 8000000 in
set_option maxRecDepth 100000 in
theorem heraldlaw06_holds.calls (k : Nat) (a0 : ByteArray) (a1 : ByteArray) (r : Bool) (w : World) (h : heraldlaw06_holds.f k a0 a1 = some r) :
    Calls Tryd.prog 28 #[.string a0, .string a1] w fun e w' => e = .returned (.bool r) ∧ Drawn0 w w' := by
  have H : (heraldlaw06_holds.l0 k a0 a1 0) = some r := h
  clear h
  have H' := Aside0.mk H
  clear H
  go_enter Tryd.func28, Tryd.ntmps28
  go_wp2
  go_loopg [5] k (fun kq v5 w' => ∃ (x5_1 : Int), v5 = .int .i64 x5_1 ∧ Aside0 (heraldlaw06_holds.l0 kq a0 a1 x5_1 = some r) ∧ Aside0 (kq ≤ k) ∧ Drawn0 w w')
  case atStart => exact ⟨(0), (by first | rfl | (simp; done) | (simp [*]; done)), H', ⟨Nat.le_refl _⟩, by repeat (first | exact Drawn0.refl _ | apply Drawn0.step)⟩
  case round =>
    clear H'
    try clear c2
    try clear p2
    obtain ⟨x5_1, rfl, HA, HK1, ⟨m1, rfl⟩⟩ := hrel
    cases gk with
    | zero => exact absurd HA.out (by simp [heraldlaw06_holds.l0])
    | succ k1 =>
      have H := HA.out
      clear HA
      simp only [heraldlaw06_holds.l0] at H
      by_cases c3 : (wrap64 (x5_1 + (a1.size : Int))) ≤ (a0.size : Int)
      · rw [if_pos c3] at H
        have c3b0 : decide ((wrap64 (x5_1 + (a1.size : Int))) ≤ (a0.size : Int)) = true := decide_eq_true c3
        clear c3
        by_cases c4 : 0 ≤ x5_1
        · rw [if_pos c4] at H
          have c4b0 := eq_true c4
          have c4b1 : decide (0 ≤ x5_1) = true := decide_eq_true c4
          clear c4
          by_cases c5 : x5_1 ≤ (wrap64 (x5_1 + (a1.size : Int)))
          · rw [if_pos c5] at H
            have c5b0 := eq_true c5
            have c5b1 : decide (x5_1 ≤ (wrap64 (x5_1 + (a1.size : Int)))) = true := decide_eq_true c5
            have c6b0 := eq_true (of_decide_eq_true (by first | (with_reducible assumption) | assumption) : (wrap64 (x5_1 + (a1.size : Int))) ≤ (a0.size : Int))
            by_cases c7 : (a0.extract (x5_1 : Int).toNat ((wrap64 (x5_1 + (a1.size : Int))) : Int).toNat).toList = a1.toList
            · rw [if_pos c7] at H
              have c7b0 : ((a0.extract (x5_1 : Int).toNat ((wrap64 (x5_1 + (a1.size : Int))) : Int).toNat).toList == a1.toList) = true := beq_iff_eq.mpr c7
              have c7b1 : ((a0.extract (x5_1 : Int).toNat ((wrap64 (x5_1 + (a1.size : Int))) : Int).toNat).toList != a1.toList) = false := bne_eq_false_iff_eq.mpr c7
              clear c7
              obtain rfl := Option.some.inj H
              go_wp2
              go_ret
              exact ⟨by first | rfl | (simp; done) | (simp [*]; done), by repeat (first | exact Drawn0.refl _ | apply Drawn0.step)⟩
            · rw [if_neg c7] at H
              have c7b0 : ((a0.extract (x5_1 : Int).toNat ((wrap64 (x5_1 + (a1.size : Int))) : Int).toNat).toList == a1.toList) = false := beq_eq_false_iff_ne.mpr c7
              have c7b1 : ((a0.extract (x5_1 : Int).toNat ((wrap64 (x5_1 + (a1.size : Int))) : Int).toNat).toList != a1.toList) = true := bne_iff_ne.mpr c7
              have H' := Aside0.mk H
              clear H
              go_wp2
              go_roundg k1
              case measure => have := HK1.out; omega
              case rel => exact ⟨(wrap64 (x5_1 + 1)), (by first | rfl | (simp; done) | (simp [*]; done)), H', ⟨by have := HK1.out; omega⟩, by repeat (first | exact Drawn0.refl _ | apply Drawn0.step)⟩
          · rw [if_neg c5] at H
            exact absurd H (by simp)
        · rw [if_neg c4] at H
          exact absurd H (by simp)
      · rw [if_neg c3] at H
        have c3b0 : decide ((wrap64 (x5_1 + (a1.size : Int))) ≤ (a0.size : Int)) = false := decide_eq_false c3
        clear c3
        obtain rfl := Option.some.inj H
        go_wp2
        go_ret
        exact ⟨by first | rfl | (simp; done) | (simp [*]; done), by repeat (first | exact Drawn0.refl _ | apply Drawn0.step)⟩

end Go.Proofs.YtoffhlbdfhhhjaaDoor.QL
