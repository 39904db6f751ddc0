/- Written by a program of this session (a changed run of the kit's printer): what the Go functions of one call tree answer, as plain functions, and that the machine's calls answer so; no condition but those in each statement. -/
import Derived.Test.YtbngliommdmnkaaQWindowSumsx0
import Derived.Test.YtbngliommdmnkaaQWindowSumsx1
namespace Go.Proofs.Ytbngliommdmnkaa.QWindowSums
open Go.RowKit Go.Proofs.YtbngliommdmnkaaW.PrintWords Go.Proofs.YtbngliommdmnkaaW.PrintLast Go.Proofs.YtbngliommdmnkaaW.PrintMore
attribute [local go_sem] max2_int min2_int max_two min_two max_three min_three max_four min_four   -- for this text's walks alone
set_option linter.unusedVariables false
set_option linter.unusedSimpArgs false

/-! ### heraldlaw09_WindowSums: function 5 -/
mutual
def heraldlaw09_WindowSums.j0 : Nat → Int → List (S31) → Int → Option (Bool)
  | 0, _, _, _ => none
  | k + 1, x0, x1, x120000 => if x0 > 2147483647 then (heraldlaw09_WindowSums.j1 k 2147483647 x1 x120000) else (heraldlaw09_WindowSums.j1 k x0 x1 x120000)
def heraldlaw09_WindowSums.j1 : Nat → Int → List (S31) → Int → Option (Bool)
  | 0, _, _, _ => none
  | k + 1, x0, x1, x120000 => heraldlaw09_WindowSums.l0 k x0 x1 0 x120000
def heraldlaw09_WindowSums.l0 : Nat → Int → List (S31) → Int → Int → Option (Bool)
  | 0, _, _, _, _ => none
  | k + 1, x0, x1, x6, x120000 => if x6 < (x1.length : Int) then (if 0 ≤ x6 then ((window_Window_Left.f x120000).bind fun bt124 => (if bt124.1 = x0 then (if bt124.1 < (-2147483647) then (heraldlaw09_WindowSums.j3 k x0 x1 x6 bt124.1 true bt124.2 ((rd_T31 x1 x6).f0) ((rd_T31 x1 x6).f1) ((rd_T31 x1 x6).f2)) else (heraldlaw09_WindowSums.j3 k x0 x1 x6 bt124.1 (decide (bt124.1 > 2147483647)) bt124.2 ((rd_T31 x1 x6).f0) ((rd_T31 x1 x6).f1) ((rd_T31 x1 x6).f2))) else (heraldlaw09_WindowSums.j3 k x0 x1 x6 bt124.1 true bt124.2 ((rd_T31 x1 x6).f0) ((rd_T31 x1 x6).f1) ((rd_T31 x1 x6).f2)))) else (none)) else ((window_Window_Left.f x120000).bind fun bt120 => (if bt120.1 = x0 then (if x0 ≥ (-2147483647) then (some (decide (x0 ≤ 2147483647))) else (some false)) else (some false)))
def heraldlaw09_WindowSums.j3 : Nat → Int → List (S31) → Int → Int → Bool → Int → Int → Int → Int → Option (Bool)
  | 0, _, _, _, _, _, _, _, _, _ => none
  | k + 1, x0, x1, x6, x8, x44, x120000, x124000, x124001, x124002 => if x44 = true then (some false) else (if x124000 = 1 then ((window_Window_Take.f x120000 x124002).bind fun bt126 => (if x124002 = 0 then (heraldlaw09_WindowSums.j4 k x0 x1 x6 bt126.1 (!bt126.1) bt126.2 x124000 x124001 x124002) else (if x124002 > 0 then (heraldlaw09_WindowSums.j4 k x0 x1 x6 bt126.1 (bt126.1 != (decide (x124002 ≤ x8))) bt126.2 x124000 x124001 x124002) else (heraldlaw09_WindowSums.j4 k x0 x1 x6 bt126.1 bt126.1 bt126.2 x124000 x124001 x124002)))) else (if x124000 = 2 then ((window_Window_Give.f x120000 x124002).bind fun bt128 => (if bt128.1 = 0 then (if ((bt128.1 == 1) != (decide (x124002 < 1))) = true then (some false) else (heraldlaw09_WindowSums.l0 k (wrap64 (x0 + x124002)) x1 (wrap64 (x6 + 1)) bt128.2)) else (if bt128.1 = 1 then (if x124002 < 1 then (heraldlaw09_WindowSums.l0 k x0 x1 (wrap64 (x6 + 1)) bt128.2) else (some false)) else (if bt128.1 = 3 then (if x124002 < 1 then (some false) else (heraldlaw09_WindowSums.l0 k x0 x1 (wrap64 (x6 + 1)) bt128.2)) else (some false))))) else (if x124000 = 3 then ((window_Window_Shift.f x120000 x124002).bind fun bt130 => (if bt130.1 = 0 then (heraldlaw09_WindowSums.l0 k (wrap64 (x0 + x124002)) x1 (wrap64 (x6 + 1)) bt130.2) else (if bt130.1 = 3 then (heraldlaw09_WindowSums.l0 k x0 x1 (wrap64 (x6 + 1)) bt130.2) else (some false)))) else (heraldlaw09_WindowSums.l0 k x0 x1 (wrap64 (x6 + 1)) x120000))))
def heraldlaw09_WindowSums.j4 : Nat → Int → List (S31) → Int → Bool → Bool → Int → Int → Int → Int → Option (Bool)
  | 0, _, _, _, _, _, _, _, _, _ => none
  | k + 1, x0, x1, x6, x9, x68, x120000, x124000, x124001, x124002 => if x68 = true then (some false) else (if x9 = true then (heraldlaw09_WindowSums.l0 k (wrap64 (x0 - x124002)) x1 (wrap64 (x6 + 1)) x120000) else (heraldlaw09_WindowSums.l0 k x0 x1 (wrap64 (x6 + 1)) x120000))
end
def heraldlaw09_WindowSums.f (k : Nat) (a0 : Int) (l1 : List (S31)) : Option (Bool) := (heraldlaw09_first.f).bind fun t117 => (if t117 = true then ((window_New.f a0).bind fun t118 => (if a0 < 0 then (heraldlaw09_WindowSums.j0 k 0 l1 t118) else (heraldlaw09_WindowSums.j0 k a0 l1 t118))) else (some false))
theorem heraldlaw09_WindowSums.mono_l : ∀ k, (∀ y0 y1 y2, LeO (heraldlaw09_WindowSums.j0 k y0 y1 y2) (heraldlaw09_WindowSums.j0 (k + 1) y0 y1 y2)) ∧ (∀ y0 y1 y2, LeO (heraldlaw09_WindowSums.j1 k y0 y1 y2) (heraldlaw09_WindowSums.j1 (k + 1) y0 y1 y2)) ∧ (∀ y0 y1 y2 y3, LeO (heraldlaw09_WindowSums.l0 k y0 y1 y2 y3) (heraldlaw09_WindowSums.l0 (k + 1) y0 y1 y2 y3)) ∧ (∀ y0 y1 y2 y3 y4 y5 y6 y7 y8, LeO (heraldlaw09_WindowSums.j3 k y0 y1 y2 y3 y4 y5 y6 y7 y8) (heraldlaw09_WindowSums.j3 (k + 1) y0 y1 y2 y3 y4 y5 y6 y7 y8)) ∧ (∀ y0 y1 y2 y3 y4 y5 y6 y7 y8, LeO (heraldlaw09_WindowSums.j4 k y0 y1 y2 y3 y4 y5 y6 y7 y8) (heraldlaw09_WindowSums.j4 (k + 1) y0 y1 y2 y3 y4 y5 y6 y7 y8))
  | 0 => ⟨fun _ _ _ r h => by simp [heraldlaw09_WindowSums.j0] at h, fun _ _ _ r h => by simp [heraldlaw09_WindowSums.j1] at h, fun _ _ _ _ r h => by simp [heraldlaw09_WindowSums.l0] at h, fun _ _ _ _ _ _ _ _ _ r h => by simp [heraldlaw09_WindowSums.j3] at h, fun _ _ _ _ _ _ _ _ _ r h => by simp [heraldlaw09_WindowSums.j4] at h⟩
  | k + 1 => by
    obtain ⟨ih0, ih1, ih2, ih3, ih4⟩ := heraldlaw09_WindowSums.mono_l k
    refine ⟨?_, ?_, ?_, ?_, ?_⟩
    · intro y0 y1 y2
      unfold heraldlaw09_WindowSums.j0
      repeat' first
      | (with_reducible exact ih0 _ _ _)
      | (with_reducible exact ih1 _ _ _)
      | (with_reducible exact ih2 _ _ _ _)
      | (with_reducible exact ih3 _ _ _ _ _ _ _ _ _)
      | (with_reducible exact ih4 _ _ _ _ _ _ _ _ _)
      | (with_reducible exact LeO.refl _)
      | (with_reducible exact LeO.none _)
      | (with_reducible refine LeO.ite ?_ ?_)
      | (with_reducible refine LeO.bind ?_ (fun _ => ?_))
      | exact ih0 _ _ _
      | exact ih1 _ _ _
      | exact ih2 _ _ _ _
      | exact ih3 _ _ _ _ _ _ _ _ _
      | exact ih4 _ _ _ _ _ _ _ _ _
      | exact LeO.none _
      | refine LeO.ite ?_ ?_
      | refine LeO.bind ?_ (fun _ => ?_)
    · intro y0 y1 y2
      unfold heraldlaw09_WindowSums.j1
      repeat' first
      | (with_reducible exact ih0 _ _ _)
      | (with_reducible exact ih1 _ _ _)
      | (with_reducible exact ih2 _ _ _ _)
      | (with_reducible exact ih3 _ _ _ _ _ _ _ _ _)
      | (with_reducible exact ih4 _ _ _ _ _ _ _ _ _)
      | (with_reducible exact LeO.refl _)
      | (with_reducible exact LeO.none _)
      | (with_reducible refine LeO.ite ?_ ?_)
      | (with_reducible refine LeO.bind ?_ (fun _ => ?_))
      | exact ih0 _ _ _
      | exact ih1 _ _ _
      | exact ih2 _ _ _ _
      | exact ih3 _ _ _ _ _ _ _ _ _
      | exact ih4 _ _ _ _ _ _ _ _ _
      | exact LeO.none _
      | refine LeO.ite ?_ ?_
      | refine LeO.bind ?_ (fun _ => ?_)
    · intro y0 y1 y2 y3
      unfold heraldlaw09_WindowSums.l0
      repeat' first
      | (with_reducible exact ih0 _ _ _)
      | (with_reducible exact ih1 _ _ _)
      | (with_reducible exact ih2 _ _ _ _)
      | (with_reducible exact ih3 _ _ _ _ _ _ _ _ _)
      | (with_reducible exact ih4 _ _ _ _ _ _ _ _ _)
      | (with_reducible exact LeO.refl _)
      | (with_reducible exact LeO.none _)
      | (with_reducible refine LeO.ite ?_ ?_)
      | (with_reducible refine LeO.bind ?_ (fun _ => ?_))
      | exact ih0 _ _ _
      | exact ih1 _ _ _
      | exact ih2 _ _ _ _
      | exact ih3 _ _ _ _ _ _ _ _ _
      | exact ih4 _ _ _ _ _ _ _ _ _
      | exact LeO.none _
      | refine LeO.ite ?_ ?_
      | refine LeO.bind ?_ (fun _ => ?_)
    · intro y0 y1 y2 y3 y4 y5 y6 y7 y8
      unfold heraldlaw09_WindowSums.j3
      repeat' first
      | (with_reducible exact ih0 _ _ _)
      | (with_reducible exact ih1 _ _ _)
      | (with_reducible exact ih2 _ _ _ _)
      | (with_reducible exact ih3 _ _ _ _ _ _ _ _ _)
      | (with_reducible exact ih4 _ _ _ _ _ _ _ _ _)
      | (with_reducible exact LeO.refl _)
      | (with_reducible exact LeO.none _)
      | (with_reducible refine LeO.ite ?_ ?_)
      | (with_reducible refine LeO.bind ?_ (fun _ => ?_))
      | exact ih0 _ _ _
      | exact ih1 _ _ _
      | exact ih2 _ _ _ _
      | exact ih3 _ _ _ _ _ _ _ _ _
      | exact ih4 _ _ _ _ _ _ _ _ _
      | exact LeO.none _
      | refine LeO.ite ?_ ?_
      | refine LeO.bind ?_ (fun _ => ?_)
    · intro y0 y1 y2 y3 y4 y5 y6 y7 y8
      unfold heraldlaw09_WindowSums.j4
      repeat' first
      | (with_reducible exact ih0 _ _ _)
      | (with_reducible exact ih1 _ _ _)
      | (with_reducible exact ih2 _ _ _ _)
      | (with_reducible exact ih3 _ _ _ _ _ _ _ _ _)
      | (with_reducible exact ih4 _ _ _ _ _ _ _ _ _)
      | (with_reducible exact LeO.refl _)
      | (with_reducible exact LeO.none _)
      | (with_reducible refine LeO.ite ?_ ?_)
      | (with_reducible refine LeO.bind ?_ (fun _ => ?_))
      | exact ih0 _ _ _
      | exact ih1 _ _ _
      | exact ih2 _ _ _ _
      | exact ih3 _ _ _ _ _ _ _ _ _
      | exact ih4 _ _ _ _ _ _ _ _ _
      | exact LeO.none _
      | refine LeO.ite ?_ ?_
      | refine LeO.bind ?_ (fun _ => ?_)
theorem heraldlaw09_WindowSums.mono : ∀ a0 a1 k, LeO (heraldlaw09_WindowSums.f k a0 a1) (heraldlaw09_WindowSums.f (k + 1) a0 a1) := by
  intro a0 a1 k
  obtain ⟨ih0, ih1, ih2, ih3, ih4⟩ := heraldlaw09_WindowSums.mono_l k
  unfold heraldlaw09_WindowSums.f
  repeat' first
      | (with_reducible exact ih0 _ _ _)
      | (with_reducible exact ih1 _ _ _)
      | (with_reducible exact ih2 _ _ _ _)
      | (with_reducible exact ih3 _ _ _ _ _ _ _ _ _)
      | (with_reducible exact ih4 _ _ _ _ _ _ _ _ _)
      | (with_reducible exact LeO.refl _)
      | (with_reducible exact LeO.none _)
      | (with_reducible refine LeO.ite ?_ ?_)
      | (with_reducible refine LeO.bind ?_ (fun _ => ?_))
      | exact ih0 _ _ _
      | exact ih1 _ _ _
      | exact ih2 _ _ _ _
      | exact ih3 _ _ _ _ _ _ _ _ _
      | exact ih4 _ _ _ _ _ _ _ _ _
      | exact LeO.none _
      | refine LeO.ite ?_ ?_
      | refine LeO.bind ?_ (fun _ => ?_)
set_option maxHeartbeats 8000000 in
set_option maxRecDepth 100000 in
theorem heraldlaw09_WindowSums.calls (k : Nat) (a0 : Int) (A1 : Option Addr) (c1 : Nat) (l1 : List (S31)) (r : Bool) (w : World) (hr1 : Kd.C k31 w A1 l1.length l1) (hc1 : l1.length ≤ c1) (h : heraldlaw09_WindowSums.f k a0 l1 = some r) :
    Calls Try.prog 5 #[.int .i64 a0, .slice A1 l1.length c1] w fun e w' => e = .returned (.bool r) ∧ Below w.heap.size w w' := by
  have hu31 := Try.underlying31
  have HR1 := Aside0.mk hr1
  have HC1 := Aside0.mk hc1
  clear hr1 hc1
  have HB := Aside0.mk (Below.refl w.heap.size w)
  have H : ((heraldlaw09_first.f).bind fun t117 => (if t117 = true then ((window_New.f a0).bind fun t118 => (if a0 < 0 then (heraldlaw09_WindowSums.j0 k 0 l1 t118) else (heraldlaw09_WindowSums.j0 k a0 l1 t118))) else (some false))) = some r := h
  clear h
  replace H := Option.bind_eq_some_iff.mp H
  obtain ⟨t117, A30, H⟩ := H
  replace H : (if t117 = true then ((window_New.f a0).bind fun t118 => (if a0 < 0 then (heraldlaw09_WindowSums.j0 k 0 l1 t118) else (heraldlaw09_WindowSums.j0 k a0 l1 t118))) else (some false)) = some r := H
  have A3 := Aside0.mk A30
  clear A30
  by_cases c4 : t117 = true
  · subst c4
    have H1 : ((window_New.f a0).bind fun t118 => (if a0 < 0 then (heraldlaw09_WindowSums.j0 k 0 l1 t118) else (heraldlaw09_WindowSums.j0 k a0 l1 t118))) = some r := by rw [if_pos rfl] at H; exact H
    clear H
    have H := H1
    clear H1
    replace H := Option.bind_eq_some_iff.mp H
    obtain ⟨t118, A50, H⟩ := H
    replace H : (if a0 < 0 then (heraldlaw09_WindowSums.j0 k 0 l1 t118) else (heraldlaw09_WindowSums.j0 k a0 l1 t118)) = some r := H
    have A5 := Aside0.mk A50
    clear A50
    have HC6 := Aside0.mk H
    clear H
    go_enter Try.func5, Try.ntmps5
    go_upto_if 19 with (first | ((with_reducible refine gate_callee (f := 8) rfl ?_); refine goesL_ (some 12) rfl rfl Try.func8 (by kernel_rfl) rfl #[] rfl (by (try simp only [List.map_toArray, List.map_cons, List.map_nil]); first | done | rfl | (simp only [List.length_drop, List.length_take]; rfl)) ?_; (with_reducible refine (heraldlaw09_first.calls  true _ A3.out).mono ?_); rintro e w7 ⟨rfl, hb⟩; refine ⟨_, rfl, ?_⟩; have n0_ := Aside0.mk (below_step (by repeat (first | (with_reducible first | exact HB.out | apply below_alloc | apply pw_below_drewN | apply below_drew1) | exact HB.out)) hb); clear HB; have HB := n0_; clear n0_; (try clear hb); (try clear hb2); (try clear hk); (try clear hi)) | ((with_reducible refine gate_callee (f := 9) rfl ?_); refine goesL_ (some 15) rfl rfl Try.func9 (by kernel_rfl) rfl #[.int .i64 a0] rfl (by (try simp only [List.map_toArray, List.map_cons, List.map_nil]); first | done | rfl | (simp only [List.length_drop, List.length_take]; rfl)) ?_; (with_reducible refine (window_New.calls a0 t118 w _ ?side1 A5.out).mono ?_); (case side1 => repeat (first | (with_reducible first | exact HB.out | apply below_alloc | apply pw_below_drewN | apply below_drew1) | exact HB.out)); rintro e w8 ⟨g119, rfl, hi, hb, hb2⟩; refine ⟨_, rfl, ?_⟩; have n0_ := Aside0.mk (hb); have n1_ := Aside0.mk (hi); clear HB; have HB := n0_; have HI119 := n1_; clear n0_ n1_; (try clear hb); (try clear hb2); (try clear hk); (try clear hi)))
    (try simp only [Act.put, List.setIfInBounds_toArray, List.set_cons_zero, List.set_cons_succ])
    go_cut [0] (fun v0 wc => ∃ (kq : Nat) (x0_5 : Int), v0 = .int .i64 x0_5 ∧ Aside0 (heraldlaw09_WindowSums.j0 kq x0_5 l1 t118 = some r) ∧ Aside0 (kq ≤ k) ∧ Aside0 (IsS42 w wc g119 t118) ∧ Aside0 (Below w.heap.size w wc))
    case first =>
      have H := HC6.out
      clear HC6
      by_cases c9 : a0 < 0
      · rw [if_pos c9] at H
        have c9b0 : decide (a0 < 0) = true := decide_eq_true c9
        clear c9
        (first | rw [c9b0] | (simp only [i64_w, i32_w]; rw [c9b0]) | skip)
        have H' := Aside0.mk H
        clear H
        go_wp2
        go_meet
        case rel => exact ⟨_, (0), (by first | rfl | (simp; done) | (simp [*]; done)), H', ⟨by first | omega | exact Nat.le_refl _⟩, ⟨by repeat (first | (with_reducible first | exact HI119.out | apply IsS42.alloc | apply IsS42.drewN | apply IsS42.drew | apply IsS42.set_0) | exact HI119.out)⟩, ⟨by repeat (first | (with_reducible first | exact HB.out | apply below_alloc | apply pw_below_drewN | apply below_drew1 | refine below_set ?_ (IsS42.ge HI119.out)) | exact HB.out)⟩⟩
      · rw [if_neg c9] at H
        have c9b0 : decide (a0 < 0) = false := decide_eq_false c9
        clear c9
        (first | rw [c9b0] | (simp only [i64_w, i32_w]; rw [c9b0]) | skip)
        have H' := Aside0.mk H
        clear H
        go_wp2
        go_meet
        case rel => exact ⟨_, (a0), (by first | rfl | (simp; done) | (simp [*]; done)), H', ⟨by first | omega | exact Nat.le_refl _⟩, ⟨by repeat (first | (with_reducible first | exact HI119.out | apply IsS42.alloc | apply IsS42.drewN | apply IsS42.drew | apply IsS42.set_0) | exact HI119.out)⟩, ⟨by repeat (first | (with_reducible first | exact HB.out | apply below_alloc | apply pw_below_drewN | apply below_drew1 | refine below_set ?_ (IsS42.ge HI119.out)) | exact HB.out)⟩⟩
    case rest =>
      clear HC6
      try clear c1
      try clear p2
      try clear c4
      try clear c5
      try clear c8
      try clear c9
      try clear c9b0
      obtain ⟨kq, x0_5, rfl, HA, HJ5, HI119, HB⟩ := hcut
      cases kq with
      | zero => exact absurd HA.out (by simp [heraldlaw09_WindowSums.j0])
      | succ kj5 =>
        have H := HA.out
        clear HA
        simp only [heraldlaw09_WindowSums.j0] at H
        have HC10 := Aside0.mk H
        clear H
        go_upto_if 21 with (fail)
        go_cut [0] (fun v0 wc => ∃ (kq : Nat) (x0_9 : Int), v0 = .int .i64 x0_9 ∧ Aside0 (heraldlaw09_WindowSums.j1 kq x0_9 l1 t118 = some r) ∧ Aside0 (kq ≤ kj5) ∧ Aside0 (IsS42 w wc g119 t118) ∧ Aside0 (Below w.heap.size w wc))
        case first =>
          have H := HC10.out
          clear HC10
          by_cases c11 : x0_5 > 2147483647
          · rw [if_pos c11] at H
            have c11b0 : decide (2147483647 < x0_5) = true := decide_eq_true c11
            clear c11
            (first | rw [c11b0] | (simp only [i64_w, i32_w]; rw [c11b0]) | skip)
            have H' := Aside0.mk H
            clear H
            go_wp2
            go_meet
            case rel => exact ⟨_, (2147483647), (by first | rfl | (simp; done) | (simp [*]; done)), H', ⟨by have := HJ5.out; first | omega | exact Nat.le_refl _⟩, ⟨by repeat (first | (with_reducible first | exact HI119.out | apply IsS42.alloc | apply IsS42.drewN | apply IsS42.drew | apply IsS42.set_0) | exact HI119.out)⟩, ⟨by repeat (first | (with_reducible first | exact HB.out | apply below_alloc | apply pw_below_drewN | apply below_drew1 | refine below_set ?_ (IsS42.ge HI119.out)) | exact HB.out)⟩⟩
          · rw [if_neg c11] at H
            have c11b0 : decide (2147483647 < x0_5) = false := decide_eq_false c11
            clear c11
            (first | rw [c11b0] | (simp only [i64_w, i32_w]; rw [c11b0]) | skip)
            have H' := Aside0.mk H
            clear H
            go_wp2
            go_meet
            case rel => exact ⟨_, (x0_5), (by first | rfl | (simp; done) | (simp [*]; done)), H', ⟨by have := HJ5.out; first | omega | exact Nat.le_refl _⟩, ⟨by repeat (first | (with_reducible first | exact HI119.out | apply IsS42.alloc | apply IsS42.drewN | apply IsS42.drew | apply IsS42.set_0) | exact HI119.out)⟩, ⟨by repeat (first | (with_reducible first | exact HB.out | apply below_alloc | apply pw_below_drewN | apply below_drew1 | refine below_set ?_ (IsS42.ge HI119.out)) | exact HB.out)⟩⟩
        case rest =>
          clear HC10
          try clear c1
          try clear p2
          try clear c4
          try clear c5
          try clear c8
          try clear c9
          try clear c9b0
          try clear c11
          try clear c11b0
          try clear p2
          obtain ⟨kq, x0_9, rfl, HA, HJ9, HI119, HB⟩ := hcut
          cases kq with
          | zero => exact absurd HA.out (by simp [heraldlaw09_WindowSums.j1])
          | succ kj9 =>
            have H := HA.out
            clear HA
            simp only [heraldlaw09_WindowSums.j1] at H
            have H' := Aside0.mk H
            clear H
            go_wp2
            go_loopg [0, 6] kj9 (fun kq v0 v6 w' => ∃ (x0_3 : Int) (x6_3 : Int) (x120000_3 : Int), v0 = .int .i64 x0_3 ∧ v6 = .int .i64 x6_3 ∧ Aside0 (heraldlaw09_WindowSums.l0 kq x0_3 l1 x6_3 x120000_3 = some r) ∧ Aside0 (kq ≤ kj9) ∧ Aside0 (IsS42 w w' g119 x120000_3) ∧ Aside0 (Below w.heap.size w w'))
            case atStart => exact ⟨(x0_9), (0), (t118), (by first | rfl | (simp; done) | (simp [*]; done)), (by first | rfl | (simp; done) | (simp [*]; done)), H', ⟨Nat.le_refl _⟩, ⟨by repeat (first | (with_reducible first | exact HI119.out | apply IsS42.alloc | apply IsS42.drewN | apply IsS42.drew | apply IsS42.set_0) | exact HI119.out)⟩, ⟨by repeat (first | (with_reducible first | exact HB.out | apply below_alloc | apply pw_below_drewN | apply below_drew1 | refine below_set ?_ (IsS42.ge HI119.out)) | exact HB.out)⟩⟩
            case round =>
              clear H'
              try clear c1
              try clear p2
              try clear c4
              try clear c5
              try clear c8
              try clear c9
              try clear c9b0
              try clear c11
              try clear c11b0
              try clear p2
              obtain ⟨x0_3, x6_3, x120000_3, rfl, rfl, HA, HK3, HI119, HB⟩ := hrel
              cases gk with
              | zero => exact absurd HA.out (by simp [heraldlaw09_WindowSums.l0])
              | succ k3 =>
                have H := HA.out
                clear HA
                simp only [heraldlaw09_WindowSums.l0] at H
                by_cases c12 : x6_3 < (l1.length : Int)
                · rw [if_pos c12] at H
                  have c12b0 : decide (x6_3 < (l1.length : Int)) = true := decide_eq_true c12
                  clear c12
                  by_cases c13 : 0 ≤ x6_3
                  · rw [if_pos c13] at H
                    have c13b0 : decide (0 ≤ x6_3) = true := decide_eq_true c13
                    clear c13
                    replace H := Option.bind_eq_some_iff.mp H
                    obtain ⟨⟨t124, t125⟩, A140, H⟩ := H
                    replace H : (if t124 = x0_3 then (if t124 < (-2147483647) then (heraldlaw09_WindowSums.j3 k3 x0_3 l1 x6_3 t124 true t125 ((rd_T31 l1 x6_3).f0) ((rd_T31 l1 x6_3).f1) ((rd_T31 l1 x6_3).f2)) else (heraldlaw09_WindowSums.j3 k3 x0_3 l1 x6_3 t124 (decide (t124 > 2147483647)) t125 ((rd_T31 l1 x6_3).f0) ((rd_T31 l1 x6_3).f1) ((rd_T31 l1 x6_3).f2))) else (heraldlaw09_WindowSums.j3 k3 x0_3 l1 x6_3 t124 true t125 ((rd_T31 l1 x6_3).f0) ((rd_T31 l1 x6_3).f1) ((rd_T31 l1 x6_3).f2))) = some r := H
                    have A14 := Aside0.mk A140
                    clear A140
                    have HC15 := Aside0.mk H
                    clear H
                    have p122 : 0 ≤ (x6_3 : Int) := of_decide_eq_true (by first | (with_reducible assumption) | assumption)
                    have q122 : x6_3 < (l1.length : Int) := of_decide_eq_true (by first | (with_reducible assumption) | assumption)
                    obtain ⟨ad122, e122, hx122_0, hx122_1, hx122_2⟩ := at_T31 HR1.out x6_3 p122 q122
                    cases e122
                    replace hx122_0 := (HB.out.cell (World.block_lt_of_cell? w _ hx122_0)).trans hx122_0
                    replace hx122_1 := (HB.out.cell (World.block_lt_of_cell? w _ hx122_1)).trans hx122_1
                    replace hx122_2 := (HB.out.cell (World.block_lt_of_cell? w _ hx122_2)).trans hx122_2
                    replace p122 := eq_true p122
                    replace q122 := eq_true q122
                    go_upto_region 15 with (first | ((with_reducible refine gate_dst (N := 7) rfl ?_); refine box_event ?hg (N := 7) ?hd (cs := #[.int .i64 0, .int .i64 0, .int .i64 0]) (t := 31) ?hr ?_; (case hd => rfl); (case hg => rfl); (case hr => first | (go_simp; done) | (go_simp; rfl)); intro gb123 hg w16 hbox hb; have n0_ := Aside0.mk (IsS42.below (by repeat (first | (with_reducible first | exact HI119.out | apply IsS42.alloc | apply IsS42.drewN | apply IsS42.drew | apply IsS42.set_0) | exact HI119.out)) hb); have n1_ := Aside0.mk (below_step (by repeat (first | (with_reducible first | exact HB.out | apply below_alloc | apply pw_below_drewN | apply below_drew1 | refine below_set ?_ (IsS42.ge HI119.out)) | exact HB.out)) hb); have n2_ := Aside0.mk (hbox); have n3_ := Aside0.mk ((by rw [hg]; exact (below_size (by repeat (first | (with_reducible first | exact HB.out | apply below_alloc | apply pw_below_drewN | apply below_drew1 | refine below_set ?_ (IsS42.ge HI119.out)) | exact HB.out))) : w.heap.size ≤ gb123)); have n4_ := Aside0.mk ((by rw [hg]; exact (below_size (by repeat (first | (with_reducible first | exact HB.out | apply below_alloc | apply pw_below_drewN | apply below_drew1 | refine below_set ?_ (IsS42.ge HI119.out)) | exact HB.out))) : w.heap.size ≤ gb123)); have n5_ := Aside0.mk ((by rw [hg]; exact Nat.ne_of_lt (IsS42.lt (show IsS42 w _ g119 x120000_3 from by repeat (first | (with_reducible first | exact HI119.out | apply IsS42.alloc | apply IsS42.drewN | apply IsS42.drew | apply IsS42.set_0) | exact HI119.out))) : g119 ≠ gb123)); have n6_ := Aside0.mk ((by rw [hg]; exact Nat.ne_of_gt (IsS42.lt (show IsS42 w _ g119 x120000_3 from by repeat (first | (with_reducible first | exact HI119.out | apply IsS42.alloc | apply IsS42.drewN | apply IsS42.drew | apply IsS42.set_0) | exact HI119.out))) : gb123 ≠ g119)); clear HI119; clear HB; have HI119 := n0_; have HB := n1_; have BK123 := n2_; have GW123 := n3_; have GE123 := n4_; have NB119_123 := n5_; have NB123_119 := n6_; clear n0_ n1_ n2_ n3_ n4_ n5_ n6_; clear hb hbox hg; have hnb17 := NB123_119.out; have hnc17 := NB119_123.out; have hcz18_0 : w16.cell? ⟨gb123, 0, none⟩ = some (.int .i64 0) := (blk_cell BK123.out 0).trans rfl; have hcz18_1 : w16.cell? ⟨gb123, 1, none⟩ = some (.int .i64 0) := (blk_cell BK123.out 1).trans rfl; have hcz18_2 : w16.cell? ⟨gb123, 2, none⟩ = some (.int .i64 0) := (blk_cell BK123.out 2).trans rfl; have hfz18_0 := blk_frozen BK123.out 0; have hfz18_1 := blk_frozen BK123.out 1; have hfz18_2 := blk_frozen BK123.out 2) | ((with_reducible refine gate_callee (f := 12) rfl ?_); refine goesL_ (some 33) rfl rfl Try.func12 (by kernel_rfl) rfl #[.pointer (some ⟨g119, 0, none⟩)] rfl (by (try simp only [List.map_toArray, List.map_cons, List.map_nil]); first | done | rfl | (simp only [List.length_drop, List.length_take]; rfl)) ?_; (with_reducible refine (window_Window_Left.calls g119 x120000_3 t124 t125 w _ ?side1 ?side2 A14.out).mono ?_); (case side1 => repeat (first | (with_reducible first | exact HI119.out | apply IsS42.alloc | apply IsS42.drewN | apply IsS42.drew | apply IsS42.set_0 | refine IsS42.far ?_ NB119_123.out _) | exact HI119.out)); (case side2 => repeat (first | (with_reducible first | exact HB.out | apply below_alloc | apply pw_below_drewN | apply below_drew1 | refine below_set ?_ (IsS42.ge HI119.out) | refine below_set ?_ GE123.out) | exact HB.out)); rintro e w19 ⟨rfl, hi, hb, hk⟩; refine ⟨_, rfl, ?_⟩; have n0_ := Aside0.mk (KeepBut.blk hk (g' := gb123) (o := .cells #[.int .i64 ((rd_T31 l1 x6_3).f0), .int .i64 ((rd_T31 l1 x6_3).f1), .int .i64 ((rd_T31 l1 x6_3).f2)] 31 (0, 0)) (by (with_reducible repeat (first | refine blk_drewN ?_ _ | refine blk_drew ?_ | refine blk_alloc ?_ _)); refine blk_put (cs := #[.int .i64 ((rd_T31 l1 x6_3).f0), .int .i64 ((rd_T31 l1 x6_3).f1), .int .i64 0]) ?_ 2 _ rfl; (with_reducible repeat (first | refine blk_drewN ?_ _ | refine blk_drew ?_ | refine blk_alloc ?_ _)); refine blk_put (cs := #[.int .i64 ((rd_T31 l1 x6_3).f0), .int .i64 0, .int .i64 0]) ?_ 1 _ rfl; (with_reducible repeat (first | refine blk_drewN ?_ _ | refine blk_drew ?_ | refine blk_alloc ?_ _)); refine blk_put (cs := #[.int .i64 0, .int .i64 0, .int .i64 0]) ?_ 0 _ rfl; (with_reducible repeat (first | refine blk_drewN ?_ _ | refine blk_drew ?_ | refine blk_alloc ?_ _)); exact BK123.out) NB123_119.out (by simp)); have n1_ := Aside0.mk (hb); have n2_ := Aside0.mk (hi); clear BK123; clear HB; clear HI119; have BK123 := n0_; have HB := n1_; have HI119 := n2_; clear n0_ n1_ n2_; (try clear hb); (try clear hb2); (try clear hk); (try clear hi)))
                    (try simp only [Act.put, List.setIfInBounds_toArray, List.set_cons_zero, List.set_cons_succ])
                    go_cut [44] (fun v44 wc => ∃ (kq : Nat) (x44_14 : Bool), v44 = .bool x44_14 ∧ Aside0 (heraldlaw09_WindowSums.j3 kq x0_3 l1 x6_3 t124 x44_14 t125 ((rd_T31 l1 x6_3).f0) ((rd_T31 l1 x6_3).f1) ((rd_T31 l1 x6_3).f2) = some r) ∧ Aside0 (kq ≤ k3) ∧ Aside0 (wc.heap[gb123]? = some (.cells #[.int .i64 ((rd_T31 l1 x6_3).f0), .int .i64 ((rd_T31 l1 x6_3).f1), .int .i64 ((rd_T31 l1 x6_3).f2)] 31 (0, 0))) ∧ Aside0 (IsS42 w wc g119 t125) ∧ Aside0 (Below w.heap.size w wc))
                    case first =>
                      have H := HC15.out
                      clear HC15
                      by_cases c20 : t124 = x0_3
                      · rw [if_pos c20] at H
                        have c20b0 : (t124 == x0_3) = true := beq_iff_eq.mpr c20
                        have c20b1 : (t124 != x0_3) = false := bne_eq_false_iff_eq.mpr c20
                        clear c20
                        (first | rw [c20b0] | (simp only [i64_w, i32_w]; rw [c20b0]) | skip)
                        by_cases c21 : t124 < (-2147483647)
                        · rw [if_pos c21] at H
                          have c21b0 : decide (t124 < (-2147483647)) = true := decide_eq_true c21
                          clear c21
                          have H' := Aside0.mk H
                          clear H
                          go_wp2
                          go_meet
                          case rel => exact ⟨_, (true), (by first | rfl | (simp; done) | (simp [*]; done)), H', ⟨by have := HJ5.out; have := HJ9.out; have := HK3.out; first | omega | exact Nat.le_refl _⟩, ⟨by (with_reducible repeat (first | refine blk_drewN ?_ _ | refine blk_drew ?_ | refine blk_alloc ?_ _)); exact BK123.out⟩, ⟨by repeat (first | (with_reducible first | exact HI119.out | apply IsS42.alloc | apply IsS42.drewN | apply IsS42.drew | apply IsS42.set_0 | refine IsS42.far ?_ NB119_123.out _) | exact HI119.out)⟩, ⟨by repeat (first | (with_reducible first | exact HB.out | apply below_alloc | apply pw_below_drewN | apply below_drew1 | refine below_set ?_ (IsS42.ge HI119.out) | refine below_set ?_ GE123.out) | exact HB.out)⟩⟩
                        · rw [if_neg c21] at H
                          have c21b0 : decide (t124 < (-2147483647)) = false := decide_eq_false c21
                          clear c21
                          have H' := Aside0.mk H
                          clear H
                          go_wp2
                          go_meet
                          case rel => exact ⟨_, (decide (t124 > 2147483647)), (by first | rfl | (simp; done) | (simp [*]; done)), H', ⟨by have := HJ5.out; have := HJ9.out; have := HK3.out; first | omega | exact Nat.le_refl _⟩, ⟨by (with_reducible repeat (first | refine blk_drewN ?_ _ | refine blk_drew ?_ | refine blk_alloc ?_ _)); exact BK123.out⟩, ⟨by repeat (first | (with_reducible first | exact HI119.out | apply IsS42.alloc | apply IsS42.drewN | apply IsS42.drew | apply IsS42.set_0 | refine IsS42.far ?_ NB119_123.out _) | exact HI119.out)⟩, ⟨by repeat (first | (with_reducible first | exact HB.out | apply below_alloc | apply pw_below_drewN | apply below_drew1 | refine below_set ?_ (IsS42.ge HI119.out) | refine below_set ?_ GE123.out) | exact HB.out)⟩⟩
                      · rw [if_neg c20] at H
                        have c20b0 : (t124 == x0_3) = false := beq_eq_false_iff_ne.mpr c20
                        have c20b1 : (t124 != x0_3) = true := bne_iff_ne.mpr c20
                        (first | rw [c20b0] | (simp only [i64_w, i32_w]; rw [c20b0]) | skip)
                        have H' := Aside0.mk H
                        clear H
                        go_wp2
                        go_meet
                        case rel => exact ⟨_, (true), (by first | rfl | (simp; done) | (simp [*]; done)), H', ⟨by have := HJ5.out; have := HJ9.out; have := HK3.out; first | omega | exact Nat.le_refl _⟩, ⟨by (with_reducible repeat (first | refine blk_drewN ?_ _ | refine blk_drew ?_ | refine blk_alloc ?_ _)); exact BK123.out⟩, ⟨by repeat (first | (with_reducible first | exact HI119.out | apply IsS42.alloc | apply IsS42.drewN | apply IsS42.drew | apply IsS42.set_0 | refine IsS42.far ?_ NB119_123.out _) | exact HI119.out)⟩, ⟨by repeat (first | (with_reducible first | exact HB.out | apply below_alloc | apply pw_below_drewN | apply below_drew1 | refine below_set ?_ (IsS42.ge HI119.out) | refine below_set ?_ GE123.out) | exact HB.out)⟩⟩
                    case rest =>
                      clear HC15
                      try clear c1
                      try clear p1
                      try clear q1
                      try clear hx1
                      try clear c2
                      try clear p2
                      try clear c4
                      try clear c5
                      try clear c8
                      try clear c9
                      try clear c9b0
                      try clear c11
                      try clear c11b0
                      try clear c12
                      try clear c12b0
                      try clear p12
                      try clear q12
                      try clear hx12
                      try clear c13
                      try clear c13b0
                      try clear c17
                      try clear c20
                      try clear c20b0
                      try clear c20b1
                      try clear c21
                      try clear c21b0
                      try clear hcz18_0
                      try clear hcz18_1
                      try clear hcz18_2
                      try clear hfz18_0
                      try clear hfz18_1
                      try clear hfz18_2
                      try clear hx122_0
                      try clear hx122_1
                      try clear hx122_2
                      try clear p122
                      try clear p2
                      try clear q122
                      obtain ⟨kq, x44_14, rfl, HA, HJ14, BK123, HI119, HB⟩ := hcut
                      cases kq with
                      | zero => exact absurd HA.out (by simp [heraldlaw09_WindowSums.j3])
                      | succ kj14 =>
                        have H := HA.out
                        clear HA
                        simp only [heraldlaw09_WindowSums.j3] at H
                        by_cases c22 : x44_14 = true
                        · subst c22
                          have H1 : (some false) = some r := by rw [if_pos rfl] at H; exact H
                          clear H
                          have H := H1
                          clear H1
                          obtain rfl := Option.some.inj H
                          go_wp2
                          go_ret
                          exact ⟨by first | rfl | (simp [errW_none, errW_some] <;> rfl) | (simp [*, errW_none, errW_some] <;> rfl), by repeat (first | (with_reducible first | exact HB.out | apply below_alloc | apply pw_below_drewN | apply below_drew1 | refine below_set ?_ (IsS42.ge HI119.out) | refine below_set ?_ GE123.out) | exact HB.out)⟩
                        · replace c22 := Bool.eq_false_iff.mpr c22
                          subst c22
                          have H1 : (if ((rd_T31 l1 x6_3).f0) = 1 then ((window_Window_Take.f t125 ((rd_T31 l1 x6_3).f2)).bind fun bt126 => (if ((rd_T31 l1 x6_3).f2) = 0 then (heraldlaw09_WindowSums.j4 kj14 x0_3 l1 x6_3 bt126.1 (!bt126.1) bt126.2 ((rd_T31 l1 x6_3).f0) ((rd_T31 l1 x6_3).f1) ((rd_T31 l1 x6_3).f2)) else (if ((rd_T31 l1 x6_3).f2) > 0 then (heraldlaw09_WindowSums.j4 kj14 x0_3 l1 x6_3 bt126.1 (bt126.1 != (decide (((rd_T31 l1 x6_3).f2) ≤ t124))) bt126.2 ((rd_T31 l1 x6_3).f0) ((rd_T31 l1 x6_3).f1) ((rd_T31 l1 x6_3).f2)) else (heraldlaw09_WindowSums.j4 kj14 x0_3 l1 x6_3 bt126.1 bt126.1 bt126.2 ((rd_T31 l1 x6_3).f0) ((rd_T31 l1 x6_3).f1) ((rd_T31 l1 x6_3).f2))))) else (if ((rd_T31 l1 x6_3).f0) = 2 then ((window_Window_Give.f t125 ((rd_T31 l1 x6_3).f2)).bind fun bt128 => (if bt128.1 = 0 then (if ((bt128.1 == 1) != (decide (((rd_T31 l1 x6_3).f2) < 1))) = true then (some false) else (heraldlaw09_WindowSums.l0 kj14 (wrap64 (x0_3 + ((rd_T31 l1 x6_3).f2))) l1 (wrap64 (x6_3 + 1)) bt128.2)) else (if bt128.1 = 1 then (if ((rd_T31 l1 x6_3).f2) < 1 then (heraldlaw09_WindowSums.l0 kj14 x0_3 l1 (wrap64 (x6_3 + 1)) bt128.2) else (some false)) else (if bt128.1 = 3 then (if ((rd_T31 l1 x6_3).f2) < 1 then (some false) else (heraldlaw09_WindowSums.l0 kj14 x0_3 l1 (wrap64 (x6_3 + 1)) bt128.2)) else (some false))))) else (if ((rd_T31 l1 x6_3).f0) = 3 then ((window_Window_Shift.f t125 ((rd_T31 l1 x6_3).f2)).bind fun bt130 => (if bt130.1 = 0 then (heraldlaw09_WindowSums.l0 kj14 (wrap64 (x0_3 + ((rd_T31 l1 x6_3).f2))) l1 (wrap64 (x6_3 + 1)) bt130.2) else (if bt130.1 = 3 then (heraldlaw09_WindowSums.l0 kj14 x0_3 l1 (wrap64 (x6_3 + 1)) bt130.2) else (some false)))) else (heraldlaw09_WindowSums.l0 kj14 x0_3 l1 (wrap64 (x6_3 + 1)) t125)))) = some r := by rw [if_neg (show ¬ (false = true) by decide)] at H; exact H
                          clear H
                          have H := H1
                          clear H1
                          by_cases c23 : ((rd_T31 l1 x6_3).f0) = 1
                          · rw [if_pos c23] at H
                            have c23b0 : (((rd_T31 l1 x6_3).f0) == 1) = true := beq_iff_eq.mpr c23
                            have c23b1 : (((rd_T31 l1 x6_3).f0) != 1) = false := bne_eq_false_iff_eq.mpr c23
                            clear c23
                            replace H := Option.bind_eq_some_iff.mp H
                            obtain ⟨⟨t126, t127⟩, A240, H⟩ := H
                            replace H : (if ((rd_T31 l1 x6_3).f2) = 0 then (heraldlaw09_WindowSums.j4 kj14 x0_3 l1 x6_3 t126 (!t126) t127 ((rd_T31 l1 x6_3).f0) ((rd_T31 l1 x6_3).f1) ((rd_T31 l1 x6_3).f2)) else (if ((rd_T31 l1 x6_3).f2) > 0 then (heraldlaw09_WindowSums.j4 kj14 x0_3 l1 x6_3 t126 (t126 != (decide (((rd_T31 l1 x6_3).f2) ≤ t124))) t127 ((rd_T31 l1 x6_3).f0) ((rd_T31 l1 x6_3).f1) ((rd_T31 l1 x6_3).f2)) else (heraldlaw09_WindowSums.j4 kj14 x0_3 l1 x6_3 t126 t126 t127 ((rd_T31 l1 x6_3).f0) ((rd_T31 l1 x6_3).f1) ((rd_T31 l1 x6_3).f2)))) = some r := H
                            have A24 := Aside0.mk A240
                            clear A240
                            have HC25 := Aside0.mk H
                            clear H
                            have hnb26 := NB123_119.out
                            have hnc26 := NB119_123.out
                            have hcz27_0 : wc.cell? ⟨gb123, 0, none⟩ = some (.int .i64 ((rd_T31 l1 x6_3).f0)) := (blk_cell BK123.out 0).trans rfl
                            have hcz27_1 : wc.cell? ⟨gb123, 1, none⟩ = some (.int .i64 ((rd_T31 l1 x6_3).f1)) := (blk_cell BK123.out 1).trans rfl
                            have hcz27_2 : wc.cell? ⟨gb123, 2, none⟩ = some (.int .i64 ((rd_T31 l1 x6_3).f2)) := (blk_cell BK123.out 2).trans rfl
                            have hfz27_0 := blk_frozen BK123.out 0
                            have hfz27_1 := blk_frozen BK123.out 1
                            have hfz27_2 := blk_frozen BK123.out 2
                            go_upto_region 20 with (first | ((with_reducible refine gate_callee (f := 16) rfl ?_); refine goesL_ (some 52) rfl rfl Try.func16 (by kernel_rfl) rfl #[.pointer (some ⟨g119, 0, none⟩), .int .i64 ((rd_T31 l1 x6_3).f2)] rfl (by (try simp only [List.map_toArray, List.map_cons, List.map_nil]); first | done | rfl | (simp only [List.length_drop, List.length_take]; rfl)) ?_; (with_reducible refine (window_Window_Take.calls g119 t125 ((rd_T31 l1 x6_3).f2) t126 t127 w _ ?side1 ?side2 A24.out).mono ?_); (case side1 => repeat (first | (with_reducible first | exact HI119.out | apply IsS42.alloc | apply IsS42.drewN | apply IsS42.drew | apply IsS42.set_0 | refine IsS42.far ?_ NB119_123.out _) | exact HI119.out)); (case side2 => repeat (first | (with_reducible first | exact HB.out | apply below_alloc | apply pw_below_drewN | apply below_drew1 | refine below_set ?_ (IsS42.ge HI119.out) | refine below_set ?_ GE123.out) | exact HB.out)); rintro e w28 ⟨rfl, hi, hb, hk⟩; refine ⟨_, rfl, ?_⟩; have n0_ := Aside0.mk (KeepBut.blk hk (g' := gb123) (o := .cells #[.int .i64 ((rd_T31 l1 x6_3).f0), .int .i64 ((rd_T31 l1 x6_3).f1), .int .i64 ((rd_T31 l1 x6_3).f2)] 31 (0, 0)) (by (with_reducible repeat (first | refine blk_drewN ?_ _ | refine blk_drew ?_ | refine blk_alloc ?_ _)); exact BK123.out) NB123_119.out (by simp)); have n1_ := Aside0.mk (hb); have n2_ := Aside0.mk (hi); clear BK123; clear HB; clear HI119; have BK123 := n0_; have HB := n1_; have HI119 := n2_; clear n0_ n1_ n2_; (try clear hb); (try clear hb2); (try clear hk); (try clear hi)))
                            (try simp only [Act.put, List.setIfInBounds_toArray, List.set_cons_zero, List.set_cons_succ])
                            go_cut [68] (fun v68 wc => ∃ (kq : Nat) (x68_24 : Bool), v68 = .bool x68_24 ∧ Aside0 (heraldlaw09_WindowSums.j4 kq x0_3 l1 x6_3 t126 x68_24 t127 ((rd_T31 l1 x6_3).f0) ((rd_T31 l1 x6_3).f1) ((rd_T31 l1 x6_3).f2) = some r) ∧ Aside0 (kq ≤ kj14) ∧ Aside0 (wc.heap[gb123]? = some (.cells #[.int .i64 ((rd_T31 l1 x6_3).f0), .int .i64 ((rd_T31 l1 x6_3).f1), .int .i64 ((rd_T31 l1 x6_3).f2)] 31 (0, 0))) ∧ Aside0 (IsS42 w wc g119 t127) ∧ Aside0 (Below w.heap.size w wc))
                            case first =>
                              have H := HC25.out
                              clear HC25
                              by_cases c29 : ((rd_T31 l1 x6_3).f2) = 0
                              · rw [if_pos c29] at H
                                have c29b0 : (((rd_T31 l1 x6_3).f2) == 0) = true := beq_iff_eq.mpr c29
                                have c29b1 : (((rd_T31 l1 x6_3).f2) != 0) = false := bne_eq_false_iff_eq.mpr c29
                                clear c29
                                (first | rw [c29b0] | (simp only [i64_w, i32_w]; rw [c29b0]) | skip)
                                have H' := Aside0.mk H
                                clear H
                                have hnb30 := NB123_119.out
                                have hnc30 := NB119_123.out
                                have hcz31_0 : w28.cell? ⟨gb123, 0, none⟩ = some (.int .i64 ((rd_T31 l1 x6_3).f0)) := (blk_cell BK123.out 0).trans rfl
                                have hcz31_1 : w28.cell? ⟨gb123, 1, none⟩ = some (.int .i64 ((rd_T31 l1 x6_3).f1)) := (blk_cell BK123.out 1).trans rfl
                                have hcz31_2 : w28.cell? ⟨gb123, 2, none⟩ = some (.int .i64 ((rd_T31 l1 x6_3).f2)) := (blk_cell BK123.out 2).trans rfl
                                have hfz31_0 := blk_frozen BK123.out 0
                                have hfz31_1 := blk_frozen BK123.out 1
                                have hfz31_2 := blk_frozen BK123.out 2
                                go_wp2
                                go_meet
                                case rel => exact ⟨_, (!t126), (by first | rfl | (simp; done) | (simp [*]; done)), H', ⟨by have := HJ5.out; have := HJ9.out; have := HK3.out; have := HJ14.out; first | omega | exact Nat.le_refl _⟩, ⟨by (with_reducible repeat (first | refine blk_drewN ?_ _ | refine blk_drew ?_ | refine blk_alloc ?_ _)); exact BK123.out⟩, ⟨by repeat (first | (with_reducible first | exact HI119.out | apply IsS42.alloc | apply IsS42.drewN | apply IsS42.drew | apply IsS42.set_0 | refine IsS42.far ?_ NB119_123.out _) | exact HI119.out)⟩, ⟨by repeat (first | (with_reducible first | exact HB.out | apply below_alloc | apply pw_below_drewN | apply below_drew1 | refine below_set ?_ (IsS42.ge HI119.out) | refine below_set ?_ GE123.out) | exact HB.out)⟩⟩
                              · rw [if_neg c29] at H
                                have c29b0 : (((rd_T31 l1 x6_3).f2) == 0) = false := beq_eq_false_iff_ne.mpr c29
                                have c29b1 : (((rd_T31 l1 x6_3).f2) != 0) = true := bne_iff_ne.mpr c29
                                (first | rw [c29b0] | (simp only [i64_w, i32_w]; rw [c29b0]) | skip)
                                by_cases c32 : ((rd_T31 l1 x6_3).f2) > 0
                                · rw [if_pos c32] at H
                                  have c32b0 : decide (0 < ((rd_T31 l1 x6_3).f2)) = true := decide_eq_true c32
                                  clear c32
                                  have H' := Aside0.mk H
                                  clear H
                                  have hnb33 := NB123_119.out
                                  have hnc33 := NB119_123.out
                                  have hcz34_0 : w28.cell? ⟨gb123, 0, none⟩ = some (.int .i64 ((rd_T31 l1 x6_3).f0)) := (blk_cell BK123.out 0).trans rfl
                                  have hcz34_1 : w28.cell? ⟨gb123, 1, none⟩ = some (.int .i64 ((rd_T31 l1 x6_3).f1)) := (blk_cell BK123.out 1).trans rfl
                                  have hcz34_2 : w28.cell? ⟨gb123, 2, none⟩ = some (.int .i64 ((rd_T31 l1 x6_3).f2)) := (blk_cell BK123.out 2).trans rfl
                                  have hfz34_0 := blk_frozen BK123.out 0
                                  have hfz34_1 := blk_frozen BK123.out 1
                                  have hfz34_2 := blk_frozen BK123.out 2
                                  go_wp2
                                  go_meet
                                  case rel => exact ⟨_, ((t126 != (decide (((rd_T31 l1 x6_3).f2) ≤ t124)))), (by first | rfl | (simp; done) | (simp [*]; done)), H', ⟨by have := HJ5.out; have := HJ9.out; have := HK3.out; have := HJ14.out; first | omega | exact Nat.le_refl _⟩, ⟨by (with_reducible repeat (first | refine blk_drewN ?_ _ | refine blk_drew ?_ | refine blk_alloc ?_ _)); exact BK123.out⟩, ⟨by repeat (first | (with_reducible first | exact HI119.out | apply IsS42.alloc | apply IsS42.drewN | apply IsS42.drew | apply IsS42.set_0 | refine IsS42.far ?_ NB119_123.out _) | exact HI119.out)⟩, ⟨by repeat (first | (with_reducible first | exact HB.out | apply below_alloc | apply pw_below_drewN | apply below_drew1 | refine below_set ?_ (IsS42.ge HI119.out) | refine below_set ?_ GE123.out) | exact HB.out)⟩⟩
                                · rw [if_neg c32] at H
                                  have c32b0 : decide (0 < ((rd_T31 l1 x6_3).f2)) = false := decide_eq_false c32
                                  clear c32
                                  have H' := Aside0.mk H
                                  clear H
                                  have hnb35 := NB123_119.out
                                  have hnc35 := NB119_123.out
                                  have hcz36_0 : w28.cell? ⟨gb123, 0, none⟩ = some (.int .i64 ((rd_T31 l1 x6_3).f0)) := (blk_cell BK123.out 0).trans rfl
                                  have hcz36_1 : w28.cell? ⟨gb123, 1, none⟩ = some (.int .i64 ((rd_T31 l1 x6_3).f1)) := (blk_cell BK123.out 1).trans rfl
                                  have hcz36_2 : w28.cell? ⟨gb123, 2, none⟩ = some (.int .i64 ((rd_T31 l1 x6_3).f2)) := (blk_cell BK123.out 2).trans rfl
                                  have hfz36_0 := blk_frozen BK123.out 0
                                  have hfz36_1 := blk_frozen BK123.out 1
                                  have hfz36_2 := blk_frozen BK123.out 2
                                  go_wp2
                                  go_meet
                                  case rel => exact ⟨_, (t126), (by first | rfl | (simp; done) | (simp [*]; done)), H', ⟨by have := HJ5.out; have := HJ9.out; have := HK3.out; have := HJ14.out; first | omega | exact Nat.le_refl _⟩, ⟨by (with_reducible repeat (first | refine blk_drewN ?_ _ | refine blk_drew ?_ | refine blk_alloc ?_ _)); exact BK123.out⟩, ⟨by repeat (first | (with_reducible first | exact HI119.out | apply IsS42.alloc | apply IsS42.drewN | apply IsS42.drew | apply IsS42.set_0 | refine IsS42.far ?_ NB119_123.out _) | exact HI119.out)⟩, ⟨by repeat (first | (with_reducible first | exact HB.out | apply below_alloc | apply pw_below_drewN | apply below_drew1 | refine below_set ?_ (IsS42.ge HI119.out) | refine below_set ?_ GE123.out) | exact HB.out)⟩⟩
                            case rest =>
                              clear HC25
                              try clear c1
                              try clear p1
                              try clear q1
                              try clear hx1
                              try clear c2
                              try clear p2
                              try clear c3
                              try clear c4
                              try clear c5
                              try clear p6
                              try clear c8
                              try clear c9
                              try clear c9b0
                              try clear c11
                              try clear c11b0
                              try clear c12
                              try clear c12b0
                              try clear p12
                              try clear q12
                              try clear hx12
                              try clear c13
                              try clear c13b0
                              try clear c16
                              try clear c17
                              try clear c20
                              try clear c20b0
                              try clear c20b1
                              try clear c21
                              try clear c21b0
                              try clear c22
                              try clear c23
                              try clear c23b0
                              try clear c23b1
                              try clear c26
                              try clear c29
                              try clear c29b0
                              try clear c29b1
                              try clear c30
                              try clear c32
                              try clear c32b0
                              try clear c33
                              try clear c35
                              try clear hcz18_0
                              try clear hcz18_1
                              try clear hcz18_2
                              try clear hcz27_0
                              try clear hcz27_1
                              try clear hcz27_2
                              try clear hcz31_0
                              try clear hcz31_1
                              try clear hcz31_2
                              try clear hcz34_0
                              try clear hcz34_1
                              try clear hcz34_2
                              try clear hcz36_0
                              try clear hcz36_1
                              try clear hcz36_2
                              try clear hfz18_0
                              try clear hfz18_1
                              try clear hfz18_2
                              try clear hfz27_0
                              try clear hfz27_1
                              try clear hfz27_2
                              try clear hfz31_0
                              try clear hfz31_1
                              try clear hfz31_2
                              try clear hfz34_0
                              try clear hfz34_1
                              try clear hfz34_2
                              try clear hfz36_0
                              try clear hfz36_1
                              try clear hfz36_2
                              try clear hx122_0
                              try clear hx122_1
                              try clear hx122_2
                              try clear p1
                              try clear p12
                              try clear p122
                              try clear p2
                              try clear q1
                              try clear q12
                              try clear q122
                              obtain ⟨kq, x68_24, rfl, HA, HJ24, BK123, HI119, HB⟩ := hcut
                              cases kq with
                              | zero => exact absurd HA.out (by simp [heraldlaw09_WindowSums.j4])
                              | succ kj24 =>
                                have H := HA.out
                                clear HA
                                simp only [heraldlaw09_WindowSums.j4] at H
                                by_cases c37 : x68_24 = true
                                · subst c37
                                  have H1 : (some false) = some r := by rw [if_pos rfl] at H; exact H
                                  clear H
                                  have H := H1
                                  clear H1
                                  obtain rfl := Option.some.inj H
                                  go_wp2
                                  go_ret
                                  exact ⟨by first | rfl | (simp [errW_none, errW_some] <;> rfl) | (simp [*, errW_none, errW_some] <;> rfl), by repeat (first | (with_reducible first | exact HB.out | apply below_alloc | apply pw_below_drewN | apply below_drew1 | refine below_set ?_ (IsS42.ge HI119.out) | refine below_set ?_ GE123.out) | exact HB.out)⟩
                                · replace c37 := Bool.eq_false_iff.mpr c37
                                  subst c37
                                  have H1 : (if t126 = true then (heraldlaw09_WindowSums.l0 kj24 (wrap64 (x0_3 - ((rd_T31 l1 x6_3).f2))) l1 (wrap64 (x6_3 + 1)) t127) else (heraldlaw09_WindowSums.l0 kj24 x0_3 l1 (wrap64 (x6_3 + 1)) t127)) = some r := by rw [if_neg (show ¬ (false = true) by decide)] at H; exact H
                                  clear H
                                  have H := H1
                                  clear H1
                                  by_cases c38 : t126 = true
                                  · subst c38
                                    have H1 : (heraldlaw09_WindowSums.l0 kj24 (wrap64 (x0_3 - ((rd_T31 l1 x6_3).f2))) l1 (wrap64 (x6_3 + 1)) t127) = some r := by rw [if_pos rfl] at H; exact H
                                    clear H
                                    have H := H1
                                    clear H1
                                    have H' := Aside0.mk H
                                    clear H
                                    have hnb39 := NB123_119.out
                                    have hnc39 := NB119_123.out
                                    have hcz40_0 : wc.cell? ⟨gb123, 0, none⟩ = some (.int .i64 ((rd_T31 l1 x6_3).f0)) := (blk_cell BK123.out 0).trans rfl
                                    have hcz40_1 : wc.cell? ⟨gb123, 1, none⟩ = some (.int .i64 ((rd_T31 l1 x6_3).f1)) := (blk_cell BK123.out 1).trans rfl
                                    have hcz40_2 : wc.cell? ⟨gb123, 2, none⟩ = some (.int .i64 ((rd_T31 l1 x6_3).f2)) := (blk_cell BK123.out 2).trans rfl
                                    have hfz40_0 := blk_frozen BK123.out 0
                                    have hfz40_1 := blk_frozen BK123.out 1
                                    have hfz40_2 := blk_frozen BK123.out 2
                                    go_wp2
                                    go_roundg kj24
                                    case measure => have := HJ5.out; have := HJ9.out; have := HK3.out; have := HJ14.out; have := HJ24.out; omega
                                    case rel => exact ⟨(wrap64 (x0_3 - ((rd_T31 l1 x6_3).f2))), (wrap64 (x6_3 + 1)), (t127), (by first | rfl | (simp; done) | (simp [*]; done)), (by first | rfl | (simp; done) | (simp [*]; done)), H', ⟨by have := HJ5.out; have := HJ9.out; have := HK3.out; have := HJ14.out; have := HJ24.out; omega⟩, ⟨by repeat (first | (with_reducible first | exact HI119.out | apply IsS42.alloc | apply IsS42.drewN | apply IsS42.drew | apply IsS42.set_0 | refine IsS42.far ?_ NB119_123.out _) | exact HI119.out)⟩, ⟨by repeat (first | (with_reducible first | exact HB.out | apply below_alloc | apply pw_below_drewN | apply below_drew1 | refine below_set ?_ (IsS42.ge HI119.out) | refine below_set ?_ GE123.out) | exact HB.out)⟩⟩
                                  · replace c38 := Bool.eq_false_iff.mpr c38
                                    subst c38
                                    have H1 : (heraldlaw09_WindowSums.l0 kj24 x0_3 l1 (wrap64 (x6_3 + 1)) t127) = some r := by rw [if_neg (show ¬ (false = true) by decide)] at H; exact H
                                    clear H
                                    have H := H1
                                    clear H1
                                    have H' := Aside0.mk H
                                    clear H
                                    go_wp2
                                    go_roundg kj24
                                    case measure => have := HJ5.out; have := HJ9.out; have := HK3.out; have := HJ14.out; have := HJ24.out; omega
                                    case rel => exact ⟨(x0_3), (wrap64 (x6_3 + 1)), (t127), (by first | rfl | (simp; done) | (simp [*]; done)), (by first | rfl | (simp; done) | (simp [*]; done)), H', ⟨by have := HJ5.out; have := HJ9.out; have := HK3.out; have := HJ14.out; have := HJ24.out; omega⟩, ⟨by repeat (first | (with_reducible first | exact HI119.out | apply IsS42.alloc | apply IsS42.drewN | apply IsS42.drew | apply IsS42.set_0 | refine IsS42.far ?_ NB119_123.out _) | exact HI119.out)⟩, ⟨by repeat (first | (with_reducible first | exact HB.out | apply below_alloc | apply pw_below_drewN | apply below_drew1 | refine below_set ?_ (IsS42.ge HI119.out) | refine below_set ?_ GE123.out) | exact HB.out)⟩⟩
                          · rw [if_neg c23] at H
                            have c23b0 : (((rd_T31 l1 x6_3).f0) == 1) = false := beq_eq_false_iff_ne.mpr c23
                            have c23b1 : (((rd_T31 l1 x6_3).f0) != 1) = true := bne_iff_ne.mpr c23
                            by_cases c41 : ((rd_T31 l1 x6_3).f0) = 2
                            · rw [if_pos c41] at H
                              have c41b0 : (((rd_T31 l1 x6_3).f0) == 2) = true := beq_iff_eq.mpr c41
                              have c41b1 : (((rd_T31 l1 x6_3).f0) != 2) = false := bne_eq_false_iff_eq.mpr c41
                              clear c41
                              replace H := Option.bind_eq_some_iff.mp H
                              obtain ⟨⟨t128, t129⟩, A420, H⟩ := H
                              replace H : (if t128 = 0 then (if ((t128 == 1) != (decide (((rd_T31 l1 x6_3).f2) < 1))) = true then (some false) else (heraldlaw09_WindowSums.l0 kj14 (wrap64 (x0_3 + ((rd_T31 l1 x6_3).f2))) l1 (wrap64 (x6_3 + 1)) t129)) else (if t128 = 1 then (if ((rd_T31 l1 x6_3).f2) < 1 then (heraldlaw09_WindowSums.l0 kj14 x0_3 l1 (wrap64 (x6_3 + 1)) t129) else (some false)) else (if t128 = 3 then (if ((rd_T31 l1 x6_3).f2) < 1 then (some false) else (heraldlaw09_WindowSums.l0 kj14 x0_3 l1 (wrap64 (x6_3 + 1)) t129)) else (some false)))) = some r := H
                              have A42 := Aside0.mk A420
                              clear A420
                              by_cases c43 : t128 = 0
                              · rw [if_pos c43] at H
                                have c43b0 : (t128 == 0) = true := beq_iff_eq.mpr c43
                                have c43b1 : (t128 != 0) = false := bne_eq_false_iff_eq.mpr c43
                                clear c43
                                by_cases c44 : ((t128 == 1) != (decide (((rd_T31 l1 x6_3).f2) < 1))) = true
                                · rw [if_pos c44] at H
                                  have c44b0 : ((t128 == 1) != (decide (((rd_T31 l1 x6_3).f2) < 1))) = true := c44
                                  (try (have c44b1 : decide ((t128 == 1) = (decide (((rd_T31 l1 x6_3).f2) < 1))) = false := by simpa using c44))
                                  (try (have c44b2 : ((t128 == 1) == (decide (((rd_T31 l1 x6_3).f2) < 1))) = false := by simpa using c44))
                                  (try (have c44b3 : ¬ ((t128 == 1) = (decide (((rd_T31 l1 x6_3).f2) < 1))) := by simpa using c44))
                                  clear c44
                                  obtain rfl := Option.some.inj H
                                  have hnb45 := NB123_119.out
                                  have hnc45 := NB119_123.out
                                  have hcz46_0 : wc.cell? ⟨gb123, 0, none⟩ = some (.int .i64 ((rd_T31 l1 x6_3).f0)) := (blk_cell BK123.out 0).trans rfl
                                  have hcz46_1 : wc.cell? ⟨gb123, 1, none⟩ = some (.int .i64 ((rd_T31 l1 x6_3).f1)) := (blk_cell BK123.out 1).trans rfl
                                  have hcz46_2 : wc.cell? ⟨gb123, 2, none⟩ = some (.int .i64 ((rd_T31 l1 x6_3).f2)) := (blk_cell BK123.out 2).trans rfl
                                  have hfz46_0 := blk_frozen BK123.out 0
                                  have hfz46_1 := blk_frozen BK123.out 1
                                  have hfz46_2 := blk_frozen BK123.out 2
                                  go_wp2_with (first | ((with_reducible refine gate_callee (f := 17) rfl ?_); refine goesL_ (some 79) rfl rfl Try.func17 (by kernel_rfl) rfl #[.pointer (some ⟨g119, 0, none⟩), .int .i64 ((rd_T31 l1 x6_3).f2)] rfl (by (try simp only [List.map_toArray, List.map_cons, List.map_nil]); first | done | rfl | (simp only [List.length_drop, List.length_take]; rfl)) ?_; (with_reducible refine (window_Window_Give.calls g119 t125 ((rd_T31 l1 x6_3).f2) t128 t129 w _ ?side1 ?side2 A42.out).mono ?_); (case side1 => repeat (first | (with_reducible first | exact HI119.out | apply IsS42.alloc | apply IsS42.drewN | apply IsS42.drew | apply IsS42.set_0 | refine IsS42.far ?_ NB119_123.out _) | exact HI119.out)); (case side2 => repeat (first | (with_reducible first | exact HB.out | apply below_alloc | apply pw_below_drewN | apply below_drew1 | refine below_set ?_ (IsS42.ge HI119.out) | refine below_set ?_ GE123.out) | exact HB.out)); rintro e w47 ⟨rfl, hi, hb, hk⟩; refine ⟨_, rfl, ?_⟩; have n0_ := Aside0.mk (KeepBut.blk hk (g' := gb123) (o := .cells #[.int .i64 ((rd_T31 l1 x6_3).f0), .int .i64 ((rd_T31 l1 x6_3).f1), .int .i64 ((rd_T31 l1 x6_3).f2)] 31 (0, 0)) (by (with_reducible repeat (first | refine blk_drewN ?_ _ | refine blk_drew ?_ | refine blk_alloc ?_ _)); exact BK123.out) NB123_119.out (by simp)); have n1_ := Aside0.mk (hb); have n2_ := Aside0.mk (hi); clear BK123; clear HB; clear HI119; have BK123 := n0_; have HB := n1_; have HI119 := n2_; clear n0_ n1_ n2_; (try clear hb); (try clear hb2); (try clear hk); (try clear hi); have hcz48_0 : w47.cell? ⟨gb123, 0, none⟩ = some (.int .i64 ((rd_T31 l1 x6_3).f0)) := (blk_cell BK123.out 0).trans rfl; have hcz48_1 : w47.cell? ⟨gb123, 1, none⟩ = some (.int .i64 ((rd_T31 l1 x6_3).f1)) := (blk_cell BK123.out 1).trans rfl; have hcz48_2 : w47.cell? ⟨gb123, 2, none⟩ = some (.int .i64 ((rd_T31 l1 x6_3).f2)) := (blk_cell BK123.out 2).trans rfl; have hfz48_0 := blk_frozen BK123.out 0; have hfz48_1 := blk_frozen BK123.out 1; have hfz48_2 := blk_frozen BK123.out 2))
                                  go_ret
                                  exact ⟨by first | rfl | (simp [errW_none, errW_some] <;> rfl) | (simp [*, errW_none, errW_some] <;> rfl), by repeat (first | (with_reducible first | exact HB.out | apply below_alloc | apply pw_below_drewN | apply below_drew1 | refine below_set ?_ (IsS42.ge HI119.out) | refine below_set ?_ GE123.out) | exact HB.out)⟩
                                · rw [if_neg c44] at H
                                  have c44b0 : ((t128 == 1) != (decide (((rd_T31 l1 x6_3).f2) < 1))) = false := by simpa using c44
                                  (try (have c44b1 : decide ((t128 == 1) = (decide (((rd_T31 l1 x6_3).f2) < 1))) = true := by simpa using c44))
                                  (try (have c44b2 : ((t128 == 1) == (decide (((rd_T31 l1 x6_3).f2) < 1))) = true := by simpa using c44))
                                  clear c44
                                  have H' := Aside0.mk H
                                  clear H
                                  have hnb49 := NB123_119.out
                                  have hnc49 := NB119_123.out
                                  have hcz50_0 : wc.cell? ⟨gb123, 0, none⟩ = some (.int .i64 ((rd_T31 l1 x6_3).f0)) := (blk_cell BK123.out 0).trans rfl
                                  have hcz50_1 : wc.cell? ⟨gb123, 1, none⟩ = some (.int .i64 ((rd_T31 l1 x6_3).f1)) := (blk_cell BK123.out 1).trans rfl
                                  have hcz50_2 : wc.cell? ⟨gb123, 2, none⟩ = some (.int .i64 ((rd_T31 l1 x6_3).f2)) := (blk_cell BK123.out 2).trans rfl
                                  have hfz50_0 := blk_frozen BK123.out 0
                                  have hfz50_1 := blk_frozen BK123.out 1
                                  have hfz50_2 := blk_frozen BK123.out 2
                                  go_wp2_with (first | ((with_reducible refine gate_callee (f := 17) rfl ?_); refine goesL_ (some 79) rfl rfl Try.func17 (by kernel_rfl) rfl #[.pointer (some ⟨g119, 0, none⟩), .int .i64 ((rd_T31 l1 x6_3).f2)] rfl (by (try simp only [List.map_toArray, List.map_cons, List.map_nil]); first | done | rfl | (simp only [List.length_drop, List.length_take]; rfl)) ?_; (with_reducible refine (window_Window_Give.calls g119 t125 ((rd_T31 l1 x6_3).f2) t128 t129 w _ ?side1 ?side2 A42.out).mono ?_); (case side1 => repeat (first | (with_reducible first | exact HI119.out | apply IsS42.alloc | apply IsS42.drewN | apply IsS42.drew | apply IsS42.set_0 | refine IsS42.far ?_ NB119_123.out _) | exact HI119.out)); (case side2 => repeat (first | (with_reducible first | exact HB.out | apply below_alloc | apply pw_below_drewN | apply below_drew1 | refine below_set ?_ (IsS42.ge HI119.out) | refine below_set ?_ GE123.out) | exact HB.out)); rintro e w51 ⟨rfl, hi, hb, hk⟩; refine ⟨_, rfl, ?_⟩; have n0_ := Aside0.mk (KeepBut.blk hk (g' := gb123) (o := .cells #[.int .i64 ((rd_T31 l1 x6_3).f0), .int .i64 ((rd_T31 l1 x6_3).f1), .int .i64 ((rd_T31 l1 x6_3).f2)] 31 (0, 0)) (by (with_reducible repeat (first | refine blk_drewN ?_ _ | refine blk_drew ?_ | refine blk_alloc ?_ _)); exact BK123.out) NB123_119.out (by simp)); have n1_ := Aside0.mk (hb); have n2_ := Aside0.mk (hi); clear BK123; clear HB; clear HI119; have BK123 := n0_; have HB := n1_; have HI119 := n2_; clear n0_ n1_ n2_; (try clear hb); (try clear hb2); (try clear hk); (try clear hi); have hcz52_0 : w51.cell? ⟨gb123, 0, none⟩ = some (.int .i64 ((rd_T31 l1 x6_3).f0)) := (blk_cell BK123.out 0).trans rfl; have hcz52_1 : w51.cell? ⟨gb123, 1, none⟩ = some (.int .i64 ((rd_T31 l1 x6_3).f1)) := (blk_cell BK123.out 1).trans rfl; have hcz52_2 : w51.cell? ⟨gb123, 2, none⟩ = some (.int .i64 ((rd_T31 l1 x6_3).f2)) := (blk_cell BK123.out 2).trans rfl; have hfz52_0 := blk_frozen BK123.out 0; have hfz52_1 := blk_frozen BK123.out 1; have hfz52_2 := blk_frozen BK123.out 2))
                                  go_roundg kj14
                                  case measure => have := HJ5.out; have := HJ9.out; have := HK3.out; have := HJ14.out; omega
                                  case rel => exact ⟨(wrap64 (x0_3 + ((rd_T31 l1 x6_3).f2))), (wrap64 (x6_3 + 1)), (t129), (by first | rfl | (simp; done) | (simp [*]; done)), (by first | rfl | (simp; done) | (simp [*]; done)), H', ⟨by have := HJ5.out; have := HJ9.out; have := HK3.out; have := HJ14.out; omega⟩, ⟨by repeat (first | (with_reducible first | exact HI119.out | apply IsS42.alloc | apply IsS42.drewN | apply IsS42.drew | apply IsS42.set_0 | refine IsS42.far ?_ NB119_123.out _) | exact HI119.out)⟩, ⟨by repeat (first | (with_reducible first | exact HB.out | apply below_alloc | apply pw_below_drewN | apply below_drew1 | refine below_set ?_ (IsS42.ge HI119.out) | refine below_set ?_ GE123.out) | exact HB.out)⟩⟩
                              · rw [if_neg c43] at H
                                have c43b0 : (t128 == 0) = false := beq_eq_false_iff_ne.mpr c43
                                have c43b1 : (t128 != 0) = true := bne_iff_ne.mpr c43
                                by_cases c53 : t128 = 1
                                · rw [if_pos c53] at H
                                  have c53b0 : (t128 == 1) = true := beq_iff_eq.mpr c53
                                  have c53b1 : (t128 != 1) = false := bne_eq_false_iff_eq.mpr c53
                                  clear c53
                                  by_cases c54 : ((rd_T31 l1 x6_3).f2) < 1
                                  · rw [if_pos c54] at H
                                    have c54b0 : decide (((rd_T31 l1 x6_3).f2) < 1) = true := decide_eq_true c54
                                    clear c54
                                    have H' := Aside0.mk H
                                    clear H
                                    have hnb55 := NB123_119.out
                                    have hnc55 := NB119_123.out
                                    have hcz56_0 : wc.cell? ⟨gb123, 0, none⟩ = some (.int .i64 ((rd_T31 l1 x6_3).f0)) := (blk_cell BK123.out 0).trans rfl
                                    have hcz56_1 : wc.cell? ⟨gb123, 1, none⟩ = some (.int .i64 ((rd_T31 l1 x6_3).f1)) := (blk_cell BK123.out 1).trans rfl
                                    have hcz56_2 : wc.cell? ⟨gb123, 2, none⟩ = some (.int .i64 ((rd_T31 l1 x6_3).f2)) := (blk_cell BK123.out 2).trans rfl
                                    have hfz56_0 := blk_frozen BK123.out 0
                                    have hfz56_1 := blk_frozen BK123.out 1
                                    have hfz56_2 := blk_frozen BK123.out 2
                                    go_wp2_with (first | ((with_reducible refine gate_callee (f := 17) rfl ?_); refine goesL_ (some 79) rfl rfl Try.func17 (by kernel_rfl) rfl #[.pointer (some ⟨g119, 0, none⟩), .int .i64 ((rd_T31 l1 x6_3).f2)] rfl (by (try simp only [List.map_toArray, List.map_cons, List.map_nil]); first | done | rfl | (simp only [List.length_drop, List.length_take]; rfl)) ?_; (with_reducible refine (window_Window_Give.calls g119 t125 ((rd_T31 l1 x6_3).f2) t128 t129 w _ ?side1 ?side2 A42.out).mono ?_); (case side1 => repeat (first | (with_reducible first | exact HI119.out | apply IsS42.alloc | apply IsS42.drewN | apply IsS42.drew | apply IsS42.set_0 | refine IsS42.far ?_ NB119_123.out _) | exact HI119.out)); (case side2 => repeat (first | (with_reducible first | exact HB.out | apply below_alloc | apply pw_below_drewN | apply below_drew1 | refine below_set ?_ (IsS42.ge HI119.out) | refine below_set ?_ GE123.out) | exact HB.out)); rintro e w57 ⟨rfl, hi, hb, hk⟩; refine ⟨_, rfl, ?_⟩; have n0_ := Aside0.mk (KeepBut.blk hk (g' := gb123) (o := .cells #[.int .i64 ((rd_T31 l1 x6_3).f0), .int .i64 ((rd_T31 l1 x6_3).f1), .int .i64 ((rd_T31 l1 x6_3).f2)] 31 (0, 0)) (by (with_reducible repeat (first | refine blk_drewN ?_ _ | refine blk_drew ?_ | refine blk_alloc ?_ _)); exact BK123.out) NB123_119.out (by simp)); have n1_ := Aside0.mk (hb); have n2_ := Aside0.mk (hi); clear BK123; clear HB; clear HI119; have BK123 := n0_; have HB := n1_; have HI119 := n2_; clear n0_ n1_ n2_; (try clear hb); (try clear hb2); (try clear hk); (try clear hi); have hcz58_0 : w57.cell? ⟨gb123, 0, none⟩ = some (.int .i64 ((rd_T31 l1 x6_3).f0)) := (blk_cell BK123.out 0).trans rfl; have hcz58_1 : w57.cell? ⟨gb123, 1, none⟩ = some (.int .i64 ((rd_T31 l1 x6_3).f1)) := (blk_cell BK123.out 1).trans rfl; have hcz58_2 : w57.cell? ⟨gb123, 2, none⟩ = some (.int .i64 ((rd_T31 l1 x6_3).f2)) := (blk_cell BK123.out 2).trans rfl; have hfz58_0 := blk_frozen BK123.out 0; have hfz58_1 := blk_frozen BK123.out 1; have hfz58_2 := blk_frozen BK123.out 2))
                                    go_roundg kj14
                                    case measure => have := HJ5.out; have := HJ9.out; have := HK3.out; have := HJ14.out; omega
                                    case rel => exact ⟨(x0_3), (wrap64 (x6_3 + 1)), (t129), (by first | rfl | (simp; done) | (simp [*]; done)), (by first | rfl | (simp; done) | (simp [*]; done)), H', ⟨by have := HJ5.out; have := HJ9.out; have := HK3.out; have := HJ14.out; omega⟩, ⟨by repeat (first | (with_reducible first | exact HI119.out | apply IsS42.alloc | apply IsS42.drewN | apply IsS42.drew | apply IsS42.set_0 | refine IsS42.far ?_ NB119_123.out _) | exact HI119.out)⟩, ⟨by repeat (first | (with_reducible first | exact HB.out | apply below_alloc | apply pw_below_drewN | apply below_drew1 | refine below_set ?_ (IsS42.ge HI119.out) | refine below_set ?_ GE123.out) | exact HB.out)⟩⟩
                                  · rw [if_neg c54] at H
                                    have c54b0 : decide (((rd_T31 l1 x6_3).f2) < 1) = false := decide_eq_false c54
                                    clear c54
                                    obtain rfl := Option.some.inj H
                                    have hnb59 := NB123_119.out
                                    have hnc59 := NB119_123.out
                                    have hcz60_0 : wc.cell? ⟨gb123, 0, none⟩ = some (.int .i64 ((rd_T31 l1 x6_3).f0)) := (blk_cell BK123.out 0).trans rfl
                                    have hcz60_1 : wc.cell? ⟨gb123, 1, none⟩ = some (.int .i64 ((rd_T31 l1 x6_3).f1)) := (blk_cell BK123.out 1).trans rfl
                                    have hcz60_2 : wc.cell? ⟨gb123, 2, none⟩ = some (.int .i64 ((rd_T31 l1 x6_3).f2)) := (blk_cell BK123.out 2).trans rfl
                                    have hfz60_0 := blk_frozen BK123.out 0
                                    have hfz60_1 := blk_frozen BK123.out 1
                                    have hfz60_2 := blk_frozen BK123.out 2
                                    go_wp2_with (first | ((with_reducible refine gate_callee (f := 17) rfl ?_); refine goesL_ (some 79) rfl rfl Try.func17 (by kernel_rfl) rfl #[.pointer (some ⟨g119, 0, none⟩), .int .i64 ((rd_T31 l1 x6_3).f2)] rfl (by (try simp only [List.map_toArray, List.map_cons, List.map_nil]); first | done | rfl | (simp only [List.length_drop, List.length_take]; rfl)) ?_; (with_reducible refine (window_Window_Give.calls g119 t125 ((rd_T31 l1 x6_3).f2) t128 t129 w _ ?side1 ?side2 A42.out).mono ?_); (case side1 => repeat (first | (with_reducible first | exact HI119.out | apply IsS42.alloc | apply IsS42.drewN | apply IsS42.drew | apply IsS42.set_0 | refine IsS42.far ?_ NB119_123.out _) | exact HI119.out)); (case side2 => repeat (first | (with_reducible first | exact HB.out | apply below_alloc | apply pw_below_drewN | apply below_drew1 | refine below_set ?_ (IsS42.ge HI119.out) | refine below_set ?_ GE123.out) | exact HB.out)); rintro e w61 ⟨rfl, hi, hb, hk⟩; refine ⟨_, rfl, ?_⟩; have n0_ := Aside0.mk (KeepBut.blk hk (g' := gb123) (o := .cells #[.int .i64 ((rd_T31 l1 x6_3).f0), .int .i64 ((rd_T31 l1 x6_3).f1), .int .i64 ((rd_T31 l1 x6_3).f2)] 31 (0, 0)) (by (with_reducible repeat (first | refine blk_drewN ?_ _ | refine blk_drew ?_ | refine blk_alloc ?_ _)); exact BK123.out) NB123_119.out (by simp)); have n1_ := Aside0.mk (hb); have n2_ := Aside0.mk (hi); clear BK123; clear HB; clear HI119; have BK123 := n0_; have HB := n1_; have HI119 := n2_; clear n0_ n1_ n2_; (try clear hb); (try clear hb2); (try clear hk); (try clear hi); have hcz62_0 : w61.cell? ⟨gb123, 0, none⟩ = some (.int .i64 ((rd_T31 l1 x6_3).f0)) := (blk_cell BK123.out 0).trans rfl; have hcz62_1 : w61.cell? ⟨gb123, 1, none⟩ = some (.int .i64 ((rd_T31 l1 x6_3).f1)) := (blk_cell BK123.out 1).trans rfl; have hcz62_2 : w61.cell? ⟨gb123, 2, none⟩ = some (.int .i64 ((rd_T31 l1 x6_3).f2)) := (blk_cell BK123.out 2).trans rfl; have hfz62_0 := blk_frozen BK123.out 0; have hfz62_1 := blk_frozen BK123.out 1; have hfz62_2 := blk_frozen BK123.out 2))
                                    go_ret
                                    exact ⟨by first | rfl | (simp [errW_none, errW_some] <;> rfl) | (simp [*, errW_none, errW_some] <;> rfl), by repeat (first | (with_reducible first | exact HB.out | apply below_alloc | apply pw_below_drewN | apply below_drew1 | refine below_set ?_ (IsS42.ge HI119.out) | refine below_set ?_ GE123.out) | exact HB.out)⟩
                                · rw [if_neg c53] at H
                                  have c53b0 : (t128 == 1) = false := beq_eq_false_iff_ne.mpr c53
                                  have c53b1 : (t128 != 1) = true := bne_iff_ne.mpr c53
                                  by_cases c63 : t128 = 3
                                  · rw [if_pos c63] at H
                                    have c63b0 : (t128 == 3) = true := beq_iff_eq.mpr c63
                                    have c63b1 : (t128 != 3) = false := bne_eq_false_iff_eq.mpr c63
                                    clear c63
                                    by_cases c64 : ((rd_T31 l1 x6_3).f2) < 1
                                    · rw [if_pos c64] at H
                                      have c64b0 : decide (((rd_T31 l1 x6_3).f2) < 1) = true := decide_eq_true c64
                                      clear c64
                                      obtain rfl := Option.some.inj H
                                      have hnb65 := NB123_119.out
                                      have hnc65 := NB119_123.out
                                      have hcz66_0 : wc.cell? ⟨gb123, 0, none⟩ = some (.int .i64 ((rd_T31 l1 x6_3).f0)) := (blk_cell BK123.out 0).trans rfl
                                      have hcz66_1 : wc.cell? ⟨gb123, 1, none⟩ = some (.int .i64 ((rd_T31 l1 x6_3).f1)) := (blk_cell BK123.out 1).trans rfl
                                      have hcz66_2 : wc.cell? ⟨gb123, 2, none⟩ = some (.int .i64 ((rd_T31 l1 x6_3).f2)) := (blk_cell BK123.out 2).trans rfl
                                      have hfz66_0 := blk_frozen BK123.out 0
                                      have hfz66_1 := blk_frozen BK123.out 1
                                      have hfz66_2 := blk_frozen BK123.out 2
                                      go_wp2_with (first | ((with_reducible refine gate_callee (f := 17) rfl ?_); refine goesL_ (some 79) rfl rfl Try.func17 (by kernel_rfl) rfl #[.pointer (some ⟨g119, 0, none⟩), .int .i64 ((rd_T31 l1 x6_3).f2)] rfl (by (try simp only [List.map_toArray, List.map_cons, List.map_nil]); first | done | rfl | (simp only [List.length_drop, List.length_take]; rfl)) ?_; (with_reducible refine (window_Window_Give.calls g119 t125 ((rd_T31 l1 x6_3).f2) t128 t129 w _ ?side1 ?side2 A42.out).mono ?_); (case side1 => repeat (first | (with_reducible first | exact HI119.out | apply IsS42.alloc | apply IsS42.drewN | apply IsS42.drew | apply IsS42.set_0 | refine IsS42.far ?_ NB119_123.out _) | exact HI119.out)); (case side2 => repeat (first | (with_reducible first | exact HB.out | apply below_alloc | apply pw_below_drewN | apply below_drew1 | refine below_set ?_ (IsS42.ge HI119.out) | refine below_set ?_ GE123.out) | exact HB.out)); rintro e w67 ⟨rfl, hi, hb, hk⟩; refine ⟨_, rfl, ?_⟩; have n0_ := Aside0.mk (KeepBut.blk hk (g' := gb123) (o := .cells #[.int .i64 ((rd_T31 l1 x6_3).f0), .int .i64 ((rd_T31 l1 x6_3).f1), .int .i64 ((rd_T31 l1 x6_3).f2)] 31 (0, 0)) (by (with_reducible repeat (first | refine blk_drewN ?_ _ | refine blk_drew ?_ | refine blk_alloc ?_ _)); exact BK123.out) NB123_119.out (by simp)); have n1_ := Aside0.mk (hb); have n2_ := Aside0.mk (hi); clear BK123; clear HB; clear HI119; have BK123 := n0_; have HB := n1_; have HI119 := n2_; clear n0_ n1_ n2_; (try clear hb); (try clear hb2); (try clear hk); (try clear hi); have hcz68_0 : w67.cell? ⟨gb123, 0, none⟩ = some (.int .i64 ((rd_T31 l1 x6_3).f0)) := (blk_cell BK123.out 0).trans rfl; have hcz68_1 : w67.cell? ⟨gb123, 1, none⟩ = some (.int .i64 ((rd_T31 l1 x6_3).f1)) := (blk_cell BK123.out 1).trans rfl; have hcz68_2 : w67.cell? ⟨gb123, 2, none⟩ = some (.int .i64 ((rd_T31 l1 x6_3).f2)) := (blk_cell BK123.out 2).trans rfl; have hfz68_0 := blk_frozen BK123.out 0; have hfz68_1 := blk_frozen BK123.out 1; have hfz68_2 := blk_frozen BK123.out 2))
                                      go_ret
                                      exact ⟨by first | rfl | (simp [errW_none, errW_some] <;> rfl) | (simp [*, errW_none, errW_some] <;> rfl), by repeat (first | (with_reducible first | exact HB.out | apply below_alloc | apply pw_below_drewN | apply below_drew1 | refine below_set ?_ (IsS42.ge HI119.out) | refine below_set ?_ GE123.out) | exact HB.out)⟩
                                    · rw [if_neg c64] at H
                                      have c64b0 : decide (((rd_T31 l1 x6_3).f2) < 1) = false := decide_eq_false c64
                                      clear c64
                                      have H' := Aside0.mk H
                                      clear H
                                      have hnb69 := NB123_119.out
                                      have hnc69 := NB119_123.out
                                      have hcz70_0 : wc.cell? ⟨gb123, 0, none⟩ = some (.int .i64 ((rd_T31 l1 x6_3).f0)) := (blk_cell BK123.out 0).trans rfl
                                      have hcz70_1 : wc.cell? ⟨gb123, 1, none⟩ = some (.int .i64 ((rd_T31 l1 x6_3).f1)) := (blk_cell BK123.out 1).trans rfl
                                      have hcz70_2 : wc.cell? ⟨gb123, 2, none⟩ = some (.int .i64 ((rd_T31 l1 x6_3).f2)) := (blk_cell BK123.out 2).trans rfl
                                      have hfz70_0 := blk_frozen BK123.out 0
                                      have hfz70_1 := blk_frozen BK123.out 1
                                      have hfz70_2 := blk_frozen BK123.out 2
                                      go_wp2_with (first | ((with_reducible refine gate_callee (f := 17) rfl ?_); refine goesL_ (some 79) rfl rfl Try.func17 (by kernel_rfl) rfl #[.pointer (some ⟨g119, 0, none⟩), .int .i64 ((rd_T31 l1 x6_3).f2)] rfl (by (try simp only [List.map_toArray, List.map_cons, List.map_nil]); first | done | rfl | (simp only [List.length_drop, List.length_take]; rfl)) ?_; (with_reducible refine (window_Window_Give.calls g119 t125 ((rd_T31 l1 x6_3).f2) t128 t129 w _ ?side1 ?side2 A42.out).mono ?_); (case side1 => repeat (first | (with_reducible first | exact HI119.out | apply IsS42.alloc | apply IsS42.drewN | apply IsS42.drew | apply IsS42.set_0 | refine IsS42.far ?_ NB119_123.out _) | exact HI119.out)); (case side2 => repeat (first | (with_reducible first | exact HB.out | apply below_alloc | apply pw_below_drewN | apply below_drew1 | refine below_set ?_ (IsS42.ge HI119.out) | refine below_set ?_ GE123.out) | exact HB.out)); rintro e w71 ⟨rfl, hi, hb, hk⟩; refine ⟨_, rfl, ?_⟩; have n0_ := Aside0.mk (KeepBut.blk hk (g' := gb123) (o := .cells #[.int .i64 ((rd_T31 l1 x6_3).f0), .int .i64 ((rd_T31 l1 x6_3).f1), .int .i64 ((rd_T31 l1 x6_3).f2)] 31 (0, 0)) (by (with_reducible repeat (first | refine blk_drewN ?_ _ | refine blk_drew ?_ | refine blk_alloc ?_ _)); exact BK123.out) NB123_119.out (by simp)); have n1_ := Aside0.mk (hb); have n2_ := Aside0.mk (hi); clear BK123; clear HB; clear HI119; have BK123 := n0_; have HB := n1_; have HI119 := n2_; clear n0_ n1_ n2_; (try clear hb); (try clear hb2); (try clear hk); (try clear hi); have hcz72_0 : w71.cell? ⟨gb123, 0, none⟩ = some (.int .i64 ((rd_T31 l1 x6_3).f0)) := (blk_cell BK123.out 0).trans rfl; have hcz72_1 : w71.cell? ⟨gb123, 1, none⟩ = some (.int .i64 ((rd_T31 l1 x6_3).f1)) := (blk_cell BK123.out 1).trans rfl; have hcz72_2 : w71.cell? ⟨gb123, 2, none⟩ = some (.int .i64 ((rd_T31 l1 x6_3).f2)) := (blk_cell BK123.out 2).trans rfl; have hfz72_0 := blk_frozen BK123.out 0; have hfz72_1 := blk_frozen BK123.out 1; have hfz72_2 := blk_frozen BK123.out 2))
                                      go_roundg kj14
                                      case measure => have := HJ5.out; have := HJ9.out; have := HK3.out; have := HJ14.out; omega
                                      case rel => exact ⟨(x0_3), (wrap64 (x6_3 + 1)), (t129), (by first | rfl | (simp; done) | (simp [*]; done)), (by first | rfl | (simp; done) | (simp [*]; done)), H', ⟨by have := HJ5.out; have := HJ9.out; have := HK3.out; have := HJ14.out; omega⟩, ⟨by repeat (first | (with_reducible first | exact HI119.out | apply IsS42.alloc | apply IsS42.drewN | apply IsS42.drew | apply IsS42.set_0 | refine IsS42.far ?_ NB119_123.out _) | exact HI119.out)⟩, ⟨by repeat (first | (with_reducible first | exact HB.out | apply below_alloc | apply pw_below_drewN | apply below_drew1 | refine below_set ?_ (IsS42.ge HI119.out) | refine below_set ?_ GE123.out) | exact HB.out)⟩⟩
                                  · rw [if_neg c63] at H
                                    have c63b0 : (t128 == 3) = false := beq_eq_false_iff_ne.mpr c63
                                    have c63b1 : (t128 != 3) = true := bne_iff_ne.mpr c63
                                    obtain rfl := Option.some.inj H
                                    have hnb73 := NB123_119.out
                                    have hnc73 := NB119_123.out
                                    have hcz74_0 : wc.cell? ⟨gb123, 0, none⟩ = some (.int .i64 ((rd_T31 l1 x6_3).f0)) := (blk_cell BK123.out 0).trans rfl
                                    have hcz74_1 : wc.cell? ⟨gb123, 1, none⟩ = some (.int .i64 ((rd_T31 l1 x6_3).f1)) := (blk_cell BK123.out 1).trans rfl
                                    have hcz74_2 : wc.cell? ⟨gb123, 2, none⟩ = some (.int .i64 ((rd_T31 l1 x6_3).f2)) := (blk_cell BK123.out 2).trans rfl
                                    have hfz74_0 := blk_frozen BK123.out 0
                                    have hfz74_1 := blk_frozen BK123.out 1
                                    have hfz74_2 := blk_frozen BK123.out 2
                                    go_wp2_with (first | ((with_reducible refine gate_callee (f := 17) rfl ?_); refine goesL_ (some 79) rfl rfl Try.func17 (by kernel_rfl) rfl #[.pointer (some ⟨g119, 0, none⟩), .int .i64 ((rd_T31 l1 x6_3).f2)] rfl (by (try simp only [List.map_toArray, List.map_cons, List.map_nil]); first | done | rfl | (simp only [List.length_drop, List.length_take]; rfl)) ?_; (with_reducible refine (window_Window_Give.calls g119 t125 ((rd_T31 l1 x6_3).f2) t128 t129 w _ ?side1 ?side2 A42.out).mono ?_); (case side1 => repeat (first | (with_reducible first | exact HI119.out | apply IsS42.alloc | apply IsS42.drewN | apply IsS42.drew | apply IsS42.set_0 | refine IsS42.far ?_ NB119_123.out _) | exact HI119.out)); (case side2 => repeat (first | (with_reducible first | exact HB.out | apply below_alloc | apply pw_below_drewN | apply below_drew1 | refine below_set ?_ (IsS42.ge HI119.out) | refine below_set ?_ GE123.out) | exact HB.out)); rintro e w75 ⟨rfl, hi, hb, hk⟩; refine ⟨_, rfl, ?_⟩; have n0_ := Aside0.mk (KeepBut.blk hk (g' := gb123) (o := .cells #[.int .i64 ((rd_T31 l1 x6_3).f0), .int .i64 ((rd_T31 l1 x6_3).f1), .int .i64 ((rd_T31 l1 x6_3).f2)] 31 (0, 0)) (by (with_reducible repeat (first | refine blk_drewN ?_ _ | refine blk_drew ?_ | refine blk_alloc ?_ _)); exact BK123.out) NB123_119.out (by simp)); have n1_ := Aside0.mk (hb); have n2_ := Aside0.mk (hi); clear BK123; clear HB; clear HI119; have BK123 := n0_; have HB := n1_; have HI119 := n2_; clear n0_ n1_ n2_; (try clear hb); (try clear hb2); (try clear hk); (try clear hi)))
                                    go_ret
                                    exact ⟨by first | rfl | (simp [errW_none, errW_some] <;> rfl) | (simp [*, errW_none, errW_some] <;> rfl), by repeat (first | (with_reducible first | exact HB.out | apply below_alloc | apply pw_below_drewN | apply below_drew1 | refine below_set ?_ (IsS42.ge HI119.out) | refine below_set ?_ GE123.out) | exact HB.out)⟩
                            · rw [if_neg c41] at H
                              have c41b0 : (((rd_T31 l1 x6_3).f0) == 2) = false := beq_eq_false_iff_ne.mpr c41
                              have c41b1 : (((rd_T31 l1 x6_3).f0) != 2) = true := bne_iff_ne.mpr c41
                              by_cases c76 : ((rd_T31 l1 x6_3).f0) = 3
                              · rw [if_pos c76] at H
                                have c76b0 : (((rd_T31 l1 x6_3).f0) == 3) = true := beq_iff_eq.mpr c76
                                have c76b1 : (((rd_T31 l1 x6_3).f0) != 3) = false := bne_eq_false_iff_eq.mpr c76
                                clear c76
                                replace H := Option.bind_eq_some_iff.mp H
                                obtain ⟨⟨t130, t131⟩, A770, H⟩ := H
                                replace H : (if t130 = 0 then (heraldlaw09_WindowSums.l0 kj14 (wrap64 (x0_3 + ((rd_T31 l1 x6_3).f2))) l1 (wrap64 (x6_3 + 1)) t131) else (if t130 = 3 then (heraldlaw09_WindowSums.l0 kj14 x0_3 l1 (wrap64 (x6_3 + 1)) t131) else (some false))) = some r := H
                                have A77 := Aside0.mk A770
                                clear A770
                                by_cases c78 : t130 = 0
                                · rw [if_pos c78] at H
                                  have c78b0 : (t130 == 0) = true := beq_iff_eq.mpr c78
                                  have c78b1 : (t130 != 0) = false := bne_eq_false_iff_eq.mpr c78
                                  clear c78
                                  have H' := Aside0.mk H
                                  clear H
                                  have hnb79 := NB123_119.out
                                  have hnc79 := NB119_123.out
                                  have hcz80_0 : wc.cell? ⟨gb123, 0, none⟩ = some (.int .i64 ((rd_T31 l1 x6_3).f0)) := (blk_cell BK123.out 0).trans rfl
                                  have hcz80_1 : wc.cell? ⟨gb123, 1, none⟩ = some (.int .i64 ((rd_T31 l1 x6_3).f1)) := (blk_cell BK123.out 1).trans rfl
                                  have hcz80_2 : wc.cell? ⟨gb123, 2, none⟩ = some (.int .i64 ((rd_T31 l1 x6_3).f2)) := (blk_cell BK123.out 2).trans rfl
                                  have hfz80_0 := blk_frozen BK123.out 0
                                  have hfz80_1 := blk_frozen BK123.out 1
                                  have hfz80_2 := blk_frozen BK123.out 2
                                  go_wp2_with (first | ((with_reducible refine gate_callee (f := 18) rfl ?_); refine goesL_ (some 109) rfl rfl Try.func18 (by kernel_rfl) rfl #[.pointer (some ⟨g119, 0, none⟩), .int .i64 ((rd_T31 l1 x6_3).f2)] rfl (by (try simp only [List.map_toArray, List.map_cons, List.map_nil]); first | done | rfl | (simp only [List.length_drop, List.length_take]; rfl)) ?_; (with_reducible refine (window_Window_Shift.calls g119 t125 ((rd_T31 l1 x6_3).f2) t130 t131 w _ ?side1 ?side2 A77.out).mono ?_); (case side1 => repeat (first | (with_reducible first | exact HI119.out | apply IsS42.alloc | apply IsS42.drewN | apply IsS42.drew | apply IsS42.set_0 | refine IsS42.far ?_ NB119_123.out _) | exact HI119.out)); (case side2 => repeat (first | (with_reducible first | exact HB.out | apply below_alloc | apply pw_below_drewN | apply below_drew1 | refine below_set ?_ (IsS42.ge HI119.out) | refine below_set ?_ GE123.out) | exact HB.out)); rintro e w81 ⟨rfl, hi, hb, hk⟩; refine ⟨_, rfl, ?_⟩; have n0_ := Aside0.mk (KeepBut.blk hk (g' := gb123) (o := .cells #[.int .i64 ((rd_T31 l1 x6_3).f0), .int .i64 ((rd_T31 l1 x6_3).f1), .int .i64 ((rd_T31 l1 x6_3).f2)] 31 (0, 0)) (by (with_reducible repeat (first | refine blk_drewN ?_ _ | refine blk_drew ?_ | refine blk_alloc ?_ _)); exact BK123.out) NB123_119.out (by simp)); have n1_ := Aside0.mk (hb); have n2_ := Aside0.mk (hi); clear BK123; clear HB; clear HI119; have BK123 := n0_; have HB := n1_; have HI119 := n2_; clear n0_ n1_ n2_; (try clear hb); (try clear hb2); (try clear hk); (try clear hi); have hcz82_0 : w81.cell? ⟨gb123, 0, none⟩ = some (.int .i64 ((rd_T31 l1 x6_3).f0)) := (blk_cell BK123.out 0).trans rfl; have hcz82_1 : w81.cell? ⟨gb123, 1, none⟩ = some (.int .i64 ((rd_T31 l1 x6_3).f1)) := (blk_cell BK123.out 1).trans rfl; have hcz82_2 : w81.cell? ⟨gb123, 2, none⟩ = some (.int .i64 ((rd_T31 l1 x6_3).f2)) := (blk_cell BK123.out 2).trans rfl; have hfz82_0 := blk_frozen BK123.out 0; have hfz82_1 := blk_frozen BK123.out 1; have hfz82_2 := blk_frozen BK123.out 2))
                                  go_roundg kj14
                                  case measure => have := HJ5.out; have := HJ9.out; have := HK3.out; have := HJ14.out; omega
                                  case rel => exact ⟨(wrap64 (x0_3 + ((rd_T31 l1 x6_3).f2))), (wrap64 (x6_3 + 1)), (t131), (by first | rfl | (simp; done) | (simp [*]; done)), (by first | rfl | (simp; done) | (simp [*]; done)), H', ⟨by have := HJ5.out; have := HJ9.out; have := HK3.out; have := HJ14.out; omega⟩, ⟨by repeat (first | (with_reducible first | exact HI119.out | apply IsS42.alloc | apply IsS42.drewN | apply IsS42.drew | apply IsS42.set_0 | refine IsS42.far ?_ NB119_123.out _) | exact HI119.out)⟩, ⟨by repeat (first | (with_reducible first | exact HB.out | apply below_alloc | apply pw_below_drewN | apply below_drew1 | refine below_set ?_ (IsS42.ge HI119.out) | refine below_set ?_ GE123.out) | exact HB.out)⟩⟩
                                · rw [if_neg c78] at H
                                  have c78b0 : (t130 == 0) = false := beq_eq_false_iff_ne.mpr c78
                                  have c78b1 : (t130 != 0) = true := bne_iff_ne.mpr c78
                                  by_cases c83 : t130 = 3
                                  · rw [if_pos c83] at H
                                    have c83b0 : (t130 == 3) = true := beq_iff_eq.mpr c83
                                    have c83b1 : (t130 != 3) = false := bne_eq_false_iff_eq.mpr c83
                                    clear c83
                                    have H' := Aside0.mk H
                                    clear H
                                    have hnb84 := NB123_119.out
                                    have hnc84 := NB119_123.out
                                    have hcz85_0 : wc.cell? ⟨gb123, 0, none⟩ = some (.int .i64 ((rd_T31 l1 x6_3).f0)) := (blk_cell BK123.out 0).trans rfl
                                    have hcz85_1 : wc.cell? ⟨gb123, 1, none⟩ = some (.int .i64 ((rd_T31 l1 x6_3).f1)) := (blk_cell BK123.out 1).trans rfl
                                    have hcz85_2 : wc.cell? ⟨gb123, 2, none⟩ = some (.int .i64 ((rd_T31 l1 x6_3).f2)) := (blk_cell BK123.out 2).trans rfl
                                    have hfz85_0 := blk_frozen BK123.out 0
                                    have hfz85_1 := blk_frozen BK123.out 1
                                    have hfz85_2 := blk_frozen BK123.out 2
                                    go_wp2_with (first | ((with_reducible refine gate_callee (f := 18) rfl ?_); refine goesL_ (some 109) rfl rfl Try.func18 (by kernel_rfl) rfl #[.pointer (some ⟨g119, 0, none⟩), .int .i64 ((rd_T31 l1 x6_3).f2)] rfl (by (try simp only [List.map_toArray, List.map_cons, List.map_nil]); first | done | rfl | (simp only [List.length_drop, List.length_take]; rfl)) ?_; (with_reducible refine (window_Window_Shift.calls g119 t125 ((rd_T31 l1 x6_3).f2) t130 t131 w _ ?side1 ?side2 A77.out).mono ?_); (case side1 => repeat (first | (with_reducible first | exact HI119.out | apply IsS42.alloc | apply IsS42.drewN | apply IsS42.drew | apply IsS42.set_0 | refine IsS42.far ?_ NB119_123.out _) | exact HI119.out)); (case side2 => repeat (first | (with_reducible first | exact HB.out | apply below_alloc | apply pw_below_drewN | apply below_drew1 | refine below_set ?_ (IsS42.ge HI119.out) | refine below_set ?_ GE123.out) | exact HB.out)); rintro e w86 ⟨rfl, hi, hb, hk⟩; refine ⟨_, rfl, ?_⟩; have n0_ := Aside0.mk (KeepBut.blk hk (g' := gb123) (o := .cells #[.int .i64 ((rd_T31 l1 x6_3).f0), .int .i64 ((rd_T31 l1 x6_3).f1), .int .i64 ((rd_T31 l1 x6_3).f2)] 31 (0, 0)) (by (with_reducible repeat (first | refine blk_drewN ?_ _ | refine blk_drew ?_ | refine blk_alloc ?_ _)); exact BK123.out) NB123_119.out (by simp)); have n1_ := Aside0.mk (hb); have n2_ := Aside0.mk (hi); clear BK123; clear HB; clear HI119; have BK123 := n0_; have HB := n1_; have HI119 := n2_; clear n0_ n1_ n2_; (try clear hb); (try clear hb2); (try clear hk); (try clear hi)))
                                    go_roundg kj14
                                    case measure => have := HJ5.out; have := HJ9.out; have := HK3.out; have := HJ14.out; omega
                                    case rel => exact ⟨(x0_3), (wrap64 (x6_3 + 1)), (t131), (by first | rfl | (simp; done) | (simp [*]; done)), (by first | rfl | (simp; done) | (simp [*]; done)), H', ⟨by have := HJ5.out; have := HJ9.out; have := HK3.out; have := HJ14.out; omega⟩, ⟨by repeat (first | (with_reducible first | exact HI119.out | apply IsS42.alloc | apply IsS42.drewN | apply IsS42.drew | apply IsS42.set_0 | refine IsS42.far ?_ NB119_123.out _) | exact HI119.out)⟩, ⟨by repeat (first | (with_reducible first | exact HB.out | apply below_alloc | apply pw_below_drewN | apply below_drew1 | refine below_set ?_ (IsS42.ge HI119.out) | refine below_set ?_ GE123.out) | exact HB.out)⟩⟩
                                  · rw [if_neg c83] at H
                                    have c83b0 : (t130 == 3) = false := beq_eq_false_iff_ne.mpr c83
                                    have c83b1 : (t130 != 3) = true := bne_iff_ne.mpr c83
                                    obtain rfl := Option.some.inj H
                                    have hnb87 := NB123_119.out
                                    have hnc87 := NB119_123.out
                                    have hcz88_0 : wc.cell? ⟨gb123, 0, none⟩ = some (.int .i64 ((rd_T31 l1 x6_3).f0)) := (blk_cell BK123.out 0).trans rfl
                                    have hcz88_1 : wc.cell? ⟨gb123, 1, none⟩ = some (.int .i64 ((rd_T31 l1 x6_3).f1)) := (blk_cell BK123.out 1).trans rfl
                                    have hcz88_2 : wc.cell? ⟨gb123, 2, none⟩ = some (.int .i64 ((rd_T31 l1 x6_3).f2)) := (blk_cell BK123.out 2).trans rfl
                                    have hfz88_0 := blk_frozen BK123.out 0
                                    have hfz88_1 := blk_frozen BK123.out 1
                                    have hfz88_2 := blk_frozen BK123.out 2
                                    go_wp2_with (first | ((with_reducible refine gate_callee (f := 18) rfl ?_); refine goesL_ (some 109) rfl rfl Try.func18 (by kernel_rfl) rfl #[.pointer (some ⟨g119, 0, none⟩), .int .i64 ((rd_T31 l1 x6_3).f2)] rfl (by (try simp only [List.map_toArray, List.map_cons, List.map_nil]); first | done | rfl | (simp only [List.length_drop, List.length_take]; rfl)) ?_; (with_reducible refine (window_Window_Shift.calls g119 t125 ((rd_T31 l1 x6_3).f2) t130 t131 w _ ?side1 ?side2 A77.out).mono ?_); (case side1 => repeat (first | (with_reducible first | exact HI119.out | apply IsS42.alloc | apply IsS42.drewN | apply IsS42.drew | apply IsS42.set_0 | refine IsS42.far ?_ NB119_123.out _) | exact HI119.out)); (case side2 => repeat (first | (with_reducible first | exact HB.out | apply below_alloc | apply pw_below_drewN | apply below_drew1 | refine below_set ?_ (IsS42.ge HI119.out) | refine below_set ?_ GE123.out) | exact HB.out)); rintro e w89 ⟨rfl, hi, hb, hk⟩; refine ⟨_, rfl, ?_⟩; have n0_ := Aside0.mk (KeepBut.blk hk (g' := gb123) (o := .cells #[.int .i64 ((rd_T31 l1 x6_3).f0), .int .i64 ((rd_T31 l1 x6_3).f1), .int .i64 ((rd_T31 l1 x6_3).f2)] 31 (0, 0)) (by (with_reducible repeat (first | refine blk_drewN ?_ _ | refine blk_drew ?_ | refine blk_alloc ?_ _)); exact BK123.out) NB123_119.out (by simp)); have n1_ := Aside0.mk (hb); have n2_ := Aside0.mk (hi); clear BK123; clear HB; clear HI119; have BK123 := n0_; have HB := n1_; have HI119 := n2_; clear n0_ n1_ n2_; (try clear hb); (try clear hb2); (try clear hk); (try clear hi)))
                                    go_ret
                                    exact ⟨by first | rfl | (simp [errW_none, errW_some] <;> rfl) | (simp [*, errW_none, errW_some] <;> rfl), by repeat (first | (with_reducible first | exact HB.out | apply below_alloc | apply pw_below_drewN | apply below_drew1 | refine below_set ?_ (IsS42.ge HI119.out) | refine below_set ?_ GE123.out) | exact HB.out)⟩
                              · rw [if_neg c76] at H
                                have c76b0 : (((rd_T31 l1 x6_3).f0) == 3) = false := beq_eq_false_iff_ne.mpr c76
                                have c76b1 : (((rd_T31 l1 x6_3).f0) != 3) = true := bne_iff_ne.mpr c76
                                have H' := Aside0.mk H
                                clear H
                                have hnb90 := NB123_119.out
                                have hnc90 := NB119_123.out
                                have hcz91_0 : wc.cell? ⟨gb123, 0, none⟩ = some (.int .i64 ((rd_T31 l1 x6_3).f0)) := (blk_cell BK123.out 0).trans rfl
                                have hcz91_1 : wc.cell? ⟨gb123, 1, none⟩ = some (.int .i64 ((rd_T31 l1 x6_3).f1)) := (blk_cell BK123.out 1).trans rfl
                                have hcz91_2 : wc.cell? ⟨gb123, 2, none⟩ = some (.int .i64 ((rd_T31 l1 x6_3).f2)) := (blk_cell BK123.out 2).trans rfl
                                have hfz91_0 := blk_frozen BK123.out 0
                                have hfz91_1 := blk_frozen BK123.out 1
                                have hfz91_2 := blk_frozen BK123.out 2
                                go_wp2
                                go_roundg kj14
                                case measure => have := HJ5.out; have := HJ9.out; have := HK3.out; have := HJ14.out; omega
                                case rel => exact ⟨(x0_3), (wrap64 (x6_3 + 1)), (t125), (by first | rfl | (simp; done) | (simp [*]; done)), (by first | rfl | (simp; done) | (simp [*]; done)), H', ⟨by have := HJ5.out; have := HJ9.out; have := HK3.out; have := HJ14.out; omega⟩, ⟨by repeat (first | (with_reducible first | exact HI119.out | apply IsS42.alloc | apply IsS42.drewN | apply IsS42.drew | apply IsS42.set_0 | refine IsS42.far ?_ NB119_123.out _) | exact HI119.out)⟩, ⟨by repeat (first | (with_reducible first | exact HB.out | apply below_alloc | apply pw_below_drewN | apply below_drew1 | refine below_set ?_ (IsS42.ge HI119.out) | refine below_set ?_ GE123.out) | exact HB.out)⟩⟩
                  · rw [if_neg c13] at H
                    exact absurd H (by simp)
                · rw [if_neg c12] at H
                  have c12b0 : decide (x6_3 < (l1.length : Int)) = false := decide_eq_false c12
                  clear c12
                  replace H := Option.bind_eq_some_iff.mp H
                  obtain ⟨⟨t120, t121⟩, A920, H⟩ := H
                  replace H : (if t120 = x0_3 then (if x0_3 ≥ (-2147483647) then (some (decide (x0_3 ≤ 2147483647))) else (some false)) else (some false)) = some r := H
                  have A92 := Aside0.mk A920
                  clear A920
                  by_cases c93 : t120 = x0_3
                  · rw [if_pos c93] at H
                    have c93b0 : (t120 == x0_3) = true := beq_iff_eq.mpr c93
                    have c93b1 : (t120 != x0_3) = false := bne_eq_false_iff_eq.mpr c93
                    clear c93
                    by_cases c94 : x0_3 ≥ (-2147483647)
                    · rw [if_pos c94] at H
                      have c94b0 : decide ((-2147483647) ≤ x0_3) = true := decide_eq_true c94
                      clear c94
                      obtain rfl := Option.some.inj H
                      go_wp2_with (first | ((with_reducible refine gate_callee (f := 12) rfl ?_); refine goesL_ (some 123) rfl rfl Try.func12 (by kernel_rfl) rfl #[.pointer (some ⟨g119, 0, none⟩)] rfl (by (try simp only [List.map_toArray, List.map_cons, List.map_nil]); first | done | rfl | (simp only [List.length_drop, List.length_take]; rfl)) ?_; (with_reducible refine (window_Window_Left.calls g119 x120000_3 t120 t121 w _ ?side1 ?side2 A92.out).mono ?_); (case side1 => repeat (first | (with_reducible first | exact HI119.out | apply IsS42.alloc | apply IsS42.drewN | apply IsS42.drew | apply IsS42.set_0) | exact HI119.out)); (case side2 => repeat (first | (with_reducible first | exact HB.out | apply below_alloc | apply pw_below_drewN | apply below_drew1 | refine below_set ?_ (IsS42.ge HI119.out)) | exact HB.out)); rintro e w95 ⟨rfl, hi, hb, hk⟩; refine ⟨_, rfl, ?_⟩; have n0_ := Aside0.mk (hb); have n1_ := Aside0.mk (hi); clear HB; clear HI119; have HB := n0_; have HI119 := n1_; clear n0_ n1_; (try clear hb); (try clear hb2); (try clear hk); (try clear hi)))
                      go_ret
                      exact ⟨by first | rfl | (simp [errW_none, errW_some] <;> rfl) | (simp [*, errW_none, errW_some] <;> rfl), by repeat (first | (with_reducible first | exact HB.out | apply below_alloc | apply pw_below_drewN | apply below_drew1 | refine below_set ?_ (IsS42.ge HI119.out)) | exact HB.out)⟩
                    · rw [if_neg c94] at H
                      have c94b0 : decide ((-2147483647) ≤ x0_3) = false := decide_eq_false c94
                      clear c94
                      obtain rfl := Option.some.inj H
                      go_wp2_with (first | ((with_reducible refine gate_callee (f := 12) rfl ?_); refine goesL_ (some 123) rfl rfl Try.func12 (by kernel_rfl) rfl #[.pointer (some ⟨g119, 0, none⟩)] rfl (by (try simp only [List.map_toArray, List.map_cons, List.map_nil]); first | done | rfl | (simp only [List.length_drop, List.length_take]; rfl)) ?_; (with_reducible refine (window_Window_Left.calls g119 x120000_3 t120 t121 w _ ?side1 ?side2 A92.out).mono ?_); (case side1 => repeat (first | (with_reducible first | exact HI119.out | apply IsS42.alloc | apply IsS42.drewN | apply IsS42.drew | apply IsS42.set_0) | exact HI119.out)); (case side2 => repeat (first | (with_reducible first | exact HB.out | apply below_alloc | apply pw_below_drewN | apply below_drew1 | refine below_set ?_ (IsS42.ge HI119.out)) | exact HB.out)); rintro e w96 ⟨rfl, hi, hb, hk⟩; refine ⟨_, rfl, ?_⟩; have n0_ := Aside0.mk (hb); have n1_ := Aside0.mk (hi); clear HB; clear HI119; have HB := n0_; have HI119 := n1_; clear n0_ n1_; (try clear hb); (try clear hb2); (try clear hk); (try clear hi)))
                      go_ret
                      exact ⟨by first | rfl | (simp [errW_none, errW_some] <;> rfl) | (simp [*, errW_none, errW_some] <;> rfl), by repeat (first | (with_reducible first | exact HB.out | apply below_alloc | apply pw_below_drewN | apply below_drew1 | refine below_set ?_ (IsS42.ge HI119.out)) | exact HB.out)⟩
                  · rw [if_neg c93] at H
                    have c93b0 : (t120 == x0_3) = false := beq_eq_false_iff_ne.mpr c93
                    have c93b1 : (t120 != x0_3) = true := bne_iff_ne.mpr c93
                    obtain rfl := Option.some.inj H
                    go_wp2_with (first | ((with_reducible refine gate_callee (f := 12) rfl ?_); refine goesL_ (some 123) rfl rfl Try.func12 (by kernel_rfl) rfl #[.pointer (some ⟨g119, 0, none⟩)] rfl (by (try simp only [List.map_toArray, List.map_cons, List.map_nil]); first | done | rfl | (simp only [List.length_drop, List.length_take]; rfl)) ?_; (with_reducible refine (window_Window_Left.calls g119 x120000_3 t120 t121 w _ ?side1 ?side2 A92.out).mono ?_); (case side1 => repeat (first | (with_reducible first | exact HI119.out | apply IsS42.alloc | apply IsS42.drewN | apply IsS42.drew | apply IsS42.set_0) | exact HI119.out)); (case side2 => repeat (first | (with_reducible first | exact HB.out | apply below_alloc | apply pw_below_drewN | apply below_drew1 | refine below_set ?_ (IsS42.ge HI119.out)) | exact HB.out)); rintro e w97 ⟨rfl, hi, hb, hk⟩; refine ⟨_, rfl, ?_⟩; have n0_ := Aside0.mk (hb); have n1_ := Aside0.mk (hi); clear HB; clear HI119; have HB := n0_; have HI119 := n1_; clear n0_ n1_; (try clear hb); (try clear hb2); (try clear hk); (try clear hi)))
                    go_ret
                    exact ⟨by first | rfl | (simp [errW_none, errW_some] <;> rfl) | (simp [*, errW_none, errW_some] <;> rfl), by repeat (first | (with_reducible first | exact HB.out | apply below_alloc | apply pw_below_drewN | apply below_drew1 | refine below_set ?_ (IsS42.ge HI119.out)) | exact HB.out)⟩
  · replace c4 := Bool.eq_false_iff.mpr c4
    subst c4
    have H1 : (some false) = some r := by rw [if_neg (show ¬ (false = true) by decide)] at H; exact H
    clear H
    have H := H1
    clear H1
    obtain rfl := Option.some.inj H
    go_enter Try.func5, Try.ntmps5
    go_wp2_with (first | ((with_reducible refine gate_callee (f := 8) rfl ?_); refine goesL_ (some 12) rfl rfl Try.func8 (by kernel_rfl) rfl #[] rfl (by (try simp only [List.map_toArray, List.map_cons, List.map_nil]); first | done | rfl | (simp only [List.length_drop, List.length_take]; rfl)) ?_; (with_reducible refine (heraldlaw09_first.calls  false _ A3.out).mono ?_); rintro e w98 ⟨rfl, hb⟩; refine ⟨_, rfl, ?_⟩; have n0_ := Aside0.mk (below_step (by repeat (first | (with_reducible first | exact HB.out | apply below_alloc | apply pw_below_drewN | apply below_drew1) | exact HB.out)) hb); clear HB; have HB := n0_; clear n0_; (try clear hb); (try clear hb2); (try clear hk); (try clear hi)))
    go_ret
    exact ⟨by first | rfl | (simp [errW_none, errW_some] <;> rfl) | (simp [*, errW_none, errW_some] <;> rfl), by repeat (first | (with_reducible first | exact HB.out | apply below_alloc | apply pw_below_drewN | apply below_drew1) | exact HB.out)⟩

end Go.Proofs.Ytbngliommdmnkaa.QWindowSums
