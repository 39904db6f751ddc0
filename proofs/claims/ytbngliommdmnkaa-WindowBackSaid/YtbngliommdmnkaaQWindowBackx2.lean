/- Written by a program of this session (a changed run of the kit's printer): what the Go functions of one call tree answer, as plain functions, and that the machine's calls answer so; no condition but those in each statement. -/
import Derived.Test.YtbngliommdmnkaaQWindowBackx0
import Derived.Test.YtbngliommdmnkaaQWindowBackx1
namespace Go.Proofs.Ytbngliommdmnkaa.QWindowBack
open Go.RowKit Go.Proofs.YtbngliommdmnkaaW.PrintWords Go.Proofs.YtbngliommdmnkaaW.PrintLast Go.Proofs.YtbngliommdmnkaaW.PrintMore
attribute [local go_sem] max2_int min2_int max_two min_two max_three min_three max_four min_four   -- for this text's walks alone
set_option linter.unusedVariables false
set_option linter.unusedSimpArgs false

/-! ### heraldlaw09_WindowBack: function 6 -/
mutual
def heraldlaw09_WindowBack.j0 : Nat → Int → Int → Int → Option (Bool)
  | 0, _, _, _ => none
  | k + 1, x2, x8, x120000 => (window_Window_Left.f x120000).bind fun bt128 => (if bt128.1 = x8 then ((window_Window_Take.f bt128.2 x2).bind fun bt130 => (if bt130.1 = true then (heraldlaw09_WindowBack.j1 k x2 x8 (decide (x2 > 0)) bt130.2) else (heraldlaw09_WindowBack.j1 k x2 x8 false bt130.2))) else (some false))
def heraldlaw09_WindowBack.j1 : Nat → Int → Int → Bool → Int → Option (Bool)
  | 0, _, _, _, _ => none
  | k + 1, x2, x8, x44, x120000 => if x44 = true then ((window_Window_Left.f x120000).bind fun bt132 => (if bt132.1 = (wrap64 (x8 - x2)) then ((window_Window_Give.f bt132.2 x2).bind fun bt134 => (if bt134.1 = 0 then (heraldlaw09_WindowBack.j2 k x8 bt134.2) else (some false))) else (some false))) else (heraldlaw09_WindowBack.j2 k x8 x120000)
def heraldlaw09_WindowBack.j2 : Nat → Int → Int → Option (Bool)
  | 0, _, _ => none
  | k + 1, x8, x120000 => (window_Window_Left.f x120000).bind fun bt136 => (if bt136.1 = x8 then ((window_Window_Shift.f bt136.2 (wrap64 (-x8))).bind fun bt138 => (heraldlaw09_WindowBack.j3 k (bt138.1 != 0) bt138.2)) else (heraldlaw09_WindowBack.j3 k true bt136.2))
def heraldlaw09_WindowBack.j3 : Nat → Bool → Int → Option (Bool)
  | 0, _, _ => none
  | k + 1, x67, x120000 => if x67 = true then (some false) else ((window_Window_Left.f x120000).bind fun bt140 => (if bt140.1 = 0 then ((window_Window_Take.f bt140.2 0).bind fun bt142 => (if bt142.1 = true then ((window_Window_Take.f bt142.2 1).bind fun bt144 => (if bt144.1 = true then (some false) else ((window_Window_Left.f bt144.2).bind fun bt146 => (some (bt146.1 == 0))))) else (some false))) else (some false)))
end
def heraldlaw09_WindowBack.f (k : Nat) (a0 : Int) (a1 : Int) (a2 : Int) : Option (Bool) := (heraldlaw09_first.f).bind fun t117 => (if t117 = true then ((window_New.f a0).bind fun t118 => ((window_Window_Left.f t118).bind fun bt120 => ((window_Window_Shift.f bt120.2 a1).bind fun bt122 => (if bt122.1 = 0 then ((window_Window_Left.f bt122.2).bind fun bt124 => (if bt124.1 = (wrap64 (bt120.1 + a1)) then ((window_Window_Shift.f bt124.2 (wrap64 (-a1))).bind fun bt126 => (if bt126.1 = 0 then (heraldlaw09_WindowBack.j0 k a2 bt120.1 bt126.2) else (some false))) else (some false))) else (heraldlaw09_WindowBack.j0 k a2 bt120.1 bt122.2))))) else (some false))
theorem heraldlaw09_WindowBack.mono_l : ∀ k, (∀ y0 y1 y2, LeO (heraldlaw09_WindowBack.j0 k y0 y1 y2) (heraldlaw09_WindowBack.j0 (k + 1) y0 y1 y2)) ∧ (∀ y0 y1 y2 y3, LeO (heraldlaw09_WindowBack.j1 k y0 y1 y2 y3) (heraldlaw09_WindowBack.j1 (k + 1) y0 y1 y2 y3)) ∧ (∀ y0 y1, LeO (heraldlaw09_WindowBack.j2 k y0 y1) (heraldlaw09_WindowBack.j2 (k + 1) y0 y1)) ∧ (∀ y0 y1, LeO (heraldlaw09_WindowBack.j3 k y0 y1) (heraldlaw09_WindowBack.j3 (k + 1) y0 y1))
  | 0 => ⟨fun _ _ _ r h => by simp [heraldlaw09_WindowBack.j0] at h, fun _ _ _ _ r h => by simp [heraldlaw09_WindowBack.j1] at h, fun _ _ r h => by simp [heraldlaw09_WindowBack.j2] at h, fun _ _ r h => by simp [heraldlaw09_WindowBack.j3] at h⟩
  | k + 1 => by
    obtain ⟨ih0, ih1, ih2, ih3⟩ := heraldlaw09_WindowBack.mono_l k
    refine ⟨?_, ?_, ?_, ?_⟩
    · intro y0 y1 y2
      unfold heraldlaw09_WindowBack.j0
      repeat' first
      | (with_reducible exact ih0 _ _ _)
      | (with_reducible exact ih1 _ _ _ _)
      | (with_reducible exact ih2 _ _)
      | (with_reducible exact ih3 _ _)
      | (with_reducible exact LeO.refl _)
      | (with_reducible exact LeO.none _)
      | (with_reducible refine LeO.ite ?_ ?_)
      | (with_reducible refine LeO.bind ?_ (fun _ => ?_))
      | exact ih0 _ _ _
      | exact ih1 _ _ _ _
      | exact ih2 _ _
      | exact ih3 _ _
      | exact LeO.none _
      | refine LeO.ite ?_ ?_
      | refine LeO.bind ?_ (fun _ => ?_)
    · intro y0 y1 y2 y3
      unfold heraldlaw09_WindowBack.j1
      repeat' first
      | (with_reducible exact ih0 _ _ _)
      | (with_reducible exact ih1 _ _ _ _)
      | (with_reducible exact ih2 _ _)
      | (with_reducible exact ih3 _ _)
      | (with_reducible exact LeO.refl _)
      | (with_reducible exact LeO.none _)
      | (with_reducible refine LeO.ite ?_ ?_)
      | (with_reducible refine LeO.bind ?_ (fun _ => ?_))
      | exact ih0 _ _ _
      | exact ih1 _ _ _ _
      | exact ih2 _ _
      | exact ih3 _ _
      | exact LeO.none _
      | refine LeO.ite ?_ ?_
      | refine LeO.bind ?_ (fun _ => ?_)
    · intro y0 y1
      unfold heraldlaw09_WindowBack.j2
      repeat' first
      | (with_reducible exact ih0 _ _ _)
      | (with_reducible exact ih1 _ _ _ _)
      | (with_reducible exact ih2 _ _)
      | (with_reducible exact ih3 _ _)
      | (with_reducible exact LeO.refl _)
      | (with_reducible exact LeO.none _)
      | (with_reducible refine LeO.ite ?_ ?_)
      | (with_reducible refine LeO.bind ?_ (fun _ => ?_))
      | exact ih0 _ _ _
      | exact ih1 _ _ _ _
      | exact ih2 _ _
      | exact ih3 _ _
      | exact LeO.none _
      | refine LeO.ite ?_ ?_
      | refine LeO.bind ?_ (fun _ => ?_)
    · intro y0 y1
      unfold heraldlaw09_WindowBack.j3
      repeat' first
      | (with_reducible exact ih0 _ _ _)
      | (with_reducible exact ih1 _ _ _ _)
      | (with_reducible exact ih2 _ _)
      | (with_reducible exact ih3 _ _)
      | (with_reducible exact LeO.refl _)
      | (with_reducible exact LeO.none _)
      | (with_reducible refine LeO.ite ?_ ?_)
      | (with_reducible refine LeO.bind ?_ (fun _ => ?_))
      | exact ih0 _ _ _
      | exact ih1 _ _ _ _
      | exact ih2 _ _
      | exact ih3 _ _
      | exact LeO.none _
      | refine LeO.ite ?_ ?_
      | refine LeO.bind ?_ (fun _ => ?_)
theorem heraldlaw09_WindowBack.mono : ∀ a0 a1 a2 k, LeO (heraldlaw09_WindowBack.f k a0 a1 a2) (heraldlaw09_WindowBack.f (k + 1) a0 a1 a2) := by
  intro a0 a1 a2 k
  obtain ⟨ih0, ih1, ih2, ih3⟩ := heraldlaw09_WindowBack.mono_l k
  unfold heraldlaw09_WindowBack.f
  repeat' first
      | (with_reducible exact ih0 _ _ _)
      | (with_reducible exact ih1 _ _ _ _)
      | (with_reducible exact ih2 _ _)
      | (with_reducible exact ih3 _ _)
      | (with_reducible exact LeO.refl _)
      | (with_reducible exact LeO.none _)
      | (with_reducible refine LeO.ite ?_ ?_)
      | (with_reducible refine LeO.bind ?_ (fun _ => ?_))
      | exact ih0 _ _ _
      | exact ih1 _ _ _ _
      | exact ih2 _ _
      | exact ih3 _ _
      | exact LeO.none _
      | refine LeO.ite ?_ ?_
      | refine LeO.bind ?_ (fun _ => ?_)
set_option maxHeartbeats 8000000 in
set_option maxRecDepth 100000 in
theorem heraldlaw09_WindowBack.calls (k : Nat) (a0 : Int) (a1 : Int) (a2 : Int) (r : Bool) (w : World) (h : heraldlaw09_WindowBack.f k a0 a1 a2 = some r) :
    Calls Try.prog 6 #[.int .i64 a0, .int .i64 a1, .int .i64 a2] w fun e w' => e = .returned (.bool r) ∧ Below w.heap.size w w' := by
  have HB := Aside0.mk (Below.refl w.heap.size w)
  have H : ((heraldlaw09_first.f).bind fun t117 => (if t117 = true then ((window_New.f a0).bind fun t118 => ((window_Window_Left.f t118).bind fun bt120 => ((window_Window_Shift.f bt120.2 a1).bind fun bt122 => (if bt122.1 = 0 then ((window_Window_Left.f bt122.2).bind fun bt124 => (if bt124.1 = (wrap64 (bt120.1 + a1)) then ((window_Window_Shift.f bt124.2 (wrap64 (-a1))).bind fun bt126 => (if bt126.1 = 0 then (heraldlaw09_WindowBack.j0 k a2 bt120.1 bt126.2) else (some false))) else (some false))) else (heraldlaw09_WindowBack.j0 k a2 bt120.1 bt122.2))))) else (some false))) = some r := h
  clear h
  replace H := Option.bind_eq_some_iff.mp H
  obtain ⟨t117, A40, H⟩ := H
  replace H : (if t117 = true then ((window_New.f a0).bind fun t118 => ((window_Window_Left.f t118).bind fun bt120 => ((window_Window_Shift.f bt120.2 a1).bind fun bt122 => (if bt122.1 = 0 then ((window_Window_Left.f bt122.2).bind fun bt124 => (if bt124.1 = (wrap64 (bt120.1 + a1)) then ((window_Window_Shift.f bt124.2 (wrap64 (-a1))).bind fun bt126 => (if bt126.1 = 0 then (heraldlaw09_WindowBack.j0 k a2 bt120.1 bt126.2) else (some false))) else (some false))) else (heraldlaw09_WindowBack.j0 k a2 bt120.1 bt122.2))))) else (some false)) = some r := H
  have A4 := Aside0.mk A40
  clear A40
  by_cases c5 : t117 = true
  · subst c5
    have H1 : ((window_New.f a0).bind fun t118 => ((window_Window_Left.f t118).bind fun bt120 => ((window_Window_Shift.f bt120.2 a1).bind fun bt122 => (if bt122.1 = 0 then ((window_Window_Left.f bt122.2).bind fun bt124 => (if bt124.1 = (wrap64 (bt120.1 + a1)) then ((window_Window_Shift.f bt124.2 (wrap64 (-a1))).bind fun bt126 => (if bt126.1 = 0 then (heraldlaw09_WindowBack.j0 k a2 bt120.1 bt126.2) else (some false))) else (some false))) else (heraldlaw09_WindowBack.j0 k a2 bt120.1 bt122.2))))) = some r := by rw [if_pos rfl] at H; exact H
    clear H
    have H := H1
    clear H1
    replace H := Option.bind_eq_some_iff.mp H
    obtain ⟨t118, A60, H⟩ := H
    replace H : ((window_Window_Left.f t118).bind fun bt120 => ((window_Window_Shift.f bt120.2 a1).bind fun bt122 => (if bt122.1 = 0 then ((window_Window_Left.f bt122.2).bind fun bt124 => (if bt124.1 = (wrap64 (bt120.1 + a1)) then ((window_Window_Shift.f bt124.2 (wrap64 (-a1))).bind fun bt126 => (if bt126.1 = 0 then (heraldlaw09_WindowBack.j0 k a2 bt120.1 bt126.2) else (some false))) else (some false))) else (heraldlaw09_WindowBack.j0 k a2 bt120.1 bt122.2)))) = some r := H
    have A6 := Aside0.mk A60
    clear A60
    replace H := Option.bind_eq_some_iff.mp H
    obtain ⟨⟨t120, t121⟩, A70, H⟩ := H
    replace H : ((window_Window_Shift.f t121 a1).bind fun bt122 => (if bt122.1 = 0 then ((window_Window_Left.f bt122.2).bind fun bt124 => (if bt124.1 = (wrap64 (t120 + a1)) then ((window_Window_Shift.f bt124.2 (wrap64 (-a1))).bind fun bt126 => (if bt126.1 = 0 then (heraldlaw09_WindowBack.j0 k a2 t120 bt126.2) else (some false))) else (some false))) else (heraldlaw09_WindowBack.j0 k a2 t120 bt122.2))) = some r := H
    have A7 := Aside0.mk A70
    clear A70
    replace H := Option.bind_eq_some_iff.mp H
    obtain ⟨⟨t122, t123⟩, A80, H⟩ := H
    replace H : (if t122 = 0 then ((window_Window_Left.f t123).bind fun bt124 => (if bt124.1 = (wrap64 (t120 + a1)) then ((window_Window_Shift.f bt124.2 (wrap64 (-a1))).bind fun bt126 => (if bt126.1 = 0 then (heraldlaw09_WindowBack.j0 k a2 t120 bt126.2) else (some false))) else (some false))) else (heraldlaw09_WindowBack.j0 k a2 t120 t123)) = some r := H
    have A8 := Aside0.mk A80
    clear A80
    have HC9 := Aside0.mk H
    clear H
    go_enter Try.func6, Try.ntmps6
    go_upto_if 20 with (first | ((with_reducible refine gate_callee (f := 8) rfl ?_); refine goesL_ (some 9) rfl rfl Try.func8 (by kernel_rfl) rfl #[] rfl (by (try simp only [List.map_toArray, List.map_cons, List.map_nil]); first | done | rfl | (simp only [List.length_drop, List.length_take]; rfl)) ?_; (with_reducible refine (heraldlaw09_first.calls  true _ A4.out).mono ?_); rintro e w10 ⟨rfl, hb⟩; refine ⟨_, rfl, ?_⟩; have n0_ := Aside0.mk (below_step (by repeat (first | (with_reducible first | exact HB.out | apply below_alloc | apply pw_below_drewN | apply below_drew1) | exact HB.out)) hb); clear HB; have HB := n0_; clear n0_; (try clear hb); (try clear hb2); (try clear hk); (try clear hi)) | ((with_reducible refine gate_callee (f := 9) rfl ?_); refine goesL_ (some 12) rfl rfl Try.func9 (by kernel_rfl) rfl #[.int .i64 a0] rfl (by (try simp only [List.map_toArray, List.map_cons, List.map_nil]); first | done | rfl | (simp only [List.length_drop, List.length_take]; rfl)) ?_; (with_reducible refine (window_New.calls a0 t118 w _ ?side1 A6.out).mono ?_); (case side1 => repeat (first | (with_reducible first | exact HB.out | apply below_alloc | apply pw_below_drewN | apply below_drew1) | exact HB.out)); rintro e w11 ⟨g119, rfl, hi, hb, hb2⟩; refine ⟨_, rfl, ?_⟩; have n0_ := Aside0.mk (hb); have n1_ := Aside0.mk (hi); clear HB; have HB := n0_; have HI119 := n1_; clear n0_ n1_; (try clear hb); (try clear hb2); (try clear hk); (try clear hi)) | ((with_reducible refine gate_callee (f := 12) rfl ?_); refine goesL_ (some 16) rfl rfl Try.func12 (by kernel_rfl) rfl #[.pointer (some ⟨g119, 0, none⟩)] rfl (by (try simp only [List.map_toArray, List.map_cons, List.map_nil]); first | done | rfl | (simp only [List.length_drop, List.length_take]; rfl)) ?_; (with_reducible refine (window_Window_Left.calls g119 t118 t120 t121 w _ ?side1 ?side2 A7.out).mono ?_); (case side1 => repeat (first | (with_reducible first | exact HI119.out | apply IsS42.alloc | apply IsS42.drewN | apply IsS42.drew | apply IsS42.set_0) | exact HI119.out)); (case side2 => repeat (first | (with_reducible first | exact HB.out | apply below_alloc | apply pw_below_drewN | apply below_drew1 | refine below_set ?_ (IsS42.ge HI119.out)) | exact HB.out)); rintro e w12 ⟨rfl, hi, hb, hk⟩; refine ⟨_, rfl, ?_⟩; have n0_ := Aside0.mk (hb); have n1_ := Aside0.mk (hi); clear HB; clear HI119; have HB := n0_; have HI119 := n1_; clear n0_ n1_; (try clear hb); (try clear hb2); (try clear hk); (try clear hi)) | ((with_reducible refine gate_callee (f := 18) rfl ?_); refine goesL_ (some 19) rfl rfl Try.func18 (by kernel_rfl) rfl #[.pointer (some ⟨g119, 0, none⟩), .int .i64 a1] rfl (by (try simp only [List.map_toArray, List.map_cons, List.map_nil]); first | done | rfl | (simp only [List.length_drop, List.length_take]; rfl)) ?_; (with_reducible refine (window_Window_Shift.calls g119 t121 a1 t122 t123 w _ ?side1 ?side2 A8.out).mono ?_); (case side1 => repeat (first | (with_reducible first | exact HI119.out | apply IsS42.alloc | apply IsS42.drewN | apply IsS42.drew | apply IsS42.set_0) | exact HI119.out)); (case side2 => repeat (first | (with_reducible first | exact HB.out | apply below_alloc | apply pw_below_drewN | apply below_drew1 | refine below_set ?_ (IsS42.ge HI119.out)) | exact HB.out)); rintro e w13 ⟨rfl, hi, hb, hk⟩; refine ⟨_, rfl, ?_⟩; have n0_ := Aside0.mk (hb); have n1_ := Aside0.mk (hi); clear HB; clear HI119; have HB := n0_; have HI119 := n1_; clear n0_ n1_; (try clear hb); (try clear hb2); (try clear hk); (try clear hi)))
    (try simp only [Act.put, List.setIfInBounds_toArray, List.set_cons_zero, List.set_cons_succ])
    go_cut [] (fun wc => ∃ (kq : Nat) (x120000_8 : Int), Aside0 (heraldlaw09_WindowBack.j0 kq a2 t120 x120000_8 = some r) ∧ Aside0 (kq ≤ k) ∧ Aside0 (IsS42 w wc g119 x120000_8) ∧ Aside0 (Below w.heap.size w wc))
    case first =>
      have H := HC9.out
      clear HC9
      by_cases c14 : t122 = 0
      · rw [if_pos c14] at H
        have c14b0 : (t122 == 0) = true := beq_iff_eq.mpr c14
        have c14b1 : (t122 != 0) = false := bne_eq_false_iff_eq.mpr c14
        clear c14
        (first | rw [c14b0] | (simp only [i64_w, i32_w]; rw [c14b0]) | skip)
        replace H := Option.bind_eq_some_iff.mp H
        obtain ⟨⟨t124, t125⟩, A150, H⟩ := H
        replace H : (if t124 = (wrap64 (t120 + a1)) then ((window_Window_Shift.f t125 (wrap64 (-a1))).bind fun bt126 => (if bt126.1 = 0 then (heraldlaw09_WindowBack.j0 k a2 t120 bt126.2) else (some false))) else (some false)) = some r := H
        have A15 := Aside0.mk A150
        clear A150
        by_cases c16 : t124 = (wrap64 (t120 + a1))
        · rw [if_pos c16] at H
          have c16b0 : (t124 == (wrap64 (t120 + a1))) = true := beq_iff_eq.mpr c16
          have c16b1 : (t124 != (wrap64 (t120 + a1))) = false := bne_eq_false_iff_eq.mpr c16
          clear c16
          replace H := Option.bind_eq_some_iff.mp H
          obtain ⟨⟨t126, t127⟩, A170, H⟩ := H
          replace H : (if t126 = 0 then (heraldlaw09_WindowBack.j0 k a2 t120 t127) else (some false)) = some r := H
          have A17 := Aside0.mk A170
          clear A170
          by_cases c18 : t126 = 0
          · rw [if_pos c18] at H
            have c18b0 : (t126 == 0) = true := beq_iff_eq.mpr c18
            have c18b1 : (t126 != 0) = false := bne_eq_false_iff_eq.mpr c18
            clear c18
            have H' := Aside0.mk H
            clear H
            go_wp2_with (first | ((with_reducible refine gate_callee (f := 12) rfl ?_); refine goesL_ (some 22) rfl rfl Try.func12 (by kernel_rfl) rfl #[.pointer (some ⟨g119, 0, none⟩)] rfl (by (try simp only [List.map_toArray, List.map_cons, List.map_nil]); first | done | rfl | (simp only [List.length_drop, List.length_take]; rfl)) ?_; (with_reducible refine (window_Window_Left.calls g119 t123 t124 t125 w _ ?side1 ?side2 A15.out).mono ?_); (case side1 => repeat (first | (with_reducible first | exact HI119.out | apply IsS42.alloc | apply IsS42.drewN | apply IsS42.drew | apply IsS42.set_0) | exact HI119.out)); (case side2 => repeat (first | (with_reducible first | exact HB.out | apply below_alloc | apply pw_below_drewN | apply below_drew1 | refine below_set ?_ (IsS42.ge HI119.out)) | exact HB.out)); rintro e w19 ⟨rfl, hi, hb, hk⟩; refine ⟨_, rfl, ?_⟩; have n0_ := Aside0.mk (hb); have n1_ := Aside0.mk (hi); clear HB; clear HI119; have HB := n0_; have HI119 := n1_; clear n0_ n1_; (try clear hb); (try clear hb2); (try clear hk); (try clear hi)) | (go_at_call 18; (with_reducible refine (window_Window_Shift.calls g119 t125 (wrap64 (-a1)) t126 t127 w _ ?side1 ?side2 A17.out).mono ?_); (case side1 => repeat (first | (with_reducible first | exact HI119.out | apply IsS42.alloc | apply IsS42.drewN | apply IsS42.drew | apply IsS42.set_0) | exact HI119.out)); (case side2 => repeat (first | (with_reducible first | exact HB.out | apply below_alloc | apply pw_below_drewN | apply below_drew1 | refine below_set ?_ (IsS42.ge HI119.out)) | exact HB.out)); rintro e w20 ⟨rfl, hi, hb, hk⟩; have n0_ := Aside0.mk (hb); have n1_ := Aside0.mk (hi); clear HB; clear HI119; have HB := n0_; have HI119 := n1_; clear n0_ n1_; (try clear hb); (try clear hb2); (try clear hk); (try clear hi)))
            go_meet
            case rel => exact ⟨_, (t127), H', ⟨by first | omega | exact Nat.le_refl _⟩, ⟨by repeat (first | (with_reducible first | exact HI119.out | apply IsS42.alloc | apply IsS42.drewN | apply IsS42.drew | apply IsS42.set_0) | exact HI119.out)⟩, ⟨by repeat (first | (with_reducible first | exact HB.out | apply below_alloc | apply pw_below_drewN | apply below_drew1 | refine below_set ?_ (IsS42.ge HI119.out)) | exact HB.out)⟩⟩
          · rw [if_neg c18] at H
            have c18b0 : (t126 == 0) = false := beq_eq_false_iff_ne.mpr c18
            have c18b1 : (t126 != 0) = true := bne_iff_ne.mpr c18
            obtain rfl := Option.some.inj H
            go_wp2_with (first | ((with_reducible refine gate_callee (f := 12) rfl ?_); refine goesL_ (some 22) rfl rfl Try.func12 (by kernel_rfl) rfl #[.pointer (some ⟨g119, 0, none⟩)] rfl (by (try simp only [List.map_toArray, List.map_cons, List.map_nil]); first | done | rfl | (simp only [List.length_drop, List.length_take]; rfl)) ?_; (with_reducible refine (window_Window_Left.calls g119 t123 t124 t125 w _ ?side1 ?side2 A15.out).mono ?_); (case side1 => repeat (first | (with_reducible first | exact HI119.out | apply IsS42.alloc | apply IsS42.drewN | apply IsS42.drew | apply IsS42.set_0) | exact HI119.out)); (case side2 => repeat (first | (with_reducible first | exact HB.out | apply below_alloc | apply pw_below_drewN | apply below_drew1 | refine below_set ?_ (IsS42.ge HI119.out)) | exact HB.out)); rintro e w21 ⟨rfl, hi, hb, hk⟩; refine ⟨_, rfl, ?_⟩; have n0_ := Aside0.mk (hb); have n1_ := Aside0.mk (hi); clear HB; clear HI119; have HB := n0_; have HI119 := n1_; clear n0_ n1_; (try clear hb); (try clear hb2); (try clear hk); (try clear hi)) | (go_at_call 18; (with_reducible refine (window_Window_Shift.calls g119 t125 (wrap64 (-a1)) t126 t127 w _ ?side1 ?side2 A17.out).mono ?_); (case side1 => repeat (first | (with_reducible first | exact HI119.out | apply IsS42.alloc | apply IsS42.drewN | apply IsS42.drew | apply IsS42.set_0) | exact HI119.out)); (case side2 => repeat (first | (with_reducible first | exact HB.out | apply below_alloc | apply pw_below_drewN | apply below_drew1 | refine below_set ?_ (IsS42.ge HI119.out)) | exact HB.out)); rintro e w22 ⟨rfl, hi, hb, hk⟩; have n0_ := Aside0.mk (hb); have n1_ := Aside0.mk (hi); clear HB; clear HI119; have HB := n0_; have HI119 := n1_; clear n0_ n1_; (try clear hb); (try clear hb2); (try clear hk); (try clear hi)))
            go_ret
            exact ⟨by first | rfl | (simp [errW_none, errW_some] <;> rfl) | (simp [*, errW_none, errW_some] <;> rfl), by repeat (first | (with_reducible first | exact HB.out | apply below_alloc | apply pw_below_drewN | apply below_drew1 | refine below_set ?_ (IsS42.ge HI119.out)) | exact HB.out)⟩
        · rw [if_neg c16] at H
          have c16b0 : (t124 == (wrap64 (t120 + a1))) = false := beq_eq_false_iff_ne.mpr c16
          have c16b1 : (t124 != (wrap64 (t120 + a1))) = true := bne_iff_ne.mpr c16
          obtain rfl := Option.some.inj H
          go_wp2_with (first | ((with_reducible refine gate_callee (f := 12) rfl ?_); refine goesL_ (some 22) rfl rfl Try.func12 (by kernel_rfl) rfl #[.pointer (some ⟨g119, 0, none⟩)] rfl (by (try simp only [List.map_toArray, List.map_cons, List.map_nil]); first | done | rfl | (simp only [List.length_drop, List.length_take]; rfl)) ?_; (with_reducible refine (window_Window_Left.calls g119 t123 t124 t125 w _ ?side1 ?side2 A15.out).mono ?_); (case side1 => repeat (first | (with_reducible first | exact HI119.out | apply IsS42.alloc | apply IsS42.drewN | apply IsS42.drew | apply IsS42.set_0) | exact HI119.out)); (case side2 => repeat (first | (with_reducible first | exact HB.out | apply below_alloc | apply pw_below_drewN | apply below_drew1 | refine below_set ?_ (IsS42.ge HI119.out)) | exact HB.out)); rintro e w23 ⟨rfl, hi, hb, hk⟩; refine ⟨_, rfl, ?_⟩; have n0_ := Aside0.mk (hb); have n1_ := Aside0.mk (hi); clear HB; clear HI119; have HB := n0_; have HI119 := n1_; clear n0_ n1_; (try clear hb); (try clear hb2); (try clear hk); (try clear hi)))
          go_ret
          exact ⟨by first | rfl | (simp [errW_none, errW_some] <;> rfl) | (simp [*, errW_none, errW_some] <;> rfl), by repeat (first | (with_reducible first | exact HB.out | apply below_alloc | apply pw_below_drewN | apply below_drew1 | refine below_set ?_ (IsS42.ge HI119.out)) | exact HB.out)⟩
      · rw [if_neg c14] at H
        have c14b0 : (t122 == 0) = false := beq_eq_false_iff_ne.mpr c14
        have c14b1 : (t122 != 0) = true := bne_iff_ne.mpr c14
        (first | rw [c14b0] | (simp only [i64_w, i32_w]; rw [c14b0]) | skip)
        have H' := Aside0.mk H
        clear H
        go_wp2
        go_meet
        case rel => exact ⟨_, (t123), H', ⟨by first | omega | exact Nat.le_refl _⟩, ⟨by repeat (first | (with_reducible first | exact HI119.out | apply IsS42.alloc | apply IsS42.drewN | apply IsS42.drew | apply IsS42.set_0) | exact HI119.out)⟩, ⟨by repeat (first | (with_reducible first | exact HB.out | apply below_alloc | apply pw_below_drewN | apply below_drew1 | refine below_set ?_ (IsS42.ge HI119.out)) | exact HB.out)⟩⟩
    case rest =>
      clear HC9
      try clear c1
      try clear p2
      try clear c5
      try clear c6
      try clear p6
      try clear c8
      try clear c9
      try clear c12
      try clear c14
      try clear c14b0
      try clear c14b1
      try clear c16
      try clear c16b0
      try clear c16b1
      try clear c18
      try clear c18b0
      try clear c18b1
      obtain ⟨kq, x120000_8, HA, HJ8, HI119, HB⟩ := hcut
      cases kq with
      | zero => exact absurd HA.out (by simp [heraldlaw09_WindowBack.j0])
      | succ kj8 =>
        have H := HA.out
        clear HA
        simp only [heraldlaw09_WindowBack.j0] at H
        replace H := Option.bind_eq_some_iff.mp H
        obtain ⟨⟨t128, t129⟩, A240, H⟩ := H
        replace H : (if t128 = t120 then ((window_Window_Take.f t129 a2).bind fun bt130 => (if bt130.1 = true then (heraldlaw09_WindowBack.j1 kj8 a2 t120 (decide (a2 > 0)) bt130.2) else (heraldlaw09_WindowBack.j1 kj8 a2 t120 false bt130.2))) else (some false)) = some r := H
        have A24 := Aside0.mk A240
        clear A240
        by_cases c25 : t128 = t120
        · rw [if_pos c25] at H
          have c25b0 : (t128 == t120) = true := beq_iff_eq.mpr c25
          have c25b1 : (t128 != t120) = false := bne_eq_false_iff_eq.mpr c25
          clear c25
          have HC26 := Aside0.mk H
          clear H
          go_upto_region 12 with (first | ((with_reducible refine gate_callee (f := 12) rfl ?_); refine goesL_ (some 35) rfl rfl Try.func12 (by kernel_rfl) rfl #[.pointer (some ⟨g119, 0, none⟩)] rfl (by (try simp only [List.map_toArray, List.map_cons, List.map_nil]); first | done | rfl | (simp only [List.length_drop, List.length_take]; rfl)) ?_; (with_reducible refine (window_Window_Left.calls g119 x120000_8 t128 t129 w _ ?side1 ?side2 A24.out).mono ?_); (case side1 => repeat (first | (with_reducible first | exact HI119.out | apply IsS42.alloc | apply IsS42.drewN | apply IsS42.drew | apply IsS42.set_0) | exact HI119.out)); (case side2 => repeat (first | (with_reducible first | exact HB.out | apply below_alloc | apply pw_below_drewN | apply below_drew1 | refine below_set ?_ (IsS42.ge HI119.out)) | exact HB.out)); rintro e w27 ⟨rfl, hi, hb, hk⟩; refine ⟨_, rfl, ?_⟩; have n0_ := Aside0.mk (hb); have n1_ := Aside0.mk (hi); clear HB; clear HI119; have HB := n0_; have HI119 := n1_; clear n0_ n1_; (try clear hb); (try clear hb2); (try clear hk); (try clear hi)))
          (try simp only [Act.put, List.setIfInBounds_toArray, List.set_cons_zero, List.set_cons_succ])
          go_cut [44] (fun v44 wc => ∃ (kq : Nat) (x44_25 : Bool) (x120000_25 : Int), v44 = .bool x44_25 ∧ Aside0 (heraldlaw09_WindowBack.j1 kq a2 t120 x44_25 x120000_25 = some r) ∧ Aside0 (kq ≤ kj8) ∧ Aside0 (IsS42 w wc g119 x120000_25) ∧ Aside0 (Below w.heap.size w wc))
          case first =>
            have H := HC26.out
            clear HC26
            replace H := Option.bind_eq_some_iff.mp H
            obtain ⟨⟨t130, t131⟩, A280, H⟩ := H
            replace H : (if t130 = true then (heraldlaw09_WindowBack.j1 kj8 a2 t120 (decide (a2 > 0)) t131) else (heraldlaw09_WindowBack.j1 kj8 a2 t120 false t131)) = some r := H
            have A28 := Aside0.mk A280
            clear A280
            by_cases c29 : t130 = true
            · subst c29
              have H1 : (heraldlaw09_WindowBack.j1 kj8 a2 t120 (decide (a2 > 0)) t131) = some r := by rw [if_pos rfl] at H; exact H
              clear H
              have H := H1
              clear H1
              have H' := Aside0.mk H
              clear H
              go_wp2_with (first | ((with_reducible refine gate_callee (f := 16) rfl ?_); refine goesL_ (some 40) rfl rfl Try.func16 (by kernel_rfl) rfl #[.pointer (some ⟨g119, 0, none⟩), .int .i64 a2] rfl (by (try simp only [List.map_toArray, List.map_cons, List.map_nil]); first | done | rfl | (simp only [List.length_drop, List.length_take]; rfl)) ?_; (with_reducible refine (window_Window_Take.calls g119 t129 a2 true t131 w _ ?side1 ?side2 A28.out).mono ?_); (case side1 => repeat (first | (with_reducible first | exact HI119.out | apply IsS42.alloc | apply IsS42.drewN | apply IsS42.drew | apply IsS42.set_0) | exact HI119.out)); (case side2 => repeat (first | (with_reducible first | exact HB.out | apply below_alloc | apply pw_below_drewN | apply below_drew1 | refine below_set ?_ (IsS42.ge HI119.out)) | exact HB.out)); rintro e w30 ⟨rfl, hi, hb, hk⟩; refine ⟨_, rfl, ?_⟩; have n0_ := Aside0.mk (hb); have n1_ := Aside0.mk (hi); clear HB; clear HI119; have HB := n0_; have HI119 := n1_; clear n0_ n1_; (try clear hb); (try clear hb2); (try clear hk); (try clear hi)))
              go_meet
              case rel => exact ⟨_, (decide (a2 > 0)), (t131), (by first | rfl | (simp; done) | (simp [*]; done)), H', ⟨by have := HJ8.out; first | omega | exact Nat.le_refl _⟩, ⟨by repeat (first | (with_reducible first | exact HI119.out | apply IsS42.alloc | apply IsS42.drewN | apply IsS42.drew | apply IsS42.set_0) | exact HI119.out)⟩, ⟨by repeat (first | (with_reducible first | exact HB.out | apply below_alloc | apply pw_below_drewN | apply below_drew1 | refine below_set ?_ (IsS42.ge HI119.out)) | exact HB.out)⟩⟩
            · replace c29 := Bool.eq_false_iff.mpr c29
              subst c29
              have H1 : (heraldlaw09_WindowBack.j1 kj8 a2 t120 false t131) = some r := by rw [if_neg (show ¬ (false = true) by decide)] at H; exact H
              clear H
              have H := H1
              clear H1
              have H' := Aside0.mk H
              clear H
              go_wp2_with (first | ((with_reducible refine gate_callee (f := 16) rfl ?_); refine goesL_ (some 40) rfl rfl Try.func16 (by kernel_rfl) rfl #[.pointer (some ⟨g119, 0, none⟩), .int .i64 a2] rfl (by (try simp only [List.map_toArray, List.map_cons, List.map_nil]); first | done | rfl | (simp only [List.length_drop, List.length_take]; rfl)) ?_; (with_reducible refine (window_Window_Take.calls g119 t129 a2 false t131 w _ ?side1 ?side2 A28.out).mono ?_); (case side1 => repeat (first | (with_reducible first | exact HI119.out | apply IsS42.alloc | apply IsS42.drewN | apply IsS42.drew | apply IsS42.set_0) | exact HI119.out)); (case side2 => repeat (first | (with_reducible first | exact HB.out | apply below_alloc | apply pw_below_drewN | apply below_drew1 | refine below_set ?_ (IsS42.ge HI119.out)) | exact HB.out)); rintro e w31 ⟨rfl, hi, hb, hk⟩; refine ⟨_, rfl, ?_⟩; have n0_ := Aside0.mk (hb); have n1_ := Aside0.mk (hi); clear HB; clear HI119; have HB := n0_; have HI119 := n1_; clear n0_ n1_; (try clear hb); (try clear hb2); (try clear hk); (try clear hi)))
              go_meet
              case rel => exact ⟨_, (false), (t131), (by first | rfl | (simp; done) | (simp [*]; done)), H', ⟨by have := HJ8.out; first | omega | exact Nat.le_refl _⟩, ⟨by repeat (first | (with_reducible first | exact HI119.out | apply IsS42.alloc | apply IsS42.drewN | apply IsS42.drew | apply IsS42.set_0) | exact HI119.out)⟩, ⟨by repeat (first | (with_reducible first | exact HB.out | apply below_alloc | apply pw_below_drewN | apply below_drew1 | refine below_set ?_ (IsS42.ge HI119.out)) | exact HB.out)⟩⟩
          case rest =>
            clear HC26
            try clear c1
            try clear c2
            try clear p2
            try clear c5
            try clear c6
            try clear p6
            try clear c8
            try clear c9
            try clear c12
            try clear c14
            try clear c14b0
            try clear c14b1
            try clear c16
            try clear c16b0
            try clear c16b1
            try clear c18
            try clear c18b0
            try clear c18b1
            try clear c25
            try clear c25b0
            try clear c25b1
            try clear c29
            try clear p2
            try clear p6
            obtain ⟨kq, x44_25, x120000_25, rfl, HA, HJ25, HI119, HB⟩ := hcut
            cases kq with
            | zero => exact absurd HA.out (by simp [heraldlaw09_WindowBack.j1])
            | succ kj25 =>
              have H := HA.out
              clear HA
              simp only [heraldlaw09_WindowBack.j1] at H
              have HC32 := Aside0.mk H
              clear H
              go_upto_if 44 with (fail)
              go_cut [] (fun wc => ∃ (kq : Nat) (x120000_31 : Int), Aside0 (heraldlaw09_WindowBack.j2 kq t120 x120000_31 = some r) ∧ Aside0 (kq ≤ kj25) ∧ Aside0 (IsS42 w wc g119 x120000_31) ∧ Aside0 (Below w.heap.size w wc))
              case first =>
                have H := HC32.out
                clear HC32
                by_cases c33 : x44_25 = true
                · subst c33
                  have H1 : ((window_Window_Left.f x120000_25).bind fun bt132 => (if bt132.1 = (wrap64 (t120 - a2)) then ((window_Window_Give.f bt132.2 a2).bind fun bt134 => (if bt134.1 = 0 then (heraldlaw09_WindowBack.j2 kj25 t120 bt134.2) else (some false))) else (some false))) = some r := by rw [if_pos rfl] at H; exact H
                  clear H
                  have H := H1
                  clear H1
                  replace H := Option.bind_eq_some_iff.mp H
                  obtain ⟨⟨t132, t133⟩, A340, H⟩ := H
                  replace H : (if t132 = (wrap64 (t120 - a2)) then ((window_Window_Give.f t133 a2).bind fun bt134 => (if bt134.1 = 0 then (heraldlaw09_WindowBack.j2 kj25 t120 bt134.2) else (some false))) else (some false)) = some r := H
                  have A34 := Aside0.mk A340
                  clear A340
                  by_cases c35 : t132 = (wrap64 (t120 - a2))
                  · rw [if_pos c35] at H
                    have c35b0 : (t132 == (wrap64 (t120 - a2))) = true := beq_iff_eq.mpr c35
                    have c35b1 : (t132 != (wrap64 (t120 - a2))) = false := bne_eq_false_iff_eq.mpr c35
                    clear c35
                    (first | rw [c35b0] | (simp only [i64_w, i32_w]; rw [c35b0]) | skip)
                    replace H := Option.bind_eq_some_iff.mp H
                    obtain ⟨⟨t134, t135⟩, A360, H⟩ := H
                    replace H : (if t134 = 0 then (heraldlaw09_WindowBack.j2 kj25 t120 t135) else (some false)) = some r := H
                    have A36 := Aside0.mk A360
                    clear A360
                    by_cases c37 : t134 = 0
                    · rw [if_pos c37] at H
                      have c37b0 : (t134 == 0) = true := beq_iff_eq.mpr c37
                      have c37b1 : (t134 != 0) = false := bne_eq_false_iff_eq.mpr c37
                      clear c37
                      have H' := Aside0.mk H
                      clear H
                      go_wp2_with (first | ((with_reducible refine gate_callee (f := 12) rfl ?_); refine goesL_ (some 46) rfl rfl Try.func12 (by kernel_rfl) rfl #[.pointer (some ⟨g119, 0, none⟩)] rfl (by (try simp only [List.map_toArray, List.map_cons, List.map_nil]); first | done | rfl | (simp only [List.length_drop, List.length_take]; rfl)) ?_; (with_reducible refine (window_Window_Left.calls g119 x120000_25 t132 t133 w _ ?side1 ?side2 A34.out).mono ?_); (case side1 => repeat (first | (with_reducible first | exact HI119.out | apply IsS42.alloc | apply IsS42.drewN | apply IsS42.drew | apply IsS42.set_0) | exact HI119.out)); (case side2 => repeat (first | (with_reducible first | exact HB.out | apply below_alloc | apply pw_below_drewN | apply below_drew1 | refine below_set ?_ (IsS42.ge HI119.out)) | exact HB.out)); rintro e w38 ⟨rfl, hi, hb, hk⟩; refine ⟨_, rfl, ?_⟩; have n0_ := Aside0.mk (hb); have n1_ := Aside0.mk (hi); clear HB; clear HI119; have HB := n0_; have HI119 := n1_; clear n0_ n1_; (try clear hb); (try clear hb2); (try clear hk); (try clear hi)) | (go_at_call 17; (with_reducible refine (window_Window_Give.calls g119 t133 a2 t134 t135 w _ ?side1 ?side2 A36.out).mono ?_); (case side1 => repeat (first | (with_reducible first | exact HI119.out | apply IsS42.alloc | apply IsS42.drewN | apply IsS42.drew | apply IsS42.set_0) | exact HI119.out)); (case side2 => repeat (first | (with_reducible first | exact HB.out | apply below_alloc | apply pw_below_drewN | apply below_drew1 | refine below_set ?_ (IsS42.ge HI119.out)) | exact HB.out)); rintro e w39 ⟨rfl, hi, hb, hk⟩; have n0_ := Aside0.mk (hb); have n1_ := Aside0.mk (hi); clear HB; clear HI119; have HB := n0_; have HI119 := n1_; clear n0_ n1_; (try clear hb); (try clear hb2); (try clear hk); (try clear hi)))
                      go_meet
                      case rel => exact ⟨_, (t135), H', ⟨by have := HJ8.out; have := HJ25.out; first | omega | exact Nat.le_refl _⟩, ⟨by repeat (first | (with_reducible first | exact HI119.out | apply IsS42.alloc | apply IsS42.drewN | apply IsS42.drew | apply IsS42.set_0) | exact HI119.out)⟩, ⟨by repeat (first | (with_reducible first | exact HB.out | apply below_alloc | apply pw_below_drewN | apply below_drew1 | refine below_set ?_ (IsS42.ge HI119.out)) | exact HB.out)⟩⟩
                    · rw [if_neg c37] at H
                      have c37b0 : (t134 == 0) = false := beq_eq_false_iff_ne.mpr c37
                      have c37b1 : (t134 != 0) = true := bne_iff_ne.mpr c37
                      obtain rfl := Option.some.inj H
                      go_wp2_with (first | ((with_reducible refine gate_callee (f := 12) rfl ?_); refine goesL_ (some 46) rfl rfl Try.func12 (by kernel_rfl) rfl #[.pointer (some ⟨g119, 0, none⟩)] rfl (by (try simp only [List.map_toArray, List.map_cons, List.map_nil]); first | done | rfl | (simp only [List.length_drop, List.length_take]; rfl)) ?_; (with_reducible refine (window_Window_Left.calls g119 x120000_25 t132 t133 w _ ?side1 ?side2 A34.out).mono ?_); (case side1 => repeat (first | (with_reducible first | exact HI119.out | apply IsS42.alloc | apply IsS42.drewN | apply IsS42.drew | apply IsS42.set_0) | exact HI119.out)); (case side2 => repeat (first | (with_reducible first | exact HB.out | apply below_alloc | apply pw_below_drewN | apply below_drew1 | refine below_set ?_ (IsS42.ge HI119.out)) | exact HB.out)); rintro e w40 ⟨rfl, hi, hb, hk⟩; refine ⟨_, rfl, ?_⟩; have n0_ := Aside0.mk (hb); have n1_ := Aside0.mk (hi); clear HB; clear HI119; have HB := n0_; have HI119 := n1_; clear n0_ n1_; (try clear hb); (try clear hb2); (try clear hk); (try clear hi)) | (go_at_call 17; (with_reducible refine (window_Window_Give.calls g119 t133 a2 t134 t135 w _ ?side1 ?side2 A36.out).mono ?_); (case side1 => repeat (first | (with_reducible first | exact HI119.out | apply IsS42.alloc | apply IsS42.drewN | apply IsS42.drew | apply IsS42.set_0) | exact HI119.out)); (case side2 => repeat (first | (with_reducible first | exact HB.out | apply below_alloc | apply pw_below_drewN | apply below_drew1 | refine below_set ?_ (IsS42.ge HI119.out)) | exact HB.out)); rintro e w41 ⟨rfl, hi, hb, hk⟩; have n0_ := Aside0.mk (hb); have n1_ := Aside0.mk (hi); clear HB; clear HI119; have HB := n0_; have HI119 := n1_; clear n0_ n1_; (try clear hb); (try clear hb2); (try clear hk); (try clear hi)))
                      go_ret
                      exact ⟨by first | rfl | (simp [errW_none, errW_some] <;> rfl) | (simp [*, errW_none, errW_some] <;> rfl), by repeat (first | (with_reducible first | exact HB.out | apply below_alloc | apply pw_below_drewN | apply below_drew1 | refine below_set ?_ (IsS42.ge HI119.out)) | exact HB.out)⟩
                  · rw [if_neg c35] at H
                    have c35b0 : (t132 == (wrap64 (t120 - a2))) = false := beq_eq_false_iff_ne.mpr c35
                    have c35b1 : (t132 != (wrap64 (t120 - a2))) = true := bne_iff_ne.mpr c35
                    (first | rw [c35b0] | (simp only [i64_w, i32_w]; rw [c35b0]) | skip)
                    obtain rfl := Option.some.inj H
                    go_wp2_with (first | ((with_reducible refine gate_callee (f := 12) rfl ?_); refine goesL_ (some 46) rfl rfl Try.func12 (by kernel_rfl) rfl #[.pointer (some ⟨g119, 0, none⟩)] rfl (by (try simp only [List.map_toArray, List.map_cons, List.map_nil]); first | done | rfl | (simp only [List.length_drop, List.length_take]; rfl)) ?_; (with_reducible refine (window_Window_Left.calls g119 x120000_25 t132 t133 w _ ?side1 ?side2 A34.out).mono ?_); (case side1 => repeat (first | (with_reducible first | exact HI119.out | apply IsS42.alloc | apply IsS42.drewN | apply IsS42.drew | apply IsS42.set_0) | exact HI119.out)); (case side2 => repeat (first | (with_reducible first | exact HB.out | apply below_alloc | apply pw_below_drewN | apply below_drew1 | refine below_set ?_ (IsS42.ge HI119.out)) | exact HB.out)); rintro e w42 ⟨rfl, hi, hb, hk⟩; refine ⟨_, rfl, ?_⟩; have n0_ := Aside0.mk (hb); have n1_ := Aside0.mk (hi); clear HB; clear HI119; have HB := n0_; have HI119 := n1_; clear n0_ n1_; (try clear hb); (try clear hb2); (try clear hk); (try clear hi)))
                    go_ret
                    exact ⟨by first | rfl | (simp [errW_none, errW_some] <;> rfl) | (simp [*, errW_none, errW_some] <;> rfl), by repeat (first | (with_reducible first | exact HB.out | apply below_alloc | apply pw_below_drewN | apply below_drew1 | refine below_set ?_ (IsS42.ge HI119.out)) | exact HB.out)⟩
                · replace c33 := Bool.eq_false_iff.mpr c33
                  subst c33
                  have H1 : (heraldlaw09_WindowBack.j2 kj25 t120 x120000_25) = some r := by rw [if_neg (show ¬ (false = true) by decide)] at H; exact H
                  clear H
                  have H := H1
                  clear H1
                  have H' := Aside0.mk H
                  clear H
                  go_wp2
                  go_meet
                  case rel => exact ⟨_, (x120000_25), H', ⟨by have := HJ8.out; have := HJ25.out; first | omega | exact Nat.le_refl _⟩, ⟨by repeat (first | (with_reducible first | exact HI119.out | apply IsS42.alloc | apply IsS42.drewN | apply IsS42.drew | apply IsS42.set_0) | exact HI119.out)⟩, ⟨by repeat (first | (with_reducible first | exact HB.out | apply below_alloc | apply pw_below_drewN | apply below_drew1 | refine below_set ?_ (IsS42.ge HI119.out)) | exact HB.out)⟩⟩
              case rest =>
                clear HC32
                try clear c1
                try clear c2
                try clear p2
                try clear c3
                try clear c5
                try clear c6
                try clear p6
                try clear c8
                try clear c9
                try clear c12
                try clear c14
                try clear c14b0
                try clear c14b1
                try clear c16
                try clear c16b0
                try clear c16b1
                try clear c18
                try clear c18b0
                try clear c18b1
                try clear c25
                try clear c25b0
                try clear c25b1
                try clear c29
                try clear c33
                try clear c35
                try clear c35b0
                try clear c35b1
                try clear c37
                try clear c37b0
                try clear c37b1
                try clear p2
                try clear p6
                obtain ⟨kq, x120000_31, HA, HJ31, HI119, HB⟩ := hcut
                cases kq with
                | zero => exact absurd HA.out (by simp [heraldlaw09_WindowBack.j2])
                | succ kj31 =>
                  have H := HA.out
                  clear HA
                  simp only [heraldlaw09_WindowBack.j2] at H
                  have HC43 := Aside0.mk H
                  clear H
                  go_upto_region 15 with (fail)
                  go_cut [67] (fun v67 wc => ∃ (kq : Nat) (x67_42 : Bool) (x120000_42 : Int), v67 = .bool x67_42 ∧ Aside0 (heraldlaw09_WindowBack.j3 kq x67_42 x120000_42 = some r) ∧ Aside0 (kq ≤ kj31) ∧ Aside0 (IsS42 w wc g119 x120000_42) ∧ Aside0 (Below w.heap.size w wc))
                  case first =>
                    have H := HC43.out
                    clear HC43
                    replace H := Option.bind_eq_some_iff.mp H
                    obtain ⟨⟨t136, t137⟩, A440, H⟩ := H
                    replace H : (if t136 = t120 then ((window_Window_Shift.f t137 (wrap64 (-t120))).bind fun bt138 => (heraldlaw09_WindowBack.j3 kj31 (bt138.1 != 0) bt138.2)) else (heraldlaw09_WindowBack.j3 kj31 true t137)) = some r := H
                    have A44 := Aside0.mk A440
                    clear A440
                    by_cases c45 : t136 = t120
                    · rw [if_pos c45] at H
                      have c45b0 : (t136 == t120) = true := beq_iff_eq.mpr c45
                      have c45b1 : (t136 != t120) = false := bne_eq_false_iff_eq.mpr c45
                      clear c45
                      (first | rw [c45b0] | (simp only [i64_w, i32_w]; rw [c45b0]) | skip)
                      replace H := Option.bind_eq_some_iff.mp H
                      obtain ⟨⟨t138, t139⟩, A460, H⟩ := H
                      replace H : (heraldlaw09_WindowBack.j3 kj31 (t138 != 0) t139) = some r := H
                      have A46 := Aside0.mk A460
                      clear A460
                      have H' := Aside0.mk H
                      clear H
                      go_wp2_with (first | ((with_reducible refine gate_callee (f := 12) rfl ?_); refine goesL_ (some 58) rfl rfl Try.func12 (by kernel_rfl) rfl #[.pointer (some ⟨g119, 0, none⟩)] rfl (by (try simp only [List.map_toArray, List.map_cons, List.map_nil]); first | done | rfl | (simp only [List.length_drop, List.length_take]; rfl)) ?_; (with_reducible refine (window_Window_Left.calls g119 x120000_31 t136 t137 w _ ?side1 ?side2 A44.out).mono ?_); (case side1 => repeat (first | (with_reducible first | exact HI119.out | apply IsS42.alloc | apply IsS42.drewN | apply IsS42.drew | apply IsS42.set_0) | exact HI119.out)); (case side2 => repeat (first | (with_reducible first | exact HB.out | apply below_alloc | apply pw_below_drewN | apply below_drew1 | refine below_set ?_ (IsS42.ge HI119.out)) | exact HB.out)); rintro e w47 ⟨rfl, hi, hb, hk⟩; refine ⟨_, rfl, ?_⟩; have n0_ := Aside0.mk (hb); have n1_ := Aside0.mk (hi); clear HB; clear HI119; have HB := n0_; have HI119 := n1_; clear n0_ n1_; (try clear hb); (try clear hb2); (try clear hk); (try clear hi)) | (go_at_call 18; (with_reducible refine (window_Window_Shift.calls g119 t137 (wrap64 (-t120)) t138 t139 w _ ?side1 ?side2 A46.out).mono ?_); (case side1 => repeat (first | (with_reducible first | exact HI119.out | apply IsS42.alloc | apply IsS42.drewN | apply IsS42.drew | apply IsS42.set_0) | exact HI119.out)); (case side2 => repeat (first | (with_reducible first | exact HB.out | apply below_alloc | apply pw_below_drewN | apply below_drew1 | refine below_set ?_ (IsS42.ge HI119.out)) | exact HB.out)); rintro e w48 ⟨rfl, hi, hb, hk⟩; have n0_ := Aside0.mk (hb); have n1_ := Aside0.mk (hi); clear HB; clear HI119; have HB := n0_; have HI119 := n1_; clear n0_ n1_; (try clear hb); (try clear hb2); (try clear hk); (try clear hi)))
                      go_meet
                      case rel => exact ⟨_, ((t138 != 0)), (t139), (by first | rfl | (simp; done) | (simp [*]; done)), H', ⟨by have := HJ8.out; have := HJ25.out; have := HJ31.out; first | omega | exact Nat.le_refl _⟩, ⟨by repeat (first | (with_reducible first | exact HI119.out | apply IsS42.alloc | apply IsS42.drewN | apply IsS42.drew | apply IsS42.set_0) | exact HI119.out)⟩, ⟨by repeat (first | (with_reducible first | exact HB.out | apply below_alloc | apply pw_below_drewN | apply below_drew1 | refine below_set ?_ (IsS42.ge HI119.out)) | exact HB.out)⟩⟩
                    · rw [if_neg c45] at H
                      have c45b0 : (t136 == t120) = false := beq_eq_false_iff_ne.mpr c45
                      have c45b1 : (t136 != t120) = true := bne_iff_ne.mpr c45
                      (first | rw [c45b0] | (simp only [i64_w, i32_w]; rw [c45b0]) | skip)
                      have H' := Aside0.mk H
                      clear H
                      go_wp2_with (first | ((with_reducible refine gate_callee (f := 12) rfl ?_); refine goesL_ (some 58) rfl rfl Try.func12 (by kernel_rfl) rfl #[.pointer (some ⟨g119, 0, none⟩)] rfl (by (try simp only [List.map_toArray, List.map_cons, List.map_nil]); first | done | rfl | (simp only [List.length_drop, List.length_take]; rfl)) ?_; (with_reducible refine (window_Window_Left.calls g119 x120000_31 t136 t137 w _ ?side1 ?side2 A44.out).mono ?_); (case side1 => repeat (first | (with_reducible first | exact HI119.out | apply IsS42.alloc | apply IsS42.drewN | apply IsS42.drew | apply IsS42.set_0) | exact HI119.out)); (case side2 => repeat (first | (with_reducible first | exact HB.out | apply below_alloc | apply pw_below_drewN | apply below_drew1 | refine below_set ?_ (IsS42.ge HI119.out)) | exact HB.out)); rintro e w49 ⟨rfl, hi, hb, hk⟩; refine ⟨_, rfl, ?_⟩; have n0_ := Aside0.mk (hb); have n1_ := Aside0.mk (hi); clear HB; clear HI119; have HB := n0_; have HI119 := n1_; clear n0_ n1_; (try clear hb); (try clear hb2); (try clear hk); (try clear hi)))
                      go_meet
                      case rel => exact ⟨_, (true), (t137), (by first | rfl | (simp; done) | (simp [*]; done)), H', ⟨by have := HJ8.out; have := HJ25.out; have := HJ31.out; first | omega | exact Nat.le_refl _⟩, ⟨by repeat (first | (with_reducible first | exact HI119.out | apply IsS42.alloc | apply IsS42.drewN | apply IsS42.drew | apply IsS42.set_0) | exact HI119.out)⟩, ⟨by repeat (first | (with_reducible first | exact HB.out | apply below_alloc | apply pw_below_drewN | apply below_drew1 | refine below_set ?_ (IsS42.ge HI119.out)) | exact HB.out)⟩⟩
                  case rest =>
                    clear HC43
                    try clear c1
                    try clear c2
                    try clear p2
                    try clear c3
                    try clear c4
                    try clear c5
                    try clear c6
                    try clear p6
                    try clear c8
                    try clear c9
                    try clear c12
                    try clear c14
                    try clear c14b0
                    try clear c14b1
                    try clear c16
                    try clear c16b0
                    try clear c16b1
                    try clear c18
                    try clear c18b0
                    try clear c18b1
                    try clear c25
                    try clear c25b0
                    try clear c25b1
                    try clear c29
                    try clear c33
                    try clear c35
                    try clear c35b0
                    try clear c35b1
                    try clear c37
                    try clear c37b0
                    try clear c37b1
                    try clear c45
                    try clear c45b0
                    try clear c45b1
                    try clear p2
                    try clear p6
                    obtain ⟨kq, x67_42, x120000_42, rfl, HA, HJ42, HI119, HB⟩ := hcut
                    cases kq with
                    | zero => exact absurd HA.out (by simp [heraldlaw09_WindowBack.j3])
                    | succ kj42 =>
                      have H := HA.out
                      clear HA
                      simp only [heraldlaw09_WindowBack.j3] at H
                      by_cases c50 : x67_42 = true
                      · subst c50
                        have H1 : (some false) = some r := by rw [if_pos rfl] at H; exact H
                        clear H
                        have H := H1
                        clear H1
                        obtain rfl := Option.some.inj H
                        go_wp2
                        go_ret
                        exact ⟨by first | rfl | (simp [errW_none, errW_some] <;> rfl) | (simp [*, errW_none, errW_some] <;> rfl), by repeat (first | (with_reducible first | exact HB.out | apply below_alloc | apply pw_below_drewN | apply below_drew1 | refine below_set ?_ (IsS42.ge HI119.out)) | exact HB.out)⟩
                      · replace c50 := Bool.eq_false_iff.mpr c50
                        subst c50
                        have H1 : ((window_Window_Left.f x120000_42).bind fun bt140 => (if bt140.1 = 0 then ((window_Window_Take.f bt140.2 0).bind fun bt142 => (if bt142.1 = true then ((window_Window_Take.f bt142.2 1).bind fun bt144 => (if bt144.1 = true then (some false) else ((window_Window_Left.f bt144.2).bind fun bt146 => (some (bt146.1 == 0))))) else (some false))) else (some false))) = some r := by rw [if_neg (show ¬ (false = true) by decide)] at H; exact H
                        clear H
                        have H := H1
                        clear H1
                        replace H := Option.bind_eq_some_iff.mp H
                        obtain ⟨⟨t140, t141⟩, A510, H⟩ := H
                        replace H : (if t140 = 0 then ((window_Window_Take.f t141 0).bind fun bt142 => (if bt142.1 = true then ((window_Window_Take.f bt142.2 1).bind fun bt144 => (if bt144.1 = true then (some false) else ((window_Window_Left.f bt144.2).bind fun bt146 => (some (bt146.1 == 0))))) else (some false))) else (some false)) = some r := H
                        have A51 := Aside0.mk A510
                        clear A510
                        by_cases c52 : t140 = 0
                        · rw [if_pos c52] at H
                          have c52b0 : (t140 == 0) = true := beq_iff_eq.mpr c52
                          have c52b1 : (t140 != 0) = false := bne_eq_false_iff_eq.mpr c52
                          clear c52
                          replace H := Option.bind_eq_some_iff.mp H
                          obtain ⟨⟨t142, t143⟩, A530, H⟩ := H
                          replace H : (if t142 = true then ((window_Window_Take.f t143 1).bind fun bt144 => (if bt144.1 = true then (some false) else ((window_Window_Left.f bt144.2).bind fun bt146 => (some (bt146.1 == 0))))) else (some false)) = some r := H
                          have A53 := Aside0.mk A530
                          clear A530
                          by_cases c54 : t142 = true
                          · subst c54
                            have H1 : ((window_Window_Take.f t143 1).bind fun bt144 => (if bt144.1 = true then (some false) else ((window_Window_Left.f bt144.2).bind fun bt146 => (some (bt146.1 == 0))))) = some r := by rw [if_pos rfl] at H; exact H
                            clear H
                            have H := H1
                            clear H1
                            replace H := Option.bind_eq_some_iff.mp H
                            obtain ⟨⟨t144, t145⟩, A550, H⟩ := H
                            replace H : (if t144 = true then (some false) else ((window_Window_Left.f t145).bind fun bt146 => (some (bt146.1 == 0)))) = some r := H
                            have A55 := Aside0.mk A550
                            clear A550
                            by_cases c56 : t144 = true
                            · subst c56
                              have H1 : (some false) = some r := by rw [if_pos rfl] at H; exact H
                              clear H
                              have H := H1
                              clear H1
                              obtain rfl := Option.some.inj H
                              go_wp2_with (first | ((with_reducible refine gate_callee (f := 12) rfl ?_); refine goesL_ (some 69) rfl rfl Try.func12 (by kernel_rfl) rfl #[.pointer (some ⟨g119, 0, none⟩)] rfl (by (try simp only [List.map_toArray, List.map_cons, List.map_nil]); first | done | rfl | (simp only [List.length_drop, List.length_take]; rfl)) ?_; (with_reducible refine (window_Window_Left.calls g119 x120000_42 t140 t141 w _ ?side1 ?side2 A51.out).mono ?_); (case side1 => repeat (first | (with_reducible first | exact HI119.out | apply IsS42.alloc | apply IsS42.drewN | apply IsS42.drew | apply IsS42.set_0) | exact HI119.out)); (case side2 => repeat (first | (with_reducible first | exact HB.out | apply below_alloc | apply pw_below_drewN | apply below_drew1 | refine below_set ?_ (IsS42.ge HI119.out)) | exact HB.out)); rintro e w57 ⟨rfl, hi, hb, hk⟩; refine ⟨_, rfl, ?_⟩; have n0_ := Aside0.mk (hb); have n1_ := Aside0.mk (hi); clear HB; clear HI119; have HB := n0_; have HI119 := n1_; clear n0_ n1_; (try clear hb); (try clear hb2); (try clear hk); (try clear hi)) | (go_at_call 16; (with_reducible refine (window_Window_Take.calls g119 t141 0 true t143 w _ ?side1 ?side2 A53.out).mono ?_); (case side1 => repeat (first | (with_reducible first | exact HI119.out | apply IsS42.alloc | apply IsS42.drewN | apply IsS42.drew | apply IsS42.set_0) | exact HI119.out)); (case side2 => repeat (first | (with_reducible first | exact HB.out | apply below_alloc | apply pw_below_drewN | apply below_drew1 | refine below_set ?_ (IsS42.ge HI119.out)) | exact HB.out)); rintro e w58 ⟨rfl, hi, hb, hk⟩; have n0_ := Aside0.mk (hb); have n1_ := Aside0.mk (hi); clear HB; clear HI119; have HB := n0_; have HI119 := n1_; clear n0_ n1_; (try clear hb); (try clear hb2); (try clear hk); (try clear hi)) | (go_at_call 16; (with_reducible refine (window_Window_Take.calls g119 t143 1 true t145 w _ ?side1 ?side2 A55.out).mono ?_); (case side1 => repeat (first | (with_reducible first | exact HI119.out | apply IsS42.alloc | apply IsS42.drewN | apply IsS42.drew | apply IsS42.set_0) | exact HI119.out)); (case side2 => repeat (first | (with_reducible first | exact HB.out | apply below_alloc | apply pw_below_drewN | apply below_drew1 | refine below_set ?_ (IsS42.ge HI119.out)) | exact HB.out)); rintro e w59 ⟨rfl, hi, hb, hk⟩; have n0_ := Aside0.mk (hb); have n1_ := Aside0.mk (hi); clear HB; clear HI119; have HB := n0_; have HI119 := n1_; clear n0_ n1_; (try clear hb); (try clear hb2); (try clear hk); (try clear hi)))
                              go_ret
                              exact ⟨by first | rfl | (simp [errW_none, errW_some] <;> rfl) | (simp [*, errW_none, errW_some] <;> rfl), by repeat (first | (with_reducible first | exact HB.out | apply below_alloc | apply pw_below_drewN | apply below_drew1 | refine below_set ?_ (IsS42.ge HI119.out)) | exact HB.out)⟩
                            · replace c56 := Bool.eq_false_iff.mpr c56
                              subst c56
                              have H1 : ((window_Window_Left.f t145).bind fun bt146 => (some (bt146.1 == 0))) = some r := by rw [if_neg (show ¬ (false = true) by decide)] at H; exact H
                              clear H
                              have H := H1
                              clear H1
                              replace H := Option.bind_eq_some_iff.mp H
                              obtain ⟨⟨t146, t147⟩, A600, H⟩ := H
                              replace H : (some (t146 == 0)) = some r := H
                              have A60 := Aside0.mk A600
                              clear A600
                              obtain rfl := Option.some.inj H
                              go_wp2_with (first | ((with_reducible refine gate_callee (f := 12) rfl ?_); refine goesL_ (some 69) rfl rfl Try.func12 (by kernel_rfl) rfl #[.pointer (some ⟨g119, 0, none⟩)] rfl (by (try simp only [List.map_toArray, List.map_cons, List.map_nil]); first | done | rfl | (simp only [List.length_drop, List.length_take]; rfl)) ?_; (with_reducible refine (window_Window_Left.calls g119 x120000_42 t140 t141 w _ ?side1 ?side2 A51.out).mono ?_); (case side1 => repeat (first | (with_reducible first | exact HI119.out | apply IsS42.alloc | apply IsS42.drewN | apply IsS42.drew | apply IsS42.set_0) | exact HI119.out)); (case side2 => repeat (first | (with_reducible first | exact HB.out | apply below_alloc | apply pw_below_drewN | apply below_drew1 | refine below_set ?_ (IsS42.ge HI119.out)) | exact HB.out)); rintro e w61 ⟨rfl, hi, hb, hk⟩; refine ⟨_, rfl, ?_⟩; have n0_ := Aside0.mk (hb); have n1_ := Aside0.mk (hi); clear HB; clear HI119; have HB := n0_; have HI119 := n1_; clear n0_ n1_; (try clear hb); (try clear hb2); (try clear hk); (try clear hi)) | (go_at_call 16; (with_reducible refine (window_Window_Take.calls g119 t141 0 true t143 w _ ?side1 ?side2 A53.out).mono ?_); (case side1 => repeat (first | (with_reducible first | exact HI119.out | apply IsS42.alloc | apply IsS42.drewN | apply IsS42.drew | apply IsS42.set_0) | exact HI119.out)); (case side2 => repeat (first | (with_reducible first | exact HB.out | apply below_alloc | apply pw_below_drewN | apply below_drew1 | refine below_set ?_ (IsS42.ge HI119.out)) | exact HB.out)); rintro e w62 ⟨rfl, hi, hb, hk⟩; have n0_ := Aside0.mk (hb); have n1_ := Aside0.mk (hi); clear HB; clear HI119; have HB := n0_; have HI119 := n1_; clear n0_ n1_; (try clear hb); (try clear hb2); (try clear hk); (try clear hi)) | (go_at_call 16; (with_reducible refine (window_Window_Take.calls g119 t143 1 false t145 w _ ?side1 ?side2 A55.out).mono ?_); (case side1 => repeat (first | (with_reducible first | exact HI119.out | apply IsS42.alloc | apply IsS42.drewN | apply IsS42.drew | apply IsS42.set_0) | exact HI119.out)); (case side2 => repeat (first | (with_reducible first | exact HB.out | apply below_alloc | apply pw_below_drewN | apply below_drew1 | refine below_set ?_ (IsS42.ge HI119.out)) | exact HB.out)); rintro e w63 ⟨rfl, hi, hb, hk⟩; have n0_ := Aside0.mk (hb); have n1_ := Aside0.mk (hi); clear HB; clear HI119; have HB := n0_; have HI119 := n1_; clear n0_ n1_; (try clear hb); (try clear hb2); (try clear hk); (try clear hi)) | (go_at_call 12; (with_reducible refine (window_Window_Left.calls g119 t145 t146 t147 w _ ?side1 ?side2 A60.out).mono ?_); (case side1 => repeat (first | (with_reducible first | exact HI119.out | apply IsS42.alloc | apply IsS42.drewN | apply IsS42.drew | apply IsS42.set_0) | exact HI119.out)); (case side2 => repeat (first | (with_reducible first | exact HB.out | apply below_alloc | apply pw_below_drewN | apply below_drew1 | refine below_set ?_ (IsS42.ge HI119.out)) | exact HB.out)); rintro e w64 ⟨rfl, hi, hb, hk⟩; have n0_ := Aside0.mk (hb); have n1_ := Aside0.mk (hi); clear HB; clear HI119; have HB := n0_; have HI119 := n1_; clear n0_ n1_; (try clear hb); (try clear hb2); (try clear hk); (try clear hi)))
                              go_ret
                              exact ⟨by first | rfl | (simp [errW_none, errW_some] <;> rfl) | (simp [*, errW_none, errW_some] <;> rfl), by repeat (first | (with_reducible first | exact HB.out | apply below_alloc | apply pw_below_drewN | apply below_drew1 | refine below_set ?_ (IsS42.ge HI119.out)) | exact HB.out)⟩
                          · replace c54 := Bool.eq_false_iff.mpr c54
                            subst c54
                            have H1 : (some false) = some r := by rw [if_neg (show ¬ (false = true) by decide)] at H; exact H
                            clear H
                            have H := H1
                            clear H1
                            obtain rfl := Option.some.inj H
                            go_wp2_with (first | ((with_reducible refine gate_callee (f := 12) rfl ?_); refine goesL_ (some 69) rfl rfl Try.func12 (by kernel_rfl) rfl #[.pointer (some ⟨g119, 0, none⟩)] rfl (by (try simp only [List.map_toArray, List.map_cons, List.map_nil]); first | done | rfl | (simp only [List.length_drop, List.length_take]; rfl)) ?_; (with_reducible refine (window_Window_Left.calls g119 x120000_42 t140 t141 w _ ?side1 ?side2 A51.out).mono ?_); (case side1 => repeat (first | (with_reducible first | exact HI119.out | apply IsS42.alloc | apply IsS42.drewN | apply IsS42.drew | apply IsS42.set_0) | exact HI119.out)); (case side2 => repeat (first | (with_reducible first | exact HB.out | apply below_alloc | apply pw_below_drewN | apply below_drew1 | refine below_set ?_ (IsS42.ge HI119.out)) | exact HB.out)); rintro e w65 ⟨rfl, hi, hb, hk⟩; refine ⟨_, rfl, ?_⟩; have n0_ := Aside0.mk (hb); have n1_ := Aside0.mk (hi); clear HB; clear HI119; have HB := n0_; have HI119 := n1_; clear n0_ n1_; (try clear hb); (try clear hb2); (try clear hk); (try clear hi)) | (go_at_call 16; (with_reducible refine (window_Window_Take.calls g119 t141 0 false t143 w _ ?side1 ?side2 A53.out).mono ?_); (case side1 => repeat (first | (with_reducible first | exact HI119.out | apply IsS42.alloc | apply IsS42.drewN | apply IsS42.drew | apply IsS42.set_0) | exact HI119.out)); (case side2 => repeat (first | (with_reducible first | exact HB.out | apply below_alloc | apply pw_below_drewN | apply below_drew1 | refine below_set ?_ (IsS42.ge HI119.out)) | exact HB.out)); rintro e w66 ⟨rfl, hi, hb, hk⟩; have n0_ := Aside0.mk (hb); have n1_ := Aside0.mk (hi); clear HB; clear HI119; have HB := n0_; have HI119 := n1_; clear n0_ n1_; (try clear hb); (try clear hb2); (try clear hk); (try clear hi)))
                            go_ret
                            exact ⟨by first | rfl | (simp [errW_none, errW_some] <;> rfl) | (simp [*, errW_none, errW_some] <;> rfl), by repeat (first | (with_reducible first | exact HB.out | apply below_alloc | apply pw_below_drewN | apply below_drew1 | refine below_set ?_ (IsS42.ge HI119.out)) | exact HB.out)⟩
                        · rw [if_neg c52] at H
                          have c52b0 : (t140 == 0) = false := beq_eq_false_iff_ne.mpr c52
                          have c52b1 : (t140 != 0) = true := bne_iff_ne.mpr c52
                          obtain rfl := Option.some.inj H
                          go_wp2_with (first | ((with_reducible refine gate_callee (f := 12) rfl ?_); refine goesL_ (some 69) rfl rfl Try.func12 (by kernel_rfl) rfl #[.pointer (some ⟨g119, 0, none⟩)] rfl (by (try simp only [List.map_toArray, List.map_cons, List.map_nil]); first | done | rfl | (simp only [List.length_drop, List.length_take]; rfl)) ?_; (with_reducible refine (window_Window_Left.calls g119 x120000_42 t140 t141 w _ ?side1 ?side2 A51.out).mono ?_); (case side1 => repeat (first | (with_reducible first | exact HI119.out | apply IsS42.alloc | apply IsS42.drewN | apply IsS42.drew | apply IsS42.set_0) | exact HI119.out)); (case side2 => repeat (first | (with_reducible first | exact HB.out | apply below_alloc | apply pw_below_drewN | apply below_drew1 | refine below_set ?_ (IsS42.ge HI119.out)) | exact HB.out)); rintro e w67 ⟨rfl, hi, hb, hk⟩; refine ⟨_, rfl, ?_⟩; have n0_ := Aside0.mk (hb); have n1_ := Aside0.mk (hi); clear HB; clear HI119; have HB := n0_; have HI119 := n1_; clear n0_ n1_; (try clear hb); (try clear hb2); (try clear hk); (try clear hi)))
                          go_ret
                          exact ⟨by first | rfl | (simp [errW_none, errW_some] <;> rfl) | (simp [*, errW_none, errW_some] <;> rfl), by repeat (first | (with_reducible first | exact HB.out | apply below_alloc | apply pw_below_drewN | apply below_drew1 | refine below_set ?_ (IsS42.ge HI119.out)) | exact HB.out)⟩
        · rw [if_neg c25] at H
          have c25b0 : (t128 == t120) = false := beq_eq_false_iff_ne.mpr c25
          have c25b1 : (t128 != t120) = true := bne_iff_ne.mpr c25
          obtain rfl := Option.some.inj H
          go_wp2_with (first | ((with_reducible refine gate_callee (f := 12) rfl ?_); refine goesL_ (some 35) rfl rfl Try.func12 (by kernel_rfl) rfl #[.pointer (some ⟨g119, 0, none⟩)] rfl (by (try simp only [List.map_toArray, List.map_cons, List.map_nil]); first | done | rfl | (simp only [List.length_drop, List.length_take]; rfl)) ?_; (with_reducible refine (window_Window_Left.calls g119 x120000_8 t128 t129 w _ ?side1 ?side2 A24.out).mono ?_); (case side1 => repeat (first | (with_reducible first | exact HI119.out | apply IsS42.alloc | apply IsS42.drewN | apply IsS42.drew | apply IsS42.set_0) | exact HI119.out)); (case side2 => repeat (first | (with_reducible first | exact HB.out | apply below_alloc | apply pw_below_drewN | apply below_drew1 | refine below_set ?_ (IsS42.ge HI119.out)) | exact HB.out)); rintro e w68 ⟨rfl, hi, hb, hk⟩; refine ⟨_, rfl, ?_⟩; have n0_ := Aside0.mk (hb); have n1_ := Aside0.mk (hi); clear HB; clear HI119; have HB := n0_; have HI119 := n1_; clear n0_ n1_; (try clear hb); (try clear hb2); (try clear hk); (try clear hi)))
          go_ret
          exact ⟨by first | rfl | (simp [errW_none, errW_some] <;> rfl) | (simp [*, errW_none, errW_some] <;> rfl), by repeat (first | (with_reducible first | exact HB.out | apply below_alloc | apply pw_below_drewN | apply below_drew1 | refine below_set ?_ (IsS42.ge HI119.out)) | exact HB.out)⟩
  · replace c5 := Bool.eq_false_iff.mpr c5
    subst c5
    have H1 : (some false) = some r := by rw [if_neg (show ¬ (false = true) by decide)] at H; exact H
    clear H
    have H := H1
    clear H1
    obtain rfl := Option.some.inj H
    go_enter Try.func6, Try.ntmps6
    go_wp2_with (first | ((with_reducible refine gate_callee (f := 8) rfl ?_); refine goesL_ (some 9) rfl rfl Try.func8 (by kernel_rfl) rfl #[] rfl (by (try simp only [List.map_toArray, List.map_cons, List.map_nil]); first | done | rfl | (simp only [List.length_drop, List.length_take]; rfl)) ?_; (with_reducible refine (heraldlaw09_first.calls  false _ A4.out).mono ?_); rintro e w69 ⟨rfl, hb⟩; refine ⟨_, rfl, ?_⟩; have n0_ := Aside0.mk (below_step (by repeat (first | (with_reducible first | exact HB.out | apply below_alloc | apply pw_below_drewN | apply below_drew1) | exact HB.out)) hb); clear HB; have HB := n0_; clear n0_; (try clear hb); (try clear hb2); (try clear hk); (try clear hi)))
    go_ret
    exact ⟨by first | rfl | (simp [errW_none, errW_some] <;> rfl) | (simp [*, errW_none, errW_some] <;> rfl), by repeat (first | (with_reducible first | exact HB.out | apply below_alloc | apply pw_below_drewN | apply below_drew1) | exact HB.out)⟩

/-- THE ONE PURE STATEMENT of heraldlaw09_WindowBack: yours. -/
def heraldlaw09_WindowBack.Pure : Prop := ∀ (a0 : Int) (a1 : Int) (a2 : Int), (Lit.int .i64 a0).wf = true → (Lit.int .i64 a1).wf = true → (Lit.int .i64 a2).wf = true → ∃ k, heraldlaw09_WindowBack.f k a0 a1 a2 = some true
theorem heraldlaw09_WindowBack.walk (P : heraldlaw09_WindowBack.Pure) (a0 : Int) (a1 : Int) (a2 : Int) (w : World) (w0 : (Lit.int .i64 a0).wf = true) (w1 : (Lit.int .i64 a1).wf = true) (w2 : (Lit.int .i64 a2).wf = true) :
    Calls Try.prog 6 #[.int .i64 a0, .int .i64 a1, .int .i64 a2] w fun e w' => e = .returned (.bool true) ∧ Below w.heap.size w w' := by
  obtain ⟨k, h⟩ := P a0 a1 a2 w0 w1 w2
  refine (heraldlaw09_WindowBack.calls k a0 a1 a2 true w h).mono ?_
  rintro e w' ⟨rfl, hd⟩
  exact ⟨rfl, hd⟩

end Go.Proofs.Ytbngliommdmnkaa.QWindowBack
