/- Written by a program of this session (a changed run of the kit's printer): what the Go functions of one call tree answer, as plain functions, and that the machine's calls answer so; no condition but those in each statement. -/
import Derived.Test.YtndhaakknkkpfaaDoorQBookx0
import Derived.Test.YtndhaakknkkpfaaDoorQBookx1
import Derived.Test.YtndhaakknkkpfaaDoorQBookx2
namespace Go.Proofs.YtndhaakknkkpfaaDoor.QBook
open Go.RowKit Go.Proofs.YtndhaakknkkpfaaDoor.QAll Go.Proofs.YtndhaakknkkpfaaDoorW.PrintWords Go.Proofs.YtndhaakknkkpfaaDoorW.PrintLast Go.Proofs.YtndhaakknkkpfaaDoorW.PrintMore
attribute [local go_sem] max2_int min2_int max_two min_two max_three min_three max_four min_four   -- for this text's walks alone
set_option linter.unusedVariables false
set_option linter.unusedSimpArgs false

/-! ### heraldlaw10_head: function 8 -/
def heraldlaw10_head.f (k : Nat)  : Option (Bool) := (heraldlaw10_next.f 0 false 2).bind fun bt111 => ((heraldlaw10_next.f 6 true 3).bind fun bt114 => ((heraldlaw10_next.f 5 true 3).bind fun bt117 => (if bt111.1 = 4 then (if bt111.2.1 = 0 then (if bt111.2.2 = 0 then (if bt114.1 = 6 then (if bt114.2.1 = 3 then (if bt114.2.2 = 5 then (if bt117.1 = 5 then (if bt117.2.1 = 2 then (if bt117.2.2 = 5 then ((state_Counts.f k 3).bind fun t120 => (if t120 = true then ((state_Counts.f k 1).bind fun t121 => (some (!t121))) else (some false))) else (some false)) else (some false)) else (some false)) else (some false)) else (some false)) else (some false)) else (some false)) else (some false)) else (some false))))
theorem heraldlaw10_head.mono : ∀ k, LeO (heraldlaw10_head.f k ) (heraldlaw10_head.f (k + 1) ) := by
  intro  k
  unfold heraldlaw10_head.f
  repeat' first
      | (with_reducible exact state_Counts.mono _ _)
      | (with_reducible exact LeO.refl _)
      | (with_reducible exact LeO.none _)
      | (with_reducible refine LeO.ite ?_ ?_)
      | (with_reducible refine LeO.bind ?_ (fun _ => ?_))
      | exact state_Counts.mono _ _
      | exact LeO.none _
      | refine LeO.ite ?_ ?_
      | refine LeO.bind ?_ (fun _ => ?_)
set_option maxHeartbeats 8000000 in
set_option maxRecDepth 100000 in
theorem heraldlaw10_head.calls (k : Nat)  (r : Bool) (w : World) (hG : GL w) (h : heraldlaw10_head.f k  = some r) :
    Calls Tryd.prog 8 #[] w fun e w' => e = .returned (.bool r) ∧ Below w.heap.size w w' := by
  have hu28 := Tryd.underlying28
  have HG := Aside0.mk hG
  clear hG
  have HB := Aside0.mk (Below.refl w.heap.size w)
  have H : ((heraldlaw10_next.f 0 false 2).bind fun bt111 => ((heraldlaw10_next.f 6 true 3).bind fun bt114 => ((heraldlaw10_next.f 5 true 3).bind fun bt117 => (if bt111.1 = 4 then (if bt111.2.1 = 0 then (if bt111.2.2 = 0 then (if bt114.1 = 6 then (if bt114.2.1 = 3 then (if bt114.2.2 = 5 then (if bt117.1 = 5 then (if bt117.2.1 = 2 then (if bt117.2.2 = 5 then ((state_Counts.f k 3).bind fun t120 => (if t120 = true then ((state_Counts.f k 1).bind fun t121 => (some (!t121))) else (some false))) else (some false)) else (some false)) else (some false)) else (some false)) else (some false)) else (some false)) else (some false)) else (some false)) else (some false))))) = some r := h
  clear h
  replace H := Option.bind_eq_some_iff.mp H
  obtain ⟨⟨t111, t112, t113⟩, A10, H⟩ := H
  replace H : ((heraldlaw10_next.f 6 true 3).bind fun bt114 => ((heraldlaw10_next.f 5 true 3).bind fun bt117 => (if t111 = 4 then (if t112 = 0 then (if t113 = 0 then (if bt114.1 = 6 then (if bt114.2.1 = 3 then (if bt114.2.2 = 5 then (if bt117.1 = 5 then (if bt117.2.1 = 2 then (if bt117.2.2 = 5 then ((state_Counts.f k 3).bind fun t120 => (if t120 = true then ((state_Counts.f k 1).bind fun t121 => (some (!t121))) else (some false))) else (some false)) else (some false)) else (some false)) else (some false)) else (some false)) else (some false)) else (some false)) else (some false)) else (some false)))) = some r := H
  have A1 := Aside0.mk A10
  clear A10
  replace H := Option.bind_eq_some_iff.mp H
  obtain ⟨⟨t114, t115, t116⟩, A20, H⟩ := H
  replace H : ((heraldlaw10_next.f 5 true 3).bind fun bt117 => (if t111 = 4 then (if t112 = 0 then (if t113 = 0 then (if t114 = 6 then (if t115 = 3 then (if t116 = 5 then (if bt117.1 = 5 then (if bt117.2.1 = 2 then (if bt117.2.2 = 5 then ((state_Counts.f k 3).bind fun t120 => (if t120 = true then ((state_Counts.f k 1).bind fun t121 => (some (!t121))) else (some false))) else (some false)) else (some false)) else (some false)) else (some false)) else (some false)) else (some false)) else (some false)) else (some false)) else (some false))) = some r := H
  have A2 := Aside0.mk A20
  clear A20
  replace H := Option.bind_eq_some_iff.mp H
  obtain ⟨⟨t117, t118, t119⟩, A30, H⟩ := H
  replace H : (if t111 = 4 then (if t112 = 0 then (if t113 = 0 then (if t114 = 6 then (if t115 = 3 then (if t116 = 5 then (if t117 = 5 then (if t118 = 2 then (if t119 = 5 then ((state_Counts.f k 3).bind fun t120 => (if t120 = true then ((state_Counts.f k 1).bind fun t121 => (some (!t121))) else (some false))) else (some false)) else (some false)) else (some false)) else (some false)) else (some false)) else (some false)) else (some false)) else (some false)) else (some false)) = some r := H
  have A3 := Aside0.mk A30
  clear A30
  by_cases c4 : t111 = 4
  · rw [if_pos c4] at H
    have c4b0 : (t111 == 4) = true := beq_iff_eq.mpr c4
    have c4b1 : (t111 != 4) = false := bne_eq_false_iff_eq.mpr c4
    clear c4
    by_cases c5 : t112 = 0
    · rw [if_pos c5] at H
      have c5b0 : (t112 == 0) = true := beq_iff_eq.mpr c5
      have c5b1 : (t112 != 0) = false := bne_eq_false_iff_eq.mpr c5
      clear c5
      by_cases c6 : t113 = 0
      · rw [if_pos c6] at H
        have c6b0 : (t113 == 0) = true := beq_iff_eq.mpr c6
        have c6b1 : (t113 != 0) = false := bne_eq_false_iff_eq.mpr c6
        clear c6
        by_cases c7 : t114 = 6
        · rw [if_pos c7] at H
          have c7b0 : (t114 == 6) = true := beq_iff_eq.mpr c7
          have c7b1 : (t114 != 6) = false := bne_eq_false_iff_eq.mpr c7
          clear c7
          by_cases c8 : t115 = 3
          · rw [if_pos c8] at H
            have c8b0 : (t115 == 3) = true := beq_iff_eq.mpr c8
            have c8b1 : (t115 != 3) = false := bne_eq_false_iff_eq.mpr c8
            clear c8
            by_cases c9 : t116 = 5
            · rw [if_pos c9] at H
              have c9b0 : (t116 == 5) = true := beq_iff_eq.mpr c9
              have c9b1 : (t116 != 5) = false := bne_eq_false_iff_eq.mpr c9
              clear c9
              by_cases c10 : t117 = 5
              · rw [if_pos c10] at H
                have c10b0 : (t117 == 5) = true := beq_iff_eq.mpr c10
                have c10b1 : (t117 != 5) = false := bne_eq_false_iff_eq.mpr c10
                clear c10
                by_cases c11 : t118 = 2
                · rw [if_pos c11] at H
                  have c11b0 : (t118 == 2) = true := beq_iff_eq.mpr c11
                  have c11b1 : (t118 != 2) = false := bne_eq_false_iff_eq.mpr c11
                  clear c11
                  by_cases c12 : t119 = 5
                  · rw [if_pos c12] at H
                    have c12b0 : (t119 == 5) = true := beq_iff_eq.mpr c12
                    have c12b1 : (t119 != 5) = false := bne_eq_false_iff_eq.mpr c12
                    clear c12
                    replace H := Option.bind_eq_some_iff.mp H
                    obtain ⟨t120, A130, H⟩ := H
                    replace H : (if t120 = true then ((state_Counts.f k 1).bind fun t121 => (some (!t121))) else (some false)) = some r := H
                    have A13 := Aside0.mk A130
                    clear A130
                    by_cases c14 : t120 = true
                    · subst c14
                      have H1 : ((state_Counts.f k 1).bind fun t121 => (some (!t121))) = some r := by rw [if_pos rfl] at H; exact H
                      clear H
                      have H := H1
                      clear H1
                      replace H := Option.bind_eq_some_iff.mp H
                      obtain ⟨t121, A150, H⟩ := H
                      replace H : (some (!t121)) = some r := H
                      have A15 := Aside0.mk A150
                      clear A150
                      as_aux_lemma =>
                        obtain rfl := Option.some.inj H
                        go_enter Tryd.func8, Tryd.ntmps8
                        go_wp2_with (first | ((with_reducible refine gate_callee (f := 12) rfl ?_); refine goesL_ (some 12) rfl rfl Tryd.func12 (by kernel_rfl) rfl #[.int .i64 0, .agg #[.bool false, .int .i64 2]] rfl (by (try simp only [List.map_toArray, List.map_cons, List.map_nil]); first | done | rfl | (simp only [List.length_drop, List.length_take]; rfl)) ?_; (with_reducible refine (heraldlaw10_next.calls 0 false 2 t111 t112 t113 _ ?side1 A1.out).mono ?_); (case side1 => exact GL.below HG.out (by repeat (first | (with_reducible first | exact HB.out | apply below_alloc | apply pw_below_drewN | apply below_drew1) | exact HB.out))); rintro e w16 ⟨rfl, hb⟩; refine ⟨_, rfl, ?_⟩; have n0_ := Aside0.mk (below_step (by repeat (first | (with_reducible first | exact HB.out | apply below_alloc | apply pw_below_drewN | apply below_drew1) | exact HB.out)) hb); clear HB; have HB := n0_; clear n0_; (try clear hb); (try clear hb2); (try clear hk); (try clear hi)) | ((with_reducible refine gate_callee (f := 12) rfl ?_); refine goesL_ (some 18) rfl rfl Tryd.func12 (by kernel_rfl) rfl #[.int .i64 6, .agg #[.bool true, .int .i64 3]] rfl (by (try simp only [List.map_toArray, List.map_cons, List.map_nil]); first | done | rfl | (simp only [List.length_drop, List.length_take]; rfl)) ?_; (with_reducible refine (heraldlaw10_next.calls 6 true 3 t114 t115 t116 _ ?side1 A2.out).mono ?_); (case side1 => exact GL.below HG.out (by repeat (first | (with_reducible first | exact HB.out | apply below_alloc | apply pw_below_drewN | apply below_drew1) | exact HB.out))); rintro e w17 ⟨rfl, hb⟩; refine ⟨_, rfl, ?_⟩; have n0_ := Aside0.mk (below_step (by repeat (first | (with_reducible first | exact HB.out | apply below_alloc | apply pw_below_drewN | apply below_drew1) | exact HB.out)) hb); clear HB; have HB := n0_; clear n0_; (try clear hb); (try clear hb2); (try clear hk); (try clear hi)) | ((with_reducible refine gate_callee (f := 12) rfl ?_); refine goesL_ (some 24) rfl rfl Tryd.func12 (by kernel_rfl) rfl #[.int .i64 5, .agg #[.bool true, .int .i64 3]] rfl (by (try simp only [List.map_toArray, List.map_cons, List.map_nil]); first | done | rfl | (simp only [List.length_drop, List.length_take]; rfl)) ?_; (with_reducible refine (heraldlaw10_next.calls 5 true 3 t117 t118 t119 _ ?side1 A3.out).mono ?_); (case side1 => exact GL.below HG.out (by repeat (first | (with_reducible first | exact HB.out | apply below_alloc | apply pw_below_drewN | apply below_drew1) | exact HB.out))); rintro e w18 ⟨rfl, hb⟩; refine ⟨_, rfl, ?_⟩; have n0_ := Aside0.mk (below_step (by repeat (first | (with_reducible first | exact HB.out | apply below_alloc | apply pw_below_drewN | apply below_drew1) | exact HB.out)) hb); clear HB; have HB := n0_; clear n0_; (try clear hb); (try clear hb2); (try clear hk); (try clear hi)) | (go_at_call 10; (with_reducible refine (state_Counts.calls k 3 true _ A13.out).mono ?_); rintro e w19 ⟨rfl, hb⟩; have n0_ := Aside0.mk (below_step (by repeat (first | (with_reducible first | exact HB.out | apply below_alloc | apply pw_below_drewN | apply below_drew1) | exact HB.out)) hb); clear HB; have HB := n0_; clear n0_; (try clear hb); (try clear hb2); (try clear hk); (try clear hi)) | (go_at_call 10; (with_reducible refine (state_Counts.calls k 1 t121 _ A15.out).mono ?_); rintro e w20 ⟨rfl, hb⟩; have n0_ := Aside0.mk (below_step (by repeat (first | (with_reducible first | exact HB.out | apply below_alloc | apply pw_below_drewN | apply below_drew1) | exact HB.out)) hb); clear HB; have HB := n0_; clear n0_; (try clear hb); (try clear hb2); (try clear hk); (try clear hi)))
                        go_ret
                        exact ⟨by first | rfl | (simp [errW_none, errW_some] <;> rfl) | (simp [*, errW_none, errW_some] <;> rfl), by repeat (first | (with_reducible first | exact HB.out | apply below_alloc | apply pw_below_drewN | apply below_drew1) | exact HB.out)⟩
                    · replace c14 := Bool.eq_false_iff.mpr c14
                      subst c14
                      have H1 : (some false) = some r := by rw [if_neg (show ¬ (false = true) by decide)] at H; exact H
                      clear H
                      have H := H1
                      clear H1
                      as_aux_lemma =>
                        obtain rfl := Option.some.inj H
                        go_enter Tryd.func8, Tryd.ntmps8
                        go_wp2_with (first | ((with_reducible refine gate_callee (f := 12) rfl ?_); refine goesL_ (some 12) rfl rfl Tryd.func12 (by kernel_rfl) rfl #[.int .i64 0, .agg #[.bool false, .int .i64 2]] rfl (by (try simp only [List.map_toArray, List.map_cons, List.map_nil]); first | done | rfl | (simp only [List.length_drop, List.length_take]; rfl)) ?_; (with_reducible refine (heraldlaw10_next.calls 0 false 2 t111 t112 t113 _ ?side1 A1.out).mono ?_); (case side1 => exact GL.below HG.out (by repeat (first | (with_reducible first | exact HB.out | apply below_alloc | apply pw_below_drewN | apply below_drew1) | exact HB.out))); rintro e w21 ⟨rfl, hb⟩; refine ⟨_, rfl, ?_⟩; have n0_ := Aside0.mk (below_step (by repeat (first | (with_reducible first | exact HB.out | apply below_alloc | apply pw_below_drewN | apply below_drew1) | exact HB.out)) hb); clear HB; have HB := n0_; clear n0_; (try clear hb); (try clear hb2); (try clear hk); (try clear hi)) | ((with_reducible refine gate_callee (f := 12) rfl ?_); refine goesL_ (some 18) rfl rfl Tryd.func12 (by kernel_rfl) rfl #[.int .i64 6, .agg #[.bool true, .int .i64 3]] rfl (by (try simp only [List.map_toArray, List.map_cons, List.map_nil]); first | done | rfl | (simp only [List.length_drop, List.length_take]; rfl)) ?_; (with_reducible refine (heraldlaw10_next.calls 6 true 3 t114 t115 t116 _ ?side1 A2.out).mono ?_); (case side1 => exact GL.below HG.out (by repeat (first | (with_reducible first | exact HB.out | apply below_alloc | apply pw_below_drewN | apply below_drew1) | exact HB.out))); rintro e w22 ⟨rfl, hb⟩; refine ⟨_, rfl, ?_⟩; have n0_ := Aside0.mk (below_step (by repeat (first | (with_reducible first | exact HB.out | apply below_alloc | apply pw_below_drewN | apply below_drew1) | exact HB.out)) hb); clear HB; have HB := n0_; clear n0_; (try clear hb); (try clear hb2); (try clear hk); (try clear hi)) | ((with_reducible refine gate_callee (f := 12) rfl ?_); refine goesL_ (some 24) rfl rfl Tryd.func12 (by kernel_rfl) rfl #[.int .i64 5, .agg #[.bool true, .int .i64 3]] rfl (by (try simp only [List.map_toArray, List.map_cons, List.map_nil]); first | done | rfl | (simp only [List.length_drop, List.length_take]; rfl)) ?_; (with_reducible refine (heraldlaw10_next.calls 5 true 3 t117 t118 t119 _ ?side1 A3.out).mono ?_); (case side1 => exact GL.below HG.out (by repeat (first | (with_reducible first | exact HB.out | apply below_alloc | apply pw_below_drewN | apply below_drew1) | exact HB.out))); rintro e w23 ⟨rfl, hb⟩; refine ⟨_, rfl, ?_⟩; have n0_ := Aside0.mk (below_step (by repeat (first | (with_reducible first | exact HB.out | apply below_alloc | apply pw_below_drewN | apply below_drew1) | exact HB.out)) hb); clear HB; have HB := n0_; clear n0_; (try clear hb); (try clear hb2); (try clear hk); (try clear hi)) | (go_at_call 10; (with_reducible refine (state_Counts.calls k 3 false _ A13.out).mono ?_); rintro e w24 ⟨rfl, hb⟩; have n0_ := Aside0.mk (below_step (by repeat (first | (with_reducible first | exact HB.out | apply below_alloc | apply pw_below_drewN | apply below_drew1) | exact HB.out)) hb); clear HB; have HB := n0_; clear n0_; (try clear hb); (try clear hb2); (try clear hk); (try clear hi)))
                        go_ret
                        exact ⟨by first | rfl | (simp [errW_none, errW_some] <;> rfl) | (simp [*, errW_none, errW_some] <;> rfl), by repeat (first | (with_reducible first | exact HB.out | apply below_alloc | apply pw_below_drewN | apply below_drew1) | exact HB.out)⟩
                  · rw [if_neg c12] at H
                    have c12b0 : (t119 == 5) = false := beq_eq_false_iff_ne.mpr c12
                    have c12b1 : (t119 != 5) = true := bne_iff_ne.mpr c12
                    as_aux_lemma =>
                      obtain rfl := Option.some.inj H
                      go_enter Tryd.func8, Tryd.ntmps8
                      go_wp2_with (first | ((with_reducible refine gate_callee (f := 12) rfl ?_); refine goesL_ (some 12) rfl rfl Tryd.func12 (by kernel_rfl) rfl #[.int .i64 0, .agg #[.bool false, .int .i64 2]] rfl (by (try simp only [List.map_toArray, List.map_cons, List.map_nil]); first | done | rfl | (simp only [List.length_drop, List.length_take]; rfl)) ?_; (with_reducible refine (heraldlaw10_next.calls 0 false 2 t111 t112 t113 _ ?side1 A1.out).mono ?_); (case side1 => exact GL.below HG.out (by repeat (first | (with_reducible first | exact HB.out | apply below_alloc | apply pw_below_drewN | apply below_drew1) | exact HB.out))); rintro e w25 ⟨rfl, hb⟩; refine ⟨_, rfl, ?_⟩; have n0_ := Aside0.mk (below_step (by repeat (first | (with_reducible first | exact HB.out | apply below_alloc | apply pw_below_drewN | apply below_drew1) | exact HB.out)) hb); clear HB; have HB := n0_; clear n0_; (try clear hb); (try clear hb2); (try clear hk); (try clear hi)) | ((with_reducible refine gate_callee (f := 12) rfl ?_); refine goesL_ (some 18) rfl rfl Tryd.func12 (by kernel_rfl) rfl #[.int .i64 6, .agg #[.bool true, .int .i64 3]] rfl (by (try simp only [List.map_toArray, List.map_cons, List.map_nil]); first | done | rfl | (simp only [List.length_drop, List.length_take]; rfl)) ?_; (with_reducible refine (heraldlaw10_next.calls 6 true 3 t114 t115 t116 _ ?side1 A2.out).mono ?_); (case side1 => exact GL.below HG.out (by repeat (first | (with_reducible first | exact HB.out | apply below_alloc | apply pw_below_drewN | apply below_drew1) | exact HB.out))); rintro e w26 ⟨rfl, hb⟩; refine ⟨_, rfl, ?_⟩; have n0_ := Aside0.mk (below_step (by repeat (first | (with_reducible first | exact HB.out | apply below_alloc | apply pw_below_drewN | apply below_drew1) | exact HB.out)) hb); clear HB; have HB := n0_; clear n0_; (try clear hb); (try clear hb2); (try clear hk); (try clear hi)) | ((with_reducible refine gate_callee (f := 12) rfl ?_); refine goesL_ (some 24) rfl rfl Tryd.func12 (by kernel_rfl) rfl #[.int .i64 5, .agg #[.bool true, .int .i64 3]] rfl (by (try simp only [List.map_toArray, List.map_cons, List.map_nil]); first | done | rfl | (simp only [List.length_drop, List.length_take]; rfl)) ?_; (with_reducible refine (heraldlaw10_next.calls 5 true 3 t117 t118 t119 _ ?side1 A3.out).mono ?_); (case side1 => exact GL.below HG.out (by repeat (first | (with_reducible first | exact HB.out | apply below_alloc | apply pw_below_drewN | apply below_drew1) | exact HB.out))); rintro e w27 ⟨rfl, hb⟩; refine ⟨_, rfl, ?_⟩; have n0_ := Aside0.mk (below_step (by repeat (first | (with_reducible first | exact HB.out | apply below_alloc | apply pw_below_drewN | apply below_drew1) | exact HB.out)) hb); clear HB; have HB := n0_; clear n0_; (try clear hb); (try clear hb2); (try clear hk); (try clear hi)))
                      go_ret
                      exact ⟨by first | rfl | (simp [errW_none, errW_some] <;> rfl) | (simp [*, errW_none, errW_some] <;> rfl), by repeat (first | (with_reducible first | exact HB.out | apply below_alloc | apply pw_below_drewN | apply below_drew1) | exact HB.out)⟩
                · rw [if_neg c11] at H
                  have c11b0 : (t118 == 2) = false := beq_eq_false_iff_ne.mpr c11
                  have c11b1 : (t118 != 2) = true := bne_iff_ne.mpr c11
                  as_aux_lemma =>
                    obtain rfl := Option.some.inj H
                    go_enter Tryd.func8, Tryd.ntmps8
                    go_wp2_with (first | ((with_reducible refine gate_callee (f := 12) rfl ?_); refine goesL_ (some 12) rfl rfl Tryd.func12 (by kernel_rfl) rfl #[.int .i64 0, .agg #[.bool false, .int .i64 2]] rfl (by (try simp only [List.map_toArray, List.map_cons, List.map_nil]); first | done | rfl | (simp only [List.length_drop, List.length_take]; rfl)) ?_; (with_reducible refine (heraldlaw10_next.calls 0 false 2 t111 t112 t113 _ ?side1 A1.out).mono ?_); (case side1 => exact GL.below HG.out (by repeat (first | (with_reducible first | exact HB.out | apply below_alloc | apply pw_below_drewN | apply below_drew1) | exact HB.out))); rintro e w28 ⟨rfl, hb⟩; refine ⟨_, rfl, ?_⟩; have n0_ := Aside0.mk (below_step (by repeat (first | (with_reducible first | exact HB.out | apply below_alloc | apply pw_below_drewN | apply below_drew1) | exact HB.out)) hb); clear HB; have HB := n0_; clear n0_; (try clear hb); (try clear hb2); (try clear hk); (try clear hi)) | ((with_reducible refine gate_callee (f := 12) rfl ?_); refine goesL_ (some 18) rfl rfl Tryd.func12 (by kernel_rfl) rfl #[.int .i64 6, .agg #[.bool true, .int .i64 3]] rfl (by (try simp only [List.map_toArray, List.map_cons, List.map_nil]); first | done | rfl | (simp only [List.length_drop, List.length_take]; rfl)) ?_; (with_reducible refine (heraldlaw10_next.calls 6 true 3 t114 t115 t116 _ ?side1 A2.out).mono ?_); (case side1 => exact GL.below HG.out (by repeat (first | (with_reducible first | exact HB.out | apply below_alloc | apply pw_below_drewN | apply below_drew1) | exact HB.out))); rintro e w29 ⟨rfl, hb⟩; refine ⟨_, rfl, ?_⟩; have n0_ := Aside0.mk (below_step (by repeat (first | (with_reducible first | exact HB.out | apply below_alloc | apply pw_below_drewN | apply below_drew1) | exact HB.out)) hb); clear HB; have HB := n0_; clear n0_; (try clear hb); (try clear hb2); (try clear hk); (try clear hi)) | ((with_reducible refine gate_callee (f := 12) rfl ?_); refine goesL_ (some 24) rfl rfl Tryd.func12 (by kernel_rfl) rfl #[.int .i64 5, .agg #[.bool true, .int .i64 3]] rfl (by (try simp only [List.map_toArray, List.map_cons, List.map_nil]); first | done | rfl | (simp only [List.length_drop, List.length_take]; rfl)) ?_; (with_reducible refine (heraldlaw10_next.calls 5 true 3 t117 t118 t119 _ ?side1 A3.out).mono ?_); (case side1 => exact GL.below HG.out (by repeat (first | (with_reducible first | exact HB.out | apply below_alloc | apply pw_below_drewN | apply below_drew1) | exact HB.out))); rintro e w30 ⟨rfl, hb⟩; refine ⟨_, rfl, ?_⟩; have n0_ := Aside0.mk (below_step (by repeat (first | (with_reducible first | exact HB.out | apply below_alloc | apply pw_below_drewN | apply below_drew1) | exact HB.out)) hb); clear HB; have HB := n0_; clear n0_; (try clear hb); (try clear hb2); (try clear hk); (try clear hi)))
                    go_ret
                    exact ⟨by first | rfl | (simp [errW_none, errW_some] <;> rfl) | (simp [*, errW_none, errW_some] <;> rfl), by repeat (first | (with_reducible first | exact HB.out | apply below_alloc | apply pw_below_drewN | apply below_drew1) | exact HB.out)⟩
              · rw [if_neg c10] at H
                have c10b0 : (t117 == 5) = false := beq_eq_false_iff_ne.mpr c10
                have c10b1 : (t117 != 5) = true := bne_iff_ne.mpr c10
                as_aux_lemma =>
                  obtain rfl := Option.some.inj H
                  go_enter Tryd.func8, Tryd.ntmps8
                  go_wp2_with (first | ((with_reducible refine gate_callee (f := 12) rfl ?_); refine goesL_ (some 12) rfl rfl Tryd.func12 (by kernel_rfl) rfl #[.int .i64 0, .agg #[.bool false, .int .i64 2]] rfl (by (try simp only [List.map_toArray, List.map_cons, List.map_nil]); first | done | rfl | (simp only [List.length_drop, List.length_take]; rfl)) ?_; (with_reducible refine (heraldlaw10_next.calls 0 false 2 t111 t112 t113 _ ?side1 A1.out).mono ?_); (case side1 => exact GL.below HG.out (by repeat (first | (with_reducible first | exact HB.out | apply below_alloc | apply pw_below_drewN | apply below_drew1) | exact HB.out))); rintro e w31 ⟨rfl, hb⟩; refine ⟨_, rfl, ?_⟩; have n0_ := Aside0.mk (below_step (by repeat (first | (with_reducible first | exact HB.out | apply below_alloc | apply pw_below_drewN | apply below_drew1) | exact HB.out)) hb); clear HB; have HB := n0_; clear n0_; (try clear hb); (try clear hb2); (try clear hk); (try clear hi)) | ((with_reducible refine gate_callee (f := 12) rfl ?_); refine goesL_ (some 18) rfl rfl Tryd.func12 (by kernel_rfl) rfl #[.int .i64 6, .agg #[.bool true, .int .i64 3]] rfl (by (try simp only [List.map_toArray, List.map_cons, List.map_nil]); first | done | rfl | (simp only [List.length_drop, List.length_take]; rfl)) ?_; (with_reducible refine (heraldlaw10_next.calls 6 true 3 t114 t115 t116 _ ?side1 A2.out).mono ?_); (case side1 => exact GL.below HG.out (by repeat (first | (with_reducible first | exact HB.out | apply below_alloc | apply pw_below_drewN | apply below_drew1) | exact HB.out))); rintro e w32 ⟨rfl, hb⟩; refine ⟨_, rfl, ?_⟩; have n0_ := Aside0.mk (below_step (by repeat (first | (with_reducible first | exact HB.out | apply below_alloc | apply pw_below_drewN | apply below_drew1) | exact HB.out)) hb); clear HB; have HB := n0_; clear n0_; (try clear hb); (try clear hb2); (try clear hk); (try clear hi)) | ((with_reducible refine gate_callee (f := 12) rfl ?_); refine goesL_ (some 24) rfl rfl Tryd.func12 (by kernel_rfl) rfl #[.int .i64 5, .agg #[.bool true, .int .i64 3]] rfl (by (try simp only [List.map_toArray, List.map_cons, List.map_nil]); first | done | rfl | (simp only [List.length_drop, List.length_take]; rfl)) ?_; (with_reducible refine (heraldlaw10_next.calls 5 true 3 t117 t118 t119 _ ?side1 A3.out).mono ?_); (case side1 => exact GL.below HG.out (by repeat (first | (with_reducible first | exact HB.out | apply below_alloc | apply pw_below_drewN | apply below_drew1) | exact HB.out))); rintro e w33 ⟨rfl, hb⟩; refine ⟨_, rfl, ?_⟩; have n0_ := Aside0.mk (below_step (by repeat (first | (with_reducible first | exact HB.out | apply below_alloc | apply pw_below_drewN | apply below_drew1) | exact HB.out)) hb); clear HB; have HB := n0_; clear n0_; (try clear hb); (try clear hb2); (try clear hk); (try clear hi)))
                  go_ret
                  exact ⟨by first | rfl | (simp [errW_none, errW_some] <;> rfl) | (simp [*, errW_none, errW_some] <;> rfl), by repeat (first | (with_reducible first | exact HB.out | apply below_alloc | apply pw_below_drewN | apply below_drew1) | exact HB.out)⟩
            · rw [if_neg c9] at H
              have c9b0 : (t116 == 5) = false := beq_eq_false_iff_ne.mpr c9
              have c9b1 : (t116 != 5) = true := bne_iff_ne.mpr c9
              as_aux_lemma =>
                obtain rfl := Option.some.inj H
                go_enter Tryd.func8, Tryd.ntmps8
                go_wp2_with (first | ((with_reducible refine gate_callee (f := 12) rfl ?_); refine goesL_ (some 12) rfl rfl Tryd.func12 (by kernel_rfl) rfl #[.int .i64 0, .agg #[.bool false, .int .i64 2]] rfl (by (try simp only [List.map_toArray, List.map_cons, List.map_nil]); first | done | rfl | (simp only [List.length_drop, List.length_take]; rfl)) ?_; (with_reducible refine (heraldlaw10_next.calls 0 false 2 t111 t112 t113 _ ?side1 A1.out).mono ?_); (case side1 => exact GL.below HG.out (by repeat (first | (with_reducible first | exact HB.out | apply below_alloc | apply pw_below_drewN | apply below_drew1) | exact HB.out))); rintro e w34 ⟨rfl, hb⟩; refine ⟨_, rfl, ?_⟩; have n0_ := Aside0.mk (below_step (by repeat (first | (with_reducible first | exact HB.out | apply below_alloc | apply pw_below_drewN | apply below_drew1) | exact HB.out)) hb); clear HB; have HB := n0_; clear n0_; (try clear hb); (try clear hb2); (try clear hk); (try clear hi)) | ((with_reducible refine gate_callee (f := 12) rfl ?_); refine goesL_ (some 18) rfl rfl Tryd.func12 (by kernel_rfl) rfl #[.int .i64 6, .agg #[.bool true, .int .i64 3]] rfl (by (try simp only [List.map_toArray, List.map_cons, List.map_nil]); first | done | rfl | (simp only [List.length_drop, List.length_take]; rfl)) ?_; (with_reducible refine (heraldlaw10_next.calls 6 true 3 t114 t115 t116 _ ?side1 A2.out).mono ?_); (case side1 => exact GL.below HG.out (by repeat (first | (with_reducible first | exact HB.out | apply below_alloc | apply pw_below_drewN | apply below_drew1) | exact HB.out))); rintro e w35 ⟨rfl, hb⟩; refine ⟨_, rfl, ?_⟩; have n0_ := Aside0.mk (below_step (by repeat (first | (with_reducible first | exact HB.out | apply below_alloc | apply pw_below_drewN | apply below_drew1) | exact HB.out)) hb); clear HB; have HB := n0_; clear n0_; (try clear hb); (try clear hb2); (try clear hk); (try clear hi)) | ((with_reducible refine gate_callee (f := 12) rfl ?_); refine goesL_ (some 24) rfl rfl Tryd.func12 (by kernel_rfl) rfl #[.int .i64 5, .agg #[.bool true, .int .i64 3]] rfl (by (try simp only [List.map_toArray, List.map_cons, List.map_nil]); first | done | rfl | (simp only [List.length_drop, List.length_take]; rfl)) ?_; (with_reducible refine (heraldlaw10_next.calls 5 true 3 t117 t118 t119 _ ?side1 A3.out).mono ?_); (case side1 => exact GL.below HG.out (by repeat (first | (with_reducible first | exact HB.out | apply below_alloc | apply pw_below_drewN | apply below_drew1) | exact HB.out))); rintro e w36 ⟨rfl, hb⟩; refine ⟨_, rfl, ?_⟩; have n0_ := Aside0.mk (below_step (by repeat (first | (with_reducible first | exact HB.out | apply below_alloc | apply pw_below_drewN | apply below_drew1) | exact HB.out)) hb); clear HB; have HB := n0_; clear n0_; (try clear hb); (try clear hb2); (try clear hk); (try clear hi)))
                go_ret
                exact ⟨by first | rfl | (simp [errW_none, errW_some] <;> rfl) | (simp [*, errW_none, errW_some] <;> rfl), by repeat (first | (with_reducible first | exact HB.out | apply below_alloc | apply pw_below_drewN | apply below_drew1) | exact HB.out)⟩
          · rw [if_neg c8] at H
            have c8b0 : (t115 == 3) = false := beq_eq_false_iff_ne.mpr c8
            have c8b1 : (t115 != 3) = true := bne_iff_ne.mpr c8
            as_aux_lemma =>
              obtain rfl := Option.some.inj H
              go_enter Tryd.func8, Tryd.ntmps8
              go_wp2_with (first | ((with_reducible refine gate_callee (f := 12) rfl ?_); refine goesL_ (some 12) rfl rfl Tryd.func12 (by kernel_rfl) rfl #[.int .i64 0, .agg #[.bool false, .int .i64 2]] rfl (by (try simp only [List.map_toArray, List.map_cons, List.map_nil]); first | done | rfl | (simp only [List.length_drop, List.length_take]; rfl)) ?_; (with_reducible refine (heraldlaw10_next.calls 0 false 2 t111 t112 t113 _ ?side1 A1.out).mono ?_); (case side1 => exact GL.below HG.out (by repeat (first | (with_reducible first | exact HB.out | apply below_alloc | apply pw_below_drewN | apply below_drew1) | exact HB.out))); rintro e w37 ⟨rfl, hb⟩; refine ⟨_, rfl, ?_⟩; have n0_ := Aside0.mk (below_step (by repeat (first | (with_reducible first | exact HB.out | apply below_alloc | apply pw_below_drewN | apply below_drew1) | exact HB.out)) hb); clear HB; have HB := n0_; clear n0_; (try clear hb); (try clear hb2); (try clear hk); (try clear hi)) | ((with_reducible refine gate_callee (f := 12) rfl ?_); refine goesL_ (some 18) rfl rfl Tryd.func12 (by kernel_rfl) rfl #[.int .i64 6, .agg #[.bool true, .int .i64 3]] rfl (by (try simp only [List.map_toArray, List.map_cons, List.map_nil]); first | done | rfl | (simp only [List.length_drop, List.length_take]; rfl)) ?_; (with_reducible refine (heraldlaw10_next.calls 6 true 3 t114 t115 t116 _ ?side1 A2.out).mono ?_); (case side1 => exact GL.below HG.out (by repeat (first | (with_reducible first | exact HB.out | apply below_alloc | apply pw_below_drewN | apply below_drew1) | exact HB.out))); rintro e w38 ⟨rfl, hb⟩; refine ⟨_, rfl, ?_⟩; have n0_ := Aside0.mk (below_step (by repeat (first | (with_reducible first | exact HB.out | apply below_alloc | apply pw_below_drewN | apply below_drew1) | exact HB.out)) hb); clear HB; have HB := n0_; clear n0_; (try clear hb); (try clear hb2); (try clear hk); (try clear hi)) | ((with_reducible refine gate_callee (f := 12) rfl ?_); refine goesL_ (some 24) rfl rfl Tryd.func12 (by kernel_rfl) rfl #[.int .i64 5, .agg #[.bool true, .int .i64 3]] rfl (by (try simp only [List.map_toArray, List.map_cons, List.map_nil]); first | done | rfl | (simp only [List.length_drop, List.length_take]; rfl)) ?_; (with_reducible refine (heraldlaw10_next.calls 5 true 3 t117 t118 t119 _ ?side1 A3.out).mono ?_); (case side1 => exact GL.below HG.out (by repeat (first | (with_reducible first | exact HB.out | apply below_alloc | apply pw_below_drewN | apply below_drew1) | exact HB.out))); rintro e w39 ⟨rfl, hb⟩; refine ⟨_, rfl, ?_⟩; have n0_ := Aside0.mk (below_step (by repeat (first | (with_reducible first | exact HB.out | apply below_alloc | apply pw_below_drewN | apply below_drew1) | exact HB.out)) hb); clear HB; have HB := n0_; clear n0_; (try clear hb); (try clear hb2); (try clear hk); (try clear hi)))
              go_ret
              exact ⟨by first | rfl | (simp [errW_none, errW_some] <;> rfl) | (simp [*, errW_none, errW_some] <;> rfl), by repeat (first | (with_reducible first | exact HB.out | apply below_alloc | apply pw_below_drewN | apply below_drew1) | exact HB.out)⟩
        · rw [if_neg c7] at H
          have c7b0 : (t114 == 6) = false := beq_eq_false_iff_ne.mpr c7
          have c7b1 : (t114 != 6) = true := bne_iff_ne.mpr c7
          as_aux_lemma =>
            obtain rfl := Option.some.inj H
            go_enter Tryd.func8, Tryd.ntmps8
            go_wp2_with (first | ((with_reducible refine gate_callee (f := 12) rfl ?_); refine goesL_ (some 12) rfl rfl Tryd.func12 (by kernel_rfl) rfl #[.int .i64 0, .agg #[.bool false, .int .i64 2]] rfl (by (try simp only [List.map_toArray, List.map_cons, List.map_nil]); first | done | rfl | (simp only [List.length_drop, List.length_take]; rfl)) ?_; (with_reducible refine (heraldlaw10_next.calls 0 false 2 t111 t112 t113 _ ?side1 A1.out).mono ?_); (case side1 => exact GL.below HG.out (by repeat (first | (with_reducible first | exact HB.out | apply below_alloc | apply pw_below_drewN | apply below_drew1) | exact HB.out))); rintro e w40 ⟨rfl, hb⟩; refine ⟨_, rfl, ?_⟩; have n0_ := Aside0.mk (below_step (by repeat (first | (with_reducible first | exact HB.out | apply below_alloc | apply pw_below_drewN | apply below_drew1) | exact HB.out)) hb); clear HB; have HB := n0_; clear n0_; (try clear hb); (try clear hb2); (try clear hk); (try clear hi)) | ((with_reducible refine gate_callee (f := 12) rfl ?_); refine goesL_ (some 18) rfl rfl Tryd.func12 (by kernel_rfl) rfl #[.int .i64 6, .agg #[.bool true, .int .i64 3]] rfl (by (try simp only [List.map_toArray, List.map_cons, List.map_nil]); first | done | rfl | (simp only [List.length_drop, List.length_take]; rfl)) ?_; (with_reducible refine (heraldlaw10_next.calls 6 true 3 t114 t115 t116 _ ?side1 A2.out).mono ?_); (case side1 => exact GL.below HG.out (by repeat (first | (with_reducible first | exact HB.out | apply below_alloc | apply pw_below_drewN | apply below_drew1) | exact HB.out))); rintro e w41 ⟨rfl, hb⟩; refine ⟨_, rfl, ?_⟩; have n0_ := Aside0.mk (below_step (by repeat (first | (with_reducible first | exact HB.out | apply below_alloc | apply pw_below_drewN | apply below_drew1) | exact HB.out)) hb); clear HB; have HB := n0_; clear n0_; (try clear hb); (try clear hb2); (try clear hk); (try clear hi)) | ((with_reducible refine gate_callee (f := 12) rfl ?_); refine goesL_ (some 24) rfl rfl Tryd.func12 (by kernel_rfl) rfl #[.int .i64 5, .agg #[.bool true, .int .i64 3]] rfl (by (try simp only [List.map_toArray, List.map_cons, List.map_nil]); first | done | rfl | (simp only [List.length_drop, List.length_take]; rfl)) ?_; (with_reducible refine (heraldlaw10_next.calls 5 true 3 t117 t118 t119 _ ?side1 A3.out).mono ?_); (case side1 => exact GL.below HG.out (by repeat (first | (with_reducible first | exact HB.out | apply below_alloc | apply pw_below_drewN | apply below_drew1) | exact HB.out))); rintro e w42 ⟨rfl, hb⟩; refine ⟨_, rfl, ?_⟩; have n0_ := Aside0.mk (below_step (by repeat (first | (with_reducible first | exact HB.out | apply below_alloc | apply pw_below_drewN | apply below_drew1) | exact HB.out)) hb); clear HB; have HB := n0_; clear n0_; (try clear hb); (try clear hb2); (try clear hk); (try clear hi)))
            go_ret
            exact ⟨by first | rfl | (simp [errW_none, errW_some] <;> rfl) | (simp [*, errW_none, errW_some] <;> rfl), by repeat (first | (with_reducible first | exact HB.out | apply below_alloc | apply pw_below_drewN | apply below_drew1) | exact HB.out)⟩
      · rw [if_neg c6] at H
        have c6b0 : (t113 == 0) = false := beq_eq_false_iff_ne.mpr c6
        have c6b1 : (t113 != 0) = true := bne_iff_ne.mpr c6
        as_aux_lemma =>
          obtain rfl := Option.some.inj H
          go_enter Tryd.func8, Tryd.ntmps8
          go_wp2_with (first | ((with_reducible refine gate_callee (f := 12) rfl ?_); refine goesL_ (some 12) rfl rfl Tryd.func12 (by kernel_rfl) rfl #[.int .i64 0, .agg #[.bool false, .int .i64 2]] rfl (by (try simp only [List.map_toArray, List.map_cons, List.map_nil]); first | done | rfl | (simp only [List.length_drop, List.length_take]; rfl)) ?_; (with_reducible refine (heraldlaw10_next.calls 0 false 2 t111 t112 t113 _ ?side1 A1.out).mono ?_); (case side1 => exact GL.below HG.out (by repeat (first | (with_reducible first | exact HB.out | apply below_alloc | apply pw_below_drewN | apply below_drew1) | exact HB.out))); rintro e w43 ⟨rfl, hb⟩; refine ⟨_, rfl, ?_⟩; have n0_ := Aside0.mk (below_step (by repeat (first | (with_reducible first | exact HB.out | apply below_alloc | apply pw_below_drewN | apply below_drew1) | exact HB.out)) hb); clear HB; have HB := n0_; clear n0_; (try clear hb); (try clear hb2); (try clear hk); (try clear hi)) | ((with_reducible refine gate_callee (f := 12) rfl ?_); refine goesL_ (some 18) rfl rfl Tryd.func12 (by kernel_rfl) rfl #[.int .i64 6, .agg #[.bool true, .int .i64 3]] rfl (by (try simp only [List.map_toArray, List.map_cons, List.map_nil]); first | done | rfl | (simp only [List.length_drop, List.length_take]; rfl)) ?_; (with_reducible refine (heraldlaw10_next.calls 6 true 3 t114 t115 t116 _ ?side1 A2.out).mono ?_); (case side1 => exact GL.below HG.out (by repeat (first | (with_reducible first | exact HB.out | apply below_alloc | apply pw_below_drewN | apply below_drew1) | exact HB.out))); rintro e w44 ⟨rfl, hb⟩; refine ⟨_, rfl, ?_⟩; have n0_ := Aside0.mk (below_step (by repeat (first | (with_reducible first | exact HB.out | apply below_alloc | apply pw_below_drewN | apply below_drew1) | exact HB.out)) hb); clear HB; have HB := n0_; clear n0_; (try clear hb); (try clear hb2); (try clear hk); (try clear hi)) | ((with_reducible refine gate_callee (f := 12) rfl ?_); refine goesL_ (some 24) rfl rfl Tryd.func12 (by kernel_rfl) rfl #[.int .i64 5, .agg #[.bool true, .int .i64 3]] rfl (by (try simp only [List.map_toArray, List.map_cons, List.map_nil]); first | done | rfl | (simp only [List.length_drop, List.length_take]; rfl)) ?_; (with_reducible refine (heraldlaw10_next.calls 5 true 3 t117 t118 t119 _ ?side1 A3.out).mono ?_); (case side1 => exact GL.below HG.out (by repeat (first | (with_reducible first | exact HB.out | apply below_alloc | apply pw_below_drewN | apply below_drew1) | exact HB.out))); rintro e w45 ⟨rfl, hb⟩; refine ⟨_, rfl, ?_⟩; have n0_ := Aside0.mk (below_step (by repeat (first | (with_reducible first | exact HB.out | apply below_alloc | apply pw_below_drewN | apply below_drew1) | exact HB.out)) hb); clear HB; have HB := n0_; clear n0_; (try clear hb); (try clear hb2); (try clear hk); (try clear hi)))
          go_ret
          exact ⟨by first | rfl | (simp [errW_none, errW_some] <;> rfl) | (simp [*, errW_none, errW_some] <;> rfl), by repeat (first | (with_reducible first | exact HB.out | apply below_alloc | apply pw_below_drewN | apply below_drew1) | exact HB.out)⟩
    · rw [if_neg c5] at H
      have c5b0 : (t112 == 0) = false := beq_eq_false_iff_ne.mpr c5
      have c5b1 : (t112 != 0) = true := bne_iff_ne.mpr c5
      as_aux_lemma =>
        obtain rfl := Option.some.inj H
        go_enter Tryd.func8, Tryd.ntmps8
        go_wp2_with (first | ((with_reducible refine gate_callee (f := 12) rfl ?_); refine goesL_ (some 12) rfl rfl Tryd.func12 (by kernel_rfl) rfl #[.int .i64 0, .agg #[.bool false, .int .i64 2]] rfl (by (try simp only [List.map_toArray, List.map_cons, List.map_nil]); first | done | rfl | (simp only [List.length_drop, List.length_take]; rfl)) ?_; (with_reducible refine (heraldlaw10_next.calls 0 false 2 t111 t112 t113 _ ?side1 A1.out).mono ?_); (case side1 => exact GL.below HG.out (by repeat (first | (with_reducible first | exact HB.out | apply below_alloc | apply pw_below_drewN | apply below_drew1) | exact HB.out))); rintro e w46 ⟨rfl, hb⟩; refine ⟨_, rfl, ?_⟩; have n0_ := Aside0.mk (below_step (by repeat (first | (with_reducible first | exact HB.out | apply below_alloc | apply pw_below_drewN | apply below_drew1) | exact HB.out)) hb); clear HB; have HB := n0_; clear n0_; (try clear hb); (try clear hb2); (try clear hk); (try clear hi)) | ((with_reducible refine gate_callee (f := 12) rfl ?_); refine goesL_ (some 18) rfl rfl Tryd.func12 (by kernel_rfl) rfl #[.int .i64 6, .agg #[.bool true, .int .i64 3]] rfl (by (try simp only [List.map_toArray, List.map_cons, List.map_nil]); first | done | rfl | (simp only [List.length_drop, List.length_take]; rfl)) ?_; (with_reducible refine (heraldlaw10_next.calls 6 true 3 t114 t115 t116 _ ?side1 A2.out).mono ?_); (case side1 => exact GL.below HG.out (by repeat (first | (with_reducible first | exact HB.out | apply below_alloc | apply pw_below_drewN | apply below_drew1) | exact HB.out))); rintro e w47 ⟨rfl, hb⟩; refine ⟨_, rfl, ?_⟩; have n0_ := Aside0.mk (below_step (by repeat (first | (with_reducible first | exact HB.out | apply below_alloc | apply pw_below_drewN | apply below_drew1) | exact HB.out)) hb); clear HB; have HB := n0_; clear n0_; (try clear hb); (try clear hb2); (try clear hk); (try clear hi)) | ((with_reducible refine gate_callee (f := 12) rfl ?_); refine goesL_ (some 24) rfl rfl Tryd.func12 (by kernel_rfl) rfl #[.int .i64 5, .agg #[.bool true, .int .i64 3]] rfl (by (try simp only [List.map_toArray, List.map_cons, List.map_nil]); first | done | rfl | (simp only [List.length_drop, List.length_take]; rfl)) ?_; (with_reducible refine (heraldlaw10_next.calls 5 true 3 t117 t118 t119 _ ?side1 A3.out).mono ?_); (case side1 => exact GL.below HG.out (by repeat (first | (with_reducible first | exact HB.out | apply below_alloc | apply pw_below_drewN | apply below_drew1) | exact HB.out))); rintro e w48 ⟨rfl, hb⟩; refine ⟨_, rfl, ?_⟩; have n0_ := Aside0.mk (below_step (by repeat (first | (with_reducible first | exact HB.out | apply below_alloc | apply pw_below_drewN | apply below_drew1) | exact HB.out)) hb); clear HB; have HB := n0_; clear n0_; (try clear hb); (try clear hb2); (try clear hk); (try clear hi)))
        go_ret
        exact ⟨by first | rfl | (simp [errW_none, errW_some] <;> rfl) | (simp [*, errW_none, errW_some] <;> rfl), by repeat (first | (with_reducible first | exact HB.out | apply below_alloc | apply pw_below_drewN | apply below_drew1) | exact HB.out)⟩
  · rw [if_neg c4] at H
    have c4b0 : (t111 == 4) = false := beq_eq_false_iff_ne.mpr c4
    have c4b1 : (t111 != 4) = true := bne_iff_ne.mpr c4
    as_aux_lemma =>
      obtain rfl := Option.some.inj H
      go_enter Tryd.func8, Tryd.ntmps8
      go_wp2_with (first | ((with_reducible refine gate_callee (f := 12) rfl ?_); refine goesL_ (some 12) rfl rfl Tryd.func12 (by kernel_rfl) rfl #[.int .i64 0, .agg #[.bool false, .int .i64 2]] rfl (by (try simp only [List.map_toArray, List.map_cons, List.map_nil]); first | done | rfl | (simp only [List.length_drop, List.length_take]; rfl)) ?_; (with_reducible refine (heraldlaw10_next.calls 0 false 2 t111 t112 t113 _ ?side1 A1.out).mono ?_); (case side1 => exact GL.below HG.out (by repeat (first | (with_reducible first | exact HB.out | apply below_alloc | apply pw_below_drewN | apply below_drew1) | exact HB.out))); rintro e w49 ⟨rfl, hb⟩; refine ⟨_, rfl, ?_⟩; have n0_ := Aside0.mk (below_step (by repeat (first | (with_reducible first | exact HB.out | apply below_alloc | apply pw_below_drewN | apply below_drew1) | exact HB.out)) hb); clear HB; have HB := n0_; clear n0_; (try clear hb); (try clear hb2); (try clear hk); (try clear hi)) | ((with_reducible refine gate_callee (f := 12) rfl ?_); refine goesL_ (some 18) rfl rfl Tryd.func12 (by kernel_rfl) rfl #[.int .i64 6, .agg #[.bool true, .int .i64 3]] rfl (by (try simp only [List.map_toArray, List.map_cons, List.map_nil]); first | done | rfl | (simp only [List.length_drop, List.length_take]; rfl)) ?_; (with_reducible refine (heraldlaw10_next.calls 6 true 3 t114 t115 t116 _ ?side1 A2.out).mono ?_); (case side1 => exact GL.below HG.out (by repeat (first | (with_reducible first | exact HB.out | apply below_alloc | apply pw_below_drewN | apply below_drew1) | exact HB.out))); rintro e w50 ⟨rfl, hb⟩; refine ⟨_, rfl, ?_⟩; have n0_ := Aside0.mk (below_step (by repeat (first | (with_reducible first | exact HB.out | apply below_alloc | apply pw_below_drewN | apply below_drew1) | exact HB.out)) hb); clear HB; have HB := n0_; clear n0_; (try clear hb); (try clear hb2); (try clear hk); (try clear hi)) | ((with_reducible refine gate_callee (f := 12) rfl ?_); refine goesL_ (some 24) rfl rfl Tryd.func12 (by kernel_rfl) rfl #[.int .i64 5, .agg #[.bool true, .int .i64 3]] rfl (by (try simp only [List.map_toArray, List.map_cons, List.map_nil]); first | done | rfl | (simp only [List.length_drop, List.length_take]; rfl)) ?_; (with_reducible refine (heraldlaw10_next.calls 5 true 3 t117 t118 t119 _ ?side1 A3.out).mono ?_); (case side1 => exact GL.below HG.out (by repeat (first | (with_reducible first | exact HB.out | apply below_alloc | apply pw_below_drewN | apply below_drew1) | exact HB.out))); rintro e w51 ⟨rfl, hb⟩; refine ⟨_, rfl, ?_⟩; have n0_ := Aside0.mk (below_step (by repeat (first | (with_reducible first | exact HB.out | apply below_alloc | apply pw_below_drewN | apply below_drew1) | exact HB.out)) hb); clear HB; have HB := n0_; clear n0_; (try clear hb); (try clear hb2); (try clear hk); (try clear hi)))
      go_ret
      exact ⟨by first | rfl | (simp [errW_none, errW_some] <;> rfl) | (simp [*, errW_none, errW_some] <;> rfl), by repeat (first | (with_reducible first | exact HB.out | apply below_alloc | apply pw_below_drewN | apply below_drew1) | exact HB.out)⟩

/-! ### heraldlaw10_Book_over: function 17 -/
def heraldlaw10_Book_over.f (a0_0 : Bool) (a0_1 : Bool) (a0_2 : Bool) (a0_3 : Bool) : Option (Bool) := if a0_0 = true then (if a0_2 = true then (some false) else (some (!a0_3))) else (some false)
set_option maxHeartbeats 8000000 in
set_option maxRecDepth 100000 in
theorem heraldlaw10_Book_over.calls (a0_0 : Bool) (a0_1 : Bool) (a0_2 : Bool) (a0_3 : Bool) (r : Bool) (w : World) (h : heraldlaw10_Book_over.f a0_0 a0_1 a0_2 a0_3 = some r) :
    Calls Tryd.prog 17 #[.agg #[.bool a0_0, .bool a0_1, .bool a0_2, .bool a0_3]] w fun e w' => e = .returned (.bool r) ∧ Below w.heap.size w w' := by
  have hu37 := Tryd.underlying37
  have HB := Aside0.mk (Below.refl w.heap.size w)
  have H : (if a0_0 = true then (if a0_2 = true then (some false) else (some (!a0_3))) else (some false)) = some r := h
  clear h
  by_cases c2 : a0_0 = true
  · subst c2
    have H1 : (if a0_2 = true then (some false) else (some (!a0_3))) = some r := by rw [if_pos rfl] at H; exact H
    clear H
    have H := H1
    clear H1
    by_cases c3 : a0_2 = true
    · subst c3
      have H1 : (some false) = some r := by rw [if_pos rfl] at H; exact H
      clear H
      have H := H1
      clear H1
      as_aux_lemma =>
        obtain rfl := Option.some.inj H
        go_enter Tryd.func17, Tryd.ntmps17
        go_wp2_with (first | ((with_reducible refine gate_dst (N := 1) rfl ?_); refine box_event ?hg (N := 1) ?hd (cs := #[.bool true, .bool a0_1, .bool true, .bool a0_3]) (t := 37) ?hr ?_; (case hd => rfl); (case hg => rfl); (case hr => first | (go_simp; done) | (go_simp; rfl)); intro gb122 hg w4 hbox hb; have n0_ := Aside0.mk (below_step (by repeat (first | (with_reducible first | exact HB.out | apply below_alloc | apply pw_below_drewN | apply below_drew1) | exact HB.out)) hb); have n1_ := Aside0.mk (hbox); have n2_ := Aside0.mk ((by rw [hg]; exact (below_size (by repeat (first | (with_reducible first | exact HB.out | apply below_alloc | apply pw_below_drewN | apply below_drew1) | exact HB.out))) : w.heap.size ≤ gb122)); have n3_ := Aside0.mk ((by rw [hg]; exact (below_size (by repeat (first | (with_reducible first | exact HB.out | apply below_alloc | apply pw_below_drewN | apply below_drew1) | exact HB.out))) : w.heap.size ≤ gb122)); clear HB; have HB := n0_; have BK122 := n1_; have GW122 := n2_; have GE122 := n3_; clear n0_ n1_ n2_ n3_; clear hb hbox hg; have hcz5_0 : w4.cell? ⟨gb122, 0, none⟩ = some (.bool true) := (blk_cell BK122.out 0).trans rfl; have hcz5_1 : w4.cell? ⟨gb122, 1, none⟩ = some (.bool a0_1) := (blk_cell BK122.out 1).trans rfl; have hcz5_2 : w4.cell? ⟨gb122, 2, none⟩ = some (.bool true) := (blk_cell BK122.out 2).trans rfl; have hcz5_3 : w4.cell? ⟨gb122, 3, none⟩ = some (.bool a0_3) := (blk_cell BK122.out 3).trans rfl; have hfz5_0 := blk_frozen BK122.out 0; have hfz5_1 := blk_frozen BK122.out 1; have hfz5_2 := blk_frozen BK122.out 2; have hfz5_3 := blk_frozen BK122.out 3))
        go_ret
        exact ⟨by first | rfl | (simp [errW_none, errW_some] <;> rfl) | (simp [*, errW_none, errW_some] <;> rfl), by repeat (first | (with_reducible first | exact HB.out | apply below_alloc | apply pw_below_drewN | apply below_drew1 | refine below_set ?_ GE122.out) | exact HB.out)⟩
    · replace c3 := Bool.eq_false_iff.mpr c3
      subst c3
      have H1 : (some (!a0_3)) = some r := by rw [if_neg (show ¬ (false = true) by decide)] at H; exact H
      clear H
      have H := H1
      clear H1
      as_aux_lemma =>
        obtain rfl := Option.some.inj H
        go_enter Tryd.func17, Tryd.ntmps17
        go_wp2_with (first | ((with_reducible refine gate_dst (N := 1) rfl ?_); refine box_event ?hg (N := 1) ?hd (cs := #[.bool true, .bool a0_1, .bool false, .bool a0_3]) (t := 37) ?hr ?_; (case hd => rfl); (case hg => rfl); (case hr => first | (go_simp; done) | (go_simp; rfl)); intro gb122 hg w6 hbox hb; have n0_ := Aside0.mk (below_step (by repeat (first | (with_reducible first | exact HB.out | apply below_alloc | apply pw_below_drewN | apply below_drew1) | exact HB.out)) hb); have n1_ := Aside0.mk (hbox); have n2_ := Aside0.mk ((by rw [hg]; exact (below_size (by repeat (first | (with_reducible first | exact HB.out | apply below_alloc | apply pw_below_drewN | apply below_drew1) | exact HB.out))) : w.heap.size ≤ gb122)); have n3_ := Aside0.mk ((by rw [hg]; exact (below_size (by repeat (first | (with_reducible first | exact HB.out | apply below_alloc | apply pw_below_drewN | apply below_drew1) | exact HB.out))) : w.heap.size ≤ gb122)); clear HB; have HB := n0_; have BK122 := n1_; have GW122 := n2_; have GE122 := n3_; clear n0_ n1_ n2_ n3_; clear hb hbox hg; have hcz7_0 : w6.cell? ⟨gb122, 0, none⟩ = some (.bool true) := (blk_cell BK122.out 0).trans rfl; have hcz7_1 : w6.cell? ⟨gb122, 1, none⟩ = some (.bool a0_1) := (blk_cell BK122.out 1).trans rfl; have hcz7_2 : w6.cell? ⟨gb122, 2, none⟩ = some (.bool false) := (blk_cell BK122.out 2).trans rfl; have hcz7_3 : w6.cell? ⟨gb122, 3, none⟩ = some (.bool a0_3) := (blk_cell BK122.out 3).trans rfl; have hfz7_0 := blk_frozen BK122.out 0; have hfz7_1 := blk_frozen BK122.out 1; have hfz7_2 := blk_frozen BK122.out 2; have hfz7_3 := blk_frozen BK122.out 3))
        go_ret
        exact ⟨by first | rfl | (simp [errW_none, errW_some] <;> rfl) | (simp [*, errW_none, errW_some] <;> rfl), by repeat (first | (with_reducible first | exact HB.out | apply below_alloc | apply pw_below_drewN | apply below_drew1 | refine below_set ?_ GE122.out) | exact HB.out)⟩
  · replace c2 := Bool.eq_false_iff.mpr c2
    subst c2
    have H1 : (some false) = some r := by rw [if_neg (show ¬ (false = true) by decide)] at H; exact H
    clear H
    have H := H1
    clear H1
    as_aux_lemma =>
      obtain rfl := Option.some.inj H
      go_enter Tryd.func17, Tryd.ntmps17
      go_wp2_with (first | ((with_reducible refine gate_dst (N := 1) rfl ?_); refine box_event ?hg (N := 1) ?hd (cs := #[.bool false, .bool a0_1, .bool a0_2, .bool a0_3]) (t := 37) ?hr ?_; (case hd => rfl); (case hg => rfl); (case hr => first | (go_simp; done) | (go_simp; rfl)); intro gb122 hg w8 hbox hb; have n0_ := Aside0.mk (below_step (by repeat (first | (with_reducible first | exact HB.out | apply below_alloc | apply pw_below_drewN | apply below_drew1) | exact HB.out)) hb); have n1_ := Aside0.mk (hbox); have n2_ := Aside0.mk ((by rw [hg]; exact (below_size (by repeat (first | (with_reducible first | exact HB.out | apply below_alloc | apply pw_below_drewN | apply below_drew1) | exact HB.out))) : w.heap.size ≤ gb122)); have n3_ := Aside0.mk ((by rw [hg]; exact (below_size (by repeat (first | (with_reducible first | exact HB.out | apply below_alloc | apply pw_below_drewN | apply below_drew1) | exact HB.out))) : w.heap.size ≤ gb122)); clear HB; have HB := n0_; have BK122 := n1_; have GW122 := n2_; have GE122 := n3_; clear n0_ n1_ n2_ n3_; clear hb hbox hg; have hcz9_0 : w8.cell? ⟨gb122, 0, none⟩ = some (.bool false) := (blk_cell BK122.out 0).trans rfl; have hcz9_1 : w8.cell? ⟨gb122, 1, none⟩ = some (.bool a0_1) := (blk_cell BK122.out 1).trans rfl; have hcz9_2 : w8.cell? ⟨gb122, 2, none⟩ = some (.bool a0_2) := (blk_cell BK122.out 2).trans rfl; have hcz9_3 : w8.cell? ⟨gb122, 3, none⟩ = some (.bool a0_3) := (blk_cell BK122.out 3).trans rfl; have hfz9_0 := blk_frozen BK122.out 0; have hfz9_1 := blk_frozen BK122.out 1; have hfz9_2 := blk_frozen BK122.out 2; have hfz9_3 := blk_frozen BK122.out 3))
      go_ret
      exact ⟨by first | rfl | (simp [errW_none, errW_some] <;> rfl) | (simp [*, errW_none, errW_some] <;> rfl), by repeat (first | (with_reducible first | exact HB.out | apply below_alloc | apply pw_below_drewN | apply below_drew1 | refine below_set ?_ GE122.out) | exact HB.out)⟩

/-! ### heraldlaw10_Book_right: function 23 -/
def heraldlaw10_Book_right.f (a0_0 : Bool) (a0_1 : Bool) (a0_2 : Bool) (a0_3 : Bool) (a1 : Bool) : Option (Bool × Bool) := if a1 = true then (some (a0_3, a0_2)) else (some (a0_2, a0_3))
set_option maxHeartbeats 8000000 in
set_option maxRecDepth 100000 in
theorem heraldlaw10_Book_right.calls (a0_0 : Bool) (a0_1 : Bool) (a0_2 : Bool) (a0_3 : Bool) (a1 : Bool) (r1 : Bool) (r2 : Bool) (w : World) (h : heraldlaw10_Book_right.f a0_0 a0_1 a0_2 a0_3 a1 = some (r1, r2)) :
    Calls Tryd.prog 23 #[.agg #[.bool a0_0, .bool a0_1, .bool a0_2, .bool a0_3], .bool a1] w fun e w' => e = .returned (.tuple #[.bool r1, .bool r2]) ∧ Below w.heap.size w w' := by
  have hu37 := Tryd.underlying37
  have HB := Aside0.mk (Below.refl w.heap.size w)
  have H : (if a1 = true then (some (a0_3, a0_2)) else (some (a0_2, a0_3))) = some (r1, r2) := h
  clear h
  by_cases c3 : a1 = true
  · subst c3
    have H1 : (some (a0_3, a0_2)) = some (r1, r2) := by rw [if_pos rfl] at H; exact H
    clear H
    have H := H1
    clear H1
    as_aux_lemma =>
      simp only [Option.some.injEq, Prod.mk.injEq] at H
      obtain ⟨rfl, rfl⟩ := H
      go_enter Tryd.func23, Tryd.ntmps23
      go_wp2_with (first | ((with_reducible refine gate_dst (N := 2) rfl ?_); refine box_event ?hg (N := 2) ?hd (cs := #[.bool a0_0, .bool a0_1, .bool a0_2, .bool a0_3]) (t := 37) ?hr ?_; (case hd => rfl); (case hg => rfl); (case hr => first | (go_simp; done) | (go_simp; rfl)); intro gb123 hg w4 hbox hb; have n0_ := Aside0.mk (below_step (by repeat (first | (with_reducible first | exact HB.out | apply below_alloc | apply pw_below_drewN | apply below_drew1) | exact HB.out)) hb); have n1_ := Aside0.mk (hbox); have n2_ := Aside0.mk ((by rw [hg]; exact (below_size (by repeat (first | (with_reducible first | exact HB.out | apply below_alloc | apply pw_below_drewN | apply below_drew1) | exact HB.out))) : w.heap.size ≤ gb123)); have n3_ := Aside0.mk ((by rw [hg]; exact (below_size (by repeat (first | (with_reducible first | exact HB.out | apply below_alloc | apply pw_below_drewN | apply below_drew1) | exact HB.out))) : w.heap.size ≤ gb123)); clear HB; have HB := n0_; have BK123 := n1_; have GW123 := n2_; have GE123 := n3_; clear n0_ n1_ n2_ n3_; clear hb hbox hg; have hcz5_0 : w4.cell? ⟨gb123, 0, none⟩ = some (.bool a0_0) := (blk_cell BK123.out 0).trans rfl; have hcz5_1 : w4.cell? ⟨gb123, 1, none⟩ = some (.bool a0_1) := (blk_cell BK123.out 1).trans rfl; have hcz5_2 : w4.cell? ⟨gb123, 2, none⟩ = some (.bool a0_2) := (blk_cell BK123.out 2).trans rfl; have hcz5_3 : w4.cell? ⟨gb123, 3, none⟩ = some (.bool a0_3) := (blk_cell BK123.out 3).trans rfl; have hfz5_0 := blk_frozen BK123.out 0; have hfz5_1 := blk_frozen BK123.out 1; have hfz5_2 := blk_frozen BK123.out 2; have hfz5_3 := blk_frozen BK123.out 3))
      repeat (go_quiet (first | ((with_reducible refine gate_dst (N := 2) rfl ?_); refine box_event ?hg (N := 2) ?hd (cs := #[.bool a0_0, .bool a0_1, .bool a0_2, .bool a0_3]) (t := 37) ?hr ?_; (case hd => rfl); (case hg => rfl); (case hr => first | (go_simp; done) | (go_simp; rfl)); intro gb123 hg w4 hbox hb; have n0_ := Aside0.mk (below_step (by repeat (first | (with_reducible first | exact HB.out | apply below_alloc | apply pw_below_drewN | apply below_drew1) | exact HB.out)) hb); have n1_ := Aside0.mk (hbox); have n2_ := Aside0.mk ((by rw [hg]; exact (below_size (by repeat (first | (with_reducible first | exact HB.out | apply below_alloc | apply pw_below_drewN | apply below_drew1) | exact HB.out))) : w.heap.size ≤ gb123)); have n3_ := Aside0.mk ((by rw [hg]; exact (below_size (by repeat (first | (with_reducible first | exact HB.out | apply below_alloc | apply pw_below_drewN | apply below_drew1) | exact HB.out))) : w.heap.size ≤ gb123)); clear HB; have HB := n0_; have BK123 := n1_; have GW123 := n2_; have GE123 := n3_; clear n0_ n1_ n2_ n3_; clear hb hbox hg; have hcz5_0 : w4.cell? ⟨gb123, 0, none⟩ = some (.bool a0_0) := (blk_cell BK123.out 0).trans rfl; have hcz5_1 : w4.cell? ⟨gb123, 1, none⟩ = some (.bool a0_1) := (blk_cell BK123.out 1).trans rfl; have hcz5_2 : w4.cell? ⟨gb123, 2, none⟩ = some (.bool a0_2) := (blk_cell BK123.out 2).trans rfl; have hcz5_3 : w4.cell? ⟨gb123, 3, none⟩ = some (.bool a0_3) := (blk_cell BK123.out 3).trans rfl; have hfz5_0 := blk_frozen BK123.out 0; have hfz5_1 := blk_frozen BK123.out 1; have hfz5_2 := blk_frozen BK123.out 2; have hfz5_3 := blk_frozen BK123.out 3)); try go_wp2_with (first | ((with_reducible refine gate_dst (N := 2) rfl ?_); refine box_event ?hg (N := 2) ?hd (cs := #[.bool a0_0, .bool a0_1, .bool a0_2, .bool a0_3]) (t := 37) ?hr ?_; (case hd => rfl); (case hg => rfl); (case hr => first | (go_simp; done) | (go_simp; rfl)); intro gb123 hg w4 hbox hb; have n0_ := Aside0.mk (below_step (by repeat (first | (with_reducible first | exact HB.out | apply below_alloc | apply pw_below_drewN | apply below_drew1) | exact HB.out)) hb); have n1_ := Aside0.mk (hbox); have n2_ := Aside0.mk ((by rw [hg]; exact (below_size (by repeat (first | (with_reducible first | exact HB.out | apply below_alloc | apply pw_below_drewN | apply below_drew1) | exact HB.out))) : w.heap.size ≤ gb123)); have n3_ := Aside0.mk ((by rw [hg]; exact (below_size (by repeat (first | (with_reducible first | exact HB.out | apply below_alloc | apply pw_below_drewN | apply below_drew1) | exact HB.out))) : w.heap.size ≤ gb123)); clear HB; have HB := n0_; have BK123 := n1_; have GW123 := n2_; have GE123 := n3_; clear n0_ n1_ n2_ n3_; clear hb hbox hg; have hcz5_0 : w4.cell? ⟨gb123, 0, none⟩ = some (.bool a0_0) := (blk_cell BK123.out 0).trans rfl; have hcz5_1 : w4.cell? ⟨gb123, 1, none⟩ = some (.bool a0_1) := (blk_cell BK123.out 1).trans rfl; have hcz5_2 : w4.cell? ⟨gb123, 2, none⟩ = some (.bool a0_2) := (blk_cell BK123.out 2).trans rfl; have hcz5_3 : w4.cell? ⟨gb123, 3, none⟩ = some (.bool a0_3) := (blk_cell BK123.out 3).trans rfl; have hfz5_0 := blk_frozen BK123.out 0; have hfz5_1 := blk_frozen BK123.out 1; have hfz5_2 := blk_frozen BK123.out 2; have hfz5_3 := blk_frozen BK123.out 3)))
      go_ret2
      exact ⟨by first | rfl | (simp [errW_none, errW_some] <;> rfl) | (simp [*, errW_none, errW_some] <;> rfl), by repeat (first | (with_reducible first | exact HB.out | apply below_alloc | apply pw_below_drewN | apply below_drew1 | refine below_set ?_ GE123.out) | exact HB.out)⟩
  · replace c3 := Bool.eq_false_iff.mpr c3
    subst c3
    have H1 : (some (a0_2, a0_3)) = some (r1, r2) := by rw [if_neg (show ¬ (false = true) by decide)] at H; exact H
    clear H
    have H := H1
    clear H1
    as_aux_lemma =>
      simp only [Option.some.injEq, Prod.mk.injEq] at H
      obtain ⟨rfl, rfl⟩ := H
      go_enter Tryd.func23, Tryd.ntmps23
      go_wp2_with (first | ((with_reducible refine gate_dst (N := 2) rfl ?_); refine box_event ?hg (N := 2) ?hd (cs := #[.bool a0_0, .bool a0_1, .bool a0_2, .bool a0_3]) (t := 37) ?hr ?_; (case hd => rfl); (case hg => rfl); (case hr => first | (go_simp; done) | (go_simp; rfl)); intro gb123 hg w6 hbox hb; have n0_ := Aside0.mk (below_step (by repeat (first | (with_reducible first | exact HB.out | apply below_alloc | apply pw_below_drewN | apply below_drew1) | exact HB.out)) hb); have n1_ := Aside0.mk (hbox); have n2_ := Aside0.mk ((by rw [hg]; exact (below_size (by repeat (first | (with_reducible first | exact HB.out | apply below_alloc | apply pw_below_drewN | apply below_drew1) | exact HB.out))) : w.heap.size ≤ gb123)); have n3_ := Aside0.mk ((by rw [hg]; exact (below_size (by repeat (first | (with_reducible first | exact HB.out | apply below_alloc | apply pw_below_drewN | apply below_drew1) | exact HB.out))) : w.heap.size ≤ gb123)); clear HB; have HB := n0_; have BK123 := n1_; have GW123 := n2_; have GE123 := n3_; clear n0_ n1_ n2_ n3_; clear hb hbox hg; have hcz7_0 : w6.cell? ⟨gb123, 0, none⟩ = some (.bool a0_0) := (blk_cell BK123.out 0).trans rfl; have hcz7_1 : w6.cell? ⟨gb123, 1, none⟩ = some (.bool a0_1) := (blk_cell BK123.out 1).trans rfl; have hcz7_2 : w6.cell? ⟨gb123, 2, none⟩ = some (.bool a0_2) := (blk_cell BK123.out 2).trans rfl; have hcz7_3 : w6.cell? ⟨gb123, 3, none⟩ = some (.bool a0_3) := (blk_cell BK123.out 3).trans rfl; have hfz7_0 := blk_frozen BK123.out 0; have hfz7_1 := blk_frozen BK123.out 1; have hfz7_2 := blk_frozen BK123.out 2; have hfz7_3 := blk_frozen BK123.out 3))
      repeat (go_quiet (first | ((with_reducible refine gate_dst (N := 2) rfl ?_); refine box_event ?hg (N := 2) ?hd (cs := #[.bool a0_0, .bool a0_1, .bool a0_2, .bool a0_3]) (t := 37) ?hr ?_; (case hd => rfl); (case hg => rfl); (case hr => first | (go_simp; done) | (go_simp; rfl)); intro gb123 hg w6 hbox hb; have n0_ := Aside0.mk (below_step (by repeat (first | (with_reducible first | exact HB.out | apply below_alloc | apply pw_below_drewN | apply below_drew1) | exact HB.out)) hb); have n1_ := Aside0.mk (hbox); have n2_ := Aside0.mk ((by rw [hg]; exact (below_size (by repeat (first | (with_reducible first | exact HB.out | apply below_alloc | apply pw_below_drewN | apply below_drew1) | exact HB.out))) : w.heap.size ≤ gb123)); have n3_ := Aside0.mk ((by rw [hg]; exact (below_size (by repeat (first | (with_reducible first | exact HB.out | apply below_alloc | apply pw_below_drewN | apply below_drew1) | exact HB.out))) : w.heap.size ≤ gb123)); clear HB; have HB := n0_; have BK123 := n1_; have GW123 := n2_; have GE123 := n3_; clear n0_ n1_ n2_ n3_; clear hb hbox hg; have hcz7_0 : w6.cell? ⟨gb123, 0, none⟩ = some (.bool a0_0) := (blk_cell BK123.out 0).trans rfl; have hcz7_1 : w6.cell? ⟨gb123, 1, none⟩ = some (.bool a0_1) := (blk_cell BK123.out 1).trans rfl; have hcz7_2 : w6.cell? ⟨gb123, 2, none⟩ = some (.bool a0_2) := (blk_cell BK123.out 2).trans rfl; have hcz7_3 : w6.cell? ⟨gb123, 3, none⟩ = some (.bool a0_3) := (blk_cell BK123.out 3).trans rfl; have hfz7_0 := blk_frozen BK123.out 0; have hfz7_1 := blk_frozen BK123.out 1; have hfz7_2 := blk_frozen BK123.out 2; have hfz7_3 := blk_frozen BK123.out 3)); try go_wp2_with (first | ((with_reducible refine gate_dst (N := 2) rfl ?_); refine box_event ?hg (N := 2) ?hd (cs := #[.bool a0_0, .bool a0_1, .bool a0_2, .bool a0_3]) (t := 37) ?hr ?_; (case hd => rfl); (case hg => rfl); (case hr => first | (go_simp; done) | (go_simp; rfl)); intro gb123 hg w6 hbox hb; have n0_ := Aside0.mk (below_step (by repeat (first | (with_reducible first | exact HB.out | apply below_alloc | apply pw_below_drewN | apply below_drew1) | exact HB.out)) hb); have n1_ := Aside0.mk (hbox); have n2_ := Aside0.mk ((by rw [hg]; exact (below_size (by repeat (first | (with_reducible first | exact HB.out | apply below_alloc | apply pw_below_drewN | apply below_drew1) | exact HB.out))) : w.heap.size ≤ gb123)); have n3_ := Aside0.mk ((by rw [hg]; exact (below_size (by repeat (first | (with_reducible first | exact HB.out | apply below_alloc | apply pw_below_drewN | apply below_drew1) | exact HB.out))) : w.heap.size ≤ gb123)); clear HB; have HB := n0_; have BK123 := n1_; have GW123 := n2_; have GE123 := n3_; clear n0_ n1_ n2_ n3_; clear hb hbox hg; have hcz7_0 : w6.cell? ⟨gb123, 0, none⟩ = some (.bool a0_0) := (blk_cell BK123.out 0).trans rfl; have hcz7_1 : w6.cell? ⟨gb123, 1, none⟩ = some (.bool a0_1) := (blk_cell BK123.out 1).trans rfl; have hcz7_2 : w6.cell? ⟨gb123, 2, none⟩ = some (.bool a0_2) := (blk_cell BK123.out 2).trans rfl; have hcz7_3 : w6.cell? ⟨gb123, 3, none⟩ = some (.bool a0_3) := (blk_cell BK123.out 3).trans rfl; have hfz7_0 := blk_frozen BK123.out 0; have hfz7_1 := blk_frozen BK123.out 1; have hfz7_2 := blk_frozen BK123.out 2; have hfz7_3 := blk_frozen BK123.out 3)))
      go_ret2
      exact ⟨by first | rfl | (simp [errW_none, errW_some] <;> rfl) | (simp [*, errW_none, errW_some] <;> rfl), by repeat (first | (with_reducible first | exact HB.out | apply below_alloc | apply pw_below_drewN | apply below_drew1 | refine below_set ?_ GE123.out) | exact HB.out)⟩

/-! ### heraldlaw10_Book_fine: function 14 -/
mutual
def heraldlaw10_Book_fine.j0 : Nat → Bool → Bool → Int → Bool → Bool → Bool → Bool → Bool → Bool → Int → Option (Bool)
  | 0, _, _, _, _, _, _, _, _, _, _ => none
  | k + 1, x5, x6, x15, x16, x125000, x125001, x125002, x125003, x126000, x126001 => if x16 = true then (if x125000 = true then (some x5) else (some true)) else (if x15 = 3 then (heraldlaw10_Book_fine.j1 k x5 x6 x15 (x15 == 3) x125000 x125001 x125002 x125003 x126000 x126001) else (heraldlaw10_Book_fine.j1 k x5 x6 x15 (x15 == 4) x125000 x125001 x125002 x125003 x126000 x126001))
def heraldlaw10_Book_fine.j1 : Nat → Bool → Bool → Int → Bool → Bool → Bool → Bool → Bool → Bool → Int → Option (Bool)
  | 0, _, _, _, _, _, _, _, _, _, _ => none
  | k + 1, x5, x6, x15, x25, x125000, x125001, x125002, x125003, x126000, x126001 => if x25 = true then (if x125000 = true then (if x5 = true then (some x125001) else (some false)) else (some false)) else (if x15 = 5 then (some (!x125000)) else (if x15 = 6 then (if x125000 = true then ((heraldlaw10_Book_over.f x125000 x125001 x125002 x125003).bind fun t128 => (some (!t128))) else (some false)) else (if x15 = 7 then (if x125000 = true then ((heraldlaw10_Book_over.f x125000 x125001 x125002 x125003).bind fun t129 => (if t129 = true then (some false) else (if x125001 = true then (some true) else (some x6)))) else (some false)) else (if x15 = 8 then (if x126000 = true then ((heraldlaw10_Book_over.f x125000 x125001 x125002 x125003).bind fun t130 => (some (!t130))) else (some true)) else (some false)))))
end
def heraldlaw10_Book_fine.f (k : Nat) (a0_0 : Bool) (a0_1 : Bool) (a0_2 : Bool) (a0_3 : Bool) (a1_0 : Bool) (a1_1 : Int) : Option (Bool) := (heraldlaw10_Book_right.f a0_0 a0_1 a0_2 a0_3 a1_0).bind fun bt126 => (if a1_1 = 1 then (heraldlaw10_Book_fine.j0 k bt126.1 bt126.2 a1_1 (a1_1 == 1) a0_0 a0_1 a0_2 a0_3 a1_0 a1_1) else (heraldlaw10_Book_fine.j0 k bt126.1 bt126.2 a1_1 (a1_1 == 2) a0_0 a0_1 a0_2 a0_3 a1_0 a1_1))
theorem heraldlaw10_Book_fine.mono_l : ∀ k, (∀ y0 y1 y2 y3 y4 y5 y6 y7 y8 y9, LeO (heraldlaw10_Book_fine.j0 k y0 y1 y2 y3 y4 y5 y6 y7 y8 y9) (heraldlaw10_Book_fine.j0 (k + 1) y0 y1 y2 y3 y4 y5 y6 y7 y8 y9)) ∧ (∀ y0 y1 y2 y3 y4 y5 y6 y7 y8 y9, LeO (heraldlaw10_Book_fine.j1 k y0 y1 y2 y3 y4 y5 y6 y7 y8 y9) (heraldlaw10_Book_fine.j1 (k + 1) y0 y1 y2 y3 y4 y5 y6 y7 y8 y9))
  | 0 => ⟨fun _ _ _ _ _ _ _ _ _ _ r h => by simp [heraldlaw10_Book_fine.j0] at h, fun _ _ _ _ _ _ _ _ _ _ r h => by simp [heraldlaw10_Book_fine.j1] at h⟩
  | k + 1 => by
    obtain ⟨ih0, ih1⟩ := heraldlaw10_Book_fine.mono_l k
    refine ⟨?_, ?_⟩
    · intro y0 y1 y2 y3 y4 y5 y6 y7 y8 y9
      unfold heraldlaw10_Book_fine.j0
      repeat' first
      | (with_reducible exact ih0 _ _ _ _ _ _ _ _ _ _)
      | (with_reducible exact ih1 _ _ _ _ _ _ _ _ _ _)
      | (with_reducible exact LeO.refl _)
      | (with_reducible exact LeO.none _)
      | (with_reducible refine LeO.ite ?_ ?_)
      | (with_reducible refine LeO.bind ?_ (fun _ => ?_))
      | exact ih0 _ _ _ _ _ _ _ _ _ _
      | exact ih1 _ _ _ _ _ _ _ _ _ _
      | exact LeO.none _
      | refine LeO.ite ?_ ?_
      | refine LeO.bind ?_ (fun _ => ?_)
    · intro y0 y1 y2 y3 y4 y5 y6 y7 y8 y9
      unfold heraldlaw10_Book_fine.j1
      repeat' first
      | (with_reducible exact ih0 _ _ _ _ _ _ _ _ _ _)
      | (with_reducible exact ih1 _ _ _ _ _ _ _ _ _ _)
      | (with_reducible exact LeO.refl _)
      | (with_reducible exact LeO.none _)
      | (with_reducible refine LeO.ite ?_ ?_)
      | (with_reducible refine LeO.bind ?_ (fun _ => ?_))
      | exact ih0 _ _ _ _ _ _ _ _ _ _
      | exact ih1 _ _ _ _ _ _ _ _ _ _
      | exact LeO.none _
      | refine LeO.ite ?_ ?_
      | refine LeO.bind ?_ (fun _ => ?_)
theorem heraldlaw10_Book_fine.mono : ∀ a0 a1 a2 a3 a4 a5 k, LeO (heraldlaw10_Book_fine.f k a0 a1 a2 a3 a4 a5) (heraldlaw10_Book_fine.f (k + 1) a0 a1 a2 a3 a4 a5) := by
  intro a0 a1 a2 a3 a4 a5 k
  obtain ⟨ih0, ih1⟩ := heraldlaw10_Book_fine.mono_l k
  unfold heraldlaw10_Book_fine.f
  repeat' first
      | (with_reducible exact ih0 _ _ _ _ _ _ _ _ _ _)
      | (with_reducible exact ih1 _ _ _ _ _ _ _ _ _ _)
      | (with_reducible exact LeO.refl _)
      | (with_reducible exact LeO.none _)
      | (with_reducible refine LeO.ite ?_ ?_)
      | (with_reducible refine LeO.bind ?_ (fun _ => ?_))
      | exact ih0 _ _ _ _ _ _ _ _ _ _
      | exact ih1 _ _ _ _ _ _ _ _ _ _
      | exact LeO.none _
      | refine LeO.ite ?_ ?_
      | refine LeO.bind ?_ (fun _ => ?_)
set_option maxHeartbeats 8000000 in
set_option maxRecDepth 100000 in
theorem heraldlaw10_Book_fine.calls (k : Nat) (a0_0 : Bool) (a0_1 : Bool) (a0_2 : Bool) (a0_3 : Bool) (a1_0 : Bool) (a1_1 : Int) (r : Bool) (w : World) (h : heraldlaw10_Book_fine.f k a0_0 a0_1 a0_2 a0_3 a1_0 a1_1 = some r) :
    Calls Tryd.prog 14 #[.agg #[.bool a0_0, .bool a0_1, .bool a0_2, .bool a0_3], .agg #[.bool a1_0, .int .i64 a1_1]] w fun e w' => e = .returned (.bool r) ∧ Below w.heap.size w w' := by
  have hu37 := Tryd.underlying37
  have hu28 := Tryd.underlying28
  have HB := Aside0.mk (Below.refl w.heap.size w)
  have H : ((heraldlaw10_Book_right.f a0_0 a0_1 a0_2 a0_3 a1_0).bind fun bt126 => (if a1_1 = 1 then (heraldlaw10_Book_fine.j0 k bt126.1 bt126.2 a1_1 (a1_1 == 1) a0_0 a0_1 a0_2 a0_3 a1_0 a1_1) else (heraldlaw10_Book_fine.j0 k bt126.1 bt126.2 a1_1 (a1_1 == 2) a0_0 a0_1 a0_2 a0_3 a1_0 a1_1))) = some r := h
  clear h
  replace H := Option.bind_eq_some_iff.mp H
  obtain ⟨⟨t126, t127⟩, A30, H⟩ := H
  replace H : (if a1_1 = 1 then (heraldlaw10_Book_fine.j0 k t126 t127 a1_1 (a1_1 == 1) a0_0 a0_1 a0_2 a0_3 a1_0 a1_1) else (heraldlaw10_Book_fine.j0 k t126 t127 a1_1 (a1_1 == 2) a0_0 a0_1 a0_2 a0_3 a1_0 a1_1)) = some r := H
  have A3 := Aside0.mk A30
  clear A30
  have HC4 := Aside0.mk H
  clear H
  go_enter Tryd.func14, Tryd.ntmps14
  go_upto_if 16 with (first | ((with_reducible refine gate_dst (N := 2) rfl ?_); refine box_event ?hg (N := 2) ?hd (cs := #[.bool a0_0, .bool a0_1, .bool a0_2, .bool a0_3]) (t := 37) ?hr ?_; (case hd => rfl); (case hg => rfl); (case hr => first | (go_simp; done) | (go_simp; rfl)); intro gb124 hg w5 hbox hb; have n0_ := Aside0.mk (below_step (by repeat (first | (with_reducible first | exact HB.out | apply below_alloc | apply pw_below_drewN | apply below_drew1) | exact HB.out)) hb); have n1_ := Aside0.mk (hbox); have n2_ := Aside0.mk ((by rw [hg]; exact (below_size (by repeat (first | (with_reducible first | exact HB.out | apply below_alloc | apply pw_below_drewN | apply below_drew1) | exact HB.out))) : w.heap.size ≤ gb124)); have n3_ := Aside0.mk ((by rw [hg]; exact (below_size (by repeat (first | (with_reducible first | exact HB.out | apply below_alloc | apply pw_below_drewN | apply below_drew1) | exact HB.out))) : w.heap.size ≤ gb124)); clear HB; have HB := n0_; have BK124 := n1_; have GW124 := n2_; have GE124 := n3_; clear n0_ n1_ n2_ n3_; clear hb hbox hg) | ((with_reducible refine gate_dst (N := 3) rfl ?_); refine box_event ?hg (N := 3) ?hd (cs := #[.bool a1_0, .int .i64 a1_1]) (t := 28) ?hr ?_; (case hd => rfl); (case hg => rfl); (case hr => first | (go_simp; done) | (go_simp; rfl)); intro gb125 hg w6 hbox hb; have n0_ := Aside0.mk (blk_below (g := gb124) (o := .cells #[.bool a0_0, .bool a0_1, .bool a0_2, .bool a0_3] 37 (0, 0)) (by (with_reducible repeat (first | refine blk_drewN ?_ _ | refine blk_drew ?_ | refine blk_alloc ?_ _)); exact BK124.out) hb); have n1_ := Aside0.mk (below_step (by repeat (first | (with_reducible first | exact HB.out | apply below_alloc | apply pw_below_drewN | apply below_drew1 | refine below_set ?_ GE124.out) | exact HB.out)) hb); have n2_ := Aside0.mk (hbox); have n3_ := Aside0.mk ((by rw [hg]; exact (below_size (by repeat (first | (with_reducible first | exact HB.out | apply below_alloc | apply pw_below_drewN | apply below_drew1 | refine below_set ?_ GE124.out) | exact HB.out))) : w.heap.size ≤ gb125)); have n4_ := Aside0.mk ((by rw [hg]; exact (below_size (by repeat (first | (with_reducible first | exact HB.out | apply below_alloc | apply pw_below_drewN | apply below_drew1 | refine below_set ?_ GE124.out) | exact HB.out))) : w.heap.size ≤ gb125)); have n5_ := Aside0.mk ((by rw [hg]; exact Nat.ne_of_lt (blk_lt (g := gb124) (o := .cells #[.bool a0_0, .bool a0_1, .bool a0_2, .bool a0_3] 37 (0, 0)) (by (with_reducible repeat (first | refine blk_drewN ?_ _ | refine blk_drew ?_ | refine blk_alloc ?_ _)); exact BK124.out)) : gb124 ≠ gb125)); have n6_ := Aside0.mk ((by rw [hg]; exact Nat.ne_of_gt (blk_lt (g := gb124) (o := .cells #[.bool a0_0, .bool a0_1, .bool a0_2, .bool a0_3] 37 (0, 0)) (by (with_reducible repeat (first | refine blk_drewN ?_ _ | refine blk_drew ?_ | refine blk_alloc ?_ _)); exact BK124.out)) : gb125 ≠ gb124)); clear BK124; clear HB; have BK124 := n0_; have HB := n1_; have BK125 := n2_; have GW125 := n3_; have GE125 := n4_; have NB124_125 := n5_; have NB125_124 := n6_; clear n0_ n1_ n2_ n3_ n4_ n5_ n6_; clear hb hbox hg; have hnb7 := NB124_125.out; have hnc7 := NB125_124.out; have hcz8_0 : w6.cell? ⟨gb124, 0, none⟩ = some (.bool a0_0) := (blk_cell BK124.out 0).trans rfl; have hcz8_1 : w6.cell? ⟨gb124, 1, none⟩ = some (.bool a0_1) := (blk_cell BK124.out 1).trans rfl; have hcz8_2 : w6.cell? ⟨gb124, 2, none⟩ = some (.bool a0_2) := (blk_cell BK124.out 2).trans rfl; have hcz8_3 : w6.cell? ⟨gb124, 3, none⟩ = some (.bool a0_3) := (blk_cell BK124.out 3).trans rfl; have hfz8_0 := blk_frozen BK124.out 0; have hfz8_1 := blk_frozen BK124.out 1; have hfz8_2 := blk_frozen BK124.out 2; have hfz8_3 := blk_frozen BK124.out 3; have hcz9_0 : w6.cell? ⟨gb125, 0, none⟩ = some (.bool a1_0) := (blk_cell BK125.out 0).trans rfl; have hcz9_1 : w6.cell? ⟨gb125, 1, none⟩ = some (.int .i64 a1_1) := (blk_cell BK125.out 1).trans rfl; have hfz9_0 := blk_frozen BK125.out 0; have hfz9_1 := blk_frozen BK125.out 1) | ((with_reducible refine gate_callee (f := 23) rfl ?_); refine goesL_ (some 11) rfl rfl Tryd.func23 (by kernel_rfl) rfl #[.agg #[.bool a0_0, .bool a0_1, .bool a0_2, .bool a0_3], .bool a1_0] rfl (by (try simp only [List.map_toArray, List.map_cons, List.map_nil]); first | done | rfl | (simp only [List.length_drop, List.length_take]; rfl)) ?_; (with_reducible refine (heraldlaw10_Book_right.calls a0_0 a0_1 a0_2 a0_3 a1_0 t126 t127 _ A3.out).mono ?_); rintro e w10 ⟨rfl, hb⟩; refine ⟨_, rfl, ?_⟩; have n0_ := Aside0.mk (blk_below (g := gb124) (o := .cells #[.bool a0_0, .bool a0_1, .bool a0_2, .bool a0_3] 37 (0, 0)) (by (with_reducible repeat (first | refine blk_drewN ?_ _ | refine blk_drew ?_ | refine blk_alloc ?_ _)); exact BK124.out) hb); have n1_ := Aside0.mk (blk_below (g := gb125) (o := .cells #[.bool a1_0, .int .i64 a1_1] 28 (0, 0)) (by (with_reducible repeat (first | refine blk_drewN ?_ _ | refine blk_drew ?_ | refine blk_alloc ?_ _)); exact BK125.out) hb); have n2_ := Aside0.mk (below_step (by repeat (first | (with_reducible first | exact HB.out | apply below_alloc | apply pw_below_drewN | apply below_drew1 | refine below_set ?_ GE124.out | refine below_set ?_ GE125.out) | exact HB.out)) hb); clear BK124; clear BK125; clear HB; have BK124 := n0_; have BK125 := n1_; have HB := n2_; clear n0_ n1_ n2_; (try clear hb); (try clear hb2); (try clear hk); (try clear hi); have hcz11_0 : w10.cell? ⟨gb125, 0, none⟩ = some (.bool a1_0) := (blk_cell BK125.out 0).trans rfl; have hcz11_1 : w10.cell? ⟨gb125, 1, none⟩ = some (.int .i64 a1_1) := (blk_cell BK125.out 1).trans rfl; have hfz11_0 := blk_frozen BK125.out 0; have hfz11_1 := blk_frozen BK125.out 1))
  (try simp only [Act.put, List.setIfInBounds_toArray, List.set_cons_zero, List.set_cons_succ])
  go_cut [16] (fun v16 wc => ∃ (kq : Nat) (x16_3 : Bool), v16 = .bool x16_3 ∧ Aside0 (heraldlaw10_Book_fine.j0 kq t126 t127 a1_1 x16_3 a0_0 a0_1 a0_2 a0_3 a1_0 a1_1 = some r) ∧ Aside0 (kq ≤ k) ∧ Aside0 (wc.heap[gb124]? = some (.cells #[.bool a0_0, .bool a0_1, .bool a0_2, .bool a0_3] 37 (0, 0))) ∧ Aside0 (wc.heap[gb125]? = some (.cells #[.bool a1_0, .int .i64 a1_1] 28 (0, 0))) ∧ Aside0 (Below w.heap.size w wc))
  case first =>
    have H := HC4.out
    clear HC4
    by_cases c12 : a1_1 = 1
    · rw [if_pos c12] at H
      have c12b0 : (a1_1 == 1) = true := beq_iff_eq.mpr c12
      have c12b1 : (a1_1 != 1) = false := bne_eq_false_iff_eq.mpr c12
      clear c12
      (first | rw [c12b0] | (simp only [i64_w, i32_w]; rw [c12b0]) | skip)
      as_aux_lemma =>
        have H' := Aside0.mk H
        clear H
        go_wp2
        go_meet
        case rel => exact ⟨_, ((a1_1 == 1)), (by first | rfl | (simp; done) | (simp [*]; done)), H', ⟨by first | omega | exact Nat.le_refl _⟩, ⟨by (with_reducible repeat (first | refine blk_drewN ?_ _ | refine blk_drew ?_ | refine blk_alloc ?_ _)); exact BK124.out⟩, ⟨by (with_reducible repeat (first | refine blk_drewN ?_ _ | refine blk_drew ?_ | refine blk_alloc ?_ _)); exact BK125.out⟩, ⟨by repeat (first | (with_reducible first | exact HB.out | apply below_alloc | apply pw_below_drewN | apply below_drew1 | refine below_set ?_ GE124.out | refine below_set ?_ GE125.out) | exact HB.out)⟩⟩
    · rw [if_neg c12] at H
      have c12b0 : (a1_1 == 1) = false := beq_eq_false_iff_ne.mpr c12
      have c12b1 : (a1_1 != 1) = true := bne_iff_ne.mpr c12
      (first | rw [c12b0] | (simp only [i64_w, i32_w]; rw [c12b0]) | skip)
      as_aux_lemma =>
        have H' := Aside0.mk H
        clear H
        go_wp2
        go_meet
        case rel => exact ⟨_, ((a1_1 == 2)), (by first | rfl | (simp; done) | (simp [*]; done)), H', ⟨by first | omega | exact Nat.le_refl _⟩, ⟨by (with_reducible repeat (first | refine blk_drewN ?_ _ | refine blk_drew ?_ | refine blk_alloc ?_ _)); exact BK124.out⟩, ⟨by (with_reducible repeat (first | refine blk_drewN ?_ _ | refine blk_drew ?_ | refine blk_alloc ?_ _)); exact BK125.out⟩, ⟨by repeat (first | (with_reducible first | exact HB.out | apply below_alloc | apply pw_below_drewN | apply below_drew1 | refine below_set ?_ GE124.out | refine below_set ?_ GE125.out) | exact HB.out)⟩⟩
  case rest =>
    clear HC4
    try clear c1
    try clear c2
    try clear p2
    try clear c7
    try clear c12
    try clear c12b0
    try clear c12b1
    try clear hcz11_0
    try clear hcz11_1
    try clear hcz8_0
    try clear hcz8_1
    try clear hcz8_2
    try clear hcz8_3
    try clear hcz9_0
    try clear hcz9_1
    try clear hfz11_0
    try clear hfz11_1
    try clear hfz8_0
    try clear hfz8_1
    try clear hfz8_2
    try clear hfz8_3
    try clear hfz9_0
    try clear hfz9_1
    obtain ⟨kq, x16_3, rfl, HA, HJ3, BK124, BK125, HB⟩ := hcut
    cases kq with
    | zero => exact absurd HA.out (by simp [heraldlaw10_Book_fine.j0])
    | succ kj3 =>
      have H := HA.out
      clear HA
      simp only [heraldlaw10_Book_fine.j0] at H
      by_cases c13 : x16_3 = true
      · subst c13
        have H1 : (if a0_0 = true then (some t126) else (some true)) = some r := by rw [if_pos rfl] at H; exact H
        clear H
        have H := H1
        clear H1
        by_cases c14 : a0_0 = true
        · subst c14
          have H1 : (some t126) = some r := by rw [if_pos rfl] at H; exact H
          clear H
          have H := H1
          clear H1
          as_aux_lemma =>
            obtain rfl := Option.some.inj H
            have hnb15 := NB124_125.out
            have hnc15 := NB125_124.out
            have hcz16_0 : wc.cell? ⟨gb124, 0, none⟩ = some (.bool true) := (blk_cell BK124.out 0).trans rfl
            have hcz16_1 : wc.cell? ⟨gb124, 1, none⟩ = some (.bool a0_1) := (blk_cell BK124.out 1).trans rfl
            have hcz16_2 : wc.cell? ⟨gb124, 2, none⟩ = some (.bool a0_2) := (blk_cell BK124.out 2).trans rfl
            have hcz16_3 : wc.cell? ⟨gb124, 3, none⟩ = some (.bool a0_3) := (blk_cell BK124.out 3).trans rfl
            have hfz16_0 := blk_frozen BK124.out 0
            have hfz16_1 := blk_frozen BK124.out 1
            have hfz16_2 := blk_frozen BK124.out 2
            have hfz16_3 := blk_frozen BK124.out 3
            go_wp2
            go_ret
            exact ⟨by first | rfl | (simp [errW_none, errW_some] <;> rfl) | (simp [*, errW_none, errW_some] <;> rfl), by repeat (first | (with_reducible first | exact HB.out | apply below_alloc | apply pw_below_drewN | apply below_drew1 | refine below_set ?_ GE124.out | refine below_set ?_ GE125.out) | exact HB.out)⟩
        · replace c14 := Bool.eq_false_iff.mpr c14
          subst c14
          have H1 : (some true) = some r := by rw [if_neg (show ¬ (false = true) by decide)] at H; exact H
          clear H
          have H := H1
          clear H1
          as_aux_lemma =>
            obtain rfl := Option.some.inj H
            have hnb17 := NB124_125.out
            have hnc17 := NB125_124.out
            have hcz18_0 : wc.cell? ⟨gb124, 0, none⟩ = some (.bool false) := (blk_cell BK124.out 0).trans rfl
            have hcz18_1 : wc.cell? ⟨gb124, 1, none⟩ = some (.bool a0_1) := (blk_cell BK124.out 1).trans rfl
            have hcz18_2 : wc.cell? ⟨gb124, 2, none⟩ = some (.bool a0_2) := (blk_cell BK124.out 2).trans rfl
            have hcz18_3 : wc.cell? ⟨gb124, 3, none⟩ = some (.bool a0_3) := (blk_cell BK124.out 3).trans rfl
            have hfz18_0 := blk_frozen BK124.out 0
            have hfz18_1 := blk_frozen BK124.out 1
            have hfz18_2 := blk_frozen BK124.out 2
            have hfz18_3 := blk_frozen BK124.out 3
            go_wp2
            go_ret
            exact ⟨by first | rfl | (simp [errW_none, errW_some] <;> rfl) | (simp [*, errW_none, errW_some] <;> rfl), by repeat (first | (with_reducible first | exact HB.out | apply below_alloc | apply pw_below_drewN | apply below_drew1 | refine below_set ?_ GE124.out | refine below_set ?_ GE125.out) | exact HB.out)⟩
      · replace c13 := Bool.eq_false_iff.mpr c13
        subst c13
        have H1 : (if a1_1 = 3 then (heraldlaw10_Book_fine.j1 kj3 t126 t127 a1_1 (a1_1 == 3) a0_0 a0_1 a0_2 a0_3 a1_0 a1_1) else (heraldlaw10_Book_fine.j1 kj3 t126 t127 a1_1 (a1_1 == 4) a0_0 a0_1 a0_2 a0_3 a1_0 a1_1)) = some r := by rw [if_neg (show ¬ (false = true) by decide)] at H; exact H
        clear H
        have H := H1
        clear H1
        have HC19 := Aside0.mk H
        clear H
        go_upto_if 25 with (fail)
        go_cut [25] (fun v25 wc => ∃ (kq : Nat) (x25_18 : Bool), v25 = .bool x25_18 ∧ Aside0 (heraldlaw10_Book_fine.j1 kq t126 t127 a1_1 x25_18 a0_0 a0_1 a0_2 a0_3 a1_0 a1_1 = some r) ∧ Aside0 (kq ≤ kj3) ∧ Aside0 (wc.heap[gb124]? = some (.cells #[.bool a0_0, .bool a0_1, .bool a0_2, .bool a0_3] 37 (0, 0))) ∧ Aside0 (wc.heap[gb125]? = some (.cells #[.bool a1_0, .int .i64 a1_1] 28 (0, 0))) ∧ Aside0 (Below w.heap.size w wc))
        case first =>
          have H := HC19.out
          clear HC19
          by_cases c20 : a1_1 = 3
          · rw [if_pos c20] at H
            have c20b0 : (a1_1 == 3) = true := beq_iff_eq.mpr c20
            have c20b1 : (a1_1 != 3) = false := bne_eq_false_iff_eq.mpr c20
            clear c20
            (first | rw [c20b0] | (simp only [i64_w, i32_w]; rw [c20b0]) | skip)
            as_aux_lemma =>
              have H' := Aside0.mk H
              clear H
              go_wp2
              go_meet
              case rel => exact ⟨_, ((a1_1 == 3)), (by first | rfl | (simp; done) | (simp [*]; done)), H', ⟨by have := HJ3.out; first | omega | exact Nat.le_refl _⟩, ⟨by (with_reducible repeat (first | refine blk_drewN ?_ _ | refine blk_drew ?_ | refine blk_alloc ?_ _)); exact BK124.out⟩, ⟨by (with_reducible repeat (first | refine blk_drewN ?_ _ | refine blk_drew ?_ | refine blk_alloc ?_ _)); exact BK125.out⟩, ⟨by repeat (first | (with_reducible first | exact HB.out | apply below_alloc | apply pw_below_drewN | apply below_drew1 | refine below_set ?_ GE124.out | refine below_set ?_ GE125.out) | exact HB.out)⟩⟩
          · rw [if_neg c20] at H
            have c20b0 : (a1_1 == 3) = false := beq_eq_false_iff_ne.mpr c20
            have c20b1 : (a1_1 != 3) = true := bne_iff_ne.mpr c20
            (first | rw [c20b0] | (simp only [i64_w, i32_w]; rw [c20b0]) | skip)
            as_aux_lemma =>
              have H' := Aside0.mk H
              clear H
              go_wp2
              go_meet
              case rel => exact ⟨_, ((a1_1 == 4)), (by first | rfl | (simp; done) | (simp [*]; done)), H', ⟨by have := HJ3.out; first | omega | exact Nat.le_refl _⟩, ⟨by (with_reducible repeat (first | refine blk_drewN ?_ _ | refine blk_drew ?_ | refine blk_alloc ?_ _)); exact BK124.out⟩, ⟨by (with_reducible repeat (first | refine blk_drewN ?_ _ | refine blk_drew ?_ | refine blk_alloc ?_ _)); exact BK125.out⟩, ⟨by repeat (first | (with_reducible first | exact HB.out | apply below_alloc | apply pw_below_drewN | apply below_drew1 | refine below_set ?_ GE124.out | refine below_set ?_ GE125.out) | exact HB.out)⟩⟩
        case rest =>
          clear HC19
          try clear c1
          try clear c2
          try clear p2
          try clear c7
          try clear c12
          try clear c12b0
          try clear c12b1
          try clear c13
          try clear c14
          try clear c15
          try clear c17
          try clear c20
          try clear c20b0
          try clear c20b1
          try clear hcz11_0
          try clear hcz11_1
          try clear hcz16_0
          try clear hcz16_1
          try clear hcz16_2
          try clear hcz16_3
          try clear hcz18_0
          try clear hcz18_1
          try clear hcz18_2
          try clear hcz18_3
          try clear hcz8_0
          try clear hcz8_1
          try clear hcz8_2
          try clear hcz8_3
          try clear hcz9_0
          try clear hcz9_1
          try clear hfz11_0
          try clear hfz11_1
          try clear hfz16_0
          try clear hfz16_1
          try clear hfz16_2
          try clear hfz16_3
          try clear hfz18_0
          try clear hfz18_1
          try clear hfz18_2
          try clear hfz18_3
          try clear hfz8_0
          try clear hfz8_1
          try clear hfz8_2
          try clear hfz8_3
          try clear hfz9_0
          try clear hfz9_1
          try clear p2
          obtain ⟨kq, x25_18, rfl, HA, HJ18, BK124, BK125, HB⟩ := hcut
          cases kq with
          | zero => exact absurd HA.out (by simp [heraldlaw10_Book_fine.j1])
          | succ kj18 =>
            have H := HA.out
            clear HA
            simp only [heraldlaw10_Book_fine.j1] at H
            by_cases c21 : x25_18 = true
            · subst c21
              have H1 : (if a0_0 = true then (if t126 = true then (some a0_1) else (some false)) else (some false)) = some r := by rw [if_pos rfl] at H; exact H
              clear H
              have H := H1
              clear H1
              by_cases c22 : a0_0 = true
              · subst c22
                have H1 : (if t126 = true then (some a0_1) else (some false)) = some r := by rw [if_pos rfl] at H; exact H
                clear H
                have H := H1
                clear H1
                by_cases c23 : t126 = true
                · subst c23
                  have H1 : (some a0_1) = some r := by rw [if_pos rfl] at H; exact H
                  clear H
                  have H := H1
                  clear H1
                  as_aux_lemma =>
                    obtain rfl := Option.some.inj H
                    have hnb24 := NB124_125.out
                    have hnc24 := NB125_124.out
                    have hcz25_0 : wc.cell? ⟨gb124, 0, none⟩ = some (.bool true) := (blk_cell BK124.out 0).trans rfl
                    have hcz25_1 : wc.cell? ⟨gb124, 1, none⟩ = some (.bool a0_1) := (blk_cell BK124.out 1).trans rfl
                    have hcz25_2 : wc.cell? ⟨gb124, 2, none⟩ = some (.bool a0_2) := (blk_cell BK124.out 2).trans rfl
                    have hcz25_3 : wc.cell? ⟨gb124, 3, none⟩ = some (.bool a0_3) := (blk_cell BK124.out 3).trans rfl
                    have hfz25_0 := blk_frozen BK124.out 0
                    have hfz25_1 := blk_frozen BK124.out 1
                    have hfz25_2 := blk_frozen BK124.out 2
                    have hfz25_3 := blk_frozen BK124.out 3
                    go_wp2
                    go_ret
                    exact ⟨by first | rfl | (simp [errW_none, errW_some] <;> rfl) | (simp [*, errW_none, errW_some] <;> rfl), by repeat (first | (with_reducible first | exact HB.out | apply below_alloc | apply pw_below_drewN | apply below_drew1 | refine below_set ?_ GE124.out | refine below_set ?_ GE125.out) | exact HB.out)⟩
                · replace c23 := Bool.eq_false_iff.mpr c23
                  subst c23
                  have H1 : (some false) = some r := by rw [if_neg (show ¬ (false = true) by decide)] at H; exact H
                  clear H
                  have H := H1
                  clear H1
                  as_aux_lemma =>
                    obtain rfl := Option.some.inj H
                    have hnb26 := NB124_125.out
                    have hnc26 := NB125_124.out
                    have hcz27_0 : wc.cell? ⟨gb124, 0, none⟩ = some (.bool true) := (blk_cell BK124.out 0).trans rfl
                    have hcz27_1 : wc.cell? ⟨gb124, 1, none⟩ = some (.bool a0_1) := (blk_cell BK124.out 1).trans rfl
                    have hcz27_2 : wc.cell? ⟨gb124, 2, none⟩ = some (.bool a0_2) := (blk_cell BK124.out 2).trans rfl
                    have hcz27_3 : wc.cell? ⟨gb124, 3, none⟩ = some (.bool a0_3) := (blk_cell BK124.out 3).trans rfl
                    have hfz27_0 := blk_frozen BK124.out 0
                    have hfz27_1 := blk_frozen BK124.out 1
                    have hfz27_2 := blk_frozen BK124.out 2
                    have hfz27_3 := blk_frozen BK124.out 3
                    go_wp2
                    go_ret
                    exact ⟨by first | rfl | (simp [errW_none, errW_some] <;> rfl) | (simp [*, errW_none, errW_some] <;> rfl), by repeat (first | (with_reducible first | exact HB.out | apply below_alloc | apply pw_below_drewN | apply below_drew1 | refine below_set ?_ GE124.out | refine below_set ?_ GE125.out) | exact HB.out)⟩
              · replace c22 := Bool.eq_false_iff.mpr c22
                subst c22
                have H1 : (some false) = some r := by rw [if_neg (show ¬ (false = true) by decide)] at H; exact H
                clear H
                have H := H1
                clear H1
                as_aux_lemma =>
                  obtain rfl := Option.some.inj H
                  have hnb28 := NB124_125.out
                  have hnc28 := NB125_124.out
                  have hcz29_0 : wc.cell? ⟨gb124, 0, none⟩ = some (.bool false) := (blk_cell BK124.out 0).trans rfl
                  have hcz29_1 : wc.cell? ⟨gb124, 1, none⟩ = some (.bool a0_1) := (blk_cell BK124.out 1).trans rfl
                  have hcz29_2 : wc.cell? ⟨gb124, 2, none⟩ = some (.bool a0_2) := (blk_cell BK124.out 2).trans rfl
                  have hcz29_3 : wc.cell? ⟨gb124, 3, none⟩ = some (.bool a0_3) := (blk_cell BK124.out 3).trans rfl
                  have hfz29_0 := blk_frozen BK124.out 0
                  have hfz29_1 := blk_frozen BK124.out 1
                  have hfz29_2 := blk_frozen BK124.out 2
                  have hfz29_3 := blk_frozen BK124.out 3
                  go_wp2
                  go_ret
                  exact ⟨by first | rfl | (simp [errW_none, errW_some] <;> rfl) | (simp [*, errW_none, errW_some] <;> rfl), by repeat (first | (with_reducible first | exact HB.out | apply below_alloc | apply pw_below_drewN | apply below_drew1 | refine below_set ?_ GE124.out | refine below_set ?_ GE125.out) | exact HB.out)⟩
            · replace c21 := Bool.eq_false_iff.mpr c21
              subst c21
              have H1 : (if a1_1 = 5 then (some (!a0_0)) else (if a1_1 = 6 then (if a0_0 = true then ((heraldlaw10_Book_over.f a0_0 a0_1 a0_2 a0_3).bind fun t128 => (some (!t128))) else (some false)) else (if a1_1 = 7 then (if a0_0 = true then ((heraldlaw10_Book_over.f a0_0 a0_1 a0_2 a0_3).bind fun t129 => (if t129 = true then (some false) else (if a0_1 = true then (some true) else (some t127)))) else (some false)) else (if a1_1 = 8 then (if a1_0 = true then ((heraldlaw10_Book_over.f a0_0 a0_1 a0_2 a0_3).bind fun t130 => (some (!t130))) else (some true)) else (some false))))) = some r := by rw [if_neg (show ¬ (false = true) by decide)] at H; exact H
              clear H
              have H := H1
              clear H1
              by_cases c30 : a1_1 = 5
              · rw [if_pos c30] at H
                have c30b0 : (a1_1 == 5) = true := beq_iff_eq.mpr c30
                have c30b1 : (a1_1 != 5) = false := bne_eq_false_iff_eq.mpr c30
                clear c30
                as_aux_lemma =>
                  obtain rfl := Option.some.inj H
                  have hnb31 := NB124_125.out
                  have hnc31 := NB125_124.out
                  have hcz32_0 : wc.cell? ⟨gb124, 0, none⟩ = some (.bool a0_0) := (blk_cell BK124.out 0).trans rfl
                  have hcz32_1 : wc.cell? ⟨gb124, 1, none⟩ = some (.bool a0_1) := (blk_cell BK124.out 1).trans rfl
                  have hcz32_2 : wc.cell? ⟨gb124, 2, none⟩ = some (.bool a0_2) := (blk_cell BK124.out 2).trans rfl
                  have hcz32_3 : wc.cell? ⟨gb124, 3, none⟩ = some (.bool a0_3) := (blk_cell BK124.out 3).trans rfl
                  have hfz32_0 := blk_frozen BK124.out 0
                  have hfz32_1 := blk_frozen BK124.out 1
                  have hfz32_2 := blk_frozen BK124.out 2
                  have hfz32_3 := blk_frozen BK124.out 3
                  go_wp2
                  go_ret
                  exact ⟨by first | rfl | (simp [errW_none, errW_some] <;> rfl) | (simp [*, errW_none, errW_some] <;> rfl), by repeat (first | (with_reducible first | exact HB.out | apply below_alloc | apply pw_below_drewN | apply below_drew1 | refine below_set ?_ GE124.out | refine below_set ?_ GE125.out) | exact HB.out)⟩
              · rw [if_neg c30] at H
                have c30b0 : (a1_1 == 5) = false := beq_eq_false_iff_ne.mpr c30
                have c30b1 : (a1_1 != 5) = true := bne_iff_ne.mpr c30
                by_cases c33 : a1_1 = 6
                · rw [if_pos c33] at H
                  have c33b0 : (a1_1 == 6) = true := beq_iff_eq.mpr c33
                  have c33b1 : (a1_1 != 6) = false := bne_eq_false_iff_eq.mpr c33
                  clear c33
                  by_cases c34 : a0_0 = true
                  · subst c34
                    have H1 : ((heraldlaw10_Book_over.f true a0_1 a0_2 a0_3).bind fun t128 => (some (!t128))) = some r := by rw [if_pos rfl] at H; exact H
                    clear H
                    have H := H1
                    clear H1
                    replace H := Option.bind_eq_some_iff.mp H
                    obtain ⟨t128, A350, H⟩ := H
                    replace H : (some (!t128)) = some r := H
                    have A35 := Aside0.mk A350
                    clear A350
                    as_aux_lemma =>
                      obtain rfl := Option.some.inj H
                      have hnb36 := NB124_125.out
                      have hnc36 := NB125_124.out
                      have hcz37_0 : wc.cell? ⟨gb124, 0, none⟩ = some (.bool true) := (blk_cell BK124.out 0).trans rfl
                      have hcz37_1 : wc.cell? ⟨gb124, 1, none⟩ = some (.bool a0_1) := (blk_cell BK124.out 1).trans rfl
                      have hcz37_2 : wc.cell? ⟨gb124, 2, none⟩ = some (.bool a0_2) := (blk_cell BK124.out 2).trans rfl
                      have hcz37_3 : wc.cell? ⟨gb124, 3, none⟩ = some (.bool a0_3) := (blk_cell BK124.out 3).trans rfl
                      have hfz37_0 := blk_frozen BK124.out 0
                      have hfz37_1 := blk_frozen BK124.out 1
                      have hfz37_2 := blk_frozen BK124.out 2
                      have hfz37_3 := blk_frozen BK124.out 3
                      go_wp2_with (first | (go_at_call 17; (with_reducible refine (heraldlaw10_Book_over.calls true a0_1 a0_2 a0_3 t128 _ A35.out).mono ?_); rintro e w38 ⟨rfl, hb⟩; have n0_ := Aside0.mk (blk_below (g := gb124) (o := .cells #[.bool true, .bool a0_1, .bool a0_2, .bool a0_3] 37 (0, 0)) (by (with_reducible repeat (first | refine blk_drewN ?_ _ | refine blk_drew ?_ | refine blk_alloc ?_ _)); exact BK124.out) hb); have n1_ := Aside0.mk (blk_below (g := gb125) (o := .cells #[.bool a1_0, .int .i64 a1_1] 28 (0, 0)) (by (with_reducible repeat (first | refine blk_drewN ?_ _ | refine blk_drew ?_ | refine blk_alloc ?_ _)); exact BK125.out) hb); have n2_ := Aside0.mk (below_step (by repeat (first | (with_reducible first | exact HB.out | apply below_alloc | apply pw_below_drewN | apply below_drew1 | refine below_set ?_ GE124.out | refine below_set ?_ GE125.out) | exact HB.out)) hb); clear BK124; clear BK125; clear HB; have BK124 := n0_; have BK125 := n1_; have HB := n2_; clear n0_ n1_ n2_; (try clear hb); (try clear hb2); (try clear hk); (try clear hi)))
                      go_ret
                      exact ⟨by first | rfl | (simp [errW_none, errW_some] <;> rfl) | (simp [*, errW_none, errW_some] <;> rfl), by repeat (first | (with_reducible first | exact HB.out | apply below_alloc | apply pw_below_drewN | apply below_drew1 | refine below_set ?_ GE124.out | refine below_set ?_ GE125.out) | exact HB.out)⟩
                  · replace c34 := Bool.eq_false_iff.mpr c34
                    subst c34
                    have H1 : (some false) = some r := by rw [if_neg (show ¬ (false = true) by decide)] at H; exact H
                    clear H
                    have H := H1
                    clear H1
                    as_aux_lemma =>
                      obtain rfl := Option.some.inj H
                      have hnb39 := NB124_125.out
                      have hnc39 := NB125_124.out
                      have hcz40_0 : wc.cell? ⟨gb124, 0, none⟩ = some (.bool false) := (blk_cell BK124.out 0).trans rfl
                      have hcz40_1 : wc.cell? ⟨gb124, 1, none⟩ = some (.bool a0_1) := (blk_cell BK124.out 1).trans rfl
                      have hcz40_2 : wc.cell? ⟨gb124, 2, none⟩ = some (.bool a0_2) := (blk_cell BK124.out 2).trans rfl
                      have hcz40_3 : wc.cell? ⟨gb124, 3, none⟩ = some (.bool a0_3) := (blk_cell BK124.out 3).trans rfl
                      have hfz40_0 := blk_frozen BK124.out 0
                      have hfz40_1 := blk_frozen BK124.out 1
                      have hfz40_2 := blk_frozen BK124.out 2
                      have hfz40_3 := blk_frozen BK124.out 3
                      go_wp2
                      go_ret
                      exact ⟨by first | rfl | (simp [errW_none, errW_some] <;> rfl) | (simp [*, errW_none, errW_some] <;> rfl), by repeat (first | (with_reducible first | exact HB.out | apply below_alloc | apply pw_below_drewN | apply below_drew1 | refine below_set ?_ GE124.out | refine below_set ?_ GE125.out) | exact HB.out)⟩
                · rw [if_neg c33] at H
                  have c33b0 : (a1_1 == 6) = false := beq_eq_false_iff_ne.mpr c33
                  have c33b1 : (a1_1 != 6) = true := bne_iff_ne.mpr c33
                  by_cases c41 : a1_1 = 7
                  · rw [if_pos c41] at H
                    have c41b0 : (a1_1 == 7) = true := beq_iff_eq.mpr c41
                    have c41b1 : (a1_1 != 7) = false := bne_eq_false_iff_eq.mpr c41
                    clear c41
                    by_cases c42 : a0_0 = true
                    · subst c42
                      have H1 : ((heraldlaw10_Book_over.f true a0_1 a0_2 a0_3).bind fun t129 => (if t129 = true then (some false) else (if a0_1 = true then (some true) else (some t127)))) = some r := by rw [if_pos rfl] at H; exact H
                      clear H
                      have H := H1
                      clear H1
                      replace H := Option.bind_eq_some_iff.mp H
                      obtain ⟨t129, A430, H⟩ := H
                      replace H : (if t129 = true then (some false) else (if a0_1 = true then (some true) else (some t127))) = some r := H
                      have A43 := Aside0.mk A430
                      clear A430
                      by_cases c44 : t129 = true
                      · subst c44
                        have H1 : (some false) = some r := by rw [if_pos rfl] at H; exact H
                        clear H
                        have H := H1
                        clear H1
                        as_aux_lemma =>
                          obtain rfl := Option.some.inj H
                          have hnb45 := NB124_125.out
                          have hnc45 := NB125_124.out
                          have hcz46_0 : wc.cell? ⟨gb124, 0, none⟩ = some (.bool true) := (blk_cell BK124.out 0).trans rfl
                          have hcz46_1 : wc.cell? ⟨gb124, 1, none⟩ = some (.bool a0_1) := (blk_cell BK124.out 1).trans rfl
                          have hcz46_2 : wc.cell? ⟨gb124, 2, none⟩ = some (.bool a0_2) := (blk_cell BK124.out 2).trans rfl
                          have hcz46_3 : wc.cell? ⟨gb124, 3, none⟩ = some (.bool a0_3) := (blk_cell BK124.out 3).trans rfl
                          have hfz46_0 := blk_frozen BK124.out 0
                          have hfz46_1 := blk_frozen BK124.out 1
                          have hfz46_2 := blk_frozen BK124.out 2
                          have hfz46_3 := blk_frozen BK124.out 3
                          go_wp2_with (first | (go_at_call 17; (with_reducible refine (heraldlaw10_Book_over.calls true a0_1 a0_2 a0_3 true _ A43.out).mono ?_); rintro e w47 ⟨rfl, hb⟩; have n0_ := Aside0.mk (blk_below (g := gb124) (o := .cells #[.bool true, .bool a0_1, .bool a0_2, .bool a0_3] 37 (0, 0)) (by (with_reducible repeat (first | refine blk_drewN ?_ _ | refine blk_drew ?_ | refine blk_alloc ?_ _)); exact BK124.out) hb); have n1_ := Aside0.mk (blk_below (g := gb125) (o := .cells #[.bool a1_0, .int .i64 a1_1] 28 (0, 0)) (by (with_reducible repeat (first | refine blk_drewN ?_ _ | refine blk_drew ?_ | refine blk_alloc ?_ _)); exact BK125.out) hb); have n2_ := Aside0.mk (below_step (by repeat (first | (with_reducible first | exact HB.out | apply below_alloc | apply pw_below_drewN | apply below_drew1 | refine below_set ?_ GE124.out | refine below_set ?_ GE125.out) | exact HB.out)) hb); clear BK124; clear BK125; clear HB; have BK124 := n0_; have BK125 := n1_; have HB := n2_; clear n0_ n1_ n2_; (try clear hb); (try clear hb2); (try clear hk); (try clear hi)))
                          go_ret
                          exact ⟨by first | rfl | (simp [errW_none, errW_some] <;> rfl) | (simp [*, errW_none, errW_some] <;> rfl), by repeat (first | (with_reducible first | exact HB.out | apply below_alloc | apply pw_below_drewN | apply below_drew1 | refine below_set ?_ GE124.out | refine below_set ?_ GE125.out) | exact HB.out)⟩
                      · replace c44 := Bool.eq_false_iff.mpr c44
                        subst c44
                        have H1 : (if a0_1 = true then (some true) else (some t127)) = some r := by rw [if_neg (show ¬ (false = true) by decide)] at H; exact H
                        clear H
                        have H := H1
                        clear H1
                        by_cases c48 : a0_1 = true
                        · subst c48
                          have H1 : (some true) = some r := by rw [if_pos rfl] at H; exact H
                          clear H
                          have H := H1
                          clear H1
                          as_aux_lemma =>
                            obtain rfl := Option.some.inj H
                            have hnb49 := NB124_125.out
                            have hnc49 := NB125_124.out
                            have hcz50_0 : wc.cell? ⟨gb124, 0, none⟩ = some (.bool true) := (blk_cell BK124.out 0).trans rfl
                            have hcz50_1 : wc.cell? ⟨gb124, 1, none⟩ = some (.bool true) := (blk_cell BK124.out 1).trans rfl
                            have hcz50_2 : wc.cell? ⟨gb124, 2, none⟩ = some (.bool a0_2) := (blk_cell BK124.out 2).trans rfl
                            have hcz50_3 : wc.cell? ⟨gb124, 3, none⟩ = some (.bool a0_3) := (blk_cell BK124.out 3).trans rfl
                            have hfz50_0 := blk_frozen BK124.out 0
                            have hfz50_1 := blk_frozen BK124.out 1
                            have hfz50_2 := blk_frozen BK124.out 2
                            have hfz50_3 := blk_frozen BK124.out 3
                            go_wp2_with (first | (go_at_call 17; (with_reducible refine (heraldlaw10_Book_over.calls true true a0_2 a0_3 false _ A43.out).mono ?_); rintro e w51 ⟨rfl, hb⟩; have n0_ := Aside0.mk (blk_below (g := gb124) (o := .cells #[.bool true, .bool true, .bool a0_2, .bool a0_3] 37 (0, 0)) (by (with_reducible repeat (first | refine blk_drewN ?_ _ | refine blk_drew ?_ | refine blk_alloc ?_ _)); exact BK124.out) hb); have n1_ := Aside0.mk (blk_below (g := gb125) (o := .cells #[.bool a1_0, .int .i64 a1_1] 28 (0, 0)) (by (with_reducible repeat (first | refine blk_drewN ?_ _ | refine blk_drew ?_ | refine blk_alloc ?_ _)); exact BK125.out) hb); have n2_ := Aside0.mk (below_step (by repeat (first | (with_reducible first | exact HB.out | apply below_alloc | apply pw_below_drewN | apply below_drew1 | refine below_set ?_ GE124.out | refine below_set ?_ GE125.out) | exact HB.out)) hb); clear BK124; clear BK125; clear HB; have BK124 := n0_; have BK125 := n1_; have HB := n2_; clear n0_ n1_ n2_; (try clear hb); (try clear hb2); (try clear hk); (try clear hi); have hcz52_0 : w51.cell? ⟨gb124, 0, none⟩ = some (.bool true) := (blk_cell BK124.out 0).trans rfl; have hcz52_1 : w51.cell? ⟨gb124, 1, none⟩ = some (.bool true) := (blk_cell BK124.out 1).trans rfl; have hcz52_2 : w51.cell? ⟨gb124, 2, none⟩ = some (.bool a0_2) := (blk_cell BK124.out 2).trans rfl; have hcz52_3 : w51.cell? ⟨gb124, 3, none⟩ = some (.bool a0_3) := (blk_cell BK124.out 3).trans rfl; have hfz52_0 := blk_frozen BK124.out 0; have hfz52_1 := blk_frozen BK124.out 1; have hfz52_2 := blk_frozen BK124.out 2; have hfz52_3 := blk_frozen BK124.out 3))
                            go_ret
                            exact ⟨by first | rfl | (simp [errW_none, errW_some] <;> rfl) | (simp [*, errW_none, errW_some] <;> rfl), by repeat (first | (with_reducible first | exact HB.out | apply below_alloc | apply pw_below_drewN | apply below_drew1 | refine below_set ?_ GE124.out | refine below_set ?_ GE125.out) | exact HB.out)⟩
                        · replace c48 := Bool.eq_false_iff.mpr c48
                          subst c48
                          have H1 : (some t127) = some r := by rw [if_neg (show ¬ (false = true) by decide)] at H; exact H
                          clear H
                          have H := H1
                          clear H1
                          as_aux_lemma =>
                            obtain rfl := Option.some.inj H
                            have hnb53 := NB124_125.out
                            have hnc53 := NB125_124.out
                            have hcz54_0 : wc.cell? ⟨gb124, 0, none⟩ = some (.bool true) := (blk_cell BK124.out 0).trans rfl
                            have hcz54_1 : wc.cell? ⟨gb124, 1, none⟩ = some (.bool false) := (blk_cell BK124.out 1).trans rfl
                            have hcz54_2 : wc.cell? ⟨gb124, 2, none⟩ = some (.bool a0_2) := (blk_cell BK124.out 2).trans rfl
                            have hcz54_3 : wc.cell? ⟨gb124, 3, none⟩ = some (.bool a0_3) := (blk_cell BK124.out 3).trans rfl
                            have hfz54_0 := blk_frozen BK124.out 0
                            have hfz54_1 := blk_frozen BK124.out 1
                            have hfz54_2 := blk_frozen BK124.out 2
                            have hfz54_3 := blk_frozen BK124.out 3
                            go_wp2_with (first | (go_at_call 17; (with_reducible refine (heraldlaw10_Book_over.calls true false a0_2 a0_3 false _ A43.out).mono ?_); rintro e w55 ⟨rfl, hb⟩; have n0_ := Aside0.mk (blk_below (g := gb124) (o := .cells #[.bool true, .bool false, .bool a0_2, .bool a0_3] 37 (0, 0)) (by (with_reducible repeat (first | refine blk_drewN ?_ _ | refine blk_drew ?_ | refine blk_alloc ?_ _)); exact BK124.out) hb); have n1_ := Aside0.mk (blk_below (g := gb125) (o := .cells #[.bool a1_0, .int .i64 a1_1] 28 (0, 0)) (by (with_reducible repeat (first | refine blk_drewN ?_ _ | refine blk_drew ?_ | refine blk_alloc ?_ _)); exact BK125.out) hb); have n2_ := Aside0.mk (below_step (by repeat (first | (with_reducible first | exact HB.out | apply below_alloc | apply pw_below_drewN | apply below_drew1 | refine below_set ?_ GE124.out | refine below_set ?_ GE125.out) | exact HB.out)) hb); clear BK124; clear BK125; clear HB; have BK124 := n0_; have BK125 := n1_; have HB := n2_; clear n0_ n1_ n2_; (try clear hb); (try clear hb2); (try clear hk); (try clear hi); have hcz56_0 : w55.cell? ⟨gb124, 0, none⟩ = some (.bool true) := (blk_cell BK124.out 0).trans rfl; have hcz56_1 : w55.cell? ⟨gb124, 1, none⟩ = some (.bool false) := (blk_cell BK124.out 1).trans rfl; have hcz56_2 : w55.cell? ⟨gb124, 2, none⟩ = some (.bool a0_2) := (blk_cell BK124.out 2).trans rfl; have hcz56_3 : w55.cell? ⟨gb124, 3, none⟩ = some (.bool a0_3) := (blk_cell BK124.out 3).trans rfl; have hfz56_0 := blk_frozen BK124.out 0; have hfz56_1 := blk_frozen BK124.out 1; have hfz56_2 := blk_frozen BK124.out 2; have hfz56_3 := blk_frozen BK124.out 3))
                            go_ret
                            exact ⟨by first | rfl | (simp [errW_none, errW_some] <;> rfl) | (simp [*, errW_none, errW_some] <;> rfl), by repeat (first | (with_reducible first | exact HB.out | apply below_alloc | apply pw_below_drewN | apply below_drew1 | refine below_set ?_ GE124.out | refine below_set ?_ GE125.out) | exact HB.out)⟩
                    · replace c42 := Bool.eq_false_iff.mpr c42
                      subst c42
                      have H1 : (some false) = some r := by rw [if_neg (show ¬ (false = true) by decide)] at H; exact H
                      clear H
                      have H := H1
                      clear H1
                      as_aux_lemma =>
                        obtain rfl := Option.some.inj H
                        have hnb57 := NB124_125.out
                        have hnc57 := NB125_124.out
                        have hcz58_0 : wc.cell? ⟨gb124, 0, none⟩ = some (.bool false) := (blk_cell BK124.out 0).trans rfl
                        have hcz58_1 : wc.cell? ⟨gb124, 1, none⟩ = some (.bool a0_1) := (blk_cell BK124.out 1).trans rfl
                        have hcz58_2 : wc.cell? ⟨gb124, 2, none⟩ = some (.bool a0_2) := (blk_cell BK124.out 2).trans rfl
                        have hcz58_3 : wc.cell? ⟨gb124, 3, none⟩ = some (.bool a0_3) := (blk_cell BK124.out 3).trans rfl
                        have hfz58_0 := blk_frozen BK124.out 0
                        have hfz58_1 := blk_frozen BK124.out 1
                        have hfz58_2 := blk_frozen BK124.out 2
                        have hfz58_3 := blk_frozen BK124.out 3
                        go_wp2
                        go_ret
                        exact ⟨by first | rfl | (simp [errW_none, errW_some] <;> rfl) | (simp [*, errW_none, errW_some] <;> rfl), by repeat (first | (with_reducible first | exact HB.out | apply below_alloc | apply pw_below_drewN | apply below_drew1 | refine below_set ?_ GE124.out | refine below_set ?_ GE125.out) | exact HB.out)⟩
                  · rw [if_neg c41] at H
                    have c41b0 : (a1_1 == 7) = false := beq_eq_false_iff_ne.mpr c41
                    have c41b1 : (a1_1 != 7) = true := bne_iff_ne.mpr c41
                    by_cases c59 : a1_1 = 8
                    · rw [if_pos c59] at H
                      have c59b0 : (a1_1 == 8) = true := beq_iff_eq.mpr c59
                      have c59b1 : (a1_1 != 8) = false := bne_eq_false_iff_eq.mpr c59
                      clear c59
                      by_cases c60 : a1_0 = true
                      · subst c60
                        have H1 : ((heraldlaw10_Book_over.f a0_0 a0_1 a0_2 a0_3).bind fun t130 => (some (!t130))) = some r := by rw [if_pos rfl] at H; exact H
                        clear H
                        have H := H1
                        clear H1
                        replace H := Option.bind_eq_some_iff.mp H
                        obtain ⟨t130, A610, H⟩ := H
                        replace H : (some (!t130)) = some r := H
                        have A61 := Aside0.mk A610
                        clear A610
                        as_aux_lemma =>
                          obtain rfl := Option.some.inj H
                          have hnb62 := NB125_124.out
                          have hnc62 := NB124_125.out
                          have hcz63_0 : wc.cell? ⟨gb125, 0, none⟩ = some (.bool true) := (blk_cell BK125.out 0).trans rfl
                          have hcz63_1 : wc.cell? ⟨gb125, 1, none⟩ = some (.int .i64 a1_1) := (blk_cell BK125.out 1).trans rfl
                          have hfz63_0 := blk_frozen BK125.out 0
                          have hfz63_1 := blk_frozen BK125.out 1
                          have hcz64_0 : wc.cell? ⟨gb124, 0, none⟩ = some (.bool a0_0) := (blk_cell BK124.out 0).trans rfl
                          have hcz64_1 : wc.cell? ⟨gb124, 1, none⟩ = some (.bool a0_1) := (blk_cell BK124.out 1).trans rfl
                          have hcz64_2 : wc.cell? ⟨gb124, 2, none⟩ = some (.bool a0_2) := (blk_cell BK124.out 2).trans rfl
                          have hcz64_3 : wc.cell? ⟨gb124, 3, none⟩ = some (.bool a0_3) := (blk_cell BK124.out 3).trans rfl
                          have hfz64_0 := blk_frozen BK124.out 0
                          have hfz64_1 := blk_frozen BK124.out 1
                          have hfz64_2 := blk_frozen BK124.out 2
                          have hfz64_3 := blk_frozen BK124.out 3
                          go_wp2_with (first | (go_at_call 17; (with_reducible refine (heraldlaw10_Book_over.calls a0_0 a0_1 a0_2 a0_3 t130 _ A61.out).mono ?_); rintro e w65 ⟨rfl, hb⟩; have n0_ := Aside0.mk (blk_below (g := gb124) (o := .cells #[.bool a0_0, .bool a0_1, .bool a0_2, .bool a0_3] 37 (0, 0)) (by (with_reducible repeat (first | refine blk_drewN ?_ _ | refine blk_drew ?_ | refine blk_alloc ?_ _)); exact BK124.out) hb); have n1_ := Aside0.mk (blk_below (g := gb125) (o := .cells #[.bool true, .int .i64 a1_1] 28 (0, 0)) (by (with_reducible repeat (first | refine blk_drewN ?_ _ | refine blk_drew ?_ | refine blk_alloc ?_ _)); exact BK125.out) hb); have n2_ := Aside0.mk (below_step (by repeat (first | (with_reducible first | exact HB.out | apply below_alloc | apply pw_below_drewN | apply below_drew1 | refine below_set ?_ GE124.out | refine below_set ?_ GE125.out) | exact HB.out)) hb); clear BK124; clear BK125; clear HB; have BK124 := n0_; have BK125 := n1_; have HB := n2_; clear n0_ n1_ n2_; (try clear hb); (try clear hb2); (try clear hk); (try clear hi)))
                          go_ret
                          exact ⟨by first | rfl | (simp [errW_none, errW_some] <;> rfl) | (simp [*, errW_none, errW_some] <;> rfl), by repeat (first | (with_reducible first | exact HB.out | apply below_alloc | apply pw_below_drewN | apply below_drew1 | refine below_set ?_ GE124.out | refine below_set ?_ GE125.out) | exact HB.out)⟩
                      · replace c60 := Bool.eq_false_iff.mpr c60
                        subst c60
                        have H1 : (some true) = some r := by rw [if_neg (show ¬ (false = true) by decide)] at H; exact H
                        clear H
                        have H := H1
                        clear H1
                        as_aux_lemma =>
                          obtain rfl := Option.some.inj H
                          have hnb66 := NB125_124.out
                          have hnc66 := NB124_125.out
                          have hcz67_0 : wc.cell? ⟨gb125, 0, none⟩ = some (.bool false) := (blk_cell BK125.out 0).trans rfl
                          have hcz67_1 : wc.cell? ⟨gb125, 1, none⟩ = some (.int .i64 a1_1) := (blk_cell BK125.out 1).trans rfl
                          have hfz67_0 := blk_frozen BK125.out 0
                          have hfz67_1 := blk_frozen BK125.out 1
                          go_wp2
                          go_ret
                          exact ⟨by first | rfl | (simp [errW_none, errW_some] <;> rfl) | (simp [*, errW_none, errW_some] <;> rfl), by repeat (first | (with_reducible first | exact HB.out | apply below_alloc | apply pw_below_drewN | apply below_drew1 | refine below_set ?_ GE124.out | refine below_set ?_ GE125.out) | exact HB.out)⟩
                    · rw [if_neg c59] at H
                      have c59b0 : (a1_1 == 8) = false := beq_eq_false_iff_ne.mpr c59
                      have c59b1 : (a1_1 != 8) = true := bne_iff_ne.mpr c59
                      as_aux_lemma =>
                        obtain rfl := Option.some.inj H
                        go_wp2
                        go_ret
                        exact ⟨by first | rfl | (simp [errW_none, errW_some] <;> rfl) | (simp [*, errW_none, errW_some] <;> rfl), by repeat (first | (with_reducible first | exact HB.out | apply below_alloc | apply pw_below_drewN | apply below_drew1 | refine below_set ?_ GE124.out | refine below_set ?_ GE125.out) | exact HB.out)⟩

end Go.Proofs.YtndhaakknkkpfaaDoor.QBook
