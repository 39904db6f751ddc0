/- Written by a program of this session (a changed run of the kit's printer): what the Go functions of one call tree answer, as plain functions, and that the machine's calls answer so; no condition but those in each statement. -/
import Derived.Test.YtcjphkgmcfpfeaaDoorQLx0
import Derived.Test.YtcjphkgmcfpfeaaDoorQLx1
namespace Go.Proofs.YtcjphkgmcfpfeaaDoor.QL
open Go.RowKit Go.Proofs.YtcjphkgmcfpfeaaDoorW.PrintWords Go.Proofs.YtcjphkgmcfpfeaaDoorW.PrintLast Go.Proofs.YtcjphkgmcfpfeaaDoorW.PrintMore
attribute [local go_sem] max2_int min2_int max_two min_two max_three min_three max_four min_four   -- for this text's walks alone
set_option linter.unusedVariables false
set_option linter.unusedSimpArgs false

attribute [local go_sem high] eqA28
/-! ### setting_within: function 35 -/
def setting_within.f (a0 : Int) (a1 : Int) (a2 : Int) : Option (Bool) := if a0 ≥ a1 then (some (decide (a0 ≤ a2))) else (some false)
set_option maxHeartbeats 8000000 in
set_option maxRecDepth 100000 in
theorem setting_within.calls (a0 : Int) (a1 : Int) (a2 : Int) (r : Bool) (w : World) (h : setting_within.f a0 a1 a2 = some r) :
    Calls Tryd.prog 35 #[.int .i64 a0, .int .i64 a1, .int .i64 a2] w fun e w' => e = .returned (.bool r) ∧ Drawn0 w w' := by
  have H : (if a0 ≥ a1 then (some (decide (a0 ≤ a2))) else (some false)) = some r := h
  clear h
  by_cases c4 : a0 ≥ a1
  · rw [if_pos c4] at H
    have c4b0 : decide (a1 ≤ a0) = true := decide_eq_true c4
    clear c4
    obtain rfl := Option.some.inj H
    go_enter Tryd.func35, Tryd.ntmps35
    go_wp2
    go_ret
    exact ⟨by first | rfl | (simp; done) | (simp [*]; done), by repeat (first | exact Drawn0.refl _ | apply Drawn0.step)⟩
  · rw [if_neg c4] at H
    have c4b0 : decide (a1 ≤ a0) = false := decide_eq_false c4
    clear c4
    obtain rfl := Option.some.inj H
    go_enter Tryd.func35, Tryd.ntmps35
    go_wp2
    go_ret
    exact ⟨by first | rfl | (simp; done) | (simp [*]; done), by repeat (first | exact Drawn0.refl _ | apply Drawn0.step)⟩

/-! ### setting_Valid: function 9 -/
def setting_Valid.j0 : Nat → Bool → Bool → Int → Int → Option (Int)
  | 0, _, _, _, _ => none
  | k + 1, x1, x14, x102000, x102001 => if x14 = true then (some 1) else (if x102000 = 2 then (if x102001 > 1 then (some 1) else (if x102001 = 1 then (if x1 = true then (some 0) else (some 1)) else (some 0))) else (if x102000 = 4 then (if x102001 > 2147483647 then (some 3) else (some 0)) else (if x102000 = 5 then ((setting_within.f x102001 16384 16777215).bind fun t104 => (if t104 = true then (some 0) else (some 1))) else (some 0))))
def setting_Valid.f (k : Nat) (a0_0 : Int) (a0_1 : Int) (a1 : Bool) : Option (Int) := (setting_within.f a0_0 0 65535).bind fun t102 => (if t102 = true then ((setting_within.f a0_1 0 4294967295).bind fun t103 => (setting_Valid.j0 k a1 (!t103) a0_0 a0_1)) else (setting_Valid.j0 k a1 true a0_0 a0_1))
theorem setting_Valid.mono_l : ∀ k, (∀ y0 y1 y2 y3, LeO (setting_Valid.j0 k y0 y1 y2 y3) (setting_Valid.j0 (k + 1) y0 y1 y2 y3))
  | 0 => fun _ _ _ _ r h => by simp [setting_Valid.j0] at h
  | k + 1 => by
    have ih0 := setting_Valid.mono_l k
    · intro y0 y1 y2 y3
      unfold setting_Valid.j0
      repeat' first
      | (with_reducible exact ih0 _ _ _ _)
      | (with_reducible exact LeO.refl _)
      | (with_reducible exact LeO.none _)
      | (with_reducible refine LeO.ite ?_ ?_)
      | (with_reducible refine LeO.bind ?_ (fun _ => ?_))
      | exact ih0 _ _ _ _
      | exact LeO.none _
      | refine LeO.ite ?_ ?_
      | refine LeO.bind ?_ (fun _ => ?_)
theorem setting_Valid.mono : ∀ a0 a1 a2 k, LeO (setting_Valid.f k a0 a1 a2) (setting_Valid.f (k + 1) a0 a1 a2) := by
  intro a0 a1 a2 k
  have ih0 := setting_Valid.mono_l k
  unfold setting_Valid.f
  repeat' first
      | (with_reducible exact ih0 _ _ _ _)
      | (with_reducible exact LeO.refl _)
      | (with_reducible exact LeO.none _)
      | (with_reducible refine LeO.ite ?_ ?_)
      | (with_reducible refine LeO.bind ?_ (fun _ => ?_))
      | exact ih0 _ _ _ _
      | exact LeO.none _
      | refine LeO.ite ?_ ?_
      | refine LeO.bind ?_ (fun _ => ?_)
set_option maxHeartbeats 8000000 in
set_option maxRecDepth 100000 in
theorem setting_Valid.calls (k : Nat) (a0_0 : Int) (a0_1 : Int) (a1 : Bool) (r : Int) (w : World) (h : setting_Valid.f k a0_0 a0_1 a1 = some r) :
    Calls Tryd.prog 9 #[.agg #[.int .i64 a0_0, .int .i64 a0_1], .bool a1] w fun e w' => e = .returned (.int .i64 r) ∧ Below w.heap.size w w' := by
  have hu28 := Tryd.underlying28
  have HB := Aside0.mk (Below.refl w.heap.size w)
  have H : ((setting_within.f a0_0 0 65535).bind fun t102 => (if t102 = true then ((setting_within.f a0_1 0 4294967295).bind fun t103 => (setting_Valid.j0 k a1 (!t103) a0_0 a0_1)) else (setting_Valid.j0 k a1 true a0_0 a0_1))) = some r := h
  clear h
  have HC3 := Aside0.mk H
  clear H
  go_enter Tryd.func9, Tryd.ntmps9
  go_upto_region 1 with (first | ((with_reducible refine gate_dst (N := 2) rfl ?_); refine box_event ?hg (N := 2) ?hd (cs := #[.int .i64 a0_0, .int .i64 a0_1]) (t := 28) ?hr ?_; (case hd => rfl); (case hg => rfl); (case hr => first | (go_simp; done) | (go_simp; rfl)); intro gb101 hg w4 hbox hb; have n0_ := Aside0.mk (below_step (by repeat (first | (with_reducible first | exact HB.out | apply below_alloc | apply pw_below_drewN | apply below_drew1) | exact HB.out)) hb); have n1_ := Aside0.mk (hbox); have n2_ := Aside0.mk ((by rw [hg]; exact (below_size (by repeat (first | (with_reducible first | exact HB.out | apply below_alloc | apply pw_below_drewN | apply below_drew1) | exact HB.out))) : w.heap.size ≤ gb101)); have n3_ := Aside0.mk ((by rw [hg]; exact (below_size (by repeat (first | (with_reducible first | exact HB.out | apply below_alloc | apply pw_below_drewN | apply below_drew1) | exact HB.out))) : w.heap.size ≤ gb101)); clear HB; have HB := n0_; have BK101 := n1_; have GW101 := n2_; have GE101 := n3_; clear n0_ n1_ n2_ n3_; clear hb hbox hg))
  (try simp only [Act.put, List.setIfInBounds_toArray, List.set_cons_zero, List.set_cons_succ])
  go_cut [14] (fun v14 wc => ∃ (kq : Nat) (x14_2 : Bool), v14 = .bool x14_2 ∧ Aside0 (setting_Valid.j0 kq a1 x14_2 a0_0 a0_1 = some r) ∧ Aside0 (kq ≤ k) ∧ Aside0 (wc.heap[gb101]? = some (.cells #[.int .i64 a0_0, .int .i64 a0_1] 28 (0, 0))) ∧ Aside0 (Below w.heap.size w wc))
  case first =>
    have H := HC3.out
    clear HC3
    replace H := Option.bind_eq_some_iff.mp H
    obtain ⟨t102, A50, H⟩ := H
    replace H : (if t102 = true then ((setting_within.f a0_1 0 4294967295).bind fun t103 => (setting_Valid.j0 k a1 (!t103) a0_0 a0_1)) else (setting_Valid.j0 k a1 true a0_0 a0_1)) = some r := H
    have A5 := Aside0.mk A50
    clear A50
    by_cases c6 : t102 = true
    · subst c6
      have H1 : ((setting_within.f a0_1 0 4294967295).bind fun t103 => (setting_Valid.j0 k a1 (!t103) a0_0 a0_1)) = some r := by rw [if_pos rfl] at H; exact H
      clear H
      have H := H1
      clear H1
      replace H := Option.bind_eq_some_iff.mp H
      obtain ⟨t103, A70, H⟩ := H
      replace H : (setting_Valid.j0 k a1 (!t103) a0_0 a0_1) = some r := H
      have A7 := Aside0.mk A70
      clear A70
      have H' := Aside0.mk H
      clear H
      have hcz8_0 : w4.cell? ⟨gb101, 0, none⟩ = some (.int .i64 a0_0) := (blk_cell BK101.out 0).trans rfl
      have hcz8_1 : w4.cell? ⟨gb101, 1, none⟩ = some (.int .i64 a0_1) := (blk_cell BK101.out 1).trans rfl
      have hfz8_0 := blk_frozen BK101.out 0
      have hfz8_1 := blk_frozen BK101.out 1
      go_wp2_with (first | ((with_reducible refine gate_callee (f := 35) rfl ?_); refine goesL_ (some 7) rfl rfl Tryd.func35 (by kernel_rfl) rfl #[.int .i64 a0_0, .int .i64 0, .int .i64 65535] rfl (by (try simp only [List.map_toArray, List.map_cons, List.map_nil]); first | done | rfl | (simp only [List.length_drop, List.length_take]; rfl)) ?_; (with_reducible refine (setting_within.calls a0_0 0 65535 true _ A5.out).mono ?_); rintro e w' ⟨rfl, ⟨nd, rfl⟩⟩; refine ⟨_, rfl, ?_⟩) | (go_at_call 35; (with_reducible refine (setting_within.calls a0_1 0 4294967295 t103 _ A7.out).mono ?_); rintro e w' ⟨rfl, ⟨nd, rfl⟩⟩))
      go_meet
      case rel => exact ⟨_, (!t103), (by first | rfl | (simp; done) | (simp [*]; done)), H', ⟨by first | omega | exact Nat.le_refl _⟩, ⟨by (with_reducible repeat (first | refine blk_drewN ?_ _ | refine blk_drew ?_ | refine blk_alloc ?_ _)); exact BK101.out⟩, ⟨by repeat (first | (with_reducible first | exact HB.out | apply below_alloc | apply pw_below_drewN | apply below_drew1 | refine below_set ?_ GE101.out) | exact HB.out)⟩⟩
    · replace c6 := Bool.eq_false_iff.mpr c6
      subst c6
      have H1 : (setting_Valid.j0 k a1 true a0_0 a0_1) = some r := by rw [if_neg (show ¬ (false = true) by decide)] at H; exact H
      clear H
      have H := H1
      clear H1
      have H' := Aside0.mk H
      clear H
      have hcz9_0 : w4.cell? ⟨gb101, 0, none⟩ = some (.int .i64 a0_0) := (blk_cell BK101.out 0).trans rfl
      have hcz9_1 : w4.cell? ⟨gb101, 1, none⟩ = some (.int .i64 a0_1) := (blk_cell BK101.out 1).trans rfl
      have hfz9_0 := blk_frozen BK101.out 0
      have hfz9_1 := blk_frozen BK101.out 1
      go_wp2_with (first | ((with_reducible refine gate_callee (f := 35) rfl ?_); refine goesL_ (some 7) rfl rfl Tryd.func35 (by kernel_rfl) rfl #[.int .i64 a0_0, .int .i64 0, .int .i64 65535] rfl (by (try simp only [List.map_toArray, List.map_cons, List.map_nil]); first | done | rfl | (simp only [List.length_drop, List.length_take]; rfl)) ?_; (with_reducible refine (setting_within.calls a0_0 0 65535 false _ A5.out).mono ?_); rintro e w' ⟨rfl, ⟨nd, rfl⟩⟩; refine ⟨_, rfl, ?_⟩))
      go_meet
      case rel => exact ⟨_, (true), (by first | rfl | (simp; done) | (simp [*]; done)), H', ⟨by first | omega | exact Nat.le_refl _⟩, ⟨by (with_reducible repeat (first | refine blk_drewN ?_ _ | refine blk_drew ?_ | refine blk_alloc ?_ _)); exact BK101.out⟩, ⟨by repeat (first | (with_reducible first | exact HB.out | apply below_alloc | apply pw_below_drewN | apply below_drew1 | refine below_set ?_ GE101.out) | exact HB.out)⟩⟩
  case rest =>
    clear HC3
    try clear p2
    try clear c3
    try clear c6
    try clear c9
    try clear hcz8_0
    try clear hcz8_1
    try clear hcz9_0
    try clear hcz9_1
    try clear hfz8_0
    try clear hfz8_1
    try clear hfz9_0
    try clear hfz9_1
    obtain ⟨kq, x14_2, rfl, HA, HJ2, BK101, HB⟩ := hcut
    cases kq with
    | zero => exact absurd HA.out (by simp [setting_Valid.j0])
    | succ kj2 =>
      have H := HA.out
      clear HA
      simp only [setting_Valid.j0] at H
      by_cases c10 : x14_2 = true
      · subst c10
        have H1 : (some 1) = some r := by rw [if_pos rfl] at H; exact H
        clear H
        have H := H1
        clear H1
        obtain rfl := Option.some.inj H
        go_wp2
        go_ret
        exact ⟨by first | rfl | (simp [errW_none, errW_some] <;> rfl) | (simp [*, errW_none, errW_some] <;> rfl), by repeat (first | (with_reducible first | exact HB.out | apply below_alloc | apply pw_below_drewN | apply below_drew1 | refine below_set ?_ GE101.out) | exact HB.out)⟩
      · replace c10 := Bool.eq_false_iff.mpr c10
        subst c10
        have H1 : (if a0_0 = 2 then (if a0_1 > 1 then (some 1) else (if a0_1 = 1 then (if a1 = true then (some 0) else (some 1)) else (some 0))) else (if a0_0 = 4 then (if a0_1 > 2147483647 then (some 3) else (some 0)) else (if a0_0 = 5 then ((setting_within.f a0_1 16384 16777215).bind fun t104 => (if t104 = true then (some 0) else (some 1))) else (some 0)))) = some r := by rw [if_neg (show ¬ (false = true) by decide)] at H; exact H
        clear H
        have H := H1
        clear H1
        by_cases c11 : a0_0 = 2
        · rw [if_pos c11] at H
          have c11b0 : (a0_0 == 2) = true := beq_iff_eq.mpr c11
          have c11b1 : (a0_0 != 2) = false := bne_eq_false_iff_eq.mpr c11
          clear c11
          by_cases c12 : a0_1 > 1
          · rw [if_pos c12] at H
            have c12b0 : decide (1 < a0_1) = true := decide_eq_true c12
            clear c12
            obtain rfl := Option.some.inj H
            have hcz13_0 : wc.cell? ⟨gb101, 0, none⟩ = some (.int .i64 a0_0) := (blk_cell BK101.out 0).trans rfl
            have hcz13_1 : wc.cell? ⟨gb101, 1, none⟩ = some (.int .i64 a0_1) := (blk_cell BK101.out 1).trans rfl
            have hfz13_0 := blk_frozen BK101.out 0
            have hfz13_1 := blk_frozen BK101.out 1
            go_wp2
            go_ret
            exact ⟨by first | rfl | (simp [errW_none, errW_some] <;> rfl) | (simp [*, errW_none, errW_some] <;> rfl), by repeat (first | (with_reducible first | exact HB.out | apply below_alloc | apply pw_below_drewN | apply below_drew1 | refine below_set ?_ GE101.out) | exact HB.out)⟩
          · rw [if_neg c12] at H
            have c12b0 : decide (1 < a0_1) = false := decide_eq_false c12
            clear c12
            by_cases c14 : a0_1 = 1
            · rw [if_pos c14] at H
              have c14b0 : (a0_1 == 1) = true := beq_iff_eq.mpr c14
              have c14b1 : (a0_1 != 1) = false := bne_eq_false_iff_eq.mpr c14
              clear c14
              by_cases c15 : a1 = true
              · subst c15
                have H1 : (some 0) = some r := by rw [if_pos rfl] at H; exact H
                clear H
                have H := H1
                clear H1
                obtain rfl := Option.some.inj H
                have hcz16_0 : wc.cell? ⟨gb101, 0, none⟩ = some (.int .i64 a0_0) := (blk_cell BK101.out 0).trans rfl
                have hcz16_1 : wc.cell? ⟨gb101, 1, none⟩ = some (.int .i64 a0_1) := (blk_cell BK101.out 1).trans rfl
                have hfz16_0 := blk_frozen BK101.out 0
                have hfz16_1 := blk_frozen BK101.out 1
                go_wp2
                go_ret
                exact ⟨by first | rfl | (simp [errW_none, errW_some] <;> rfl) | (simp [*, errW_none, errW_some] <;> rfl), by repeat (first | (with_reducible first | exact HB.out | apply below_alloc | apply pw_below_drewN | apply below_drew1 | refine below_set ?_ GE101.out) | exact HB.out)⟩
              · replace c15 := Bool.eq_false_iff.mpr c15
                subst c15
                have H1 : (some 1) = some r := by rw [if_neg (show ¬ (false = true) by decide)] at H; exact H
                clear H
                have H := H1
                clear H1
                obtain rfl := Option.some.inj H
                have hcz17_0 : wc.cell? ⟨gb101, 0, none⟩ = some (.int .i64 a0_0) := (blk_cell BK101.out 0).trans rfl
                have hcz17_1 : wc.cell? ⟨gb101, 1, none⟩ = some (.int .i64 a0_1) := (blk_cell BK101.out 1).trans rfl
                have hfz17_0 := blk_frozen BK101.out 0
                have hfz17_1 := blk_frozen BK101.out 1
                go_wp2
                go_ret
                exact ⟨by first | rfl | (simp [errW_none, errW_some] <;> rfl) | (simp [*, errW_none, errW_some] <;> rfl), by repeat (first | (with_reducible first | exact HB.out | apply below_alloc | apply pw_below_drewN | apply below_drew1 | refine below_set ?_ GE101.out) | exact HB.out)⟩
            · rw [if_neg c14] at H
              have c14b0 : (a0_1 == 1) = false := beq_eq_false_iff_ne.mpr c14
              have c14b1 : (a0_1 != 1) = true := bne_iff_ne.mpr c14
              obtain rfl := Option.some.inj H
              have hcz18_0 : wc.cell? ⟨gb101, 0, none⟩ = some (.int .i64 a0_0) := (blk_cell BK101.out 0).trans rfl
              have hcz18_1 : wc.cell? ⟨gb101, 1, none⟩ = some (.int .i64 a0_1) := (blk_cell BK101.out 1).trans rfl
              have hfz18_0 := blk_frozen BK101.out 0
              have hfz18_1 := blk_frozen BK101.out 1
              go_wp2
              go_ret
              exact ⟨by first | rfl | (simp [errW_none, errW_some] <;> rfl) | (simp [*, errW_none, errW_some] <;> rfl), by repeat (first | (with_reducible first | exact HB.out | apply below_alloc | apply pw_below_drewN | apply below_drew1 | refine below_set ?_ GE101.out) | exact HB.out)⟩
        · rw [if_neg c11] at H
          have c11b0 : (a0_0 == 2) = false := beq_eq_false_iff_ne.mpr c11
          have c11b1 : (a0_0 != 2) = true := bne_iff_ne.mpr c11
          by_cases c19 : a0_0 = 4
          · rw [if_pos c19] at H
            have c19b0 : (a0_0 == 4) = true := beq_iff_eq.mpr c19
            have c19b1 : (a0_0 != 4) = false := bne_eq_false_iff_eq.mpr c19
            clear c19
            by_cases c20 : a0_1 > 2147483647
            · rw [if_pos c20] at H
              have c20b0 : decide (2147483647 < a0_1) = true := decide_eq_true c20
              clear c20
              obtain rfl := Option.some.inj H
              have hcz21_0 : wc.cell? ⟨gb101, 0, none⟩ = some (.int .i64 a0_0) := (blk_cell BK101.out 0).trans rfl
              have hcz21_1 : wc.cell? ⟨gb101, 1, none⟩ = some (.int .i64 a0_1) := (blk_cell BK101.out 1).trans rfl
              have hfz21_0 := blk_frozen BK101.out 0
              have hfz21_1 := blk_frozen BK101.out 1
              go_wp2
              go_ret
              exact ⟨by first | rfl | (simp [errW_none, errW_some] <;> rfl) | (simp [*, errW_none, errW_some] <;> rfl), by repeat (first | (with_reducible first | exact HB.out | apply below_alloc | apply pw_below_drewN | apply below_drew1 | refine below_set ?_ GE101.out) | exact HB.out)⟩
            · rw [if_neg c20] at H
              have c20b0 : decide (2147483647 < a0_1) = false := decide_eq_false c20
              clear c20
              obtain rfl := Option.some.inj H
              have hcz22_0 : wc.cell? ⟨gb101, 0, none⟩ = some (.int .i64 a0_0) := (blk_cell BK101.out 0).trans rfl
              have hcz22_1 : wc.cell? ⟨gb101, 1, none⟩ = some (.int .i64 a0_1) := (blk_cell BK101.out 1).trans rfl
              have hfz22_0 := blk_frozen BK101.out 0
              have hfz22_1 := blk_frozen BK101.out 1
              go_wp2
              go_ret
              exact ⟨by first | rfl | (simp [errW_none, errW_some] <;> rfl) | (simp [*, errW_none, errW_some] <;> rfl), by repeat (first | (with_reducible first | exact HB.out | apply below_alloc | apply pw_below_drewN | apply below_drew1 | refine below_set ?_ GE101.out) | exact HB.out)⟩
          · rw [if_neg c19] at H
            have c19b0 : (a0_0 == 4) = false := beq_eq_false_iff_ne.mpr c19
            have c19b1 : (a0_0 != 4) = true := bne_iff_ne.mpr c19
            by_cases c23 : a0_0 = 5
            · rw [if_pos c23] at H
              have c23b0 : (a0_0 == 5) = true := beq_iff_eq.mpr c23
              have c23b1 : (a0_0 != 5) = false := bne_eq_false_iff_eq.mpr c23
              clear c23
              replace H := Option.bind_eq_some_iff.mp H
              obtain ⟨t104, A240, H⟩ := H
              replace H : (if t104 = true then (some 0) else (some 1)) = some r := H
              have A24 := Aside0.mk A240
              clear A240
              by_cases c25 : t104 = true
              · subst c25
                have H1 : (some 0) = some r := by rw [if_pos rfl] at H; exact H
                clear H
                have H := H1
                clear H1
                obtain rfl := Option.some.inj H
                have hcz26_0 : wc.cell? ⟨gb101, 0, none⟩ = some (.int .i64 a0_0) := (blk_cell BK101.out 0).trans rfl
                have hcz26_1 : wc.cell? ⟨gb101, 1, none⟩ = some (.int .i64 a0_1) := (blk_cell BK101.out 1).trans rfl
                have hfz26_0 := blk_frozen BK101.out 0
                have hfz26_1 := blk_frozen BK101.out 1
                go_wp2_with (first | ((with_reducible refine gate_callee (f := 35) rfl ?_); refine goesL_ (some 40) rfl rfl Tryd.func35 (by kernel_rfl) rfl #[.int .i64 a0_1, .int .i64 16384, .int .i64 16777215] rfl (by (try simp only [List.map_toArray, List.map_cons, List.map_nil]); first | done | rfl | (simp only [List.length_drop, List.length_take]; rfl)) ?_; (with_reducible refine (setting_within.calls a0_1 16384 16777215 true _ A24.out).mono ?_); rintro e w' ⟨rfl, ⟨nd, rfl⟩⟩; refine ⟨_, rfl, ?_⟩))
                go_ret
                exact ⟨by first | rfl | (simp [errW_none, errW_some] <;> rfl) | (simp [*, errW_none, errW_some] <;> rfl), by repeat (first | (with_reducible first | exact HB.out | apply below_alloc | apply pw_below_drewN | apply below_drew1 | refine below_set ?_ GE101.out) | exact HB.out)⟩
              · replace c25 := Bool.eq_false_iff.mpr c25
                subst c25
                have H1 : (some 1) = some r := by rw [if_neg (show ¬ (false = true) by decide)] at H; exact H
                clear H
                have H := H1
                clear H1
                obtain rfl := Option.some.inj H
                have hcz27_0 : wc.cell? ⟨gb101, 0, none⟩ = some (.int .i64 a0_0) := (blk_cell BK101.out 0).trans rfl
                have hcz27_1 : wc.cell? ⟨gb101, 1, none⟩ = some (.int .i64 a0_1) := (blk_cell BK101.out 1).trans rfl
                have hfz27_0 := blk_frozen BK101.out 0
                have hfz27_1 := blk_frozen BK101.out 1
                go_wp2_with (first | ((with_reducible refine gate_callee (f := 35) rfl ?_); refine goesL_ (some 40) rfl rfl Tryd.func35 (by kernel_rfl) rfl #[.int .i64 a0_1, .int .i64 16384, .int .i64 16777215] rfl (by (try simp only [List.map_toArray, List.map_cons, List.map_nil]); first | done | rfl | (simp only [List.length_drop, List.length_take]; rfl)) ?_; (with_reducible refine (setting_within.calls a0_1 16384 16777215 false _ A24.out).mono ?_); rintro e w' ⟨rfl, ⟨nd, rfl⟩⟩; refine ⟨_, rfl, ?_⟩))
                go_ret
                exact ⟨by first | rfl | (simp [errW_none, errW_some] <;> rfl) | (simp [*, errW_none, errW_some] <;> rfl), by repeat (first | (with_reducible first | exact HB.out | apply below_alloc | apply pw_below_drewN | apply below_drew1 | refine below_set ?_ GE101.out) | exact HB.out)⟩
            · rw [if_neg c23] at H
              have c23b0 : (a0_0 == 5) = false := beq_eq_false_iff_ne.mpr c23
              have c23b1 : (a0_0 != 5) = true := bne_iff_ne.mpr c23
              obtain rfl := Option.some.inj H
              have hcz28_0 : wc.cell? ⟨gb101, 0, none⟩ = some (.int .i64 a0_0) := (blk_cell BK101.out 0).trans rfl
              have hcz28_1 : wc.cell? ⟨gb101, 1, none⟩ = some (.int .i64 a0_1) := (blk_cell BK101.out 1).trans rfl
              have hfz28_0 := blk_frozen BK101.out 0
              have hfz28_1 := blk_frozen BK101.out 1
              go_wp2
              go_ret
              exact ⟨by first | rfl | (simp [errW_none, errW_some] <;> rfl) | (simp [*, errW_none, errW_some] <;> rfl), by repeat (first | (with_reducible first | exact HB.out | apply below_alloc | apply pw_below_drewN | apply below_drew1 | refine below_set ?_ GE101.out) | exact HB.out)⟩

/-! ### heraldlaw08_sameParams: function 17 -/
def heraldlaw08_sameParams.l0 : Nat → List (S28) → List (S28) → Int → Option (Bool)
  | 0, _, _, _ => none
  | k + 1, x0, x1, x5 => if x5 < (x0.length : Int) then (if 0 ≤ x5 then (if x5 < (x1.length : Int) then (if (!(((rd_T28 x0 x5).f0) == ((rd_T28 x1 x5).f0)) || (!(((rd_T28 x0 x5).f1) == ((rd_T28 x1 x5).f1)))) = true then (some false) else (heraldlaw08_sameParams.l0 k x0 x1 (wrap64 (x5 + 1)))) else (none)) else (none)) else (some true)
def heraldlaw08_sameParams.f (k : Nat) (l0 : List (S28)) (l1 : List (S28)) : Option (Bool) := if (l0.length : Int) = (l1.length : Int) then (heraldlaw08_sameParams.l0 k l0 l1 0) else (some false)
theorem heraldlaw08_sameParams.mono_l : ∀ k, (∀ y0 y1 y2, LeO (heraldlaw08_sameParams.l0 k y0 y1 y2) (heraldlaw08_sameParams.l0 (k + 1) y0 y1 y2))
  | 0 => fun _ _ _ r h => by simp [heraldlaw08_sameParams.l0] at h
  | k + 1 => by
    have ih0 := heraldlaw08_sameParams.mono_l k
    · intro y0 y1 y2
      unfold heraldlaw08_sameParams.l0
      repeat' first
      | (with_reducible exact ih0 _ _ _)
      | (with_reducible exact LeO.refl _)
      | (with_reducible exact LeO.none _)
      | (with_reducible refine LeO.ite ?_ ?_)
      | (with_reducible refine LeO.bind ?_ (fun _ => ?_))
      | exact ih0 _ _ _
      | exact LeO.none _
      | refine LeO.ite ?_ ?_
      | refine LeO.bind ?_ (fun _ => ?_)
theorem heraldlaw08_sameParams.mono : ∀ a0 a1 k, LeO (heraldlaw08_sameParams.f k a0 a1) (heraldlaw08_sameParams.f (k + 1) a0 a1) := by
  intro a0 a1 k
  have ih0 := heraldlaw08_sameParams.mono_l k
  unfold heraldlaw08_sameParams.f
  repeat' first
      | (with_reducible exact ih0 _ _ _)
      | (with_reducible exact LeO.refl _)
      | (with_reducible exact LeO.none _)
      | (with_reducible refine LeO.ite ?_ ?_)
      | (with_reducible refine LeO.bind ?_ (fun _ => ?_))
      | exact ih0 _ _ _
      | exact LeO.none _
      | refine LeO.ite ?_ ?_
      | refine LeO.bind ?_ (fun _ => ?_)
set_option maxHeartbeats 8000000 in
set_option maxRecDepth 100000 in
theorem heraldlaw08_sameParams.calls (k : Nat) (A0 : Option Addr) (c0 : Nat) (l0 : List (S28)) (A1 : Option Addr) (c1 : Nat) (l1 : List (S28)) (r : Bool) (w : World) (hr0 : Kd.C k28 w A0 l0.length l0) (hc0 : l0.length ≤ c0) (hr1 : Kd.C k28 w A1 l1.length l1) (hc1 : l1.length ≤ c1) (h : heraldlaw08_sameParams.f k l0 l1 = some r) :
    Calls Tryd.prog 17 #[.slice A0 l0.length c0, .slice A1 l1.length c1] w fun e w' => e = .returned (.bool r) ∧ Drawn0 w w' := by
  have hu28 := Tryd.underlying28
  have HR0 := Aside0.mk hr0
  have HC0 := Aside0.mk hc0
  clear hr0 hc0
  have HR1 := Aside0.mk hr1
  have HC1 := Aside0.mk hc1
  clear hr1 hc1
  have H : (if (l0.length : Int) = (l1.length : Int) then (heraldlaw08_sameParams.l0 k l0 l1 0) else (some false)) = some r := h
  clear h
  by_cases c3 : (l0.length : Int) = (l1.length : Int)
  · rw [if_pos c3] at H
    have c3b0 : ((l0.length : Int) == (l1.length : Int)) = true := beq_iff_eq.mpr c3
    have c3b1 : ((l0.length : Int) != (l1.length : Int)) = false := bne_eq_false_iff_eq.mpr c3
    have c3b2 : (l0.length == l1.length) = true := by first | simpa using c3 | (simp at c3 ⊢; omega)
    clear c3
    have H' := Aside0.mk H
    clear H
    go_enter Tryd.func17, Tryd.ntmps17
    go_wp2
    repeat (go_quiet (fail); try go_wp2)
    go_loopg [5] k (fun kq v5 w' => ∃ (x5_1 : Int), v5 = .int .i64 x5_1 ∧ Aside0 (heraldlaw08_sameParams.l0 kq l0 l1 x5_1 = some r) ∧ Aside0 (kq ≤ k) ∧ Drawn0 w w')
    case atStart => exact ⟨(0), (by first | rfl | (simp; done) | (simp [*]; done)), H', ⟨Nat.le_refl _⟩, by repeat (first | exact Drawn0.refl _ | apply Drawn0.step)⟩
    case round =>
      clear H'
      try clear c1
      try clear p2
      try clear c3
      try clear c3b0
      try clear c3b1
      try clear c3b2
      obtain ⟨x5_1, rfl, HA, HK1, ⟨m1, rfl⟩⟩ := hrel
      cases gk with
      | zero => exact absurd HA.out (by simp [heraldlaw08_sameParams.l0])
      | succ k1 =>
        have H := HA.out
        clear HA
        simp only [heraldlaw08_sameParams.l0] at H
        by_cases c4 : x5_1 < (l0.length : Int)
        · rw [if_pos c4] at H
          have c4b0 : decide (x5_1 < (l0.length : Int)) = true := decide_eq_true c4
          clear c4
          by_cases c5 : 0 ≤ x5_1
          · rw [if_pos c5] at H
            have c5b0 : decide (0 ≤ x5_1) = true := decide_eq_true c5
            clear c5
            by_cases c6 : x5_1 < (l1.length : Int)
            · rw [if_pos c6] at H
              have c6b0 : decide (x5_1 < (l1.length : Int)) = true := decide_eq_true c6
              clear c6
              by_cases c7 : (!(((rd_T28 l0 x5_1).f0) == ((rd_T28 l1 x5_1).f0)) || (!(((rd_T28 l0 x5_1).f1) == ((rd_T28 l1 x5_1).f1)))) = true
              · rw [if_pos c7] at H
                have c7b0 : (!(((rd_T28 l0 x5_1).f0) == ((rd_T28 l1 x5_1).f0)) || (!(((rd_T28 l0 x5_1).f1) == ((rd_T28 l1 x5_1).f1)))) = true := c7
                clear c7
                obtain rfl := Option.some.inj H
                have p105 : 0 ≤ (x5_1 : Int) := of_decide_eq_true (by first | (with_reducible assumption) | assumption)
                have q105 : x5_1 < (l0.length : Int) := of_decide_eq_true (by first | (with_reducible assumption) | assumption)
                obtain ⟨ad105, e105, hx105_0, hx105_1⟩ := at_T28 HR0.out x5_1 p105 q105
                cases e105
                replace p105 := eq_true p105
                replace q105 := eq_true q105
                have p106 : 0 ≤ (x5_1 : Int) := of_decide_eq_true (by first | (with_reducible assumption) | assumption)
                have q106 : x5_1 < (l1.length : Int) := of_decide_eq_true (by first | (with_reducible assumption) | assumption)
                obtain ⟨ad106, e106, hx106_0, hx106_1⟩ := at_T28 HR1.out x5_1 p106 q106
                cases e106
                replace p106 := eq_true p106
                replace q106 := eq_true q106
                go_wp2
                repeat (go_quiet (fail); try go_wp2)
                go_ret
                exact ⟨by first | rfl | (simp; done) | (simp [*]; done), by repeat (first | exact Drawn0.refl _ | apply Drawn0.step)⟩
              · rw [if_neg c7] at H
                have c7b0 : (!(((rd_T28 l0 x5_1).f0) == ((rd_T28 l1 x5_1).f0)) || (!(((rd_T28 l0 x5_1).f1) == ((rd_T28 l1 x5_1).f1)))) = false := by simpa using c7
                clear c7
                have H' := Aside0.mk H
                clear H
                have p105 : 0 ≤ (x5_1 : Int) := of_decide_eq_true (by first | (with_reducible assumption) | assumption)
                have q105 : x5_1 < (l0.length : Int) := of_decide_eq_true (by first | (with_reducible assumption) | assumption)
                obtain ⟨ad105, e105, hx105_0, hx105_1⟩ := at_T28 HR0.out x5_1 p105 q105
                cases e105
                replace p105 := eq_true p105
                replace q105 := eq_true q105
                have p106 : 0 ≤ (x5_1 : Int) := of_decide_eq_true (by first | (with_reducible assumption) | assumption)
                have q106 : x5_1 < (l1.length : Int) := of_decide_eq_true (by first | (with_reducible assumption) | assumption)
                obtain ⟨ad106, e106, hx106_0, hx106_1⟩ := at_T28 HR1.out x5_1 p106 q106
                cases e106
                replace p106 := eq_true p106
                replace q106 := eq_true q106
                go_wp2
                repeat (go_quiet (fail); try go_wp2)
                go_roundg k1
                case measure => have := HK1.out; omega
                case rel => exact ⟨(wrap64 (x5_1 + 1)), (by first | rfl | (simp; done) | (simp [*]; done)), H', ⟨by have := HK1.out; omega⟩, by repeat (first | exact Drawn0.refl _ | apply Drawn0.step)⟩
            · rw [if_neg c6] at H
              exact absurd H (by simp)
          · rw [if_neg c5] at H
            exact absurd H (by simp)
        · rw [if_neg c4] at H
          have c4b0 : decide (x5_1 < (l0.length : Int)) = false := decide_eq_false c4
          clear c4
          obtain rfl := Option.some.inj H
          go_wp2
          repeat (go_quiet (fail); try go_wp2)
          go_ret
          exact ⟨by first | rfl | (simp; done) | (simp [*]; done), by repeat (first | exact Drawn0.refl _ | apply Drawn0.step)⟩
  · rw [if_neg c3] at H
    have c3b0 : ((l0.length : Int) == (l1.length : Int)) = false := beq_eq_false_iff_ne.mpr c3
    have c3b1 : ((l0.length : Int) != (l1.length : Int)) = true := bne_iff_ne.mpr c3
    have c3b2 : (l0.length == l1.length) = false := by first | simpa using c3 | (simp at c3 ⊢; omega)
    obtain rfl := Option.some.inj H
    go_enter Tryd.func17, Tryd.ntmps17
    go_wp2
    repeat (go_quiet (fail); try go_wp2)
    go_ret
    exact ⟨by first | rfl | (simp; done) | (simp [*]; done), by repeat (first | exact Drawn0.refl _ | apply Drawn0.step)⟩

/-! ### heraldlaw08_sameInts: function 15 -/
def heraldlaw08_sameInts.l0 : Nat → List Int → List Int → Int → Option (Bool)
  | 0, _, _, _ => none
  | k + 1, x0, x1, x5 => if x5 < (x0.length : Int) then (if 0 ≤ x5 then (if x5 < (x1.length : Int) then (if (rd x0 x5) = (rd x1 x5) then (heraldlaw08_sameInts.l0 k x0 x1 (wrap64 (x5 + 1))) else (some false)) else (none)) else (none)) else (some true)
def heraldlaw08_sameInts.f (k : Nat) (l0 : List Int) (l1 : List Int) : Option (Bool) := if (l0.length : Int) = (l1.length : Int) then (heraldlaw08_sameInts.l0 k l0 l1 0) else (some false)
theorem heraldlaw08_sameInts.mono_l : ∀ k, (∀ y0 y1 y2, LeO (heraldlaw08_sameInts.l0 k y0 y1 y2) (heraldlaw08_sameInts.l0 (k + 1) y0 y1 y2))
  | 0 => fun _ _ _ r h => by simp [heraldlaw08_sameInts.l0] at h
  | k + 1 => by
    have ih0 := heraldlaw08_sameInts.mono_l k
    · intro y0 y1 y2
      unfold heraldlaw08_sameInts.l0
      repeat' first
      | (with_reducible exact ih0 _ _ _)
      | (with_reducible exact LeO.refl _)
      | (with_reducible exact LeO.none _)
      | (with_reducible refine LeO.ite ?_ ?_)
      | (with_reducible refine LeO.bind ?_ (fun _ => ?_))
      | exact ih0 _ _ _
      | exact LeO.none _
      | refine LeO.ite ?_ ?_
      | refine LeO.bind ?_ (fun _ => ?_)
theorem heraldlaw08_sameInts.mono : ∀ a0 a1 k, LeO (heraldlaw08_sameInts.f k a0 a1) (heraldlaw08_sameInts.f (k + 1) a0 a1) := by
  intro a0 a1 k
  have ih0 := heraldlaw08_sameInts.mono_l k
  unfold heraldlaw08_sameInts.f
  repeat' first
      | (with_reducible exact ih0 _ _ _)
      | (with_reducible exact LeO.refl _)
      | (with_reducible exact LeO.none _)
      | (with_reducible refine LeO.ite ?_ ?_)
      | (with_reducible refine LeO.bind ?_ (fun _ => ?_))
      | exact ih0 _ _ _
      | exact LeO.none _
      | refine LeO.ite ?_ ?_
      | refine LeO.bind ?_ (fun _ => ?_)
set_option maxHeartbeats 8000000 in
set_option maxRecDepth 100000 in
theorem heraldlaw08_sameInts.calls (k : Nat) (A0 : Option Addr) (c0 : Nat) (l0 : List Int) (A1 : Option Addr) (c1 : Nat) (l1 : List Int) (r : Bool) (w : World) (hr0 : Kd.C (Kd.int .i64) w A0 l0.length l0) (hc0 : l0.length ≤ c0) (hr1 : Kd.C (Kd.int .i64) w A1 l1.length l1) (hc1 : l1.length ≤ c1) (h : heraldlaw08_sameInts.f k l0 l1 = some r) :
    Calls Tryd.prog 15 #[.slice A0 l0.length c0, .slice A1 l1.length c1] w fun e w' => e = .returned (.bool r) ∧ Drawn0 w w' := by
  have HR0 := Aside0.mk hr0
  have HC0 := Aside0.mk hc0
  clear hr0 hc0
  have HR1 := Aside0.mk hr1
  have HC1 := Aside0.mk hc1
  clear hr1 hc1
  have H : (if (l0.length : Int) = (l1.length : Int) then (heraldlaw08_sameInts.l0 k l0 l1 0) else (some false)) = some r := h
  clear h
  by_cases c3 : (l0.length : Int) = (l1.length : Int)
  · rw [if_pos c3] at H
    have c3b0 : ((l0.length : Int) == (l1.length : Int)) = true := beq_iff_eq.mpr c3
    have c3b1 : ((l0.length : Int) != (l1.length : Int)) = false := bne_eq_false_iff_eq.mpr c3
    have c3b2 : (l0.length == l1.length) = true := by first | simpa using c3 | (simp at c3 ⊢; omega)
    clear c3
    have H' := Aside0.mk H
    clear H
    go_enter Tryd.func15, Tryd.ntmps15
    go_wp2
    repeat (go_quiet (fail); try go_wp2)
    go_loopg [5] k (fun kq v5 w' => ∃ (x5_1 : Int), v5 = .int .i64 x5_1 ∧ Aside0 (heraldlaw08_sameInts.l0 kq l0 l1 x5_1 = some r) ∧ Aside0 (kq ≤ k) ∧ Drawn0 w w')
    case atStart => exact ⟨(0), (by first | rfl | (simp; done) | (simp [*]; done)), H', ⟨Nat.le_refl _⟩, by repeat (first | exact Drawn0.refl _ | apply Drawn0.step)⟩
    case round =>
      clear H'
      try clear c1
      try clear p2
      try clear c3
      try clear c3b0
      try clear c3b1
      try clear c3b2
      obtain ⟨x5_1, rfl, HA, HK1, ⟨m1, rfl⟩⟩ := hrel
      cases gk with
      | zero => exact absurd HA.out (by simp [heraldlaw08_sameInts.l0])
      | succ k1 =>
        have H := HA.out
        clear HA
        simp only [heraldlaw08_sameInts.l0] at H
        by_cases c4 : x5_1 < (l0.length : Int)
        · rw [if_pos c4] at H
          have c4b0 : decide (x5_1 < (l0.length : Int)) = true := decide_eq_true c4
          clear c4
          by_cases c5 : 0 ≤ x5_1
          · rw [if_pos c5] at H
            have c5b0 : decide (0 ≤ x5_1) = true := decide_eq_true c5
            clear c5
            by_cases c6 : x5_1 < (l1.length : Int)
            · rw [if_pos c6] at H
              have c6b0 : decide (x5_1 < (l1.length : Int)) = true := decide_eq_true c6
              clear c6
              by_cases c7 : (rd l0 x5_1) = (rd l1 x5_1)
              · rw [if_pos c7] at H
                have c7b0 : ((rd l0 x5_1) == (rd l1 x5_1)) = true := beq_iff_eq.mpr c7
                have c7b1 : ((rd l0 x5_1) != (rd l1 x5_1)) = false := bne_eq_false_iff_eq.mpr c7
                clear c7
                have H' := Aside0.mk H
                clear H
                have p107 : 0 ≤ (x5_1 : Int) := of_decide_eq_true (by first | (with_reducible assumption) | assumption)
                have q107 : x5_1 < (l0.length : Int) := of_decide_eq_true (by first | (with_reducible assumption) | assumption)
                obtain ⟨ad107, e107, hx107_0⟩ := Kd.at_int HR0.out x5_1 p107 q107
                cases e107
                replace p107 := eq_true p107
                replace q107 := eq_true q107
                have p108 : 0 ≤ (x5_1 : Int) := of_decide_eq_true (by first | (with_reducible assumption) | assumption)
                have q108 : x5_1 < (l1.length : Int) := of_decide_eq_true (by first | (with_reducible assumption) | assumption)
                obtain ⟨ad108, e108, hx108_0⟩ := Kd.at_int HR1.out x5_1 p108 q108
                cases e108
                replace p108 := eq_true p108
                replace q108 := eq_true q108
                go_wp2
                repeat (go_quiet (fail); try go_wp2)
                go_roundg k1
                case measure => have := HK1.out; omega
                case rel => exact ⟨(wrap64 (x5_1 + 1)), (by first | rfl | (simp; done) | (simp [*]; done)), H', ⟨by have := HK1.out; omega⟩, by repeat (first | exact Drawn0.refl _ | apply Drawn0.step)⟩
              · rw [if_neg c7] at H
                have c7b0 : ((rd l0 x5_1) == (rd l1 x5_1)) = false := beq_eq_false_iff_ne.mpr c7
                have c7b1 : ((rd l0 x5_1) != (rd l1 x5_1)) = true := bne_iff_ne.mpr c7
                obtain rfl := Option.some.inj H
                have p107 : 0 ≤ (x5_1 : Int) := of_decide_eq_true (by first | (with_reducible assumption) | assumption)
                have q107 : x5_1 < (l0.length : Int) := of_decide_eq_true (by first | (with_reducible assumption) | assumption)
                obtain ⟨ad107, e107, hx107_0⟩ := Kd.at_int HR0.out x5_1 p107 q107
                cases e107
                replace p107 := eq_true p107
                replace q107 := eq_true q107
                have p108 : 0 ≤ (x5_1 : Int) := of_decide_eq_true (by first | (with_reducible assumption) | assumption)
                have q108 : x5_1 < (l1.length : Int) := of_decide_eq_true (by first | (with_reducible assumption) | assumption)
                obtain ⟨ad108, e108, hx108_0⟩ := Kd.at_int HR1.out x5_1 p108 q108
                cases e108
                replace p108 := eq_true p108
                replace q108 := eq_true q108
                go_wp2
                repeat (go_quiet (fail); try go_wp2)
                go_ret
                exact ⟨by first | rfl | (simp; done) | (simp [*]; done), by repeat (first | exact Drawn0.refl _ | apply Drawn0.step)⟩
            · rw [if_neg c6] at H
              exact absurd H (by simp)
          · rw [if_neg c5] at H
            exact absurd H (by simp)
        · rw [if_neg c4] at H
          have c4b0 : decide (x5_1 < (l0.length : Int)) = false := decide_eq_false c4
          clear c4
          obtain rfl := Option.some.inj H
          go_wp2
          repeat (go_quiet (fail); try go_wp2)
          go_ret
          exact ⟨by first | rfl | (simp; done) | (simp [*]; done), by repeat (first | exact Drawn0.refl _ | apply Drawn0.step)⟩
  · rw [if_neg c3] at H
    have c3b0 : ((l0.length : Int) == (l1.length : Int)) = false := beq_eq_false_iff_ne.mpr c3
    have c3b1 : ((l0.length : Int) != (l1.length : Int)) = true := bne_iff_ne.mpr c3
    have c3b2 : (l0.length == l1.length) = false := by first | simpa using c3 | (simp at c3 ⊢; omega)
    obtain rfl := Option.some.inj H
    go_enter Tryd.func15, Tryd.ntmps15
    go_wp2
    repeat (go_quiet (fail); try go_wp2)
    go_ret
    exact ⟨by first | rfl | (simp; done) | (simp [*]; done), by repeat (first | exact Drawn0.refl _ | apply Drawn0.step)⟩

/-! ### heraldlaw08_made: function 30 -/
def heraldlaw08_made.f (a0_0 : Int) (a0_1 : Int) (a0_2 : Int) (a0_3 : Int) (a0_4 : Int) (a0_5 : Int) : Option (Int × Int × Int × Int × Int × Int) := some (Go.bits .and .i64 a0_0 65535, Go.bits .and .i64 a0_1 1, Go.bits .and .i64 a0_2 2147483647, Go.bits .and .i64 a0_3 2147483647, wrap64 (16384 + (Go.bits .and .i64 a0_4 32767)), wrap64 (1024 + (Go.bits .and .i64 a0_5 65535)))
set_option maxHeartbeats 8000000 in
set_option maxRecDepth 100000 in
theorem heraldlaw08_made.calls (a0_0 : Int) (a0_1 : Int) (a0_2 : Int) (a0_3 : Int) (a0_4 : Int) (a0_5 : Int) (r1 : Int) (r2 : Int) (r3 : Int) (r4 : Int) (r5 : Int) (r6 : Int) (w : World) (h : heraldlaw08_made.f a0_0 a0_1 a0_2 a0_3 a0_4 a0_5 = some (r1, r2, r3, r4, r5, r6)) :
    Calls Tryd.prog 30 #[.agg #[.int .i64 a0_0, .int .i64 a0_1, .int .i64 a0_2, .int .i64 a0_3, .int .i64 a0_4, .int .i64 a0_5]] w fun e w' => e = .returned (.agg #[.int .i64 r1, .int .i64 r2, .int .i64 r3, .int .i64 r4, .int .i64 r5, .int .i64 r6]) ∧ Below w.heap.size w w' := by
  have hu23 := Tryd.underlying23
  have HB := Aside0.mk (Below.refl w.heap.size w)
  have H : (some (Go.bits .and .i64 a0_0 65535, Go.bits .and .i64 a0_1 1, Go.bits .and .i64 a0_2 2147483647, Go.bits .and .i64 a0_3 2147483647, wrap64 (16384 + (Go.bits .and .i64 a0_4 32767)), wrap64 (1024 + (Go.bits .and .i64 a0_5 65535)))) = some (r1, r2, r3, r4, r5, r6) := h
  clear h
  simp only [Option.some.injEq, Prod.mk.injEq] at H
  obtain ⟨rfl, rfl, rfl, rfl, rfl, rfl⟩ := H
  go_enter Tryd.func30, Tryd.ntmps30
  go_wp2_with (first | ((with_reducible refine gate_dst (N := 1) rfl ?_); refine box_event ?hg (N := 1) ?hd (cs := #[.int .i64 a0_0, .int .i64 a0_1, .int .i64 a0_2, .int .i64 a0_3, .int .i64 a0_4, .int .i64 a0_5]) (t := 23) ?hr ?_; (case hd => rfl); (case hg => rfl); (case hr => first | (go_simp; done) | (go_simp; rfl)); intro gb109 hg w2 hbox hb; have n0_ := Aside0.mk (below_step (by repeat (first | (with_reducible first | exact HB.out | apply below_alloc | apply pw_below_drewN | apply below_drew1) | exact HB.out)) hb); have n1_ := Aside0.mk (hbox); have n2_ := Aside0.mk ((by rw [hg]; exact (below_size (by repeat (first | (with_reducible first | exact HB.out | apply below_alloc | apply pw_below_drewN | apply below_drew1) | exact HB.out))) : w.heap.size ≤ gb109)); have n3_ := Aside0.mk ((by rw [hg]; exact (below_size (by repeat (first | (with_reducible first | exact HB.out | apply below_alloc | apply pw_below_drewN | apply below_drew1) | exact HB.out))) : w.heap.size ≤ gb109)); clear HB; have HB := n0_; have BK109 := n1_; have GW109 := n2_; have GE109 := n3_; clear n0_ n1_ n2_ n3_; clear hb hbox hg) | ((with_reducible refine gate_dst (N := 2) rfl ?_); refine box_event ?hg (N := 2) ?hd (cs := #[.int .i64 0, .int .i64 0, .int .i64 0, .int .i64 0, .int .i64 0, .int .i64 0]) (t := 23) ?hr ?_; (case hd => rfl); (case hg => rfl); (case hr => first | (go_simp; done) | (go_simp; rfl)); intro gb110 hg w3 hbox hb; have n0_ := Aside0.mk (blk_below (g := gb109) (o := .cells #[.int .i64 a0_0, .int .i64 a0_1, .int .i64 a0_2, .int .i64 a0_3, .int .i64 a0_4, .int .i64 a0_5] 23 (0, 0)) (by (with_reducible repeat (first | refine blk_drewN ?_ _ | refine blk_drew ?_ | refine blk_alloc ?_ _)); exact BK109.out) hb); have n1_ := Aside0.mk (below_step (by repeat (first | (with_reducible first | exact HB.out | apply below_alloc | apply pw_below_drewN | apply below_drew1 | refine below_set ?_ GE109.out) | exact HB.out)) hb); have n2_ := Aside0.mk (hbox); have n3_ := Aside0.mk ((by rw [hg]; exact (below_size (by repeat (first | (with_reducible first | exact HB.out | apply below_alloc | apply pw_below_drewN | apply below_drew1 | refine below_set ?_ GE109.out) | exact HB.out))) : w.heap.size ≤ gb110)); have n4_ := Aside0.mk ((by rw [hg]; exact (below_size (by repeat (first | (with_reducible first | exact HB.out | apply below_alloc | apply pw_below_drewN | apply below_drew1 | refine below_set ?_ GE109.out) | exact HB.out))) : w.heap.size ≤ gb110)); have n5_ := Aside0.mk ((by rw [hg]; exact Nat.ne_of_lt (blk_lt (g := gb109) (o := .cells #[.int .i64 a0_0, .int .i64 a0_1, .int .i64 a0_2, .int .i64 a0_3, .int .i64 a0_4, .int .i64 a0_5] 23 (0, 0)) (by (with_reducible repeat (first | refine blk_drewN ?_ _ | refine blk_drew ?_ | refine blk_alloc ?_ _)); exact BK109.out)) : gb109 ≠ gb110)); have n6_ := Aside0.mk ((by rw [hg]; exact Nat.ne_of_gt (blk_lt (g := gb109) (o := .cells #[.int .i64 a0_0, .int .i64 a0_1, .int .i64 a0_2, .int .i64 a0_3, .int .i64 a0_4, .int .i64 a0_5] 23 (0, 0)) (by (with_reducible repeat (first | refine blk_drewN ?_ _ | refine blk_drew ?_ | refine blk_alloc ?_ _)); exact BK109.out)) : gb110 ≠ gb109)); clear BK109; clear HB; have BK109 := n0_; have HB := n1_; have BK110 := n2_; have GW110 := n3_; have GE110 := n4_; have NB109_110 := n5_; have NB110_109 := n6_; clear n0_ n1_ n2_ n3_ n4_ n5_ n6_; clear hb hbox hg; have hnb4 := NB109_110.out; have hnc4 := NB110_109.out; have hcz5_0 : w3.cell? ⟨gb109, 0, none⟩ = some (.int .i64 a0_0) := (blk_cell BK109.out 0).trans rfl; have hcz5_1 : w3.cell? ⟨gb109, 1, none⟩ = some (.int .i64 a0_1) := (blk_cell BK109.out 1).trans rfl; have hcz5_2 : w3.cell? ⟨gb109, 2, none⟩ = some (.int .i64 a0_2) := (blk_cell BK109.out 2).trans rfl; have hcz5_3 : w3.cell? ⟨gb109, 3, none⟩ = some (.int .i64 a0_3) := (blk_cell BK109.out 3).trans rfl; have hcz5_4 : w3.cell? ⟨gb109, 4, none⟩ = some (.int .i64 a0_4) := (blk_cell BK109.out 4).trans rfl; have hcz5_5 : w3.cell? ⟨gb109, 5, none⟩ = some (.int .i64 a0_5) := (blk_cell BK109.out 5).trans rfl; have hfz5_0 := blk_frozen BK109.out 0; have hfz5_1 := blk_frozen BK109.out 1; have hfz5_2 := blk_frozen BK109.out 2; have hfz5_3 := blk_frozen BK109.out 3; have hfz5_4 := blk_frozen BK109.out 4; have hfz5_5 := blk_frozen BK109.out 5; have hcz6_0 : w3.cell? ⟨gb110, 0, none⟩ = some (.int .i64 0) := (blk_cell BK110.out 0).trans rfl; have hcz6_1 : w3.cell? ⟨gb110, 1, none⟩ = some (.int .i64 0) := (blk_cell BK110.out 1).trans rfl; have hcz6_2 : w3.cell? ⟨gb110, 2, none⟩ = some (.int .i64 0) := (blk_cell BK110.out 2).trans rfl; have hcz6_3 : w3.cell? ⟨gb110, 3, none⟩ = some (.int .i64 0) := (blk_cell BK110.out 3).trans rfl; have hcz6_4 : w3.cell? ⟨gb110, 4, none⟩ = some (.int .i64 0) := (blk_cell BK110.out 4).trans rfl; have hcz6_5 : w3.cell? ⟨gb110, 5, none⟩ = some (.int .i64 0) := (blk_cell BK110.out 5).trans rfl; have hfz6_0 := blk_frozen BK110.out 0; have hfz6_1 := blk_frozen BK110.out 1; have hfz6_2 := blk_frozen BK110.out 2; have hfz6_3 := blk_frozen BK110.out 3; have hfz6_4 := blk_frozen BK110.out 4; have hfz6_5 := blk_frozen BK110.out 5))
  refine bodyPost_ret (results_cell_row rfl _ _ gb110 23 #[.int .i64 (Go.bits .and .i64 a0_0 65535), .int .i64 (Go.bits .and .i64 a0_1 1), .int .i64 (Go.bits .and .i64 a0_2 2147483647), .int .i64 (Go.bits .and .i64 a0_3 2147483647), .int .i64 (wrap64 (16384 + (Go.bits .and .i64 a0_4 32767))), .int .i64 (wrap64 (1024 + (Go.bits .and .i64 a0_5 65535)))] (0, 0) _ rfl (by (with_reducible repeat (first | refine blk_drewN ?_ _ | refine blk_drew ?_ | refine blk_alloc ?_ _)); refine blk_put (cs := #[.int .i64 (Go.bits .and .i64 a0_0 65535), .int .i64 (Go.bits .and .i64 a0_1 1), .int .i64 (Go.bits .and .i64 a0_2 2147483647), .int .i64 (Go.bits .and .i64 a0_3 2147483647), .int .i64 (wrap64 (16384 + (Go.bits .and .i64 a0_4 32767))), .int .i64 0]) ?_ 5 _ rfl; (with_reducible repeat (first | refine blk_drewN ?_ _ | refine blk_drew ?_ | refine blk_alloc ?_ _)); refine blk_put (cs := #[.int .i64 (Go.bits .and .i64 a0_0 65535), .int .i64 (Go.bits .and .i64 a0_1 1), .int .i64 (Go.bits .and .i64 a0_2 2147483647), .int .i64 (Go.bits .and .i64 a0_3 2147483647), .int .i64 0, .int .i64 0]) ?_ 4 _ rfl; (with_reducible repeat (first | refine blk_drewN ?_ _ | refine blk_drew ?_ | refine blk_alloc ?_ _)); refine blk_put (cs := #[.int .i64 (Go.bits .and .i64 a0_0 65535), .int .i64 (Go.bits .and .i64 a0_1 1), .int .i64 (Go.bits .and .i64 a0_2 2147483647), .int .i64 0, .int .i64 0, .int .i64 0]) ?_ 3 _ rfl; (with_reducible repeat (first | refine blk_drewN ?_ _ | refine blk_drew ?_ | refine blk_alloc ?_ _)); refine blk_put (cs := #[.int .i64 (Go.bits .and .i64 a0_0 65535), .int .i64 (Go.bits .and .i64 a0_1 1), .int .i64 0, .int .i64 0, .int .i64 0, .int .i64 0]) ?_ 2 _ rfl; (with_reducible repeat (first | refine blk_drewN ?_ _ | refine blk_drew ?_ | refine blk_alloc ?_ _)); refine blk_put (cs := #[.int .i64 (Go.bits .and .i64 a0_0 65535), .int .i64 0, .int .i64 0, .int .i64 0, .int .i64 0, .int .i64 0]) ?_ 1 _ rfl; (with_reducible repeat (first | refine blk_drewN ?_ _ | refine blk_drew ?_ | refine blk_alloc ?_ _)); refine blk_put (cs := #[.int .i64 0, .int .i64 0, .int .i64 0, .int .i64 0, .int .i64 0, .int .i64 0]) ?_ 0 _ rfl; (with_reducible repeat (first | refine blk_drewN ?_ _ | refine blk_drew ?_ | refine blk_alloc ?_ _)); exact BK110.out) Tryd.underlying23 rfl (by kernel_rfl)) rfl ?_
  exact ⟨by first | rfl | (simp [errW_none, errW_some] <;> rfl) | (simp [*, errW_none, errW_some] <;> rfl), by repeat (first | (with_reducible first | exact HB.out | apply below_alloc | apply pw_below_drewN | apply below_drew1 | refine below_set ?_ GE109.out | refine below_set ?_ GE110.out) | exact HB.out)⟩

end Go.Proofs.YtcjphkgmcfpfeaaDoor.QL
