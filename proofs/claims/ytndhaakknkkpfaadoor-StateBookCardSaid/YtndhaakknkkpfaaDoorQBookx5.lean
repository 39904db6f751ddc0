/- Written by a program of this session (a changed run of the kit's printer): what the Go functions of one call tree answer, as plain functions, and that the machine's calls answer so; no condition but those in each statement. -/
import Derived.Test.YtndhaakknkkpfaaDoorQBookx0
import Derived.Test.YtndhaakknkkpfaaDoorQBookx3
namespace Go.Proofs.YtndhaakknkkpfaaDoor.QBook
open Go.RowKit Go.Proofs.YtndhaakknkkpfaaDoorW.PrintWords Go.Proofs.YtndhaakknkkpfaaDoorW.PrintLast Go.Proofs.YtndhaakknkkpfaaDoorW.PrintMore
attribute [local go_sem] max2_int min2_int max_two min_two max_three min_three max_four min_four   -- for this text's walks alone
set_option linter.unusedVariables false
set_option linter.unusedSimpArgs false

/-! ### heraldlaw10_Book_state: function 16 -/
mutual
def heraldlaw10_Book_state.j0 : Nat → Bool → Bool → Bool → Bool → Bool → Option (Int)
  | 0, _, _, _, _, _ => none
  | k + 1, x10, x135000, x135001, x135002, x135003 => if x10 = true then (some 1) else (if x135001 = true then (if x135002 = true then (heraldlaw10_Book_state.j1 k x135003 x135000 x135001 x135002 x135003) else (heraldlaw10_Book_state.j1 k false x135000 x135001 x135002 x135003)) else (some 2))
def heraldlaw10_Book_state.j1 : Nat → Bool → Bool → Bool → Bool → Bool → Option (Int)
  | 0, _, _, _, _, _ => none
  | k + 1, x22, x135000, x135001, x135002, x135003 => if x22 = true then (some 3) else (if x135003 = true then (some 4) else (some 5))
end
def heraldlaw10_Book_state.f (k : Nat) (a0_0 : Bool) (a0_1 : Bool) (a0_2 : Bool) (a0_3 : Bool) : Option (Int) := if a0_0 = true then ((heraldlaw10_Book_over.f a0_0 a0_1 a0_2 a0_3).bind fun t135 => (if t135 = true then (some 6) else (if a0_1 = true then (heraldlaw10_Book_state.j0 k false a0_0 a0_1 a0_2 a0_3) else (heraldlaw10_Book_state.j0 k a0_2 a0_0 a0_1 a0_2 a0_3)))) else (some 0)
theorem heraldlaw10_Book_state.mono_l : ∀ k, (∀ y0 y1 y2 y3 y4, LeO (heraldlaw10_Book_state.j0 k y0 y1 y2 y3 y4) (heraldlaw10_Book_state.j0 (k + 1) y0 y1 y2 y3 y4)) ∧ (∀ y0 y1 y2 y3 y4, LeO (heraldlaw10_Book_state.j1 k y0 y1 y2 y3 y4) (heraldlaw10_Book_state.j1 (k + 1) y0 y1 y2 y3 y4))
  | 0 => ⟨fun _ _ _ _ _ r h => by simp [heraldlaw10_Book_state.j0] at h, fun _ _ _ _ _ r h => by simp [heraldlaw10_Book_state.j1] at h⟩
  | k + 1 => by
    obtain ⟨ih0, ih1⟩ := heraldlaw10_Book_state.mono_l k
    refine ⟨?_, ?_⟩
    · intro y0 y1 y2 y3 y4
      unfold heraldlaw10_Book_state.j0
      repeat' first
      | (with_reducible exact ih0 _ _ _ _ _)
      | (with_reducible exact ih1 _ _ _ _ _)
      | (with_reducible exact LeO.refl _)
      | (with_reducible exact LeO.none _)
      | (with_reducible refine LeO.ite ?_ ?_)
      | (with_reducible refine LeO.bind ?_ (fun _ => ?_))
      | exact ih0 _ _ _ _ _
      | exact ih1 _ _ _ _ _
      | exact LeO.none _
      | refine LeO.ite ?_ ?_
      | refine LeO.bind ?_ (fun _ => ?_)
    · intro y0 y1 y2 y3 y4
      unfold heraldlaw10_Book_state.j1
      repeat' first
      | (with_reducible exact ih0 _ _ _ _ _)
      | (with_reducible exact ih1 _ _ _ _ _)
      | (with_reducible exact LeO.refl _)
      | (with_reducible exact LeO.none _)
      | (with_reducible refine LeO.ite ?_ ?_)
      | (with_reducible refine LeO.bind ?_ (fun _ => ?_))
      | exact ih0 _ _ _ _ _
      | exact ih1 _ _ _ _ _
      | exact LeO.none _
      | refine LeO.ite ?_ ?_
      | refine LeO.bind ?_ (fun _ => ?_)
theorem heraldlaw10_Book_state.mono : ∀ a0 a1 a2 a3 k, LeO (heraldlaw10_Book_state.f k a0 a1 a2 a3) (heraldlaw10_Book_state.f (k + 1) a0 a1 a2 a3) := by
  intro a0 a1 a2 a3 k
  obtain ⟨ih0, ih1⟩ := heraldlaw10_Book_state.mono_l k
  unfold heraldlaw10_Book_state.f
  repeat' first
      | (with_reducible exact ih0 _ _ _ _ _)
      | (with_reducible exact ih1 _ _ _ _ _)
      | (with_reducible exact LeO.refl _)
      | (with_reducible exact LeO.none _)
      | (with_reducible refine LeO.ite ?_ ?_)
      | (with_reducible refine LeO.bind ?_ (fun _ => ?_))
      | exact ih0 _ _ _ _ _
      | exact ih1 _ _ _ _ _
      | exact LeO.none _
      | refine LeO.ite ?_ ?_
      | refine LeO.bind ?_ (fun _ => ?_)
set_option maxHeartbeats 8000000 in
set_option maxRecDepth 100000 in
theorem heraldlaw10_Book_state.calls (k : Nat) (a0_0 : Bool) (a0_1 : Bool) (a0_2 : Bool) (a0_3 : Bool) (r : Int) (w : World) (h : heraldlaw10_Book_state.f k a0_0 a0_1 a0_2 a0_3 = some r) :
    Calls Tryd.prog 16 #[.agg #[.bool a0_0, .bool a0_1, .bool a0_2, .bool a0_3]] w fun e w' => e = .returned (.int .i64 r) ∧ Below w.heap.size w w' := by
  have hu37 := Tryd.underlying37
  have HB := Aside0.mk (Below.refl w.heap.size w)
  have H : (if a0_0 = true then ((heraldlaw10_Book_over.f a0_0 a0_1 a0_2 a0_3).bind fun t135 => (if t135 = true then (some 6) else (if a0_1 = true then (heraldlaw10_Book_state.j0 k false a0_0 a0_1 a0_2 a0_3) else (heraldlaw10_Book_state.j0 k a0_2 a0_0 a0_1 a0_2 a0_3)))) else (some 0)) = some r := h
  clear h
  by_cases c2 : a0_0 = true
  · subst c2
    have H1 : ((heraldlaw10_Book_over.f true a0_1 a0_2 a0_3).bind fun t135 => (if t135 = true then (some 6) else (if a0_1 = true then (heraldlaw10_Book_state.j0 k false true a0_1 a0_2 a0_3) else (heraldlaw10_Book_state.j0 k a0_2 true a0_1 a0_2 a0_3)))) = some r := by rw [if_pos rfl] at H; exact H
    clear H
    have H := H1
    clear H1
    replace H := Option.bind_eq_some_iff.mp H
    obtain ⟨t135, A30, H⟩ := H
    replace H : (if t135 = true then (some 6) else (if a0_1 = true then (heraldlaw10_Book_state.j0 k false true a0_1 a0_2 a0_3) else (heraldlaw10_Book_state.j0 k a0_2 true a0_1 a0_2 a0_3))) = some r := H
    have A3 := Aside0.mk A30
    clear A30
    by_cases c4 : t135 = true
    · subst c4
      have H1 : (some 6) = some r := by rw [if_pos rfl] at H; exact H
      clear H
      have H := H1
      clear H1
      as_aux_lemma =>
        obtain rfl := Option.some.inj H
        go_enter Tryd.func16, Tryd.ntmps16
        go_wp2_with (first | ((with_reducible refine gate_dst (N := 1) rfl ?_); refine box_event ?hg (N := 1) ?hd (cs := #[.bool true, .bool a0_1, .bool a0_2, .bool a0_3]) (t := 37) ?hr ?_; (case hd => rfl); (case hg => rfl); (case hr => first | (go_simp; done) | (go_simp; rfl)); intro gb134 hg w5 hbox hb; have n0_ := Aside0.mk (below_step (by repeat (first | (with_reducible first | exact HB.out | apply below_alloc | apply pw_below_drewN | apply below_drew1) | exact HB.out)) hb); have n1_ := Aside0.mk (hbox); have n2_ := Aside0.mk ((by rw [hg]; exact (below_size (by repeat (first | (with_reducible first | exact HB.out | apply below_alloc | apply pw_below_drewN | apply below_drew1) | exact HB.out))) : w.heap.size ≤ gb134)); have n3_ := Aside0.mk ((by rw [hg]; exact (below_size (by repeat (first | (with_reducible first | exact HB.out | apply below_alloc | apply pw_below_drewN | apply below_drew1) | exact HB.out))) : w.heap.size ≤ gb134)); clear HB; have HB := n0_; have BK134 := n1_; have GW134 := n2_; have GE134 := n3_; clear n0_ n1_ n2_ n3_; clear hb hbox hg; have hcz6_0 : w5.cell? ⟨gb134, 0, none⟩ = some (.bool true) := (blk_cell BK134.out 0).trans rfl; have hcz6_1 : w5.cell? ⟨gb134, 1, none⟩ = some (.bool a0_1) := (blk_cell BK134.out 1).trans rfl; have hcz6_2 : w5.cell? ⟨gb134, 2, none⟩ = some (.bool a0_2) := (blk_cell BK134.out 2).trans rfl; have hcz6_3 : w5.cell? ⟨gb134, 3, none⟩ = some (.bool a0_3) := (blk_cell BK134.out 3).trans rfl; have hfz6_0 := blk_frozen BK134.out 0; have hfz6_1 := blk_frozen BK134.out 1; have hfz6_2 := blk_frozen BK134.out 2; have hfz6_3 := blk_frozen BK134.out 3) | ((with_reducible refine gate_callee (f := 17) rfl ?_); refine goesL_ (some 9) rfl rfl Tryd.func17 (by kernel_rfl) rfl #[.agg #[.bool true, .bool a0_1, .bool a0_2, .bool a0_3]] rfl (by (try simp only [List.map_toArray, List.map_cons, List.map_nil]); first | done | rfl | (simp only [List.length_drop, List.length_take]; rfl)) ?_; (with_reducible refine (heraldlaw10_Book_over.calls true a0_1 a0_2 a0_3 true _ A3.out).mono ?_); rintro e w7 ⟨rfl, hb⟩; refine ⟨_, rfl, ?_⟩; have n0_ := Aside0.mk (blk_below (g := gb134) (o := .cells #[.bool true, .bool a0_1, .bool a0_2, .bool a0_3] 37 (0, 0)) (by (with_reducible repeat (first | refine blk_drewN ?_ _ | refine blk_drew ?_ | refine blk_alloc ?_ _)); exact BK134.out) hb); have n1_ := Aside0.mk (below_step (by repeat (first | (with_reducible first | exact HB.out | apply below_alloc | apply pw_below_drewN | apply below_drew1 | refine below_set ?_ GE134.out) | exact HB.out)) hb); clear BK134; clear HB; have BK134 := n0_; have HB := n1_; clear n0_ n1_; (try clear hb); (try clear hb2); (try clear hk); (try clear hi)))
        go_ret
        exact ⟨by first | rfl | (simp [errW_none, errW_some] <;> rfl) | (simp [*, errW_none, errW_some] <;> rfl), by repeat (first | (with_reducible first | exact HB.out | apply below_alloc | apply pw_below_drewN | apply below_drew1 | refine below_set ?_ GE134.out) | exact HB.out)⟩
    · replace c4 := Bool.eq_false_iff.mpr c4
      subst c4
      have H1 : (if a0_1 = true then (heraldlaw10_Book_state.j0 k false true a0_1 a0_2 a0_3) else (heraldlaw10_Book_state.j0 k a0_2 true a0_1 a0_2 a0_3)) = some r := by rw [if_neg (show ¬ (false = true) by decide)] at H; exact H
      clear H
      have H := H1
      clear H1
      have HC8 := Aside0.mk H
      clear H
      go_enter Tryd.func16, Tryd.ntmps16
      go_upto_region 5 with (first | ((with_reducible refine gate_dst (N := 1) rfl ?_); refine box_event ?hg (N := 1) ?hd (cs := #[.bool true, .bool a0_1, .bool a0_2, .bool a0_3]) (t := 37) ?hr ?_; (case hd => rfl); (case hg => rfl); (case hr => first | (go_simp; done) | (go_simp; rfl)); intro gb134 hg w9 hbox hb; have n0_ := Aside0.mk (below_step (by repeat (first | (with_reducible first | exact HB.out | apply below_alloc | apply pw_below_drewN | apply below_drew1) | exact HB.out)) hb); have n1_ := Aside0.mk (hbox); have n2_ := Aside0.mk ((by rw [hg]; exact (below_size (by repeat (first | (with_reducible first | exact HB.out | apply below_alloc | apply pw_below_drewN | apply below_drew1) | exact HB.out))) : w.heap.size ≤ gb134)); have n3_ := Aside0.mk ((by rw [hg]; exact (below_size (by repeat (first | (with_reducible first | exact HB.out | apply below_alloc | apply pw_below_drewN | apply below_drew1) | exact HB.out))) : w.heap.size ≤ gb134)); clear HB; have HB := n0_; have BK134 := n1_; have GW134 := n2_; have GE134 := n3_; clear n0_ n1_ n2_ n3_; clear hb hbox hg; have hcz10_0 : w9.cell? ⟨gb134, 0, none⟩ = some (.bool true) := (blk_cell BK134.out 0).trans rfl; have hcz10_1 : w9.cell? ⟨gb134, 1, none⟩ = some (.bool a0_1) := (blk_cell BK134.out 1).trans rfl; have hcz10_2 : w9.cell? ⟨gb134, 2, none⟩ = some (.bool a0_2) := (blk_cell BK134.out 2).trans rfl; have hcz10_3 : w9.cell? ⟨gb134, 3, none⟩ = some (.bool a0_3) := (blk_cell BK134.out 3).trans rfl; have hfz10_0 := blk_frozen BK134.out 0; have hfz10_1 := blk_frozen BK134.out 1; have hfz10_2 := blk_frozen BK134.out 2; have hfz10_3 := blk_frozen BK134.out 3) | ((with_reducible refine gate_callee (f := 17) rfl ?_); refine goesL_ (some 9) rfl rfl Tryd.func17 (by kernel_rfl) rfl #[.agg #[.bool true, .bool a0_1, .bool a0_2, .bool a0_3]] rfl (by (try simp only [List.map_toArray, List.map_cons, List.map_nil]); first | done | rfl | (simp only [List.length_drop, List.length_take]; rfl)) ?_; (with_reducible refine (heraldlaw10_Book_over.calls true a0_1 a0_2 a0_3 false _ A3.out).mono ?_); rintro e w11 ⟨rfl, hb⟩; refine ⟨_, rfl, ?_⟩; have n0_ := Aside0.mk (blk_below (g := gb134) (o := .cells #[.bool true, .bool a0_1, .bool a0_2, .bool a0_3] 37 (0, 0)) (by (with_reducible repeat (first | refine blk_drewN ?_ _ | refine blk_drew ?_ | refine blk_alloc ?_ _)); exact BK134.out) hb); have n1_ := Aside0.mk (below_step (by repeat (first | (with_reducible first | exact HB.out | apply below_alloc | apply pw_below_drewN | apply below_drew1 | refine below_set ?_ GE134.out) | exact HB.out)) hb); clear BK134; clear HB; have BK134 := n0_; have HB := n1_; clear n0_ n1_; (try clear hb); (try clear hb2); (try clear hk); (try clear hi)))
      (try simp only [Act.put, List.setIfInBounds_toArray, List.set_cons_zero, List.set_cons_succ])
      go_cut [10] (fun v10 wc => ∃ (kq : Nat) (x10_7 : Bool), v10 = .bool x10_7 ∧ Aside0 (heraldlaw10_Book_state.j0 kq x10_7 true a0_1 a0_2 a0_3 = some r) ∧ Aside0 (kq ≤ k) ∧ Aside0 (wc.heap[gb134]? = some (.cells #[.bool true, .bool a0_1, .bool a0_2, .bool a0_3] 37 (0, 0))) ∧ Aside0 (Below w.heap.size w wc))
      case first =>
        have H := HC8.out
        clear HC8
        by_cases c12 : a0_1 = true
        · subst c12
          have H1 : (heraldlaw10_Book_state.j0 k false true true a0_2 a0_3) = some r := by rw [if_pos rfl] at H; exact H
          clear H
          have H := H1
          clear H1
          as_aux_lemma =>
            have H' := Aside0.mk H
            clear H
            have hcz13_0 : w11.cell? ⟨gb134, 0, none⟩ = some (.bool true) := (blk_cell BK134.out 0).trans rfl
            have hcz13_1 : w11.cell? ⟨gb134, 1, none⟩ = some (.bool true) := (blk_cell BK134.out 1).trans rfl
            have hcz13_2 : w11.cell? ⟨gb134, 2, none⟩ = some (.bool a0_2) := (blk_cell BK134.out 2).trans rfl
            have hcz13_3 : w11.cell? ⟨gb134, 3, none⟩ = some (.bool a0_3) := (blk_cell BK134.out 3).trans rfl
            have hfz13_0 := blk_frozen BK134.out 0
            have hfz13_1 := blk_frozen BK134.out 1
            have hfz13_2 := blk_frozen BK134.out 2
            have hfz13_3 := blk_frozen BK134.out 3
            go_wp2
            go_meet
            case rel => exact ⟨_, (false), (by first | rfl | (simp; done) | (simp [*]; done)), H', ⟨by first | omega | exact Nat.le_refl _⟩, ⟨by (with_reducible repeat (first | refine blk_drewN ?_ _ | refine blk_drew ?_ | refine blk_alloc ?_ _)); exact BK134.out⟩, ⟨by repeat (first | (with_reducible first | exact HB.out | apply below_alloc | apply pw_below_drewN | apply below_drew1 | refine below_set ?_ GE134.out) | exact HB.out)⟩⟩
        · replace c12 := Bool.eq_false_iff.mpr c12
          subst c12
          have H1 : (heraldlaw10_Book_state.j0 k a0_2 true false a0_2 a0_3) = some r := by rw [if_neg (show ¬ (false = true) by decide)] at H; exact H
          clear H
          have H := H1
          clear H1
          as_aux_lemma =>
            have H' := Aside0.mk H
            clear H
            have hcz14_0 : w11.cell? ⟨gb134, 0, none⟩ = some (.bool true) := (blk_cell BK134.out 0).trans rfl
            have hcz14_1 : w11.cell? ⟨gb134, 1, none⟩ = some (.bool false) := (blk_cell BK134.out 1).trans rfl
            have hcz14_2 : w11.cell? ⟨gb134, 2, none⟩ = some (.bool a0_2) := (blk_cell BK134.out 2).trans rfl
            have hcz14_3 : w11.cell? ⟨gb134, 3, none⟩ = some (.bool a0_3) := (blk_cell BK134.out 3).trans rfl
            have hfz14_0 := blk_frozen BK134.out 0
            have hfz14_1 := blk_frozen BK134.out 1
            have hfz14_2 := blk_frozen BK134.out 2
            have hfz14_3 := blk_frozen BK134.out 3
            go_wp2
            go_meet
            case rel => exact ⟨_, (a0_2), (by first | rfl | (simp; done) | (simp [*]; done)), H', ⟨by first | omega | exact Nat.le_refl _⟩, ⟨by (with_reducible repeat (first | refine blk_drewN ?_ _ | refine blk_drew ?_ | refine blk_alloc ?_ _)); exact BK134.out⟩, ⟨by repeat (first | (with_reducible first | exact HB.out | apply below_alloc | apply pw_below_drewN | apply below_drew1 | refine below_set ?_ GE134.out) | exact HB.out)⟩⟩
      case rest =>
        clear HC8
        try clear c1
        try clear c2
        try clear p2
        try clear c4
        try clear c12
        try clear hcz10_0
        try clear hcz10_1
        try clear hcz10_2
        try clear hcz10_3
        try clear hcz13_0
        try clear hcz13_1
        try clear hcz13_2
        try clear hcz13_3
        try clear hcz14_0
        try clear hcz14_1
        try clear hcz14_2
        try clear hcz14_3
        try clear hcz6_0
        try clear hcz6_1
        try clear hcz6_2
        try clear hcz6_3
        try clear hfz10_0
        try clear hfz10_1
        try clear hfz10_2
        try clear hfz10_3
        try clear hfz13_0
        try clear hfz13_1
        try clear hfz13_2
        try clear hfz13_3
        try clear hfz14_0
        try clear hfz14_1
        try clear hfz14_2
        try clear hfz14_3
        try clear hfz6_0
        try clear hfz6_1
        try clear hfz6_2
        try clear hfz6_3
        obtain ⟨kq, x10_7, rfl, HA, HJ7, BK134, HB⟩ := hcut
        cases kq with
        | zero => exact absurd HA.out (by simp [heraldlaw10_Book_state.j0])
        | succ kj7 =>
          have H := HA.out
          clear HA
          simp only [heraldlaw10_Book_state.j0] at H
          by_cases c15 : x10_7 = true
          · subst c15
            have H1 : (some 1) = some r := by rw [if_pos rfl] at H; exact H
            clear H
            have H := H1
            clear H1
            as_aux_lemma =>
              obtain rfl := Option.some.inj H
              go_wp2
              go_ret
              exact ⟨by first | rfl | (simp [errW_none, errW_some] <;> rfl) | (simp [*, errW_none, errW_some] <;> rfl), by repeat (first | (with_reducible first | exact HB.out | apply below_alloc | apply pw_below_drewN | apply below_drew1 | refine below_set ?_ GE134.out) | exact HB.out)⟩
          · replace c15 := Bool.eq_false_iff.mpr c15
            subst c15
            have H1 : (if a0_1 = true then (if a0_2 = true then (heraldlaw10_Book_state.j1 kj7 a0_3 true a0_1 a0_2 a0_3) else (heraldlaw10_Book_state.j1 kj7 false true a0_1 a0_2 a0_3)) else (some 2)) = some r := by rw [if_neg (show ¬ (false = true) by decide)] at H; exact H
            clear H
            have H := H1
            clear H1
            by_cases c16 : a0_1 = true
            · subst c16
              have H1 : (if a0_2 = true then (heraldlaw10_Book_state.j1 kj7 a0_3 true true a0_2 a0_3) else (heraldlaw10_Book_state.j1 kj7 false true true a0_2 a0_3)) = some r := by rw [if_pos rfl] at H; exact H
              clear H
              have H := H1
              clear H1
              have HC17 := Aside0.mk H
              clear H
              have hcz18_0 : wc.cell? ⟨gb134, 0, none⟩ = some (.bool true) := (blk_cell BK134.out 0).trans rfl
              have hcz18_1 : wc.cell? ⟨gb134, 1, none⟩ = some (.bool true) := (blk_cell BK134.out 1).trans rfl
              have hcz18_2 : wc.cell? ⟨gb134, 2, none⟩ = some (.bool a0_2) := (blk_cell BK134.out 2).trans rfl
              have hcz18_3 : wc.cell? ⟨gb134, 3, none⟩ = some (.bool a0_3) := (blk_cell BK134.out 3).trans rfl
              have hfz18_0 := blk_frozen BK134.out 0
              have hfz18_1 := blk_frozen BK134.out 1
              have hfz18_2 := blk_frozen BK134.out 2
              have hfz18_3 := blk_frozen BK134.out 3
              go_upto_region 9 with (fail)
              go_cut [22] (fun v22 wc => ∃ (kq : Nat) (x22_16 : Bool), v22 = .bool x22_16 ∧ Aside0 (heraldlaw10_Book_state.j1 kq x22_16 true true a0_2 a0_3 = some r) ∧ Aside0 (kq ≤ kj7) ∧ Aside0 (wc.heap[gb134]? = some (.cells #[.bool true, .bool true, .bool a0_2, .bool a0_3] 37 (0, 0))) ∧ Aside0 (Below w.heap.size w wc))
              case first =>
                have H := HC17.out
                clear HC17
                by_cases c19 : a0_2 = true
                · subst c19
                  have H1 : (heraldlaw10_Book_state.j1 kj7 a0_3 true true true a0_3) = some r := by rw [if_pos rfl] at H; exact H
                  clear H
                  have H := H1
                  clear H1
                  as_aux_lemma =>
                    have H' := Aside0.mk H
                    clear H
                    have hcz20_0 : wc.cell? ⟨gb134, 0, none⟩ = some (.bool true) := (blk_cell BK134.out 0).trans rfl
                    have hcz20_1 : wc.cell? ⟨gb134, 1, none⟩ = some (.bool true) := (blk_cell BK134.out 1).trans rfl
                    have hcz20_2 : wc.cell? ⟨gb134, 2, none⟩ = some (.bool true) := (blk_cell BK134.out 2).trans rfl
                    have hcz20_3 : wc.cell? ⟨gb134, 3, none⟩ = some (.bool a0_3) := (blk_cell BK134.out 3).trans rfl
                    have hfz20_0 := blk_frozen BK134.out 0
                    have hfz20_1 := blk_frozen BK134.out 1
                    have hfz20_2 := blk_frozen BK134.out 2
                    have hfz20_3 := blk_frozen BK134.out 3
                    go_wp2
                    go_meet
                    case rel => exact ⟨_, (a0_3), (by first | rfl | (simp; done) | (simp [*]; done)), H', ⟨by have := HJ7.out; first | omega | exact Nat.le_refl _⟩, ⟨by (with_reducible repeat (first | refine blk_drewN ?_ _ | refine blk_drew ?_ | refine blk_alloc ?_ _)); exact BK134.out⟩, ⟨by repeat (first | (with_reducible first | exact HB.out | apply below_alloc | apply pw_below_drewN | apply below_drew1 | refine below_set ?_ GE134.out) | exact HB.out)⟩⟩
                · replace c19 := Bool.eq_false_iff.mpr c19
                  subst c19
                  have H1 : (heraldlaw10_Book_state.j1 kj7 false true true false a0_3) = some r := by rw [if_neg (show ¬ (false = true) by decide)] at H; exact H
                  clear H
                  have H := H1
                  clear H1
                  as_aux_lemma =>
                    have H' := Aside0.mk H
                    clear H
                    have hcz21_0 : wc.cell? ⟨gb134, 0, none⟩ = some (.bool true) := (blk_cell BK134.out 0).trans rfl
                    have hcz21_1 : wc.cell? ⟨gb134, 1, none⟩ = some (.bool true) := (blk_cell BK134.out 1).trans rfl
                    have hcz21_2 : wc.cell? ⟨gb134, 2, none⟩ = some (.bool false) := (blk_cell BK134.out 2).trans rfl
                    have hcz21_3 : wc.cell? ⟨gb134, 3, none⟩ = some (.bool a0_3) := (blk_cell BK134.out 3).trans rfl
                    have hfz21_0 := blk_frozen BK134.out 0
                    have hfz21_1 := blk_frozen BK134.out 1
                    have hfz21_2 := blk_frozen BK134.out 2
                    have hfz21_3 := blk_frozen BK134.out 3
                    go_wp2
                    go_meet
                    case rel => exact ⟨_, (false), (by first | rfl | (simp; done) | (simp [*]; done)), H', ⟨by have := HJ7.out; first | omega | exact Nat.le_refl _⟩, ⟨by (with_reducible repeat (first | refine blk_drewN ?_ _ | refine blk_drew ?_ | refine blk_alloc ?_ _)); exact BK134.out⟩, ⟨by repeat (first | (with_reducible first | exact HB.out | apply below_alloc | apply pw_below_drewN | apply below_drew1 | refine below_set ?_ GE134.out) | exact HB.out)⟩⟩
              case rest =>
                clear HC17
                try clear c1
                try clear c2
                try clear p2
                try clear c4
                try clear c12
                try clear c15
                try clear c16
                try clear c17
                try clear c19
                try clear hcz10_0
                try clear hcz10_1
                try clear hcz10_2
                try clear hcz10_3
                try clear hcz13_0
                try clear hcz13_1
                try clear hcz13_2
                try clear hcz13_3
                try clear hcz14_0
                try clear hcz14_1
                try clear hcz14_2
                try clear hcz14_3
                try clear hcz18_0
                try clear hcz18_1
                try clear hcz18_2
                try clear hcz18_3
                try clear hcz20_0
                try clear hcz20_1
                try clear hcz20_2
                try clear hcz20_3
                try clear hcz21_0
                try clear hcz21_1
                try clear hcz21_2
                try clear hcz21_3
                try clear hcz6_0
                try clear hcz6_1
                try clear hcz6_2
                try clear hcz6_3
                try clear hfz10_0
                try clear hfz10_1
                try clear hfz10_2
                try clear hfz10_3
                try clear hfz13_0
                try clear hfz13_1
                try clear hfz13_2
                try clear hfz13_3
                try clear hfz14_0
                try clear hfz14_1
                try clear hfz14_2
                try clear hfz14_3
                try clear hfz18_0
                try clear hfz18_1
                try clear hfz18_2
                try clear hfz18_3
                try clear hfz20_0
                try clear hfz20_1
                try clear hfz20_2
                try clear hfz20_3
                try clear hfz21_0
                try clear hfz21_1
                try clear hfz21_2
                try clear hfz21_3
                try clear hfz6_0
                try clear hfz6_1
                try clear hfz6_2
                try clear hfz6_3
                try clear p2
                obtain ⟨kq, x22_16, rfl, HA, HJ16, BK134, HB⟩ := hcut
                cases kq with
                | zero => exact absurd HA.out (by simp [heraldlaw10_Book_state.j1])
                | succ kj16 =>
                  have H := HA.out
                  clear HA
                  simp only [heraldlaw10_Book_state.j1] at H
                  by_cases c22 : x22_16 = true
                  · subst c22
                    have H1 : (some 3) = some r := by rw [if_pos rfl] at H; exact H
                    clear H
                    have H := H1
                    clear H1
                    as_aux_lemma =>
                      obtain rfl := Option.some.inj H
                      go_wp2
                      go_ret
                      exact ⟨by first | rfl | (simp [errW_none, errW_some] <;> rfl) | (simp [*, errW_none, errW_some] <;> rfl), by repeat (first | (with_reducible first | exact HB.out | apply below_alloc | apply pw_below_drewN | apply below_drew1 | refine below_set ?_ GE134.out) | exact HB.out)⟩
                  · replace c22 := Bool.eq_false_iff.mpr c22
                    subst c22
                    have H1 : (if a0_3 = true then (some 4) else (some 5)) = some r := by rw [if_neg (show ¬ (false = true) by decide)] at H; exact H
                    clear H
                    have H := H1
                    clear H1
                    by_cases c23 : a0_3 = true
                    · subst c23
                      have H1 : (some 4) = some r := by rw [if_pos rfl] at H; exact H
                      clear H
                      have H := H1
                      clear H1
                      as_aux_lemma =>
                        obtain rfl := Option.some.inj H
                        have hcz24_0 : wc.cell? ⟨gb134, 0, none⟩ = some (.bool true) := (blk_cell BK134.out 0).trans rfl
                        have hcz24_1 : wc.cell? ⟨gb134, 1, none⟩ = some (.bool true) := (blk_cell BK134.out 1).trans rfl
                        have hcz24_2 : wc.cell? ⟨gb134, 2, none⟩ = some (.bool a0_2) := (blk_cell BK134.out 2).trans rfl
                        have hcz24_3 : wc.cell? ⟨gb134, 3, none⟩ = some (.bool true) := (blk_cell BK134.out 3).trans rfl
                        have hfz24_0 := blk_frozen BK134.out 0
                        have hfz24_1 := blk_frozen BK134.out 1
                        have hfz24_2 := blk_frozen BK134.out 2
                        have hfz24_3 := blk_frozen BK134.out 3
                        go_wp2
                        go_ret
                        exact ⟨by first | rfl | (simp [errW_none, errW_some] <;> rfl) | (simp [*, errW_none, errW_some] <;> rfl), by repeat (first | (with_reducible first | exact HB.out | apply below_alloc | apply pw_below_drewN | apply below_drew1 | refine below_set ?_ GE134.out) | exact HB.out)⟩
                    · replace c23 := Bool.eq_false_iff.mpr c23
                      subst c23
                      have H1 : (some 5) = some r := by rw [if_neg (show ¬ (false = true) by decide)] at H; exact H
                      clear H
                      have H := H1
                      clear H1
                      as_aux_lemma =>
                        obtain rfl := Option.some.inj H
                        have hcz25_0 : wc.cell? ⟨gb134, 0, none⟩ = some (.bool true) := (blk_cell BK134.out 0).trans rfl
                        have hcz25_1 : wc.cell? ⟨gb134, 1, none⟩ = some (.bool true) := (blk_cell BK134.out 1).trans rfl
                        have hcz25_2 : wc.cell? ⟨gb134, 2, none⟩ = some (.bool a0_2) := (blk_cell BK134.out 2).trans rfl
                        have hcz25_3 : wc.cell? ⟨gb134, 3, none⟩ = some (.bool false) := (blk_cell BK134.out 3).trans rfl
                        have hfz25_0 := blk_frozen BK134.out 0
                        have hfz25_1 := blk_frozen BK134.out 1
                        have hfz25_2 := blk_frozen BK134.out 2
                        have hfz25_3 := blk_frozen BK134.out 3
                        go_wp2
                        go_ret
                        exact ⟨by first | rfl | (simp [errW_none, errW_some] <;> rfl) | (simp [*, errW_none, errW_some] <;> rfl), by repeat (first | (with_reducible first | exact HB.out | apply below_alloc | apply pw_below_drewN | apply below_drew1 | refine below_set ?_ GE134.out) | exact HB.out)⟩
            · replace c16 := Bool.eq_false_iff.mpr c16
              subst c16
              have H1 : (some 2) = some r := by rw [if_neg (show ¬ (false = true) by decide)] at H; exact H
              clear H
              have H := H1
              clear H1
              as_aux_lemma =>
                obtain rfl := Option.some.inj H
                have hcz26_0 : wc.cell? ⟨gb134, 0, none⟩ = some (.bool true) := (blk_cell BK134.out 0).trans rfl
                have hcz26_1 : wc.cell? ⟨gb134, 1, none⟩ = some (.bool false) := (blk_cell BK134.out 1).trans rfl
                have hcz26_2 : wc.cell? ⟨gb134, 2, none⟩ = some (.bool a0_2) := (blk_cell BK134.out 2).trans rfl
                have hcz26_3 : wc.cell? ⟨gb134, 3, none⟩ = some (.bool a0_3) := (blk_cell BK134.out 3).trans rfl
                have hfz26_0 := blk_frozen BK134.out 0
                have hfz26_1 := blk_frozen BK134.out 1
                have hfz26_2 := blk_frozen BK134.out 2
                have hfz26_3 := blk_frozen BK134.out 3
                go_wp2
                go_ret
                exact ⟨by first | rfl | (simp [errW_none, errW_some] <;> rfl) | (simp [*, errW_none, errW_some] <;> rfl), by repeat (first | (with_reducible first | exact HB.out | apply below_alloc | apply pw_below_drewN | apply below_drew1 | refine below_set ?_ GE134.out) | exact HB.out)⟩
  · replace c2 := Bool.eq_false_iff.mpr c2
    subst c2
    have H1 : (some 0) = some r := by rw [if_neg (show ¬ (false = true) by decide)] at H; exact H
    clear H
    have H := H1
    clear H1
    as_aux_lemma =>
      obtain rfl := Option.some.inj H
      go_enter Tryd.func16, Tryd.ntmps16
      go_wp2_with (first | ((with_reducible refine gate_dst (N := 1) rfl ?_); refine box_event ?hg (N := 1) ?hd (cs := #[.bool false, .bool a0_1, .bool a0_2, .bool a0_3]) (t := 37) ?hr ?_; (case hd => rfl); (case hg => rfl); (case hr => first | (go_simp; done) | (go_simp; rfl)); intro gb134 hg w27 hbox hb; have n0_ := Aside0.mk (below_step (by repeat (first | (with_reducible first | exact HB.out | apply below_alloc | apply pw_below_drewN | apply below_drew1) | exact HB.out)) hb); have n1_ := Aside0.mk (hbox); have n2_ := Aside0.mk ((by rw [hg]; exact (below_size (by repeat (first | (with_reducible first | exact HB.out | apply below_alloc | apply pw_below_drewN | apply below_drew1) | exact HB.out))) : w.heap.size ≤ gb134)); have n3_ := Aside0.mk ((by rw [hg]; exact (below_size (by repeat (first | (with_reducible first | exact HB.out | apply below_alloc | apply pw_below_drewN | apply below_drew1) | exact HB.out))) : w.heap.size ≤ gb134)); clear HB; have HB := n0_; have BK134 := n1_; have GW134 := n2_; have GE134 := n3_; clear n0_ n1_ n2_ n3_; clear hb hbox hg; have hcz28_0 : w27.cell? ⟨gb134, 0, none⟩ = some (.bool false) := (blk_cell BK134.out 0).trans rfl; have hcz28_1 : w27.cell? ⟨gb134, 1, none⟩ = some (.bool a0_1) := (blk_cell BK134.out 1).trans rfl; have hcz28_2 : w27.cell? ⟨gb134, 2, none⟩ = some (.bool a0_2) := (blk_cell BK134.out 2).trans rfl; have hcz28_3 : w27.cell? ⟨gb134, 3, none⟩ = some (.bool a0_3) := (blk_cell BK134.out 3).trans rfl; have hfz28_0 := blk_frozen BK134.out 0; have hfz28_1 := blk_frozen BK134.out 1; have hfz28_2 := blk_frozen BK134.out 2; have hfz28_3 := blk_frozen BK134.out 3))
      go_ret
      exact ⟨by first | rfl | (simp [errW_none, errW_some] <;> rfl) | (simp [*, errW_none, errW_some] <;> rfl), by repeat (first | (with_reducible first | exact HB.out | apply below_alloc | apply pw_below_drewN | apply below_drew1 | refine below_set ?_ GE134.out) | exact HB.out)⟩

end Go.Proofs.YtndhaakknkkpfaaDoor.QBook
