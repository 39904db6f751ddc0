/- Written by a program of this session (a changed run of the kit's printer): what the Go functions of one call tree answer, as plain functions, and that the machine's calls answer so; no condition but those in each statement. -/
import Derived.Test.YtndhaakknkkpfaaDoorQBookx0
namespace Go.Proofs.YtndhaakknkkpfaaDoor.QBook
open Go.RowKit Go.Proofs.YtndhaakknkkpfaaDoorW.PrintWords Go.Proofs.YtndhaakknkkpfaaDoorW.PrintLast Go.Proofs.YtndhaakknkkpfaaDoorW.PrintMore
attribute [local go_sem] max2_int min2_int max_two min_two max_three min_three max_four min_four   -- for this text's walks alone
set_option linter.unusedVariables false
set_option linter.unusedSimpArgs false

/-! ### heraldlaw10_Book_behind: function 15 -/
mutual
def heraldlaw10_Book_behind.j1 : Nat → Bool → Bool → Bool → Bool → Bool → Int → Option (Bool × Bool × Bool × Bool)
  | 0, _, _, _, _, _, _ => none
  | k + 1, x132000, x132001, x132002, x132003, x133000, x133001 => if x133001 = 2 then (heraldlaw10_Book_behind.j2 k true x132000 x132001 x132002 x132003 x133000 x133001) else (heraldlaw10_Book_behind.j2 k (x133001 == 4) x132000 x132001 x132002 x132003 x133000 x133001)
def heraldlaw10_Book_behind.j2 : Nat → Bool → Bool → Bool → Bool → Bool → Bool → Int → Option (Bool × Bool × Bool × Bool)
  | 0, _, _, _, _, _, _, _ => none
  | k + 1, x38, x132000, x132001, x132002, x132003, x133000, x133001 => if x38 = true then (if x133000 = true then (some (x132000, x132001, x132002, false)) else (some (x132000, x132001, false, x132003))) else (some (x132000, x132001, x132002, x132003))
def heraldlaw10_Book_behind.j0 : Nat → Int → Bool → Bool → Bool → Bool → Bool → Bool → Int → Option (Bool × Bool × Bool × Bool)
  | 0, _, _, _, _, _, _, _, _ => none
  | k + 1, x6, x7, x132000, x132001, x132002, x132003, x133000, x133001 => if x7 = true then (if x132000 = true then (heraldlaw10_Book_behind.j1 k true true x132002 x132003 x133000 x133001) else (heraldlaw10_Book_behind.j1 k true true true true x133000 x133001)) else (if x6 = 5 then (heraldlaw10_Book_behind.j1 k true x132001 (!x133000) x133000 x133000 x133001) else (if x6 = 6 then (heraldlaw10_Book_behind.j1 k x132000 x132001 false false x133000 x133001) else (heraldlaw10_Book_behind.j1 k x132000 x132001 x132002 x132003 x133000 x133001)))
end
def heraldlaw10_Book_behind.f (k : Nat) (a0_0 : Bool) (a0_1 : Bool) (a0_2 : Bool) (a0_3 : Bool) (a1_0 : Bool) (a1_1 : Int) : Option (Bool × Bool × Bool × Bool) := if a1_1 = 1 then (heraldlaw10_Book_behind.j0 k a1_1 (a1_1 == 1) a0_0 a0_1 a0_2 a0_3 a1_0 a1_1) else (heraldlaw10_Book_behind.j0 k a1_1 (a1_1 == 2) a0_0 a0_1 a0_2 a0_3 a1_0 a1_1)
theorem heraldlaw10_Book_behind.mono_l : ∀ k, (∀ y0 y1 y2 y3 y4 y5, LeO (heraldlaw10_Book_behind.j1 k y0 y1 y2 y3 y4 y5) (heraldlaw10_Book_behind.j1 (k + 1) y0 y1 y2 y3 y4 y5)) ∧ (∀ y0 y1 y2 y3 y4 y5 y6, LeO (heraldlaw10_Book_behind.j2 k y0 y1 y2 y3 y4 y5 y6) (heraldlaw10_Book_behind.j2 (k + 1) y0 y1 y2 y3 y4 y5 y6)) ∧ (∀ y0 y1 y2 y3 y4 y5 y6 y7, LeO (heraldlaw10_Book_behind.j0 k y0 y1 y2 y3 y4 y5 y6 y7) (heraldlaw10_Book_behind.j0 (k + 1) y0 y1 y2 y3 y4 y5 y6 y7))
  | 0 => ⟨fun _ _ _ _ _ _ r h => by simp [heraldlaw10_Book_behind.j1] at h, fun _ _ _ _ _ _ _ r h => by simp [heraldlaw10_Book_behind.j2] at h, fun _ _ _ _ _ _ _ _ r h => by simp [heraldlaw10_Book_behind.j0] at h⟩
  | k + 1 => by
    obtain ⟨ih0, ih1, ih2⟩ := heraldlaw10_Book_behind.mono_l k
    refine ⟨?_, ?_, ?_⟩
    · intro y0 y1 y2 y3 y4 y5
      unfold heraldlaw10_Book_behind.j1
      repeat' first
      | (with_reducible exact ih0 _ _ _ _ _ _)
      | (with_reducible exact ih1 _ _ _ _ _ _ _)
      | (with_reducible exact ih2 _ _ _ _ _ _ _ _)
      | (with_reducible exact LeO.refl _)
      | (with_reducible exact LeO.none _)
      | (with_reducible refine LeO.ite ?_ ?_)
      | (with_reducible refine LeO.bind ?_ (fun _ => ?_))
      | exact ih0 _ _ _ _ _ _
      | exact ih1 _ _ _ _ _ _ _
      | exact ih2 _ _ _ _ _ _ _ _
      | exact LeO.none _
      | refine LeO.ite ?_ ?_
      | refine LeO.bind ?_ (fun _ => ?_)
    · intro y0 y1 y2 y3 y4 y5 y6
      unfold heraldlaw10_Book_behind.j2
      repeat' first
      | (with_reducible exact ih0 _ _ _ _ _ _)
      | (with_reducible exact ih1 _ _ _ _ _ _ _)
      | (with_reducible exact ih2 _ _ _ _ _ _ _ _)
      | (with_reducible exact LeO.refl _)
      | (with_reducible exact LeO.none _)
      | (with_reducible refine LeO.ite ?_ ?_)
      | (with_reducible refine LeO.bind ?_ (fun _ => ?_))
      | exact ih0 _ _ _ _ _ _
      | exact ih1 _ _ _ _ _ _ _
      | exact ih2 _ _ _ _ _ _ _ _
      | exact LeO.none _
      | refine LeO.ite ?_ ?_
      | refine LeO.bind ?_ (fun _ => ?_)
    · intro y0 y1 y2 y3 y4 y5 y6 y7
      unfold heraldlaw10_Book_behind.j0
      repeat' first
      | (with_reducible exact ih0 _ _ _ _ _ _)
      | (with_reducible exact ih1 _ _ _ _ _ _ _)
      | (with_reducible exact ih2 _ _ _ _ _ _ _ _)
      | (with_reducible exact LeO.refl _)
      | (with_reducible exact LeO.none _)
      | (with_reducible refine LeO.ite ?_ ?_)
      | (with_reducible refine LeO.bind ?_ (fun _ => ?_))
      | exact ih0 _ _ _ _ _ _
      | exact ih1 _ _ _ _ _ _ _
      | exact ih2 _ _ _ _ _ _ _ _
      | exact LeO.none _
      | refine LeO.ite ?_ ?_
      | refine LeO.bind ?_ (fun _ => ?_)
theorem heraldlaw10_Book_behind.mono : ∀ a0 a1 a2 a3 a4 a5 k, LeO (heraldlaw10_Book_behind.f k a0 a1 a2 a3 a4 a5) (heraldlaw10_Book_behind.f (k + 1) a0 a1 a2 a3 a4 a5) := by
  intro a0 a1 a2 a3 a4 a5 k
  obtain ⟨ih0, ih1, ih2⟩ := heraldlaw10_Book_behind.mono_l k
  unfold heraldlaw10_Book_behind.f
  repeat' first
      | (with_reducible exact ih0 _ _ _ _ _ _)
      | (with_reducible exact ih1 _ _ _ _ _ _ _)
      | (with_reducible exact ih2 _ _ _ _ _ _ _ _)
      | (with_reducible exact LeO.refl _)
      | (with_reducible exact LeO.none _)
      | (with_reducible refine LeO.ite ?_ ?_)
      | (with_reducible refine LeO.bind ?_ (fun _ => ?_))
      | exact ih0 _ _ _ _ _ _
      | exact ih1 _ _ _ _ _ _ _
      | exact ih2 _ _ _ _ _ _ _ _
      | exact LeO.none _
      | refine LeO.ite ?_ ?_
      | refine LeO.bind ?_ (fun _ => ?_)
set_option maxHeartbeats 8000000 in
set_option maxRecDepth 100000 in
theorem heraldlaw10_Book_behind.calls (k : Nat) (a0_0 : Bool) (a0_1 : Bool) (a0_2 : Bool) (a0_3 : Bool) (a1_0 : Bool) (a1_1 : Int) (r1 : Bool) (r2 : Bool) (r3 : Bool) (r4 : Bool) (w : World) (h : heraldlaw10_Book_behind.f k a0_0 a0_1 a0_2 a0_3 a1_0 a1_1 = some (r1, r2, r3, r4)) :
    Calls Tryd.prog 15 #[.agg #[.bool a0_0, .bool a0_1, .bool a0_2, .bool a0_3], .agg #[.bool a1_0, .int .i64 a1_1]] w fun e w' => e = .returned (.agg #[.bool r1, .bool r2, .bool r3, .bool r4]) ∧ Below w.heap.size w w' := by
  have hu37 := Tryd.underlying37
  have hu28 := Tryd.underlying28
  have HB := Aside0.mk (Below.refl w.heap.size w)
  have H : (if a1_1 = 1 then (heraldlaw10_Book_behind.j0 k a1_1 (a1_1 == 1) a0_0 a0_1 a0_2 a0_3 a1_0 a1_1) else (heraldlaw10_Book_behind.j0 k a1_1 (a1_1 == 2) a0_0 a0_1 a0_2 a0_3 a1_0 a1_1)) = some (r1, r2, r3, r4) := h
  clear h
  have HC3 := Aside0.mk H
  clear H
  go_enter Tryd.func15, Tryd.ntmps15
  go_upto_block 0 with (first | ((with_reducible refine gate_dst (N := 2) rfl ?_); refine box_event ?hg (N := 2) ?hd (cs := #[.bool a0_0, .bool a0_1, .bool a0_2, .bool a0_3]) (t := 37) ?hr ?_; (case hd => rfl); (case hg => rfl); (case hr => first | (go_simp; done) | (go_simp; rfl)); intro gb131 hg w4 hbox hb; have n0_ := Aside0.mk (below_step (by repeat (first | (with_reducible first | exact HB.out | apply below_alloc | apply pw_below_drewN | apply below_drew1) | exact HB.out)) hb); have n1_ := Aside0.mk (hbox); have n2_ := Aside0.mk ((by rw [hg]; exact (below_size (by repeat (first | (with_reducible first | exact HB.out | apply below_alloc | apply pw_below_drewN | apply below_drew1) | exact HB.out))) : w.heap.size ≤ gb131)); have n3_ := Aside0.mk ((by rw [hg]; exact (below_size (by repeat (first | (with_reducible first | exact HB.out | apply below_alloc | apply pw_below_drewN | apply below_drew1) | exact HB.out))) : w.heap.size ≤ gb131)); clear HB; have HB := n0_; have BK131 := n1_; have GW131 := n2_; have GE131 := n3_; clear n0_ n1_ n2_ n3_; clear hb hbox hg) | ((with_reducible refine gate_dst (N := 3) rfl ?_); refine box_event ?hg (N := 3) ?hd (cs := #[.bool a1_0, .int .i64 a1_1]) (t := 28) ?hr ?_; (case hd => rfl); (case hg => rfl); (case hr => first | (go_simp; done) | (go_simp; rfl)); intro gb132 hg w5 hbox hb; have n0_ := Aside0.mk (blk_below (g := gb131) (o := .cells #[.bool a0_0, .bool a0_1, .bool a0_2, .bool a0_3] 37 (0, 0)) (by (with_reducible repeat (first | refine blk_drewN ?_ _ | refine blk_drew ?_ | refine blk_alloc ?_ _)); exact BK131.out) hb); have n1_ := Aside0.mk (below_step (by repeat (first | (with_reducible first | exact HB.out | apply below_alloc | apply pw_below_drewN | apply below_drew1 | refine below_set ?_ GE131.out) | exact HB.out)) hb); have n2_ := Aside0.mk (hbox); have n3_ := Aside0.mk ((by rw [hg]; exact (below_size (by repeat (first | (with_reducible first | exact HB.out | apply below_alloc | apply pw_below_drewN | apply below_drew1 | refine below_set ?_ GE131.out) | exact HB.out))) : w.heap.size ≤ gb132)); have n4_ := Aside0.mk ((by rw [hg]; exact (below_size (by repeat (first | (with_reducible first | exact HB.out | apply below_alloc | apply pw_below_drewN | apply below_drew1 | refine below_set ?_ GE131.out) | exact HB.out))) : w.heap.size ≤ gb132)); have n5_ := Aside0.mk ((by rw [hg]; exact Nat.ne_of_lt (blk_lt (g := gb131) (o := .cells #[.bool a0_0, .bool a0_1, .bool a0_2, .bool a0_3] 37 (0, 0)) (by (with_reducible repeat (first | refine blk_drewN ?_ _ | refine blk_drew ?_ | refine blk_alloc ?_ _)); exact BK131.out)) : gb131 ≠ gb132)); have n6_ := Aside0.mk ((by rw [hg]; exact Nat.ne_of_gt (blk_lt (g := gb131) (o := .cells #[.bool a0_0, .bool a0_1, .bool a0_2, .bool a0_3] 37 (0, 0)) (by (with_reducible repeat (first | refine blk_drewN ?_ _ | refine blk_drew ?_ | refine blk_alloc ?_ _)); exact BK131.out)) : gb132 ≠ gb131)); clear BK131; clear HB; have BK131 := n0_; have HB := n1_; have BK132 := n2_; have GW132 := n3_; have GE132 := n4_; have NB131_132 := n5_; have NB132_131 := n6_; clear n0_ n1_ n2_ n3_ n4_ n5_ n6_; clear hb hbox hg) | ((with_reducible refine gate_dst (N := 4) rfl ?_); refine box_event ?hg (N := 4) ?hd (cs := #[.bool false, .bool false, .bool false, .bool false]) (t := 37) ?hr ?_; (case hd => rfl); (case hg => rfl); (case hr => first | (go_simp; done) | (go_simp; rfl)); intro gb133 hg w6 hbox hb; have n0_ := Aside0.mk (blk_below (g := gb131) (o := .cells #[.bool a0_0, .bool a0_1, .bool a0_2, .bool a0_3] 37 (0, 0)) (by (with_reducible repeat (first | refine blk_drewN ?_ _ | refine blk_drew ?_ | refine blk_alloc ?_ _)); exact BK131.out) hb); have n1_ := Aside0.mk (blk_below (g := gb132) (o := .cells #[.bool a1_0, .int .i64 a1_1] 28 (0, 0)) (by (with_reducible repeat (first | refine blk_drewN ?_ _ | refine blk_drew ?_ | refine blk_alloc ?_ _)); exact BK132.out) hb); have n2_ := Aside0.mk (below_step (by repeat (first | (with_reducible first | exact HB.out | apply below_alloc | apply pw_below_drewN | apply below_drew1 | refine below_set ?_ GE131.out | refine below_set ?_ GE132.out) | exact HB.out)) hb); have n3_ := Aside0.mk (hbox); have n4_ := Aside0.mk ((by rw [hg]; exact (below_size (by repeat (first | (with_reducible first | exact HB.out | apply below_alloc | apply pw_below_drewN | apply below_drew1 | refine below_set ?_ GE131.out | refine below_set ?_ GE132.out) | exact HB.out))) : w.heap.size ≤ gb133)); have n5_ := Aside0.mk ((by rw [hg]; exact (below_size (by repeat (first | (with_reducible first | exact HB.out | apply below_alloc | apply pw_below_drewN | apply below_drew1 | refine below_set ?_ GE131.out | refine below_set ?_ GE132.out) | exact HB.out))) : w.heap.size ≤ gb133)); have n6_ := Aside0.mk ((by rw [hg]; exact Nat.ne_of_lt (blk_lt (g := gb131) (o := .cells #[.bool a0_0, .bool a0_1, .bool a0_2, .bool a0_3] 37 (0, 0)) (by (with_reducible repeat (first | refine blk_drewN ?_ _ | refine blk_drew ?_ | refine blk_alloc ?_ _)); exact BK131.out)) : gb131 ≠ gb133)); have n7_ := Aside0.mk ((by rw [hg]; exact Nat.ne_of_gt (blk_lt (g := gb131) (o := .cells #[.bool a0_0, .bool a0_1, .bool a0_2, .bool a0_3] 37 (0, 0)) (by (with_reducible repeat (first | refine blk_drewN ?_ _ | refine blk_drew ?_ | refine blk_alloc ?_ _)); exact BK131.out)) : gb133 ≠ gb131)); have n8_ := Aside0.mk ((by rw [hg]; exact Nat.ne_of_lt (blk_lt (g := gb132) (o := .cells #[.bool a1_0, .int .i64 a1_1] 28 (0, 0)) (by (with_reducible repeat (first | refine blk_drewN ?_ _ | refine blk_drew ?_ | refine blk_alloc ?_ _)); exact BK132.out)) : gb132 ≠ gb133)); have n9_ := Aside0.mk ((by rw [hg]; exact Nat.ne_of_gt (blk_lt (g := gb132) (o := .cells #[.bool a1_0, .int .i64 a1_1] 28 (0, 0)) (by (with_reducible repeat (first | refine blk_drewN ?_ _ | refine blk_drew ?_ | refine blk_alloc ?_ _)); exact BK132.out)) : gb133 ≠ gb132)); clear BK131; clear BK132; clear HB; have BK131 := n0_; have BK132 := n1_; have HB := n2_; have BK133 := n3_; have GW133 := n4_; have GE133 := n5_; have NB131_133 := n6_; have NB133_131 := n7_; have NB132_133 := n8_; have NB133_132 := n9_; clear n0_ n1_ n2_ n3_ n4_ n5_ n6_ n7_ n8_ n9_; clear hb hbox hg; have hnb7 := NB132_131.out; have hnc7 := NB131_132.out; have hnb8 := NB132_133.out; have hnc8 := NB133_132.out; have hcz9_0 : w6.cell? ⟨gb132, 0, none⟩ = some (.bool a1_0) := (blk_cell BK132.out 0).trans rfl; have hcz9_1 : w6.cell? ⟨gb132, 1, none⟩ = some (.int .i64 a1_1) := (blk_cell BK132.out 1).trans rfl; have hfz9_0 := blk_frozen BK132.out 0; have hfz9_1 := blk_frozen BK132.out 1))
  (try simp only [Act.put, List.setIfInBounds_toArray, List.set_cons_zero, List.set_cons_succ])
  go_cut [] (fun wc => ∃ (kq : Nat) (x132000_2 : Bool) (x132001_2 : Bool) (x132002_2 : Bool) (x132003_2 : Bool), Aside0 (heraldlaw10_Book_behind.j1 kq x132000_2 x132001_2 x132002_2 x132003_2 a1_0 a1_1 = some (r1, r2, r3, r4)) ∧ Aside0 (kq ≤ k) ∧ Aside0 (wc.heap[gb131]? = some (.cells #[.bool x132000_2, .bool x132001_2, .bool x132002_2, .bool x132003_2] 37 (0, 0))) ∧ Aside0 (wc.heap[gb132]? = some (.cells #[.bool a1_0, .int .i64 a1_1] 28 (0, 0))) ∧ Aside0 (wc.heap[gb133]? = some (.cells #[.bool false, .bool false, .bool false, .bool false] 37 (0, 0))) ∧ Aside0 (Below w.heap.size w wc))
  case first =>
    have H := HC3.out
    clear HC3
    have HC10 := Aside0.mk H
    clear H
    go_upto_if 7 with (fail)
    go_cut [7] (fun v7 wc => ∃ (kq : Nat) (x7_9 : Bool), v7 = .bool x7_9 ∧ Aside0 (heraldlaw10_Book_behind.j0 kq a1_1 x7_9 a0_0 a0_1 a0_2 a0_3 a1_0 a1_1 = some (r1, r2, r3, r4)) ∧ Aside0 (kq ≤ k) ∧ Aside0 (wc.heap[gb131]? = some (.cells #[.bool a0_0, .bool a0_1, .bool a0_2, .bool a0_3] 37 (0, 0))) ∧ Aside0 (wc.heap[gb132]? = some (.cells #[.bool a1_0, .int .i64 a1_1] 28 (0, 0))) ∧ Aside0 (wc.heap[gb133]? = some (.cells #[.bool false, .bool false, .bool false, .bool false] 37 (0, 0))) ∧ Aside0 (Below w.heap.size w wc))
    case first =>
      have H := HC10.out
      clear HC10
      by_cases c11 : a1_1 = 1
      · rw [if_pos c11] at H
        have c11b0 : (a1_1 == 1) = true := beq_iff_eq.mpr c11
        have c11b1 : (a1_1 != 1) = false := bne_eq_false_iff_eq.mpr c11
        clear c11
        (first | rw [c11b0] | (simp only [i64_w, i32_w]; rw [c11b0]) | skip)
        as_aux_lemma =>
          have H' := Aside0.mk H
          clear H
          go_wp2
          go_meet
          case rel => exact ⟨_, ((a1_1 == 1)), (by first | rfl | (simp; done) | (simp [*]; done)), H', ⟨by first | omega | exact Nat.le_refl _⟩, ⟨by (with_reducible repeat (first | refine blk_drewN ?_ _ | refine blk_drew ?_ | refine blk_alloc ?_ _)); exact BK131.out⟩, ⟨by (with_reducible repeat (first | refine blk_drewN ?_ _ | refine blk_drew ?_ | refine blk_alloc ?_ _)); exact BK132.out⟩, ⟨by (with_reducible repeat (first | refine blk_drewN ?_ _ | refine blk_drew ?_ | refine blk_alloc ?_ _)); exact BK133.out⟩, ⟨by repeat (first | (with_reducible first | exact HB.out | apply below_alloc | apply pw_below_drewN | apply below_drew1 | refine below_set ?_ GE131.out | refine below_set ?_ GE132.out | refine below_set ?_ GE133.out) | exact HB.out)⟩⟩
      · rw [if_neg c11] at H
        have c11b0 : (a1_1 == 1) = false := beq_eq_false_iff_ne.mpr c11
        have c11b1 : (a1_1 != 1) = true := bne_iff_ne.mpr c11
        (first | rw [c11b0] | (simp only [i64_w, i32_w]; rw [c11b0]) | skip)
        as_aux_lemma =>
          have H' := Aside0.mk H
          clear H
          go_wp2
          go_meet
          case rel => exact ⟨_, ((a1_1 == 2)), (by first | rfl | (simp; done) | (simp [*]; done)), H', ⟨by first | omega | exact Nat.le_refl _⟩, ⟨by (with_reducible repeat (first | refine blk_drewN ?_ _ | refine blk_drew ?_ | refine blk_alloc ?_ _)); exact BK131.out⟩, ⟨by (with_reducible repeat (first | refine blk_drewN ?_ _ | refine blk_drew ?_ | refine blk_alloc ?_ _)); exact BK132.out⟩, ⟨by (with_reducible repeat (first | refine blk_drewN ?_ _ | refine blk_drew ?_ | refine blk_alloc ?_ _)); exact BK133.out⟩, ⟨by repeat (first | (with_reducible first | exact HB.out | apply below_alloc | apply pw_below_drewN | apply below_drew1 | refine below_set ?_ GE131.out | refine below_set ?_ GE132.out | refine below_set ?_ GE133.out) | exact HB.out)⟩⟩
    case rest =>
      clear HC10
      try clear c1
      try clear p2
      try clear c7
      try clear c8
      try clear c11
      try clear c11b0
      try clear c11b1
      try clear hcz9_0
      try clear hcz9_1
      try clear hfz9_0
      try clear hfz9_1
      obtain ⟨kq, x7_9, rfl, HA, HJ9, BK131, BK132, BK133, HB⟩ := hcut
      cases kq with
      | zero => exact absurd HA.out (by simp [heraldlaw10_Book_behind.j0])
      | succ kj9 =>
        have H := HA.out
        clear HA
        simp only [heraldlaw10_Book_behind.j0] at H
        by_cases c12 : x7_9 = true
        · subst c12
          have H1 : (if a0_0 = true then (heraldlaw10_Book_behind.j1 kj9 true true a0_2 a0_3 a1_0 a1_1) else (heraldlaw10_Book_behind.j1 kj9 true true true true a1_0 a1_1)) = some (r1, r2, r3, r4) := by rw [if_pos rfl] at H; exact H
          clear H
          have H := H1
          clear H1
          by_cases c13 : a0_0 = true
          · subst c13
            have H1 : (heraldlaw10_Book_behind.j1 kj9 true true a0_2 a0_3 a1_0 a1_1) = some (r1, r2, r3, r4) := by rw [if_pos rfl] at H; exact H
            clear H
            have H := H1
            clear H1
            as_aux_lemma =>
              have H' := Aside0.mk H
              clear H
              have hnb14 := NB131_132.out
              have hnc14 := NB132_131.out
              have hnb15 := NB131_133.out
              have hnc15 := NB133_131.out
              have hcz16_0 : wc.cell? ⟨gb131, 0, none⟩ = some (.bool true) := (blk_cell BK131.out 0).trans rfl
              have hcz16_1 : wc.cell? ⟨gb131, 1, none⟩ = some (.bool a0_1) := (blk_cell BK131.out 1).trans rfl
              have hcz16_2 : wc.cell? ⟨gb131, 2, none⟩ = some (.bool a0_2) := (blk_cell BK131.out 2).trans rfl
              have hcz16_3 : wc.cell? ⟨gb131, 3, none⟩ = some (.bool a0_3) := (blk_cell BK131.out 3).trans rfl
              have hfz16_0 := blk_frozen BK131.out 0
              have hfz16_1 := blk_frozen BK131.out 1
              have hfz16_2 := blk_frozen BK131.out 2
              have hfz16_3 := blk_frozen BK131.out 3
              go_wp2
              go_meet
              case rel => exact ⟨_, (true), (true), (a0_2), (a0_3), H', ⟨by have := HJ9.out; first | omega | exact Nat.le_refl _⟩, ⟨by (with_reducible repeat (first | refine blk_drewN ?_ _ | refine blk_drew ?_ | refine blk_alloc ?_ _)); refine blk_put (cs := #[.bool true, .bool a0_1, .bool a0_2, .bool a0_3]) ?_ 1 _ rfl; (with_reducible repeat (first | refine blk_drewN ?_ _ | refine blk_drew ?_ | refine blk_alloc ?_ _)); refine blk_put (cs := #[.bool true, .bool a0_1, .bool a0_2, .bool a0_3]) ?_ 0 _ rfl; (with_reducible repeat (first | refine blk_drewN ?_ _ | refine blk_drew ?_ | refine blk_alloc ?_ _)); exact BK131.out⟩, ⟨by (with_reducible repeat (first | refine blk_drewN ?_ _ | refine blk_drew ?_ | refine blk_alloc ?_ _)); refine blk_far ?_ NB132_131.out _; (with_reducible repeat (first | refine blk_drewN ?_ _ | refine blk_drew ?_ | refine blk_alloc ?_ _)); refine blk_far ?_ NB132_131.out _; (with_reducible repeat (first | refine blk_drewN ?_ _ | refine blk_drew ?_ | refine blk_alloc ?_ _)); exact BK132.out⟩, ⟨by (with_reducible repeat (first | refine blk_drewN ?_ _ | refine blk_drew ?_ | refine blk_alloc ?_ _)); refine blk_far ?_ NB133_131.out _; (with_reducible repeat (first | refine blk_drewN ?_ _ | refine blk_drew ?_ | refine blk_alloc ?_ _)); refine blk_far ?_ NB133_131.out _; (with_reducible repeat (first | refine blk_drewN ?_ _ | refine blk_drew ?_ | refine blk_alloc ?_ _)); exact BK133.out⟩, ⟨by repeat (first | (with_reducible first | exact HB.out | apply below_alloc | apply pw_below_drewN | apply below_drew1 | refine below_set ?_ GE131.out | refine below_set ?_ GE132.out | refine below_set ?_ GE133.out) | exact HB.out)⟩⟩
          · replace c13 := Bool.eq_false_iff.mpr c13
            subst c13
            have H1 : (heraldlaw10_Book_behind.j1 kj9 true true true true a1_0 a1_1) = some (r1, r2, r3, r4) := by rw [if_neg (show ¬ (false = true) by decide)] at H; exact H
            clear H
            have H := H1
            clear H1
            as_aux_lemma =>
              have H' := Aside0.mk H
              clear H
              have hnb17 := NB131_132.out
              have hnc17 := NB132_131.out
              have hnb18 := NB131_133.out
              have hnc18 := NB133_131.out
              have hcz19_0 : wc.cell? ⟨gb131, 0, none⟩ = some (.bool false) := (blk_cell BK131.out 0).trans rfl
              have hcz19_1 : wc.cell? ⟨gb131, 1, none⟩ = some (.bool a0_1) := (blk_cell BK131.out 1).trans rfl
              have hcz19_2 : wc.cell? ⟨gb131, 2, none⟩ = some (.bool a0_2) := (blk_cell BK131.out 2).trans rfl
              have hcz19_3 : wc.cell? ⟨gb131, 3, none⟩ = some (.bool a0_3) := (blk_cell BK131.out 3).trans rfl
              have hfz19_0 := blk_frozen BK131.out 0
              have hfz19_1 := blk_frozen BK131.out 1
              have hfz19_2 := blk_frozen BK131.out 2
              have hfz19_3 := blk_frozen BK131.out 3
              go_wp2
              go_meet
              case rel => exact ⟨_, (true), (true), (true), (true), H', ⟨by have := HJ9.out; first | omega | exact Nat.le_refl _⟩, ⟨by (with_reducible repeat (first | refine blk_drewN ?_ _ | refine blk_drew ?_ | refine blk_alloc ?_ _)); refine blk_put (cs := #[.bool true, .bool a0_1, .bool true, .bool true]) ?_ 1 _ rfl; (with_reducible repeat (first | refine blk_drewN ?_ _ | refine blk_drew ?_ | refine blk_alloc ?_ _)); refine blk_put (cs := #[.bool false, .bool a0_1, .bool true, .bool true]) ?_ 0 _ rfl; (with_reducible repeat (first | refine blk_drewN ?_ _ | refine blk_drew ?_ | refine blk_alloc ?_ _)); refine blk_put (cs := #[.bool false, .bool a0_1, .bool true, .bool a0_3]) ?_ 3 _ rfl; (with_reducible repeat (first | refine blk_drewN ?_ _ | refine blk_drew ?_ | refine blk_alloc ?_ _)); refine blk_put (cs := #[.bool false, .bool a0_1, .bool a0_2, .bool a0_3]) ?_ 2 _ rfl; (with_reducible repeat (first | refine blk_drewN ?_ _ | refine blk_drew ?_ | refine blk_alloc ?_ _)); exact BK131.out⟩, ⟨by (with_reducible repeat (first | refine blk_drewN ?_ _ | refine blk_drew ?_ | refine blk_alloc ?_ _)); refine blk_far ?_ NB132_131.out _; (with_reducible repeat (first | refine blk_drewN ?_ _ | refine blk_drew ?_ | refine blk_alloc ?_ _)); refine blk_far ?_ NB132_131.out _; (with_reducible repeat (first | refine blk_drewN ?_ _ | refine blk_drew ?_ | refine blk_alloc ?_ _)); refine blk_far ?_ NB132_131.out _; (with_reducible repeat (first | refine blk_drewN ?_ _ | refine blk_drew ?_ | refine blk_alloc ?_ _)); refine blk_far ?_ NB132_131.out _; (with_reducible repeat (first | refine blk_drewN ?_ _ | refine blk_drew ?_ | refine blk_alloc ?_ _)); exact BK132.out⟩, ⟨by (with_reducible repeat (first | refine blk_drewN ?_ _ | refine blk_drew ?_ | refine blk_alloc ?_ _)); refine blk_far ?_ NB133_131.out _; (with_reducible repeat (first | refine blk_drewN ?_ _ | refine blk_drew ?_ | refine blk_alloc ?_ _)); refine blk_far ?_ NB133_131.out _; (with_reducible repeat (first | refine blk_drewN ?_ _ | refine blk_drew ?_ | refine blk_alloc ?_ _)); refine blk_far ?_ NB133_131.out _; (with_reducible repeat (first | refine blk_drewN ?_ _ | refine blk_drew ?_ | refine blk_alloc ?_ _)); refine blk_far ?_ NB133_131.out _; (with_reducible repeat (first | refine blk_drewN ?_ _ | refine blk_drew ?_ | refine blk_alloc ?_ _)); exact BK133.out⟩, ⟨by repeat (first | (with_reducible first | exact HB.out | apply below_alloc | apply pw_below_drewN | apply below_drew1 | refine below_set ?_ GE131.out | refine below_set ?_ GE132.out | refine below_set ?_ GE133.out) | exact HB.out)⟩⟩
        · replace c12 := Bool.eq_false_iff.mpr c12
          subst c12
          have H1 : (if a1_1 = 5 then (heraldlaw10_Book_behind.j1 kj9 true a0_1 (!a1_0) a1_0 a1_0 a1_1) else (if a1_1 = 6 then (heraldlaw10_Book_behind.j1 kj9 a0_0 a0_1 false false a1_0 a1_1) else (heraldlaw10_Book_behind.j1 kj9 a0_0 a0_1 a0_2 a0_3 a1_0 a1_1))) = some (r1, r2, r3, r4) := by rw [if_neg (show ¬ (false = true) by decide)] at H; exact H
          clear H
          have H := H1
          clear H1
          by_cases c20 : a1_1 = 5
          · rw [if_pos c20] at H
            have c20b0 : (a1_1 == 5) = true := beq_iff_eq.mpr c20
            have c20b1 : (a1_1 != 5) = false := bne_eq_false_iff_eq.mpr c20
            clear c20
            as_aux_lemma =>
              have H' := Aside0.mk H
              clear H
              have hnb21 := NB131_132.out
              have hnc21 := NB132_131.out
              have hnb22 := NB131_133.out
              have hnc22 := NB133_131.out
              have hcz23_0 : wc.cell? ⟨gb131, 0, none⟩ = some (.bool a0_0) := (blk_cell BK131.out 0).trans rfl
              have hcz23_1 : wc.cell? ⟨gb131, 1, none⟩ = some (.bool a0_1) := (blk_cell BK131.out 1).trans rfl
              have hcz23_2 : wc.cell? ⟨gb131, 2, none⟩ = some (.bool a0_2) := (blk_cell BK131.out 2).trans rfl
              have hcz23_3 : wc.cell? ⟨gb131, 3, none⟩ = some (.bool a0_3) := (blk_cell BK131.out 3).trans rfl
              have hfz23_0 := blk_frozen BK131.out 0
              have hfz23_1 := blk_frozen BK131.out 1
              have hfz23_2 := blk_frozen BK131.out 2
              have hfz23_3 := blk_frozen BK131.out 3
              have hnb24 := NB132_133.out
              have hnc24 := NB133_132.out
              have hcz25_0 : wc.cell? ⟨gb132, 0, none⟩ = some (.bool a1_0) := (blk_cell BK132.out 0).trans rfl
              have hcz25_1 : wc.cell? ⟨gb132, 1, none⟩ = some (.int .i64 a1_1) := (blk_cell BK132.out 1).trans rfl
              have hfz25_0 := blk_frozen BK132.out 0
              have hfz25_1 := blk_frozen BK132.out 1
              go_wp2
              go_meet
              case rel => exact ⟨_, (true), (a0_1), (!a1_0), (a1_0), H', ⟨by have := HJ9.out; first | omega | exact Nat.le_refl _⟩, ⟨by (with_reducible repeat (first | refine blk_drewN ?_ _ | refine blk_drew ?_ | refine blk_alloc ?_ _)); refine blk_put (cs := #[.bool true, .bool a0_1, .bool (!a1_0), .bool a0_3]) ?_ 3 _ rfl; (with_reducible repeat (first | refine blk_drewN ?_ _ | refine blk_drew ?_ | refine blk_alloc ?_ _)); refine blk_put (cs := #[.bool true, .bool a0_1, .bool a0_2, .bool a0_3]) ?_ 2 _ rfl; (with_reducible repeat (first | refine blk_drewN ?_ _ | refine blk_drew ?_ | refine blk_alloc ?_ _)); refine blk_put (cs := #[.bool a0_0, .bool a0_1, .bool a0_2, .bool a0_3]) ?_ 0 _ rfl; (with_reducible repeat (first | refine blk_drewN ?_ _ | refine blk_drew ?_ | refine blk_alloc ?_ _)); exact BK131.out⟩, ⟨by (with_reducible repeat (first | refine blk_drewN ?_ _ | refine blk_drew ?_ | refine blk_alloc ?_ _)); refine blk_far ?_ NB132_131.out _; (with_reducible repeat (first | refine blk_drewN ?_ _ | refine blk_drew ?_ | refine blk_alloc ?_ _)); refine blk_far ?_ NB132_131.out _; (with_reducible repeat (first | refine blk_drewN ?_ _ | refine blk_drew ?_ | refine blk_alloc ?_ _)); refine blk_far ?_ NB132_131.out _; (with_reducible repeat (first | refine blk_drewN ?_ _ | refine blk_drew ?_ | refine blk_alloc ?_ _)); exact BK132.out⟩, ⟨by (with_reducible repeat (first | refine blk_drewN ?_ _ | refine blk_drew ?_ | refine blk_alloc ?_ _)); refine blk_far ?_ NB133_131.out _; (with_reducible repeat (first | refine blk_drewN ?_ _ | refine blk_drew ?_ | refine blk_alloc ?_ _)); refine blk_far ?_ NB133_131.out _; (with_reducible repeat (first | refine blk_drewN ?_ _ | refine blk_drew ?_ | refine blk_alloc ?_ _)); refine blk_far ?_ NB133_131.out _; (with_reducible repeat (first | refine blk_drewN ?_ _ | refine blk_drew ?_ | refine blk_alloc ?_ _)); exact BK133.out⟩, ⟨by repeat (first | (with_reducible first | exact HB.out | apply below_alloc | apply pw_below_drewN | apply below_drew1 | refine below_set ?_ GE131.out | refine below_set ?_ GE132.out | refine below_set ?_ GE133.out) | exact HB.out)⟩⟩
          · rw [if_neg c20] at H
            have c20b0 : (a1_1 == 5) = false := beq_eq_false_iff_ne.mpr c20
            have c20b1 : (a1_1 != 5) = true := bne_iff_ne.mpr c20
            by_cases c26 : a1_1 = 6
            · rw [if_pos c26] at H
              have c26b0 : (a1_1 == 6) = true := beq_iff_eq.mpr c26
              have c26b1 : (a1_1 != 6) = false := bne_eq_false_iff_eq.mpr c26
              clear c26
              as_aux_lemma =>
                have H' := Aside0.mk H
                clear H
                have hnb27 := NB131_132.out
                have hnc27 := NB132_131.out
                have hnb28 := NB131_133.out
                have hnc28 := NB133_131.out
                have hcz29_0 : wc.cell? ⟨gb131, 0, none⟩ = some (.bool a0_0) := (blk_cell BK131.out 0).trans rfl
                have hcz29_1 : wc.cell? ⟨gb131, 1, none⟩ = some (.bool a0_1) := (blk_cell BK131.out 1).trans rfl
                have hcz29_2 : wc.cell? ⟨gb131, 2, none⟩ = some (.bool a0_2) := (blk_cell BK131.out 2).trans rfl
                have hcz29_3 : wc.cell? ⟨gb131, 3, none⟩ = some (.bool a0_3) := (blk_cell BK131.out 3).trans rfl
                have hfz29_0 := blk_frozen BK131.out 0
                have hfz29_1 := blk_frozen BK131.out 1
                have hfz29_2 := blk_frozen BK131.out 2
                have hfz29_3 := blk_frozen BK131.out 3
                go_wp2
                go_meet
                case rel => exact ⟨_, (a0_0), (a0_1), (false), (false), H', ⟨by have := HJ9.out; first | omega | exact Nat.le_refl _⟩, ⟨by (with_reducible repeat (first | refine blk_drewN ?_ _ | refine blk_drew ?_ | refine blk_alloc ?_ _)); refine blk_put (cs := #[.bool a0_0, .bool a0_1, .bool false, .bool a0_3]) ?_ 3 _ rfl; (with_reducible repeat (first | refine blk_drewN ?_ _ | refine blk_drew ?_ | refine blk_alloc ?_ _)); refine blk_put (cs := #[.bool a0_0, .bool a0_1, .bool a0_2, .bool a0_3]) ?_ 2 _ rfl; (with_reducible repeat (first | refine blk_drewN ?_ _ | refine blk_drew ?_ | refine blk_alloc ?_ _)); exact BK131.out⟩, ⟨by (with_reducible repeat (first | refine blk_drewN ?_ _ | refine blk_drew ?_ | refine blk_alloc ?_ _)); refine blk_far ?_ NB132_131.out _; (with_reducible repeat (first | refine blk_drewN ?_ _ | refine blk_drew ?_ | refine blk_alloc ?_ _)); refine blk_far ?_ NB132_131.out _; (with_reducible repeat (first | refine blk_drewN ?_ _ | refine blk_drew ?_ | refine blk_alloc ?_ _)); exact BK132.out⟩, ⟨by (with_reducible repeat (first | refine blk_drewN ?_ _ | refine blk_drew ?_ | refine blk_alloc ?_ _)); refine blk_far ?_ NB133_131.out _; (with_reducible repeat (first | refine blk_drewN ?_ _ | refine blk_drew ?_ | refine blk_alloc ?_ _)); refine blk_far ?_ NB133_131.out _; (with_reducible repeat (first | refine blk_drewN ?_ _ | refine blk_drew ?_ | refine blk_alloc ?_ _)); exact BK133.out⟩, ⟨by repeat (first | (with_reducible first | exact HB.out | apply below_alloc | apply pw_below_drewN | apply below_drew1 | refine below_set ?_ GE131.out | refine below_set ?_ GE132.out | refine below_set ?_ GE133.out) | exact HB.out)⟩⟩
            · rw [if_neg c26] at H
              have c26b0 : (a1_1 == 6) = false := beq_eq_false_iff_ne.mpr c26
              have c26b1 : (a1_1 != 6) = true := bne_iff_ne.mpr c26
              as_aux_lemma =>
                have H' := Aside0.mk H
                clear H
                go_wp2
                go_meet
                case rel => exact ⟨_, (a0_0), (a0_1), (a0_2), (a0_3), H', ⟨by have := HJ9.out; first | omega | exact Nat.le_refl _⟩, ⟨by (with_reducible repeat (first | refine blk_drewN ?_ _ | refine blk_drew ?_ | refine blk_alloc ?_ _)); exact BK131.out⟩, ⟨by (with_reducible repeat (first | refine blk_drewN ?_ _ | refine blk_drew ?_ | refine blk_alloc ?_ _)); exact BK132.out⟩, ⟨by (with_reducible repeat (first | refine blk_drewN ?_ _ | refine blk_drew ?_ | refine blk_alloc ?_ _)); exact BK133.out⟩, ⟨by repeat (first | (with_reducible first | exact HB.out | apply below_alloc | apply pw_below_drewN | apply below_drew1 | refine below_set ?_ GE131.out | refine below_set ?_ GE132.out | refine below_set ?_ GE133.out) | exact HB.out)⟩⟩
  case rest =>
    clear HC3
    try clear c1
    try clear c2
    try clear p2
    try clear c7
    try clear c8
    try clear c11
    try clear c11b0
    try clear c11b1
    try clear c12
    try clear c13
    try clear c14
    try clear c15
    try clear c17
    try clear c18
    try clear c20
    try clear c20b0
    try clear c20b1
    try clear c21
    try clear c22
    try clear c24
    try clear c26
    try clear c26b0
    try clear c26b1
    try clear c27
    try clear c28
    try clear hcz16_0
    try clear hcz16_1
    try clear hcz16_2
    try clear hcz16_3
    try clear hcz19_0
    try clear hcz19_1
    try clear hcz19_2
    try clear hcz19_3
    try clear hcz23_0
    try clear hcz23_1
    try clear hcz23_2
    try clear hcz23_3
    try clear hcz25_0
    try clear hcz25_1
    try clear hcz29_0
    try clear hcz29_1
    try clear hcz29_2
    try clear hcz29_3
    try clear hcz9_0
    try clear hcz9_1
    try clear hfz16_0
    try clear hfz16_1
    try clear hfz16_2
    try clear hfz16_3
    try clear hfz19_0
    try clear hfz19_1
    try clear hfz19_2
    try clear hfz19_3
    try clear hfz23_0
    try clear hfz23_1
    try clear hfz23_2
    try clear hfz23_3
    try clear hfz25_0
    try clear hfz25_1
    try clear hfz29_0
    try clear hfz29_1
    try clear hfz29_2
    try clear hfz29_3
    try clear hfz9_0
    try clear hfz9_1
    try clear p2
    obtain ⟨kq, x132000_2, x132001_2, x132002_2, x132003_2, HA, HJ2, BK131, BK132, BK133, HB⟩ := hcut
    cases kq with
    | zero => exact absurd HA.out (by simp [heraldlaw10_Book_behind.j1])
    | succ kj2 =>
      have H := HA.out
      clear HA
      simp only [heraldlaw10_Book_behind.j1] at H
      have HC30 := Aside0.mk H
      clear H
      go_upto_region 16 with (fail)
      go_cut [38] (fun v38 wc => ∃ (kq : Nat) (x38_29 : Bool), v38 = .bool x38_29 ∧ Aside0 (heraldlaw10_Book_behind.j2 kq x38_29 x132000_2 x132001_2 x132002_2 x132003_2 a1_0 a1_1 = some (r1, r2, r3, r4)) ∧ Aside0 (kq ≤ kj2) ∧ Aside0 (wc.heap[gb131]? = some (.cells #[.bool x132000_2, .bool x132001_2, .bool x132002_2, .bool x132003_2] 37 (0, 0))) ∧ Aside0 (wc.heap[gb132]? = some (.cells #[.bool a1_0, .int .i64 a1_1] 28 (0, 0))) ∧ Aside0 (wc.heap[gb133]? = some (.cells #[.bool false, .bool false, .bool false, .bool false] 37 (0, 0))) ∧ Aside0 (Below w.heap.size w wc))
      case first =>
        have H := HC30.out
        clear HC30
        by_cases c31 : a1_1 = 2
        · rw [if_pos c31] at H
          have c31b0 : (a1_1 == 2) = true := beq_iff_eq.mpr c31
          have c31b1 : (a1_1 != 2) = false := bne_eq_false_iff_eq.mpr c31
          clear c31
          (first | rw [c31b0] | (simp only [i64_w, i32_w]; rw [c31b0]) | skip)
          as_aux_lemma =>
            have H' := Aside0.mk H
            clear H
            have hnb32 := NB132_131.out
            have hnc32 := NB131_132.out
            have hnb33 := NB132_133.out
            have hnc33 := NB133_132.out
            have hcz34_0 : wc.cell? ⟨gb132, 0, none⟩ = some (.bool a1_0) := (blk_cell BK132.out 0).trans rfl
            have hcz34_1 : wc.cell? ⟨gb132, 1, none⟩ = some (.int .i64 a1_1) := (blk_cell BK132.out 1).trans rfl
            have hfz34_0 := blk_frozen BK132.out 0
            have hfz34_1 := blk_frozen BK132.out 1
            go_wp2
            go_meet
            case rel => exact ⟨_, (true), (by first | rfl | (simp; done) | (simp [*]; done)), H', ⟨by have := HJ2.out; first | omega | exact Nat.le_refl _⟩, ⟨by (with_reducible repeat (first | refine blk_drewN ?_ _ | refine blk_drew ?_ | refine blk_alloc ?_ _)); exact BK131.out⟩, ⟨by (with_reducible repeat (first | refine blk_drewN ?_ _ | refine blk_drew ?_ | refine blk_alloc ?_ _)); exact BK132.out⟩, ⟨by (with_reducible repeat (first | refine blk_drewN ?_ _ | refine blk_drew ?_ | refine blk_alloc ?_ _)); exact BK133.out⟩, ⟨by repeat (first | (with_reducible first | exact HB.out | apply below_alloc | apply pw_below_drewN | apply below_drew1 | refine below_set ?_ GE131.out | refine below_set ?_ GE132.out | refine below_set ?_ GE133.out) | exact HB.out)⟩⟩
        · rw [if_neg c31] at H
          have c31b0 : (a1_1 == 2) = false := beq_eq_false_iff_ne.mpr c31
          have c31b1 : (a1_1 != 2) = true := bne_iff_ne.mpr c31
          (first | rw [c31b0] | (simp only [i64_w, i32_w]; rw [c31b0]) | skip)
          as_aux_lemma =>
            have H' := Aside0.mk H
            clear H
            have hnb35 := NB132_131.out
            have hnc35 := NB131_132.out
            have hnb36 := NB132_133.out
            have hnc36 := NB133_132.out
            have hcz37_0 : wc.cell? ⟨gb132, 0, none⟩ = some (.bool a1_0) := (blk_cell BK132.out 0).trans rfl
            have hcz37_1 : wc.cell? ⟨gb132, 1, none⟩ = some (.int .i64 a1_1) := (blk_cell BK132.out 1).trans rfl
            have hfz37_0 := blk_frozen BK132.out 0
            have hfz37_1 := blk_frozen BK132.out 1
            go_wp2
            go_meet
            case rel => exact ⟨_, ((a1_1 == 4)), (by first | rfl | (simp; done) | (simp [*]; done)), H', ⟨by have := HJ2.out; first | omega | exact Nat.le_refl _⟩, ⟨by (with_reducible repeat (first | refine blk_drewN ?_ _ | refine blk_drew ?_ | refine blk_alloc ?_ _)); exact BK131.out⟩, ⟨by (with_reducible repeat (first | refine blk_drewN ?_ _ | refine blk_drew ?_ | refine blk_alloc ?_ _)); exact BK132.out⟩, ⟨by (with_reducible repeat (first | refine blk_drewN ?_ _ | refine blk_drew ?_ | refine blk_alloc ?_ _)); exact BK133.out⟩, ⟨by repeat (first | (with_reducible first | exact HB.out | apply below_alloc | apply pw_below_drewN | apply below_drew1 | refine below_set ?_ GE131.out | refine below_set ?_ GE132.out | refine below_set ?_ GE133.out) | exact HB.out)⟩⟩
      case rest =>
        clear HC30
        try clear c1
        try clear c2
        try clear p2
        try clear c3
        try clear c7
        try clear c8
        try clear c11
        try clear c11b0
        try clear c11b1
        try clear c12
        try clear c13
        try clear c14
        try clear c15
        try clear c17
        try clear c18
        try clear c20
        try clear c20b0
        try clear c20b1
        try clear c21
        try clear c22
        try clear c24
        try clear c26
        try clear c26b0
        try clear c26b1
        try clear c27
        try clear c28
        try clear c31
        try clear c31b0
        try clear c31b1
        try clear c32
        try clear c33
        try clear c35
        try clear c36
        try clear hcz16_0
        try clear hcz16_1
        try clear hcz16_2
        try clear hcz16_3
        try clear hcz19_0
        try clear hcz19_1
        try clear hcz19_2
        try clear hcz19_3
        try clear hcz23_0
        try clear hcz23_1
        try clear hcz23_2
        try clear hcz23_3
        try clear hcz25_0
        try clear hcz25_1
        try clear hcz29_0
        try clear hcz29_1
        try clear hcz29_2
        try clear hcz29_3
        try clear hcz34_0
        try clear hcz34_1
        try clear hcz37_0
        try clear hcz37_1
        try clear hcz9_0
        try clear hcz9_1
        try clear hfz16_0
        try clear hfz16_1
        try clear hfz16_2
        try clear hfz16_3
        try clear hfz19_0
        try clear hfz19_1
        try clear hfz19_2
        try clear hfz19_3
        try clear hfz23_0
        try clear hfz23_1
        try clear hfz23_2
        try clear hfz23_3
        try clear hfz25_0
        try clear hfz25_1
        try clear hfz29_0
        try clear hfz29_1
        try clear hfz29_2
        try clear hfz29_3
        try clear hfz34_0
        try clear hfz34_1
        try clear hfz37_0
        try clear hfz37_1
        try clear hfz9_0
        try clear hfz9_1
        try clear p2
        obtain ⟨kq, x38_29, rfl, HA, HJ29, BK131, BK132, BK133, HB⟩ := hcut
        cases kq with
        | zero => exact absurd HA.out (by simp [heraldlaw10_Book_behind.j2])
        | succ kj29 =>
          have H := HA.out
          clear HA
          simp only [heraldlaw10_Book_behind.j2] at H
          by_cases c38 : x38_29 = true
          · subst c38
            have H1 : (if a1_0 = true then (some (x132000_2, x132001_2, x132002_2, false)) else (some (x132000_2, x132001_2, false, x132003_2))) = some (r1, r2, r3, r4) := by rw [if_pos rfl] at H; exact H
            clear H
            have H := H1
            clear H1
            by_cases c39 : a1_0 = true
            · subst c39
              have H1 : (some (x132000_2, x132001_2, x132002_2, false)) = some (r1, r2, r3, r4) := by rw [if_pos rfl] at H; exact H
              clear H
              have H := H1
              clear H1
              as_aux_lemma =>
                simp only [Option.some.injEq, Prod.mk.injEq] at H
                obtain ⟨rfl, rfl, rfl, rfl⟩ := H
                have hnb40 := NB132_131.out
                have hnc40 := NB131_132.out
                have hnb41 := NB132_133.out
                have hnc41 := NB133_132.out
                have hcz42_0 : wc.cell? ⟨gb132, 0, none⟩ = some (.bool true) := (blk_cell BK132.out 0).trans rfl
                have hcz42_1 : wc.cell? ⟨gb132, 1, none⟩ = some (.int .i64 a1_1) := (blk_cell BK132.out 1).trans rfl
                have hfz42_0 := blk_frozen BK132.out 0
                have hfz42_1 := blk_frozen BK132.out 1
                have hnb43 := NB131_133.out
                have hnc43 := NB133_131.out
                have hcz44_0 : wc.cell? ⟨gb131, 0, none⟩ = some (.bool x132000_2) := (blk_cell BK131.out 0).trans rfl
                have hcz44_1 : wc.cell? ⟨gb131, 1, none⟩ = some (.bool x132001_2) := (blk_cell BK131.out 1).trans rfl
                have hcz44_2 : wc.cell? ⟨gb131, 2, none⟩ = some (.bool x132002_2) := (blk_cell BK131.out 2).trans rfl
                have hcz44_3 : wc.cell? ⟨gb131, 3, none⟩ = some (.bool x132003_2) := (blk_cell BK131.out 3).trans rfl
                have hfz44_0 := blk_frozen BK131.out 0
                have hfz44_1 := blk_frozen BK131.out 1
                have hfz44_2 := blk_frozen BK131.out 2
                have hfz44_3 := blk_frozen BK131.out 3
                have hcz45_0 : wc.cell? ⟨gb133, 0, none⟩ = some (.bool false) := (blk_cell BK133.out 0).trans rfl
                have hcz45_1 : wc.cell? ⟨gb133, 1, none⟩ = some (.bool false) := (blk_cell BK133.out 1).trans rfl
                have hcz45_2 : wc.cell? ⟨gb133, 2, none⟩ = some (.bool false) := (blk_cell BK133.out 2).trans rfl
                have hcz45_3 : wc.cell? ⟨gb133, 3, none⟩ = some (.bool false) := (blk_cell BK133.out 3).trans rfl
                have hfz45_0 := blk_frozen BK133.out 0
                have hfz45_1 := blk_frozen BK133.out 1
                have hfz45_2 := blk_frozen BK133.out 2
                have hfz45_3 := blk_frozen BK133.out 3
                go_wp2
                refine bodyPost_ret (results_cell_row rfl _ _ gb133 37 #[.bool x132000_2, .bool x132001_2, .bool x132002_2, .bool false] (0, 0) _ rfl (by (with_reducible repeat (first | refine blk_drewN ?_ _ | refine blk_drew ?_ | refine blk_alloc ?_ _)); refine blk_put (cs := #[.bool x132000_2, .bool x132001_2, .bool x132002_2, .bool false]) ?_ 3 _ rfl; (with_reducible repeat (first | refine blk_drewN ?_ _ | refine blk_drew ?_ | refine blk_alloc ?_ _)); refine blk_put (cs := #[.bool x132000_2, .bool x132001_2, .bool false, .bool false]) ?_ 2 _ rfl; (with_reducible repeat (first | refine blk_drewN ?_ _ | refine blk_drew ?_ | refine blk_alloc ?_ _)); refine blk_put (cs := #[.bool x132000_2, .bool false, .bool false, .bool false]) ?_ 1 _ rfl; (with_reducible repeat (first | refine blk_drewN ?_ _ | refine blk_drew ?_ | refine blk_alloc ?_ _)); refine blk_put (cs := #[.bool false, .bool false, .bool false, .bool false]) ?_ 0 _ rfl; (with_reducible repeat (first | refine blk_drewN ?_ _ | refine blk_drew ?_ | refine blk_alloc ?_ _)); refine blk_far ?_ NB133_131.out _; (with_reducible repeat (first | refine blk_drewN ?_ _ | refine blk_drew ?_ | refine blk_alloc ?_ _)); exact BK133.out) Tryd.underlying37 rfl (by kernel_rfl)) rfl ?_
                exact ⟨by first | rfl | (simp [errW_none, errW_some] <;> rfl) | (simp [*, errW_none, errW_some] <;> rfl), by repeat (first | (with_reducible first | exact HB.out | apply below_alloc | apply pw_below_drewN | apply below_drew1 | refine below_set ?_ GE131.out | refine below_set ?_ GE132.out | refine below_set ?_ GE133.out) | exact HB.out)⟩
            · replace c39 := Bool.eq_false_iff.mpr c39
              subst c39
              have H1 : (some (x132000_2, x132001_2, false, x132003_2)) = some (r1, r2, r3, r4) := by rw [if_neg (show ¬ (false = true) by decide)] at H; exact H
              clear H
              have H := H1
              clear H1
              as_aux_lemma =>
                simp only [Option.some.injEq, Prod.mk.injEq] at H
                obtain ⟨rfl, rfl, rfl, rfl⟩ := H
                have hnb46 := NB132_131.out
                have hnc46 := NB131_132.out
                have hnb47 := NB132_133.out
                have hnc47 := NB133_132.out
                have hcz48_0 : wc.cell? ⟨gb132, 0, none⟩ = some (.bool false) := (blk_cell BK132.out 0).trans rfl
                have hcz48_1 : wc.cell? ⟨gb132, 1, none⟩ = some (.int .i64 a1_1) := (blk_cell BK132.out 1).trans rfl
                have hfz48_0 := blk_frozen BK132.out 0
                have hfz48_1 := blk_frozen BK132.out 1
                have hnb49 := NB131_133.out
                have hnc49 := NB133_131.out
                have hcz50_0 : wc.cell? ⟨gb131, 0, none⟩ = some (.bool x132000_2) := (blk_cell BK131.out 0).trans rfl
                have hcz50_1 : wc.cell? ⟨gb131, 1, none⟩ = some (.bool x132001_2) := (blk_cell BK131.out 1).trans rfl
                have hcz50_2 : wc.cell? ⟨gb131, 2, none⟩ = some (.bool x132002_2) := (blk_cell BK131.out 2).trans rfl
                have hcz50_3 : wc.cell? ⟨gb131, 3, none⟩ = some (.bool x132003_2) := (blk_cell BK131.out 3).trans rfl
                have hfz50_0 := blk_frozen BK131.out 0
                have hfz50_1 := blk_frozen BK131.out 1
                have hfz50_2 := blk_frozen BK131.out 2
                have hfz50_3 := blk_frozen BK131.out 3
                have hcz51_0 : wc.cell? ⟨gb133, 0, none⟩ = some (.bool false) := (blk_cell BK133.out 0).trans rfl
                have hcz51_1 : wc.cell? ⟨gb133, 1, none⟩ = some (.bool false) := (blk_cell BK133.out 1).trans rfl
                have hcz51_2 : wc.cell? ⟨gb133, 2, none⟩ = some (.bool false) := (blk_cell BK133.out 2).trans rfl
                have hcz51_3 : wc.cell? ⟨gb133, 3, none⟩ = some (.bool false) := (blk_cell BK133.out 3).trans rfl
                have hfz51_0 := blk_frozen BK133.out 0
                have hfz51_1 := blk_frozen BK133.out 1
                have hfz51_2 := blk_frozen BK133.out 2
                have hfz51_3 := blk_frozen BK133.out 3
                go_wp2
                refine bodyPost_ret (results_cell_row rfl _ _ gb133 37 #[.bool x132000_2, .bool x132001_2, .bool false, .bool x132003_2] (0, 0) _ rfl (by (with_reducible repeat (first | refine blk_drewN ?_ _ | refine blk_drew ?_ | refine blk_alloc ?_ _)); refine blk_put (cs := #[.bool x132000_2, .bool x132001_2, .bool false, .bool false]) ?_ 3 _ rfl; (with_reducible repeat (first | refine blk_drewN ?_ _ | refine blk_drew ?_ | refine blk_alloc ?_ _)); refine blk_put (cs := #[.bool x132000_2, .bool x132001_2, .bool false, .bool false]) ?_ 2 _ rfl; (with_reducible repeat (first | refine blk_drewN ?_ _ | refine blk_drew ?_ | refine blk_alloc ?_ _)); refine blk_put (cs := #[.bool x132000_2, .bool false, .bool false, .bool false]) ?_ 1 _ rfl; (with_reducible repeat (first | refine blk_drewN ?_ _ | refine blk_drew ?_ | refine blk_alloc ?_ _)); refine blk_put (cs := #[.bool false, .bool false, .bool false, .bool false]) ?_ 0 _ rfl; (with_reducible repeat (first | refine blk_drewN ?_ _ | refine blk_drew ?_ | refine blk_alloc ?_ _)); refine blk_far ?_ NB133_131.out _; (with_reducible repeat (first | refine blk_drewN ?_ _ | refine blk_drew ?_ | refine blk_alloc ?_ _)); exact BK133.out) Tryd.underlying37 rfl (by kernel_rfl)) rfl ?_
                exact ⟨by first | rfl | (simp [errW_none, errW_some] <;> rfl) | (simp [*, errW_none, errW_some] <;> rfl), by repeat (first | (with_reducible first | exact HB.out | apply below_alloc | apply pw_below_drewN | apply below_drew1 | refine below_set ?_ GE131.out | refine below_set ?_ GE132.out | refine below_set ?_ GE133.out) | exact HB.out)⟩
          · replace c38 := Bool.eq_false_iff.mpr c38
            subst c38
            have H1 : (some (x132000_2, x132001_2, x132002_2, x132003_2)) = some (r1, r2, r3, r4) := by rw [if_neg (show ¬ (false = true) by decide)] at H; exact H
            clear H
            have H := H1
            clear H1
            as_aux_lemma =>
              simp only [Option.some.injEq, Prod.mk.injEq] at H
              obtain ⟨rfl, rfl, rfl, rfl⟩ := H
              have hnb52 := NB131_132.out
              have hnc52 := NB132_131.out
              have hnb53 := NB131_133.out
              have hnc53 := NB133_131.out
              have hcz54_0 : wc.cell? ⟨gb131, 0, none⟩ = some (.bool x132000_2) := (blk_cell BK131.out 0).trans rfl
              have hcz54_1 : wc.cell? ⟨gb131, 1, none⟩ = some (.bool x132001_2) := (blk_cell BK131.out 1).trans rfl
              have hcz54_2 : wc.cell? ⟨gb131, 2, none⟩ = some (.bool x132002_2) := (blk_cell BK131.out 2).trans rfl
              have hcz54_3 : wc.cell? ⟨gb131, 3, none⟩ = some (.bool x132003_2) := (blk_cell BK131.out 3).trans rfl
              have hfz54_0 := blk_frozen BK131.out 0
              have hfz54_1 := blk_frozen BK131.out 1
              have hfz54_2 := blk_frozen BK131.out 2
              have hfz54_3 := blk_frozen BK131.out 3
              have hnb55 := NB133_132.out
              have hnc55 := NB132_133.out
              have hcz56_0 : wc.cell? ⟨gb133, 0, none⟩ = some (.bool false) := (blk_cell BK133.out 0).trans rfl
              have hcz56_1 : wc.cell? ⟨gb133, 1, none⟩ = some (.bool false) := (blk_cell BK133.out 1).trans rfl
              have hcz56_2 : wc.cell? ⟨gb133, 2, none⟩ = some (.bool false) := (blk_cell BK133.out 2).trans rfl
              have hcz56_3 : wc.cell? ⟨gb133, 3, none⟩ = some (.bool false) := (blk_cell BK133.out 3).trans rfl
              have hfz56_0 := blk_frozen BK133.out 0
              have hfz56_1 := blk_frozen BK133.out 1
              have hfz56_2 := blk_frozen BK133.out 2
              have hfz56_3 := blk_frozen BK133.out 3
              go_wp2
              refine bodyPost_ret (results_cell_row rfl _ _ gb133 37 #[.bool x132000_2, .bool x132001_2, .bool x132002_2, .bool x132003_2] (0, 0) _ rfl (by (with_reducible repeat (first | refine blk_drewN ?_ _ | refine blk_drew ?_ | refine blk_alloc ?_ _)); refine blk_put (cs := #[.bool x132000_2, .bool x132001_2, .bool x132002_2, .bool false]) ?_ 3 _ rfl; (with_reducible repeat (first | refine blk_drewN ?_ _ | refine blk_drew ?_ | refine blk_alloc ?_ _)); refine blk_put (cs := #[.bool x132000_2, .bool x132001_2, .bool false, .bool false]) ?_ 2 _ rfl; (with_reducible repeat (first | refine blk_drewN ?_ _ | refine blk_drew ?_ | refine blk_alloc ?_ _)); refine blk_put (cs := #[.bool x132000_2, .bool false, .bool false, .bool false]) ?_ 1 _ rfl; (with_reducible repeat (first | refine blk_drewN ?_ _ | refine blk_drew ?_ | refine blk_alloc ?_ _)); refine blk_put (cs := #[.bool false, .bool false, .bool false, .bool false]) ?_ 0 _ rfl; (with_reducible repeat (first | refine blk_drewN ?_ _ | refine blk_drew ?_ | refine blk_alloc ?_ _)); exact BK133.out) Tryd.underlying37 rfl (by kernel_rfl)) rfl ?_
              exact ⟨by first | rfl | (simp [errW_none, errW_some] <;> rfl) | (simp [*, errW_none, errW_some] <;> rfl), by repeat (first | (with_reducible first | exact HB.out | apply below_alloc | apply pw_below_drewN | apply below_drew1 | refine below_set ?_ GE131.out | refine below_set ?_ GE132.out | refine below_set ?_ GE133.out) | exact HB.out)⟩

end Go.Proofs.YtndhaakknkkpfaaDoor.QBook
