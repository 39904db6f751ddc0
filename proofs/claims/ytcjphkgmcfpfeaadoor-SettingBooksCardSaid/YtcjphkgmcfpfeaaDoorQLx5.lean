/- Written by a program of this session (a changed run of the kit's printer): what the Go functions of one call tree answer, as plain functions, and that the machine's calls answer so; no condition but those in each statement. -/
import Derived.Test.YtcjphkgmcfpfeaaDoorQLx0
namespace Go.Proofs.YtcjphkgmcfpfeaaDoor.QL
open Go.RowKit Go.Proofs.YtcjphkgmcfpfeaaDoorW.PrintWords Go.Proofs.YtcjphkgmcfpfeaaDoorW.PrintLast Go.Proofs.YtcjphkgmcfpfeaaDoorW.PrintMore
attribute [local go_sem] max2_int min2_int max_two min_two max_three min_three max_four min_four   -- for this text's walks alone
set_option linter.unusedVariables false
set_option linter.unusedSimpArgs false

/-! ### heraldref08_Valid: function 10 -/
mutual
def heraldref08_Valid.j0 : Nat → Bool → Bool → Int → Int → Option (Int)
  | 0, _, _, _, _ => none
  | k + 1, x1, x22, x125000, x125001 => if x22 = true then (some 1) else (if x125000 = 2 then (if x125001 > 1 then (heraldref08_Valid.j1 k true x125000 x125001) else (if x125001 = 1 then (heraldref08_Valid.j1 k (!x1) x125000 x125001) else (heraldref08_Valid.j1 k false x125000 x125001))) else (heraldref08_Valid.j1 k false x125000 x125001))
def heraldref08_Valid.j1 : Nat → Bool → Int → Int → Option (Int)
  | 0, _, _, _ => none
  | k + 1, x39, x125000, x125001 => if x39 = true then (some 1) else (if x125000 = 4 then (heraldref08_Valid.j2 k (decide (x125001 > 2147483647)) x125000 x125001) else (heraldref08_Valid.j2 k false x125000 x125001))
def heraldref08_Valid.j2 : Nat → Bool → Int → Int → Option (Int)
  | 0, _, _, _ => none
  | k + 1, x47, x125000, x125001 => if x47 = true then (some 3) else (if x125000 = 5 then (if x125001 < 16384 then (some 1) else (if x125001 > 16777215 then (some 1) else (some 0))) else (some 0))
end
def heraldref08_Valid.f (k : Nat) (a0_0 : Int) (a0_1 : Int) (a1 : Bool) : Option (Int) := if a0_0 < 0 then (heraldref08_Valid.j0 k a1 true a0_0 a0_1) else (if a0_0 > 65535 then (heraldref08_Valid.j0 k a1 true a0_0 a0_1) else (if a0_1 < 0 then (heraldref08_Valid.j0 k a1 true a0_0 a0_1) else (heraldref08_Valid.j0 k a1 (decide (a0_1 > 4294967295)) a0_0 a0_1)))
theorem heraldref08_Valid.mono_l : ∀ k, (∀ y0 y1 y2 y3, LeO (heraldref08_Valid.j0 k y0 y1 y2 y3) (heraldref08_Valid.j0 (k + 1) y0 y1 y2 y3)) ∧ (∀ y0 y1 y2, LeO (heraldref08_Valid.j1 k y0 y1 y2) (heraldref08_Valid.j1 (k + 1) y0 y1 y2)) ∧ (∀ y0 y1 y2, LeO (heraldref08_Valid.j2 k y0 y1 y2) (heraldref08_Valid.j2 (k + 1) y0 y1 y2))
  | 0 => ⟨fun _ _ _ _ r h => by simp [heraldref08_Valid.j0] at h, fun _ _ _ r h => by simp [heraldref08_Valid.j1] at h, fun _ _ _ r h => by simp [heraldref08_Valid.j2] at h⟩
  | k + 1 => by
    obtain ⟨ih0, ih1, ih2⟩ := heraldref08_Valid.mono_l k
    refine ⟨?_, ?_, ?_⟩
    · intro y0 y1 y2 y3
      unfold heraldref08_Valid.j0
      repeat' first
      | (with_reducible exact ih0 _ _ _ _)
      | (with_reducible exact ih1 _ _ _)
      | (with_reducible exact ih2 _ _ _)
      | (with_reducible exact LeO.refl _)
      | (with_reducible exact LeO.none _)
      | (with_reducible refine LeO.ite ?_ ?_)
      | (with_reducible refine LeO.bind ?_ (fun _ => ?_))
      | exact ih0 _ _ _ _
      | exact ih1 _ _ _
      | exact ih2 _ _ _
      | exact LeO.none _
      | refine LeO.ite ?_ ?_
      | refine LeO.bind ?_ (fun _ => ?_)
    · intro y0 y1 y2
      unfold heraldref08_Valid.j1
      repeat' first
      | (with_reducible exact ih0 _ _ _ _)
      | (with_reducible exact ih1 _ _ _)
      | (with_reducible exact ih2 _ _ _)
      | (with_reducible exact LeO.refl _)
      | (with_reducible exact LeO.none _)
      | (with_reducible refine LeO.ite ?_ ?_)
      | (with_reducible refine LeO.bind ?_ (fun _ => ?_))
      | exact ih0 _ _ _ _
      | exact ih1 _ _ _
      | exact ih2 _ _ _
      | exact LeO.none _
      | refine LeO.ite ?_ ?_
      | refine LeO.bind ?_ (fun _ => ?_)
    · intro y0 y1 y2
      unfold heraldref08_Valid.j2
      repeat' first
      | (with_reducible exact ih0 _ _ _ _)
      | (with_reducible exact ih1 _ _ _)
      | (with_reducible exact ih2 _ _ _)
      | (with_reducible exact LeO.refl _)
      | (with_reducible exact LeO.none _)
      | (with_reducible refine LeO.ite ?_ ?_)
      | (with_reducible refine LeO.bind ?_ (fun _ => ?_))
      | exact ih0 _ _ _ _
      | exact ih1 _ _ _
      | exact ih2 _ _ _
      | exact LeO.none _
      | refine LeO.ite ?_ ?_
      | refine LeO.bind ?_ (fun _ => ?_)
theorem heraldref08_Valid.mono : ∀ a0 a1 a2 k, LeO (heraldref08_Valid.f k a0 a1 a2) (heraldref08_Valid.f (k + 1) a0 a1 a2) := by
  intro a0 a1 a2 k
  obtain ⟨ih0, ih1, ih2⟩ := heraldref08_Valid.mono_l k
  unfold heraldref08_Valid.f
  repeat' first
      | (with_reducible exact ih0 _ _ _ _)
      | (with_reducible exact ih1 _ _ _)
      | (with_reducible exact ih2 _ _ _)
      | (with_reducible exact LeO.refl _)
      | (with_reducible exact LeO.none _)
      | (with_reducible refine LeO.ite ?_ ?_)
      | (with_reducible refine LeO.bind ?_ (fun _ => ?_))
      | exact ih0 _ _ _ _
      | exact ih1 _ _ _
      | exact ih2 _ _ _
      | exact LeO.none _
      | refine LeO.ite ?_ ?_
      | refine LeO.bind ?_ (fun _ => ?_)
set_option maxHeartbeats 8000000 in
set_option maxRecDepth 100000 in
theorem heraldref08_Valid.calls (k : Nat) (a0_0 : Int) (a0_1 : Int) (a1 : Bool) (r : Int) (w : World) (h : heraldref08_Valid.f k a0_0 a0_1 a1 = some r) :
    Calls Tryd.prog 10 #[.agg #[.int .i64 a0_0, .int .i64 a0_1], .bool a1] w fun e w' => e = .returned (.int .i64 r) ∧ Below w.heap.size w w' := by
  have hu28 := Tryd.underlying28
  have HB := Aside0.mk (Below.refl w.heap.size w)
  have H : (if a0_0 < 0 then (heraldref08_Valid.j0 k a1 true a0_0 a0_1) else (if a0_0 > 65535 then (heraldref08_Valid.j0 k a1 true a0_0 a0_1) else (if a0_1 < 0 then (heraldref08_Valid.j0 k a1 true a0_0 a0_1) else (heraldref08_Valid.j0 k a1 (decide (a0_1 > 4294967295)) a0_0 a0_1)))) = some r := h
  clear h
  have HC3 := Aside0.mk H
  clear H
  go_enter Tryd.func10, Tryd.ntmps10
  go_upto_region 1 with (first | ((with_reducible refine gate_dst (N := 2) rfl ?_); refine box_event ?hg (N := 2) ?hd (cs := #[.int .i64 a0_0, .int .i64 a0_1]) (t := 28) ?hr ?_; (case hd => rfl); (case hg => rfl); (case hr => first | (go_simp; done) | (go_simp; rfl)); intro gb124 hg w4 hbox hb; have n0_ := Aside0.mk (below_step (by repeat (first | (with_reducible first | exact HB.out | apply below_alloc | apply pw_below_drewN | apply below_drew1) | exact HB.out)) hb); have n1_ := Aside0.mk (hbox); have n2_ := Aside0.mk ((by rw [hg]; exact (below_size (by repeat (first | (with_reducible first | exact HB.out | apply below_alloc | apply pw_below_drewN | apply below_drew1) | exact HB.out))) : w.heap.size ≤ gb124)); have n3_ := Aside0.mk ((by rw [hg]; exact (below_size (by repeat (first | (with_reducible first | exact HB.out | apply below_alloc | apply pw_below_drewN | apply below_drew1) | exact HB.out))) : w.heap.size ≤ gb124)); clear HB; have HB := n0_; have BK124 := n1_; have GW124 := n2_; have GE124 := n3_; clear n0_ n1_ n2_ n3_; clear hb hbox hg))
  (try simp only [Act.put, List.setIfInBounds_toArray, List.set_cons_zero, List.set_cons_succ])
  go_cut [22] (fun v22 wc => ∃ (kq : Nat) (x22_2 : Bool), v22 = .bool x22_2 ∧ Aside0 (heraldref08_Valid.j0 kq a1 x22_2 a0_0 a0_1 = some r) ∧ Aside0 (kq ≤ k) ∧ Aside0 (wc.heap[gb124]? = some (.cells #[.int .i64 a0_0, .int .i64 a0_1] 28 (0, 0))) ∧ Aside0 (Below w.heap.size w wc))
  case first =>
    have H := HC3.out
    clear HC3
    by_cases c5 : a0_0 < 0
    · rw [if_pos c5] at H
      have c5b0 : decide (a0_0 < 0) = true := decide_eq_true c5
      clear c5
      (first | rw [c5b0] | (simp only [i64_w, i32_w]; rw [c5b0]) | skip)
      have H' := Aside0.mk H
      clear H
      have hcz6_0 : w4.cell? ⟨gb124, 0, none⟩ = some (.int .i64 a0_0) := (blk_cell BK124.out 0).trans rfl
      have hcz6_1 : w4.cell? ⟨gb124, 1, none⟩ = some (.int .i64 a0_1) := (blk_cell BK124.out 1).trans rfl
      have hfz6_0 := blk_frozen BK124.out 0
      have hfz6_1 := blk_frozen BK124.out 1
      go_wp2
      go_meet
      case rel => exact ⟨_, (true), (by first | rfl | (simp; done) | (simp [*]; done)), H', ⟨by first | omega | exact Nat.le_refl _⟩, ⟨by (with_reducible repeat (first | refine blk_drewN ?_ _ | refine blk_drew ?_ | refine blk_alloc ?_ _)); exact BK124.out⟩, ⟨by repeat (first | (with_reducible first | exact HB.out | apply below_alloc | apply pw_below_drewN | apply below_drew1 | refine below_set ?_ GE124.out) | exact HB.out)⟩⟩
    · rw [if_neg c5] at H
      have c5b0 : decide (a0_0 < 0) = false := decide_eq_false c5
      clear c5
      (first | rw [c5b0] | (simp only [i64_w, i32_w]; rw [c5b0]) | skip)
      by_cases c7 : a0_0 > 65535
      · rw [if_pos c7] at H
        have c7b0 : decide (65535 < a0_0) = true := decide_eq_true c7
        clear c7
        have H' := Aside0.mk H
        clear H
        have hcz8_0 : w4.cell? ⟨gb124, 0, none⟩ = some (.int .i64 a0_0) := (blk_cell BK124.out 0).trans rfl
        have hcz8_1 : w4.cell? ⟨gb124, 1, none⟩ = some (.int .i64 a0_1) := (blk_cell BK124.out 1).trans rfl
        have hfz8_0 := blk_frozen BK124.out 0
        have hfz8_1 := blk_frozen BK124.out 1
        go_wp2
        go_meet
        case rel => exact ⟨_, (true), (by first | rfl | (simp; done) | (simp [*]; done)), H', ⟨by first | omega | exact Nat.le_refl _⟩, ⟨by (with_reducible repeat (first | refine blk_drewN ?_ _ | refine blk_drew ?_ | refine blk_alloc ?_ _)); exact BK124.out⟩, ⟨by repeat (first | (with_reducible first | exact HB.out | apply below_alloc | apply pw_below_drewN | apply below_drew1 | refine below_set ?_ GE124.out) | exact HB.out)⟩⟩
      · rw [if_neg c7] at H
        have c7b0 : decide (65535 < a0_0) = false := decide_eq_false c7
        clear c7
        by_cases c9 : a0_1 < 0
        · rw [if_pos c9] at H
          have c9b0 : decide (a0_1 < 0) = true := decide_eq_true c9
          clear c9
          have H' := Aside0.mk H
          clear H
          have hcz10_0 : w4.cell? ⟨gb124, 0, none⟩ = some (.int .i64 a0_0) := (blk_cell BK124.out 0).trans rfl
          have hcz10_1 : w4.cell? ⟨gb124, 1, none⟩ = some (.int .i64 a0_1) := (blk_cell BK124.out 1).trans rfl
          have hfz10_0 := blk_frozen BK124.out 0
          have hfz10_1 := blk_frozen BK124.out 1
          go_wp2
          go_meet
          case rel => exact ⟨_, (true), (by first | rfl | (simp; done) | (simp [*]; done)), H', ⟨by first | omega | exact Nat.le_refl _⟩, ⟨by (with_reducible repeat (first | refine blk_drewN ?_ _ | refine blk_drew ?_ | refine blk_alloc ?_ _)); exact BK124.out⟩, ⟨by repeat (first | (with_reducible first | exact HB.out | apply below_alloc | apply pw_below_drewN | apply below_drew1 | refine below_set ?_ GE124.out) | exact HB.out)⟩⟩
        · rw [if_neg c9] at H
          have c9b0 : decide (a0_1 < 0) = false := decide_eq_false c9
          clear c9
          have H' := Aside0.mk H
          clear H
          have hcz11_0 : w4.cell? ⟨gb124, 0, none⟩ = some (.int .i64 a0_0) := (blk_cell BK124.out 0).trans rfl
          have hcz11_1 : w4.cell? ⟨gb124, 1, none⟩ = some (.int .i64 a0_1) := (blk_cell BK124.out 1).trans rfl
          have hfz11_0 := blk_frozen BK124.out 0
          have hfz11_1 := blk_frozen BK124.out 1
          go_wp2
          go_meet
          case rel => exact ⟨_, (decide (a0_1 > 4294967295)), (by first | rfl | (simp; done) | (simp [*]; done)), H', ⟨by first | omega | exact Nat.le_refl _⟩, ⟨by (with_reducible repeat (first | refine blk_drewN ?_ _ | refine blk_drew ?_ | refine blk_alloc ?_ _)); exact BK124.out⟩, ⟨by repeat (first | (with_reducible first | exact HB.out | apply below_alloc | apply pw_below_drewN | apply below_drew1 | refine below_set ?_ GE124.out) | exact HB.out)⟩⟩
  case rest =>
    clear HC3
    try clear c1
    try clear p2
    try clear c5
    try clear c5b0
    try clear c7
    try clear c7b0
    try clear c9
    try clear c9b0
    try clear c10
    try clear hcz10_0
    try clear hcz10_1
    try clear hcz11_0
    try clear hcz11_1
    try clear hcz6_0
    try clear hcz6_1
    try clear hcz8_0
    try clear hcz8_1
    try clear hfz10_0
    try clear hfz10_1
    try clear hfz11_0
    try clear hfz11_1
    try clear hfz6_0
    try clear hfz6_1
    try clear hfz8_0
    try clear hfz8_1
    obtain ⟨kq, x22_2, rfl, HA, HJ2, BK124, HB⟩ := hcut
    cases kq with
    | zero => exact absurd HA.out (by simp [heraldref08_Valid.j0])
    | succ kj2 =>
      have H := HA.out
      clear HA
      simp only [heraldref08_Valid.j0] at H
      by_cases c12 : x22_2 = true
      · subst c12
        have H1 : (some 1) = some r := by rw [if_pos rfl] at H; exact H
        clear H
        have H := H1
        clear H1
        obtain rfl := Option.some.inj H
        go_wp2
        go_ret
        exact ⟨by first | rfl | (simp [errW_none, errW_some] <;> rfl) | (simp [*, errW_none, errW_some] <;> rfl), by repeat (first | (with_reducible first | exact HB.out | apply below_alloc | apply pw_below_drewN | apply below_drew1 | refine below_set ?_ GE124.out) | exact HB.out)⟩
      · replace c12 := Bool.eq_false_iff.mpr c12
        subst c12
        have H1 : (if a0_0 = 2 then (if a0_1 > 1 then (heraldref08_Valid.j1 kj2 true a0_0 a0_1) else (if a0_1 = 1 then (heraldref08_Valid.j1 kj2 (!a1) a0_0 a0_1) else (heraldref08_Valid.j1 kj2 false a0_0 a0_1))) else (heraldref08_Valid.j1 kj2 false a0_0 a0_1)) = some r := by rw [if_neg (show ¬ (false = true) by decide)] at H; exact H
        clear H
        have H := H1
        clear H1
        have HC13 := Aside0.mk H
        clear H
        go_upto_region 3 with (fail)
        go_cut [39] (fun v39 wc => ∃ (kq : Nat) (x39_12 : Bool), v39 = .bool x39_12 ∧ Aside0 (heraldref08_Valid.j1 kq x39_12 a0_0 a0_1 = some r) ∧ Aside0 (kq ≤ kj2) ∧ Aside0 (wc.heap[gb124]? = some (.cells #[.int .i64 a0_0, .int .i64 a0_1] 28 (0, 0))) ∧ Aside0 (Below w.heap.size w wc))
        case first =>
          have H := HC13.out
          clear HC13
          by_cases c14 : a0_0 = 2
          · rw [if_pos c14] at H
            have c14b0 : (a0_0 == 2) = true := beq_iff_eq.mpr c14
            have c14b1 : (a0_0 != 2) = false := bne_eq_false_iff_eq.mpr c14
            clear c14
            (first | rw [c14b0] | (simp only [i64_w, i32_w]; rw [c14b0]) | skip)
            by_cases c15 : a0_1 > 1
            · rw [if_pos c15] at H
              have c15b0 : decide (1 < a0_1) = true := decide_eq_true c15
              clear c15
              have H' := Aside0.mk H
              clear H
              have hcz16_0 : wc.cell? ⟨gb124, 0, none⟩ = some (.int .i64 a0_0) := (blk_cell BK124.out 0).trans rfl
              have hcz16_1 : wc.cell? ⟨gb124, 1, none⟩ = some (.int .i64 a0_1) := (blk_cell BK124.out 1).trans rfl
              have hfz16_0 := blk_frozen BK124.out 0
              have hfz16_1 := blk_frozen BK124.out 1
              go_wp2
              go_meet
              case rel => exact ⟨_, (true), (by first | rfl | (simp; done) | (simp [*]; done)), H', ⟨by have := HJ2.out; first | omega | exact Nat.le_refl _⟩, ⟨by (with_reducible repeat (first | refine blk_drewN ?_ _ | refine blk_drew ?_ | refine blk_alloc ?_ _)); exact BK124.out⟩, ⟨by repeat (first | (with_reducible first | exact HB.out | apply below_alloc | apply pw_below_drewN | apply below_drew1 | refine below_set ?_ GE124.out) | exact HB.out)⟩⟩
            · rw [if_neg c15] at H
              have c15b0 : decide (1 < a0_1) = false := decide_eq_false c15
              clear c15
              by_cases c17 : a0_1 = 1
              · rw [if_pos c17] at H
                have c17b0 : (a0_1 == 1) = true := beq_iff_eq.mpr c17
                have c17b1 : (a0_1 != 1) = false := bne_eq_false_iff_eq.mpr c17
                clear c17
                have H' := Aside0.mk H
                clear H
                have hcz18_0 : wc.cell? ⟨gb124, 0, none⟩ = some (.int .i64 a0_0) := (blk_cell BK124.out 0).trans rfl
                have hcz18_1 : wc.cell? ⟨gb124, 1, none⟩ = some (.int .i64 a0_1) := (blk_cell BK124.out 1).trans rfl
                have hfz18_0 := blk_frozen BK124.out 0
                have hfz18_1 := blk_frozen BK124.out 1
                go_wp2
                go_meet
                case rel => exact ⟨_, (!a1), (by first | rfl | (simp; done) | (simp [*]; done)), H', ⟨by have := HJ2.out; first | omega | exact Nat.le_refl _⟩, ⟨by (with_reducible repeat (first | refine blk_drewN ?_ _ | refine blk_drew ?_ | refine blk_alloc ?_ _)); exact BK124.out⟩, ⟨by repeat (first | (with_reducible first | exact HB.out | apply below_alloc | apply pw_below_drewN | apply below_drew1 | refine below_set ?_ GE124.out) | exact HB.out)⟩⟩
              · rw [if_neg c17] at H
                have c17b0 : (a0_1 == 1) = false := beq_eq_false_iff_ne.mpr c17
                have c17b1 : (a0_1 != 1) = true := bne_iff_ne.mpr c17
                have H' := Aside0.mk H
                clear H
                have hcz19_0 : wc.cell? ⟨gb124, 0, none⟩ = some (.int .i64 a0_0) := (blk_cell BK124.out 0).trans rfl
                have hcz19_1 : wc.cell? ⟨gb124, 1, none⟩ = some (.int .i64 a0_1) := (blk_cell BK124.out 1).trans rfl
                have hfz19_0 := blk_frozen BK124.out 0
                have hfz19_1 := blk_frozen BK124.out 1
                go_wp2
                go_meet
                case rel => exact ⟨_, (false), (by first | rfl | (simp; done) | (simp [*]; done)), H', ⟨by have := HJ2.out; first | omega | exact Nat.le_refl _⟩, ⟨by (with_reducible repeat (first | refine blk_drewN ?_ _ | refine blk_drew ?_ | refine blk_alloc ?_ _)); exact BK124.out⟩, ⟨by repeat (first | (with_reducible first | exact HB.out | apply below_alloc | apply pw_below_drewN | apply below_drew1 | refine below_set ?_ GE124.out) | exact HB.out)⟩⟩
          · rw [if_neg c14] at H
            have c14b0 : (a0_0 == 2) = false := beq_eq_false_iff_ne.mpr c14
            have c14b1 : (a0_0 != 2) = true := bne_iff_ne.mpr c14
            (first | rw [c14b0] | (simp only [i64_w, i32_w]; rw [c14b0]) | skip)
            have H' := Aside0.mk H
            clear H
            have hcz20_0 : wc.cell? ⟨gb124, 0, none⟩ = some (.int .i64 a0_0) := (blk_cell BK124.out 0).trans rfl
            have hcz20_1 : wc.cell? ⟨gb124, 1, none⟩ = some (.int .i64 a0_1) := (blk_cell BK124.out 1).trans rfl
            have hfz20_0 := blk_frozen BK124.out 0
            have hfz20_1 := blk_frozen BK124.out 1
            go_wp2
            go_meet
            case rel => exact ⟨_, (false), (by first | rfl | (simp; done) | (simp [*]; done)), H', ⟨by have := HJ2.out; first | omega | exact Nat.le_refl _⟩, ⟨by (with_reducible repeat (first | refine blk_drewN ?_ _ | refine blk_drew ?_ | refine blk_alloc ?_ _)); exact BK124.out⟩, ⟨by repeat (first | (with_reducible first | exact HB.out | apply below_alloc | apply pw_below_drewN | apply below_drew1 | refine below_set ?_ GE124.out) | exact HB.out)⟩⟩
        case rest =>
          clear HC13
          try clear c1
          try clear p2
          try clear c5
          try clear c5b0
          try clear c7
          try clear c7b0
          try clear c9
          try clear c9b0
          try clear c10
          try clear c12
          try clear c14
          try clear c14b0
          try clear c14b1
          try clear c15
          try clear c15b0
          try clear c17
          try clear c17b0
          try clear c17b1
          try clear hcz10_0
          try clear hcz10_1
          try clear hcz11_0
          try clear hcz11_1
          try clear hcz16_0
          try clear hcz16_1
          try clear hcz18_0
          try clear hcz18_1
          try clear hcz19_0
          try clear hcz19_1
          try clear hcz20_0
          try clear hcz20_1
          try clear hcz6_0
          try clear hcz6_1
          try clear hcz8_0
          try clear hcz8_1
          try clear hfz10_0
          try clear hfz10_1
          try clear hfz11_0
          try clear hfz11_1
          try clear hfz16_0
          try clear hfz16_1
          try clear hfz18_0
          try clear hfz18_1
          try clear hfz19_0
          try clear hfz19_1
          try clear hfz20_0
          try clear hfz20_1
          try clear hfz6_0
          try clear hfz6_1
          try clear hfz8_0
          try clear hfz8_1
          try clear p2
          obtain ⟨kq, x39_12, rfl, HA, HJ12, BK124, HB⟩ := hcut
          cases kq with
          | zero => exact absurd HA.out (by simp [heraldref08_Valid.j1])
          | succ kj12 =>
            have H := HA.out
            clear HA
            simp only [heraldref08_Valid.j1] at H
            by_cases c21 : x39_12 = true
            · subst c21
              have H1 : (some 1) = some r := by rw [if_pos rfl] at H; exact H
              clear H
              have H := H1
              clear H1
              obtain rfl := Option.some.inj H
              go_wp2
              go_ret
              exact ⟨by first | rfl | (simp [errW_none, errW_some] <;> rfl) | (simp [*, errW_none, errW_some] <;> rfl), by repeat (first | (with_reducible first | exact HB.out | apply below_alloc | apply pw_below_drewN | apply below_drew1 | refine below_set ?_ GE124.out) | exact HB.out)⟩
            · replace c21 := Bool.eq_false_iff.mpr c21
              subst c21
              have H1 : (if a0_0 = 4 then (heraldref08_Valid.j2 kj12 (decide (a0_1 > 2147483647)) a0_0 a0_1) else (heraldref08_Valid.j2 kj12 false a0_0 a0_1)) = some r := by rw [if_neg (show ¬ (false = true) by decide)] at H; exact H
              clear H
              have H := H1
              clear H1
              have HC22 := Aside0.mk H
              clear H
              go_upto_region 5 with (fail)
              go_cut [47] (fun v47 wc => ∃ (kq : Nat) (x47_21 : Bool), v47 = .bool x47_21 ∧ Aside0 (heraldref08_Valid.j2 kq x47_21 a0_0 a0_1 = some r) ∧ Aside0 (kq ≤ kj12) ∧ Aside0 (wc.heap[gb124]? = some (.cells #[.int .i64 a0_0, .int .i64 a0_1] 28 (0, 0))) ∧ Aside0 (Below w.heap.size w wc))
              case first =>
                have H := HC22.out
                clear HC22
                by_cases c23 : a0_0 = 4
                · rw [if_pos c23] at H
                  have c23b0 : (a0_0 == 4) = true := beq_iff_eq.mpr c23
                  have c23b1 : (a0_0 != 4) = false := bne_eq_false_iff_eq.mpr c23
                  clear c23
                  (first | rw [c23b0] | (simp only [i64_w, i32_w]; rw [c23b0]) | skip)
                  have H' := Aside0.mk H
                  clear H
                  have hcz24_0 : wc.cell? ⟨gb124, 0, none⟩ = some (.int .i64 a0_0) := (blk_cell BK124.out 0).trans rfl
                  have hcz24_1 : wc.cell? ⟨gb124, 1, none⟩ = some (.int .i64 a0_1) := (blk_cell BK124.out 1).trans rfl
                  have hfz24_0 := blk_frozen BK124.out 0
                  have hfz24_1 := blk_frozen BK124.out 1
                  go_wp2
                  go_meet
                  case rel => exact ⟨_, (decide (a0_1 > 2147483647)), (by first | rfl | (simp; done) | (simp [*]; done)), H', ⟨by have := HJ2.out; have := HJ12.out; first | omega | exact Nat.le_refl _⟩, ⟨by (with_reducible repeat (first | refine blk_drewN ?_ _ | refine blk_drew ?_ | refine blk_alloc ?_ _)); exact BK124.out⟩, ⟨by repeat (first | (with_reducible first | exact HB.out | apply below_alloc | apply pw_below_drewN | apply below_drew1 | refine below_set ?_ GE124.out) | exact HB.out)⟩⟩
                · rw [if_neg c23] at H
                  have c23b0 : (a0_0 == 4) = false := beq_eq_false_iff_ne.mpr c23
                  have c23b1 : (a0_0 != 4) = true := bne_iff_ne.mpr c23
                  (first | rw [c23b0] | (simp only [i64_w, i32_w]; rw [c23b0]) | skip)
                  have H' := Aside0.mk H
                  clear H
                  have hcz25_0 : wc.cell? ⟨gb124, 0, none⟩ = some (.int .i64 a0_0) := (blk_cell BK124.out 0).trans rfl
                  have hcz25_1 : wc.cell? ⟨gb124, 1, none⟩ = some (.int .i64 a0_1) := (blk_cell BK124.out 1).trans rfl
                  have hfz25_0 := blk_frozen BK124.out 0
                  have hfz25_1 := blk_frozen BK124.out 1
                  go_wp2
                  go_meet
                  case rel => exact ⟨_, (false), (by first | rfl | (simp; done) | (simp [*]; done)), H', ⟨by have := HJ2.out; have := HJ12.out; first | omega | exact Nat.le_refl _⟩, ⟨by (with_reducible repeat (first | refine blk_drewN ?_ _ | refine blk_drew ?_ | refine blk_alloc ?_ _)); exact BK124.out⟩, ⟨by repeat (first | (with_reducible first | exact HB.out | apply below_alloc | apply pw_below_drewN | apply below_drew1 | refine below_set ?_ GE124.out) | exact HB.out)⟩⟩
              case rest =>
                clear HC22
                try clear c1
                try clear c2
                try clear p2
                try clear c5
                try clear c5b0
                try clear c7
                try clear c7b0
                try clear c9
                try clear c9b0
                try clear c10
                try clear c12
                try clear c14
                try clear c14b0
                try clear c14b1
                try clear c15
                try clear c15b0
                try clear c17
                try clear c17b0
                try clear c17b1
                try clear c21
                try clear c23
                try clear c23b0
                try clear c23b1
                try clear hcz10_0
                try clear hcz10_1
                try clear hcz11_0
                try clear hcz11_1
                try clear hcz16_0
                try clear hcz16_1
                try clear hcz18_0
                try clear hcz18_1
                try clear hcz19_0
                try clear hcz19_1
                try clear hcz20_0
                try clear hcz20_1
                try clear hcz24_0
                try clear hcz24_1
                try clear hcz25_0
                try clear hcz25_1
                try clear hcz6_0
                try clear hcz6_1
                try clear hcz8_0
                try clear hcz8_1
                try clear hfz10_0
                try clear hfz10_1
                try clear hfz11_0
                try clear hfz11_1
                try clear hfz16_0
                try clear hfz16_1
                try clear hfz18_0
                try clear hfz18_1
                try clear hfz19_0
                try clear hfz19_1
                try clear hfz20_0
                try clear hfz20_1
                try clear hfz24_0
                try clear hfz24_1
                try clear hfz25_0
                try clear hfz25_1
                try clear hfz6_0
                try clear hfz6_1
                try clear hfz8_0
                try clear hfz8_1
                try clear p2
                obtain ⟨kq, x47_21, rfl, HA, HJ21, BK124, HB⟩ := hcut
                cases kq with
                | zero => exact absurd HA.out (by simp [heraldref08_Valid.j2])
                | succ kj21 =>
                  have H := HA.out
                  clear HA
                  simp only [heraldref08_Valid.j2] at H
                  by_cases c26 : x47_21 = true
                  · subst c26
                    have H1 : (some 3) = some r := by rw [if_pos rfl] at H; exact H
                    clear H
                    have H := H1
                    clear H1
                    obtain rfl := Option.some.inj H
                    go_wp2
                    go_ret
                    exact ⟨by first | rfl | (simp [errW_none, errW_some] <;> rfl) | (simp [*, errW_none, errW_some] <;> rfl), by repeat (first | (with_reducible first | exact HB.out | apply below_alloc | apply pw_below_drewN | apply below_drew1 | refine below_set ?_ GE124.out) | exact HB.out)⟩
                  · replace c26 := Bool.eq_false_iff.mpr c26
                    subst c26
                    have H1 : (if a0_0 = 5 then (if a0_1 < 16384 then (some 1) else (if a0_1 > 16777215 then (some 1) else (some 0))) else (some 0)) = some r := by rw [if_neg (show ¬ (false = true) by decide)] at H; exact H
                    clear H
                    have H := H1
                    clear H1
                    by_cases c27 : a0_0 = 5
                    · rw [if_pos c27] at H
                      have c27b0 : (a0_0 == 5) = true := beq_iff_eq.mpr c27
                      have c27b1 : (a0_0 != 5) = false := bne_eq_false_iff_eq.mpr c27
                      clear c27
                      by_cases c28 : a0_1 < 16384
                      · rw [if_pos c28] at H
                        have c28b0 : decide (a0_1 < 16384) = true := decide_eq_true c28
                        clear c28
                        obtain rfl := Option.some.inj H
                        have hcz29_0 : wc.cell? ⟨gb124, 0, none⟩ = some (.int .i64 a0_0) := (blk_cell BK124.out 0).trans rfl
                        have hcz29_1 : wc.cell? ⟨gb124, 1, none⟩ = some (.int .i64 a0_1) := (blk_cell BK124.out 1).trans rfl
                        have hfz29_0 := blk_frozen BK124.out 0
                        have hfz29_1 := blk_frozen BK124.out 1
                        go_wp2
                        go_ret
                        exact ⟨by first | rfl | (simp [errW_none, errW_some] <;> rfl) | (simp [*, errW_none, errW_some] <;> rfl), by repeat (first | (with_reducible first | exact HB.out | apply below_alloc | apply pw_below_drewN | apply below_drew1 | refine below_set ?_ GE124.out) | exact HB.out)⟩
                      · rw [if_neg c28] at H
                        have c28b0 : decide (a0_1 < 16384) = false := decide_eq_false c28
                        clear c28
                        by_cases c30 : a0_1 > 16777215
                        · rw [if_pos c30] at H
                          have c30b0 : decide (16777215 < a0_1) = true := decide_eq_true c30
                          clear c30
                          obtain rfl := Option.some.inj H
                          have hcz31_0 : wc.cell? ⟨gb124, 0, none⟩ = some (.int .i64 a0_0) := (blk_cell BK124.out 0).trans rfl
                          have hcz31_1 : wc.cell? ⟨gb124, 1, none⟩ = some (.int .i64 a0_1) := (blk_cell BK124.out 1).trans rfl
                          have hfz31_0 := blk_frozen BK124.out 0
                          have hfz31_1 := blk_frozen BK124.out 1
                          go_wp2
                          go_ret
                          exact ⟨by first | rfl | (simp [errW_none, errW_some] <;> rfl) | (simp [*, errW_none, errW_some] <;> rfl), by repeat (first | (with_reducible first | exact HB.out | apply below_alloc | apply pw_below_drewN | apply below_drew1 | refine below_set ?_ GE124.out) | exact HB.out)⟩
                        · rw [if_neg c30] at H
                          have c30b0 : decide (16777215 < a0_1) = false := decide_eq_false c30
                          clear c30
                          obtain rfl := Option.some.inj H
                          have hcz32_0 : wc.cell? ⟨gb124, 0, none⟩ = some (.int .i64 a0_0) := (blk_cell BK124.out 0).trans rfl
                          have hcz32_1 : wc.cell? ⟨gb124, 1, none⟩ = some (.int .i64 a0_1) := (blk_cell BK124.out 1).trans rfl
                          have hfz32_0 := blk_frozen BK124.out 0
                          have hfz32_1 := blk_frozen BK124.out 1
                          go_wp2
                          go_ret
                          exact ⟨by first | rfl | (simp [errW_none, errW_some] <;> rfl) | (simp [*, errW_none, errW_some] <;> rfl), by repeat (first | (with_reducible first | exact HB.out | apply below_alloc | apply pw_below_drewN | apply below_drew1 | refine below_set ?_ GE124.out) | exact HB.out)⟩
                    · rw [if_neg c27] at H
                      have c27b0 : (a0_0 == 5) = false := beq_eq_false_iff_ne.mpr c27
                      have c27b1 : (a0_0 != 5) = true := bne_iff_ne.mpr c27
                      obtain rfl := Option.some.inj H
                      have hcz33_0 : wc.cell? ⟨gb124, 0, none⟩ = some (.int .i64 a0_0) := (blk_cell BK124.out 0).trans rfl
                      have hcz33_1 : wc.cell? ⟨gb124, 1, none⟩ = some (.int .i64 a0_1) := (blk_cell BK124.out 1).trans rfl
                      have hfz33_0 := blk_frozen BK124.out 0
                      have hfz33_1 := blk_frozen BK124.out 1
                      go_wp2
                      go_ret
                      exact ⟨by first | rfl | (simp [errW_none, errW_some] <;> rfl) | (simp [*, errW_none, errW_some] <;> rfl), by repeat (first | (with_reducible first | exact HB.out | apply below_alloc | apply pw_below_drewN | apply below_drew1 | refine below_set ?_ GE124.out) | exact HB.out)⟩

end Go.Proofs.YtcjphkgmcfpfeaaDoor.QL
