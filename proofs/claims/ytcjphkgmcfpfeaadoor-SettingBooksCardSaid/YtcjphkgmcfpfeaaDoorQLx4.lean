/- Written by a program of this session (a changed run of the kit's printer): what the Go functions of one call tree answer, as plain functions, and that the machine's calls answer so; no condition but those in each statement. -/
import Derived.Test.YtcjphkgmcfpfeaaDoorQLx0
import Derived.Test.YtcjphkgmcfpfeaaDoorQLx2
namespace Go.Proofs.YtcjphkgmcfpfeaaDoor.QL
open Go.RowKit Go.Proofs.YtcjphkgmcfpfeaaDoorW.PrintWords Go.Proofs.YtcjphkgmcfpfeaaDoorW.PrintLast Go.Proofs.YtcjphkgmcfpfeaaDoorW.PrintMore
attribute [local go_sem] max2_int min2_int max_two min_two max_three min_three max_four min_four   -- for this text's walks alone
set_option linter.unusedVariables false
set_option linter.unusedSimpArgs false

/-! ### setting_Tables: function 13 -/
def setting_Tables.l0 : Nat → List Int → List (S28) → Int → Int → Option (List Int)
  | 0, _, _, _, _ => none
  | k + 1, x3, x6, x7, x8 => if x8 < x7 then (if 0 ≤ x8 then (if x8 < (x6.length : Int) then (if ((rd_T28 x6 x8).f0) = 1 then (if x3.length < 17592186044416 then (setting_Tables.l0 k (x3 ++ [mn ((rd_T28 x6 x8).f1) 2147483647]) x6 x7 (wrap64 (x8 + 1))) else (none)) else (setting_Tables.l0 k x3 x6 x7 (wrap64 (x8 + 1)))) else (none)) else (none)) else (some x3)
def setting_Tables.f (k : Nat) (l0 : List (S28)) : Option (List Int) := setting_Tables.l0 k ([] : List Int) l0 (l0.length : Int) 0
theorem setting_Tables.mono_l : ∀ k, (∀ y0 y1 y2 y3, LeO (setting_Tables.l0 k y0 y1 y2 y3) (setting_Tables.l0 (k + 1) y0 y1 y2 y3))
  | 0 => fun _ _ _ _ r h => by simp [setting_Tables.l0] at h
  | k + 1 => by
    have ih0 := setting_Tables.mono_l k
    · intro y0 y1 y2 y3
      unfold setting_Tables.l0
      repeat' first
      | (with_reducible exact ih0 _ _ _ _)
      | (with_reducible exact LeO.refl _)
      | (with_reducible exact LeO.none _)
      | (with_reducible refine LeO.ite ?_ ?_)
      | (with_reducible refine LeO.bind ?_ (fun _ => ?_))
      | exact ih0 _ _ _ _
      | exact LeO.none _
      | refine LeO.ite ?_ ?_
      | refine LeO.bind ?_ (fun _ => ?_)
theorem setting_Tables.mono : ∀ a0 k, LeO (setting_Tables.f k a0) (setting_Tables.f (k + 1) a0) := by
  intro a0 k
  have ih0 := setting_Tables.mono_l k
  unfold setting_Tables.f
  repeat' first
      | (with_reducible exact ih0 _ _ _ _)
      | (with_reducible exact LeO.refl _)
      | (with_reducible exact LeO.none _)
      | (with_reducible refine LeO.ite ?_ ?_)
      | (with_reducible refine LeO.bind ?_ (fun _ => ?_))
      | exact ih0 _ _ _ _
      | exact LeO.none _
      | refine LeO.ite ?_ ?_
      | refine LeO.bind ?_ (fun _ => ?_)
set_option maxHeartbeats 8000000 in
set_option maxRecDepth 100000 in
theorem setting_Tables.calls (k : Nat) (A0 : Option Addr) (c0 : Nat) (l0 : List (S28)) (r : List Int) (w : World) (hr0 : Kd.C k28 w A0 l0.length l0) (hc0 : l0.length ≤ c0) (h : setting_Tables.f k l0 = some r) :
    Calls Tryd.prog 13 #[.slice A0 l0.length c0] w fun e w' => ∃ v0_ : Value, e = .returned (v0_) ∧ Kd.R (Kd.int .i64) 2 w' w.heap.size (fun _ => True) v0_ r ∧ Below w.heap.size w w' := by
  have hu28 := Tryd.underlying28
  have HR0 := Aside0.mk hr0
  have HC0 := Aside0.mk hc0
  clear hr0 hc0
  have HB := Aside0.mk (Below.refl w.heap.size w)
  have H : (setting_Tables.l0 k ([] : List Int) l0 (l0.length : Int) 0) = some r := h
  clear h
  have H' := Aside0.mk H
  clear H
  go_enter Tryd.func13, Tryd.ntmps13
  go_wp2
  go_loopg [3, 8] k (fun kq v3 v8 w' => ∃ (x3_1 : List Int) (x8_1 : Int), v8 = .int .i64 x8_1 ∧ Aside0 (setting_Tables.l0 kq x3_1 l0 (l0.length : Int) x8_1 = some r) ∧ Aside0 (kq ≤ k) ∧ Aside0 (Kd.R (Kd.int .i64) 2 w' w.heap.size (fun _ => True) v3 x3_1) ∧ Aside0 (Below w.heap.size w w'))
  case atStart => exact ⟨(([] : List Int)), (0), (by first | rfl | (simp; done) | (simp [*]; done)), H', ⟨Nat.le_refl _⟩, ⟨by first | exact Kd.R_nil _ _ _ _ _ | exact Kd.N_nil _ _ _ _ _ | exact Kd.V_nil _ _ _ _ _ | exact Kd.Q_nil _ _ _ _ _ | exact Kd.S_nil _ _ _ _ _⟩, ⟨by repeat (first | (with_reducible first | exact HB.out | apply below_alloc | apply pw_below_drewN | apply below_drew1) | exact HB.out)⟩⟩
  case round =>
    clear H'
    try clear c1
    obtain ⟨x3_1, x8_1, rfl, HA, HK1, HO_3, HB⟩ := hrel
    cases gk with
    | zero => exact absurd HA.out (by simp [setting_Tables.l0])
    | succ k1 =>
      have H := HA.out
      clear HA
      simp only [setting_Tables.l0] at H
      by_cases c2 : x8_1 < (l0.length : Int)
      · rw [if_pos c2] at H
        have c2b0 : decide (x8_1 < (l0.length : Int)) = true := decide_eq_true c2
        clear c2
        by_cases c3 : 0 ≤ x8_1
        · rw [if_pos c3] at H
          have c3b0 : decide (0 ≤ x8_1) = true := decide_eq_true c3
          clear c3
          by_cases c4 : x8_1 < (l0.length : Int)
          · rw [if_pos c4] at H
            have c4b0 : decide (x8_1 < (l0.length : Int)) = true := decide_eq_true c4
            clear c4
            by_cases c5 : ((rd_T28 l0 x8_1).f0) = 1
            · rw [if_pos c5] at H
              have c5b0 : (((rd_T28 l0 x8_1).f0) == 1) = true := beq_iff_eq.mpr c5
              have c5b1 : (((rd_T28 l0 x8_1).f0) != 1) = false := bne_eq_false_iff_eq.mpr c5
              clear c5
              obtain ⟨ji6, hji6⟩ : ∃ j_ : Int, (mn ((rd_T28 l0 x8_1).f1) 2147483647) = j_ := ⟨_, rfl⟩
              replace H : (if x3_1.length < 17592186044416 then (setting_Tables.l0 k1 (x3_1 ++ [ji6]) l0 (l0.length : Int) (wrap64 (x8_1 + 1))) else (none)) = some r := by first | (rw [hji6] at H; exact H) | (simp only [hji6] at H ⊢; exact H)
              have hji6_ : (if 2147483647 < ((rd_T28 l0 x8_1).f1) then 2147483647 else ((rd_T28 l0 x8_1).f1)) = ji6 := hji6
              by_cases c7 : x3_1.length < 17592186044416
              · rw [if_pos c7] at H
                have LMc7 := Aside0.mk c7
                clear c7
                obtain ⟨y114, hy114⟩ : ∃ y_ : List Int, y_ = (x3_1 ++ [ji6]) := ⟨_, rfl⟩
                replace H : (setting_Tables.l0 k1 y114 l0 (l0.length : Int) (wrap64 (x8_1 + 1))) = some r := by first | (rw [hy114]; with_reducible exact H) | (have H2_ := (Option.bind_some _ _).symm.trans H; rw [hy114]; with_reducible exact H2_) | (have H2_ := (Option.bind_some _ _).symm.trans H; with_reducible exact H2_) | with_reducible exact H | (rw [hy114]; exact H) | exact H
                have Ny114 := Aside0.mk hy114
                clear hy114
                have H' := Aside0.mk H
                clear H
                have p112 : 0 ≤ (x8_1 : Int) := of_decide_eq_true (by first | (with_reducible assumption) | assumption)
                have q112 : x8_1 < (l0.length : Int) := of_decide_eq_true (by first | (with_reducible assumption) | assumption)
                obtain ⟨ad112, e112, hx112_0, hx112_1⟩ := at_T28 HR0.out x8_1 p112 q112
                cases e112
                replace hx112_0 := (HB.out.cell (World.block_lt_of_cell? w _ hx112_0)).trans hx112_0
                replace hx112_1 := (HB.out.cell (World.block_lt_of_cell? w _ hx112_1)).trans hx112_1
                replace p112 := eq_true p112
                replace q112 := eq_true q112
                go_wp2_with (first | ((with_reducible refine gate_dst (N := 5) rfl ?_); refine box_event ?hg (N := 5) ?hd (cs := #[.int .i64 0, .int .i64 0]) (t := 28) ?hr ?_; (case hd => rfl); (case hg => rfl); (case hr => first | (go_simp; done) | (go_simp; rfl)); intro gb113 hg w8 hbox hb; have n0_ := Aside0.mk (Kd.R_below (by (with_reducible repeat (first | apply Kd.R_alloc | apply Kd.R_drewN | apply Kd.R_drew)); exact HO_3.out) hb); have n1_ := Aside0.mk (below_step (by repeat (first | (with_reducible first | exact HB.out | apply below_alloc | apply pw_below_drewN | apply below_drew1) | exact HB.out)) hb); have n2_ := Aside0.mk (hbox); have n3_ := Aside0.mk ((by rw [hg]; exact (below_size (by repeat (first | (with_reducible first | exact HB.out | apply below_alloc | apply pw_below_drewN | apply below_drew1) | exact HB.out))) : w.heap.size ≤ gb113)); have n4_ := Aside0.mk ((by rw [hg]; exact (below_size (by repeat (first | (with_reducible first | exact HB.out | apply below_alloc | apply pw_below_drewN | apply below_drew1) | exact HB.out))) : w.heap.size ≤ gb113)); clear HO_3; clear HB; have HO_3 := n0_; have HB := n1_; have BK113 := n2_; have GW113 := n3_; have GE113 := n4_; clear n0_ n1_ n2_ n3_ n4_; clear hb hbox hg; have hcz9_0 : w8.cell? ⟨gb113, 0, none⟩ = some (.int .i64 0) := (blk_cell BK113.out 0).trans rfl; have hcz9_1 : w8.cell? ⟨gb113, 1, none⟩ = some (.int .i64 0) := (blk_cell BK113.out 1).trans rfl; have hfz9_0 := blk_frozen BK113.out 0; have hfz9_1 := blk_frozen BK113.out 1) | ((with_reducible refine gate_builtin (b := .append) (xs := #[.tmp 15, .tmp 19]) rfl ?_); at_builtin; refine Kd.R_append (Kd.int .i64) (w0 := w) w.heap.size rfl (.tmp 15) (.tmp 19) 31 2 (.int .i64 0) 8 rfl Tryd.underlying31 info2 rfl (by decide) (by omega) u3 x3_1 ji6 [.int .i64 ji6] (fun _ => True) (fun _ => False) rfl (by first | (go_simp; done) | (go_simp; rfl)) ?aP (fun _ hk => hk.elim) ?aF ?aO ?aB ?aS ?aL ?_; (case aP => exact rfl); (case aB => exact (by repeat (first | (with_reducible first | exact HB.out | apply below_alloc | apply pw_below_drewN | apply below_drew1 | refine below_set ?_ GE113.out) | exact HB.out))); (case aF => exact (fun _ _ => trivial)); (case aO => exact (by (with_reducible repeat (first | apply Kd.R_alloc | apply Kd.R_drewN | apply Kd.R_drew)); exact Kd.R_mono (Kd.R_far (p := ⟨gb113, 1, none⟩) (Kd.R_far (p := ⟨gb113, 0, none⟩) (Kd.R_types HO_3.out BK113.out (by decide)) (fun _ hk => hk.2) (.int .i64 ((rd_T28 l0 x8_1).f0))) (fun _ hk => hk.2) (.int .i64 ((rd_T28 l0 x8_1).f1))) (fun _ hk => trivial))); (case aS => exact (below_size (by repeat (first | (with_reducible first | exact HB.out | apply below_alloc | apply pw_below_drewN | apply below_drew1 | refine below_set ?_ GE113.out) | exact HB.out)))); (case aL => have := LMc7.out; omega); intro v115 w10 ho hb hg hat; rw [← Ny114.out] at ho; have n0_ := Aside0.mk (blk_grown (g := gb113) (o := .cells #[.int .i64 ((rd_T28 l0 x8_1).f0), .int .i64 ((rd_T28 l0 x8_1).f1)] 28 (0, 0)) (by (with_reducible repeat (first | refine blk_drewN ?_ _ | refine blk_drew ?_ | refine blk_alloc ?_ _)); refine blk_put (cs := #[.int .i64 ((rd_T28 l0 x8_1).f0), .int .i64 0]) ?_ 1 _ rfl; (with_reducible repeat (first | refine blk_drewN ?_ _ | refine blk_drew ?_ | refine blk_alloc ?_ _)); refine blk_put (cs := #[.int .i64 0, .int .i64 0]) ?_ 0 _ rfl; (with_reducible repeat (first | refine blk_drewN ?_ _ | refine blk_drew ?_ | refine blk_alloc ?_ _)); exact BK113.out) hg (Kd.R_ne HO_3.out BK113.out (by decide))); have n1_ := Aside0.mk (hb); have n2_ := Aside0.mk (ho); clear BK113; clear HB; clear HO_3; have BK113 := n0_; have HB := n1_; have HO116 := n2_; clear n0_ n1_ n2_; clear ho hb hg hat))
                go_roundg k1
                case measure => have := HK1.out; omega
                case rel => exact ⟨(y114), (wrap64 (x8_1 + 1)), (by first | rfl | (simp; done) | (simp [*]; done)), H', ⟨by have := HK1.out; omega⟩, ⟨by (with_reducible repeat (first | apply Kd.R_alloc | apply Kd.R_drewN | apply Kd.R_drew)); exact HO116.out⟩, ⟨by repeat (first | (with_reducible first | exact HB.out | apply below_alloc | apply pw_below_drewN | apply below_drew1 | refine below_set ?_ GE113.out) | exact HB.out)⟩⟩
              · rw [if_neg c7] at H
                exact absurd H (by simp)
            · rw [if_neg c5] at H
              have c5b0 : (((rd_T28 l0 x8_1).f0) == 1) = false := beq_eq_false_iff_ne.mpr c5
              have c5b1 : (((rd_T28 l0 x8_1).f0) != 1) = true := bne_iff_ne.mpr c5
              have H' := Aside0.mk H
              clear H
              have p112 : 0 ≤ (x8_1 : Int) := of_decide_eq_true (by first | (with_reducible assumption) | assumption)
              have q112 : x8_1 < (l0.length : Int) := of_decide_eq_true (by first | (with_reducible assumption) | assumption)
              obtain ⟨ad112, e112, hx112_0, hx112_1⟩ := at_T28 HR0.out x8_1 p112 q112
              cases e112
              replace hx112_0 := (HB.out.cell (World.block_lt_of_cell? w _ hx112_0)).trans hx112_0
              replace hx112_1 := (HB.out.cell (World.block_lt_of_cell? w _ hx112_1)).trans hx112_1
              replace p112 := eq_true p112
              replace q112 := eq_true q112
              go_wp2_with (first | ((with_reducible refine gate_dst (N := 5) rfl ?_); refine box_event ?hg (N := 5) ?hd (cs := #[.int .i64 0, .int .i64 0]) (t := 28) ?hr ?_; (case hd => rfl); (case hg => rfl); (case hr => first | (go_simp; done) | (go_simp; rfl)); intro gb113 hg w11 hbox hb; have n0_ := Aside0.mk (Kd.R_below (by (with_reducible repeat (first | apply Kd.R_alloc | apply Kd.R_drewN | apply Kd.R_drew)); exact HO_3.out) hb); have n1_ := Aside0.mk (below_step (by repeat (first | (with_reducible first | exact HB.out | apply below_alloc | apply pw_below_drewN | apply below_drew1) | exact HB.out)) hb); have n2_ := Aside0.mk (hbox); have n3_ := Aside0.mk ((by rw [hg]; exact (below_size (by repeat (first | (with_reducible first | exact HB.out | apply below_alloc | apply pw_below_drewN | apply below_drew1) | exact HB.out))) : w.heap.size ≤ gb113)); have n4_ := Aside0.mk ((by rw [hg]; exact (below_size (by repeat (first | (with_reducible first | exact HB.out | apply below_alloc | apply pw_below_drewN | apply below_drew1) | exact HB.out))) : w.heap.size ≤ gb113)); clear HO_3; clear HB; have HO_3 := n0_; have HB := n1_; have BK113 := n2_; have GW113 := n3_; have GE113 := n4_; clear n0_ n1_ n2_ n3_ n4_; clear hb hbox hg; have hcz12_0 : w11.cell? ⟨gb113, 0, none⟩ = some (.int .i64 0) := (blk_cell BK113.out 0).trans rfl; have hcz12_1 : w11.cell? ⟨gb113, 1, none⟩ = some (.int .i64 0) := (blk_cell BK113.out 1).trans rfl; have hfz12_0 := blk_frozen BK113.out 0; have hfz12_1 := blk_frozen BK113.out 1))
              go_roundg k1
              case measure => have := HK1.out; omega
              case rel => exact ⟨(x3_1), (wrap64 (x8_1 + 1)), (by first | rfl | (simp; done) | (simp [*]; done)), H', ⟨by have := HK1.out; omega⟩, ⟨by (with_reducible repeat (first | apply Kd.R_alloc | apply Kd.R_drewN | apply Kd.R_drew)); exact Kd.R_mono (Kd.R_far (p := ⟨gb113, 1, none⟩) (Kd.R_far (p := ⟨gb113, 0, none⟩) (Kd.R_types HO_3.out BK113.out (by decide)) (fun _ hk => hk.2) (.int .i64 ((rd_T28 l0 x8_1).f0))) (fun _ hk => hk.2) (.int .i64 ((rd_T28 l0 x8_1).f1))) (fun _ hk => trivial)⟩, ⟨by repeat (first | (with_reducible first | exact HB.out | apply below_alloc | apply pw_below_drewN | apply below_drew1 | refine below_set ?_ GE113.out) | exact HB.out)⟩⟩
          · rw [if_neg c4] at H
            exact absurd H (by simp)
        · rw [if_neg c3] at H
          exact absurd H (by simp)
      · rw [if_neg c2] at H
        have c2b0 : decide (x8_1 < (l0.length : Int)) = false := decide_eq_false c2
        clear c2
        obtain rfl := Option.some.inj H
        go_wp2
        go_ret
        exact ⟨_, by first | rfl | (simp [errW_none, errW_some] <;> rfl) | (simp [*, errW_none, errW_some] <;> rfl), by (with_reducible repeat (first | apply Kd.R_alloc | apply Kd.R_drewN | apply Kd.R_drew)); exact HO_3.out, by repeat (first | (with_reducible first | exact HB.out | apply below_alloc | apply pw_below_drewN | apply below_drew1) | exact HB.out)⟩

/-! ### setting_Fits: function 21 -/
def setting_Fits.f (a0_0 : Int) (a0_1 : Int) (a0_2 : Int) (a0_3 : Int) (a0_4 : Int) (a0_5 : Int) : Option (Bool) := (setting_within.f a0_0 0 65536).bind fun t118 => (if t118 = true then ((setting_within.f a0_1 0 1).bind fun t119 => (if t119 = true then ((setting_within.f a0_2 0 2147483647).bind fun t120 => (if t120 = true then ((setting_within.f a0_3 0 2147483647).bind fun t121 => (if t121 = true then ((setting_within.f a0_4 16384 65536).bind fun t122 => (if t122 = true then ((setting_within.f a0_5 1024 2147483647).bind fun t123 => (some t123)) else (some false))) else (some false))) else (some false))) else (some false))) else (some false))
set_option maxHeartbeats 8000000 in
set_option maxRecDepth 100000 in
theorem setting_Fits.calls (a0_0 : Int) (a0_1 : Int) (a0_2 : Int) (a0_3 : Int) (a0_4 : Int) (a0_5 : Int) (r : Bool) (w : World) (h : setting_Fits.f a0_0 a0_1 a0_2 a0_3 a0_4 a0_5 = some r) :
    Calls Tryd.prog 21 #[.agg #[.int .i64 a0_0, .int .i64 a0_1, .int .i64 a0_2, .int .i64 a0_3, .int .i64 a0_4, .int .i64 a0_5]] w fun e w' => e = .returned (.bool r) ∧ Below w.heap.size w w' := by
  have hu23 := Tryd.underlying23
  have HB := Aside0.mk (Below.refl w.heap.size w)
  have H : ((setting_within.f a0_0 0 65536).bind fun t118 => (if t118 = true then ((setting_within.f a0_1 0 1).bind fun t119 => (if t119 = true then ((setting_within.f a0_2 0 2147483647).bind fun t120 => (if t120 = true then ((setting_within.f a0_3 0 2147483647).bind fun t121 => (if t121 = true then ((setting_within.f a0_4 16384 65536).bind fun t122 => (if t122 = true then ((setting_within.f a0_5 1024 2147483647).bind fun t123 => (some t123)) else (some false))) else (some false))) else (some false))) else (some false))) else (some false))) = some r := h
  clear h
  replace H := Option.bind_eq_some_iff.mp H
  obtain ⟨t118, A20, H⟩ := H
  replace H : (if t118 = true then ((setting_within.f a0_1 0 1).bind fun t119 => (if t119 = true then ((setting_within.f a0_2 0 2147483647).bind fun t120 => (if t120 = true then ((setting_within.f a0_3 0 2147483647).bind fun t121 => (if t121 = true then ((setting_within.f a0_4 16384 65536).bind fun t122 => (if t122 = true then ((setting_within.f a0_5 1024 2147483647).bind fun t123 => (some t123)) else (some false))) else (some false))) else (some false))) else (some false))) else (some false)) = some r := H
  have A2 := Aside0.mk A20
  clear A20
  by_cases c3 : t118 = true
  · subst c3
    have H1 : ((setting_within.f a0_1 0 1).bind fun t119 => (if t119 = true then ((setting_within.f a0_2 0 2147483647).bind fun t120 => (if t120 = true then ((setting_within.f a0_3 0 2147483647).bind fun t121 => (if t121 = true then ((setting_within.f a0_4 16384 65536).bind fun t122 => (if t122 = true then ((setting_within.f a0_5 1024 2147483647).bind fun t123 => (some t123)) else (some false))) else (some false))) else (some false))) else (some false))) = some r := by rw [if_pos rfl] at H; exact H
    clear H
    have H := H1
    clear H1
    replace H := Option.bind_eq_some_iff.mp H
    obtain ⟨t119, A40, H⟩ := H
    replace H : (if t119 = true then ((setting_within.f a0_2 0 2147483647).bind fun t120 => (if t120 = true then ((setting_within.f a0_3 0 2147483647).bind fun t121 => (if t121 = true then ((setting_within.f a0_4 16384 65536).bind fun t122 => (if t122 = true then ((setting_within.f a0_5 1024 2147483647).bind fun t123 => (some t123)) else (some false))) else (some false))) else (some false))) else (some false)) = some r := H
    have A4 := Aside0.mk A40
    clear A40
    by_cases c5 : t119 = true
    · subst c5
      have H1 : ((setting_within.f a0_2 0 2147483647).bind fun t120 => (if t120 = true then ((setting_within.f a0_3 0 2147483647).bind fun t121 => (if t121 = true then ((setting_within.f a0_4 16384 65536).bind fun t122 => (if t122 = true then ((setting_within.f a0_5 1024 2147483647).bind fun t123 => (some t123)) else (some false))) else (some false))) else (some false))) = some r := by rw [if_pos rfl] at H; exact H
      clear H
      have H := H1
      clear H1
      replace H := Option.bind_eq_some_iff.mp H
      obtain ⟨t120, A60, H⟩ := H
      replace H : (if t120 = true then ((setting_within.f a0_3 0 2147483647).bind fun t121 => (if t121 = true then ((setting_within.f a0_4 16384 65536).bind fun t122 => (if t122 = true then ((setting_within.f a0_5 1024 2147483647).bind fun t123 => (some t123)) else (some false))) else (some false))) else (some false)) = some r := H
      have A6 := Aside0.mk A60
      clear A60
      by_cases c7 : t120 = true
      · subst c7
        have H1 : ((setting_within.f a0_3 0 2147483647).bind fun t121 => (if t121 = true then ((setting_within.f a0_4 16384 65536).bind fun t122 => (if t122 = true then ((setting_within.f a0_5 1024 2147483647).bind fun t123 => (some t123)) else (some false))) else (some false))) = some r := by rw [if_pos rfl] at H; exact H
        clear H
        have H := H1
        clear H1
        replace H := Option.bind_eq_some_iff.mp H
        obtain ⟨t121, A80, H⟩ := H
        replace H : (if t121 = true then ((setting_within.f a0_4 16384 65536).bind fun t122 => (if t122 = true then ((setting_within.f a0_5 1024 2147483647).bind fun t123 => (some t123)) else (some false))) else (some false)) = some r := H
        have A8 := Aside0.mk A80
        clear A80
        by_cases c9 : t121 = true
        · subst c9
          have H1 : ((setting_within.f a0_4 16384 65536).bind fun t122 => (if t122 = true then ((setting_within.f a0_5 1024 2147483647).bind fun t123 => (some t123)) else (some false))) = some r := by rw [if_pos rfl] at H; exact H
          clear H
          have H := H1
          clear H1
          replace H := Option.bind_eq_some_iff.mp H
          obtain ⟨t122, A100, H⟩ := H
          replace H : (if t122 = true then ((setting_within.f a0_5 1024 2147483647).bind fun t123 => (some t123)) else (some false)) = some r := H
          have A10 := Aside0.mk A100
          clear A100
          by_cases c11 : t122 = true
          · subst c11
            have H1 : ((setting_within.f a0_5 1024 2147483647).bind fun t123 => (some t123)) = some r := by rw [if_pos rfl] at H; exact H
            clear H
            have H := H1
            clear H1
            replace H := Option.bind_eq_some_iff.mp H
            obtain ⟨t123, A120, H⟩ := H
            replace H : (some t123) = some r := H
            have A12 := Aside0.mk A120
            clear A120
            obtain rfl := Option.some.inj H
            go_enter Tryd.func21, Tryd.ntmps21
            go_wp2_with (first | ((with_reducible refine gate_dst (N := 1) rfl ?_); refine box_event ?hg (N := 1) ?hd (cs := #[.int .i64 a0_0, .int .i64 a0_1, .int .i64 a0_2, .int .i64 a0_3, .int .i64 a0_4, .int .i64 a0_5]) (t := 23) ?hr ?_; (case hd => rfl); (case hg => rfl); (case hr => first | (go_simp; done) | (go_simp; rfl)); intro gb117 hg w13 hbox hb; have n0_ := Aside0.mk (below_step (by repeat (first | (with_reducible first | exact HB.out | apply below_alloc | apply pw_below_drewN | apply below_drew1) | exact HB.out)) hb); have n1_ := Aside0.mk (hbox); have n2_ := Aside0.mk ((by rw [hg]; exact (below_size (by repeat (first | (with_reducible first | exact HB.out | apply below_alloc | apply pw_below_drewN | apply below_drew1) | exact HB.out))) : w.heap.size ≤ gb117)); have n3_ := Aside0.mk ((by rw [hg]; exact (below_size (by repeat (first | (with_reducible first | exact HB.out | apply below_alloc | apply pw_below_drewN | apply below_drew1) | exact HB.out))) : w.heap.size ≤ gb117)); clear HB; have HB := n0_; have BK117 := n1_; have GW117 := n2_; have GE117 := n3_; clear n0_ n1_ n2_ n3_; clear hb hbox hg; have hcz14_0 : w13.cell? ⟨gb117, 0, none⟩ = some (.int .i64 a0_0) := (blk_cell BK117.out 0).trans rfl; have hcz14_1 : w13.cell? ⟨gb117, 1, none⟩ = some (.int .i64 a0_1) := (blk_cell BK117.out 1).trans rfl; have hcz14_2 : w13.cell? ⟨gb117, 2, none⟩ = some (.int .i64 a0_2) := (blk_cell BK117.out 2).trans rfl; have hcz14_3 : w13.cell? ⟨gb117, 3, none⟩ = some (.int .i64 a0_3) := (blk_cell BK117.out 3).trans rfl; have hcz14_4 : w13.cell? ⟨gb117, 4, none⟩ = some (.int .i64 a0_4) := (blk_cell BK117.out 4).trans rfl; have hcz14_5 : w13.cell? ⟨gb117, 5, none⟩ = some (.int .i64 a0_5) := (blk_cell BK117.out 5).trans rfl; have hfz14_0 := blk_frozen BK117.out 0; have hfz14_1 := blk_frozen BK117.out 1; have hfz14_2 := blk_frozen BK117.out 2; have hfz14_3 := blk_frozen BK117.out 3; have hfz14_4 := blk_frozen BK117.out 4; have hfz14_5 := blk_frozen BK117.out 5) | ((with_reducible refine gate_callee (f := 35) rfl ?_); refine goesL_ (some 5) rfl rfl Tryd.func35 (by kernel_rfl) rfl #[.int .i64 a0_0, .int .i64 0, .int .i64 65536] rfl (by (try simp only [List.map_toArray, List.map_cons, List.map_nil]); first | done | rfl | (simp only [List.length_drop, List.length_take]; rfl)) ?_; (with_reducible refine (setting_within.calls a0_0 0 65536 true _ A2.out).mono ?_); rintro e w' ⟨rfl, ⟨nd, rfl⟩⟩; refine ⟨_, rfl, ?_⟩) | (go_at_call 35; (with_reducible refine (setting_within.calls a0_1 0 1 true _ A4.out).mono ?_); rintro e w' ⟨rfl, ⟨nd, rfl⟩⟩) | (go_at_call 35; (with_reducible refine (setting_within.calls a0_2 0 2147483647 true _ A6.out).mono ?_); rintro e w' ⟨rfl, ⟨nd, rfl⟩⟩) | (go_at_call 35; (with_reducible refine (setting_within.calls a0_3 0 2147483647 true _ A8.out).mono ?_); rintro e w' ⟨rfl, ⟨nd, rfl⟩⟩) | (go_at_call 35; (with_reducible refine (setting_within.calls a0_4 16384 65536 true _ A10.out).mono ?_); rintro e w' ⟨rfl, ⟨nd, rfl⟩⟩) | (go_at_call 35; (with_reducible refine (setting_within.calls a0_5 1024 2147483647 t123 _ A12.out).mono ?_); rintro e w' ⟨rfl, ⟨nd, rfl⟩⟩))
            go_ret
            exact ⟨by first | rfl | (simp [errW_none, errW_some] <;> rfl) | (simp [*, errW_none, errW_some] <;> rfl), by repeat (first | (with_reducible first | exact HB.out | apply below_alloc | apply pw_below_drewN | apply below_drew1 | refine below_set ?_ GE117.out) | exact HB.out)⟩
          · replace c11 := Bool.eq_false_iff.mpr c11
            subst c11
            have H1 : (some false) = some r := by rw [if_neg (show ¬ (false = true) by decide)] at H; exact H
            clear H
            have H := H1
            clear H1
            obtain rfl := Option.some.inj H
            go_enter Tryd.func21, Tryd.ntmps21
            go_wp2_with (first | ((with_reducible refine gate_dst (N := 1) rfl ?_); refine box_event ?hg (N := 1) ?hd (cs := #[.int .i64 a0_0, .int .i64 a0_1, .int .i64 a0_2, .int .i64 a0_3, .int .i64 a0_4, .int .i64 a0_5]) (t := 23) ?hr ?_; (case hd => rfl); (case hg => rfl); (case hr => first | (go_simp; done) | (go_simp; rfl)); intro gb117 hg w15 hbox hb; have n0_ := Aside0.mk (below_step (by repeat (first | (with_reducible first | exact HB.out | apply below_alloc | apply pw_below_drewN | apply below_drew1) | exact HB.out)) hb); have n1_ := Aside0.mk (hbox); have n2_ := Aside0.mk ((by rw [hg]; exact (below_size (by repeat (first | (with_reducible first | exact HB.out | apply below_alloc | apply pw_below_drewN | apply below_drew1) | exact HB.out))) : w.heap.size ≤ gb117)); have n3_ := Aside0.mk ((by rw [hg]; exact (below_size (by repeat (first | (with_reducible first | exact HB.out | apply below_alloc | apply pw_below_drewN | apply below_drew1) | exact HB.out))) : w.heap.size ≤ gb117)); clear HB; have HB := n0_; have BK117 := n1_; have GW117 := n2_; have GE117 := n3_; clear n0_ n1_ n2_ n3_; clear hb hbox hg; have hcz16_0 : w15.cell? ⟨gb117, 0, none⟩ = some (.int .i64 a0_0) := (blk_cell BK117.out 0).trans rfl; have hcz16_1 : w15.cell? ⟨gb117, 1, none⟩ = some (.int .i64 a0_1) := (blk_cell BK117.out 1).trans rfl; have hcz16_2 : w15.cell? ⟨gb117, 2, none⟩ = some (.int .i64 a0_2) := (blk_cell BK117.out 2).trans rfl; have hcz16_3 : w15.cell? ⟨gb117, 3, none⟩ = some (.int .i64 a0_3) := (blk_cell BK117.out 3).trans rfl; have hcz16_4 : w15.cell? ⟨gb117, 4, none⟩ = some (.int .i64 a0_4) := (blk_cell BK117.out 4).trans rfl; have hcz16_5 : w15.cell? ⟨gb117, 5, none⟩ = some (.int .i64 a0_5) := (blk_cell BK117.out 5).trans rfl; have hfz16_0 := blk_frozen BK117.out 0; have hfz16_1 := blk_frozen BK117.out 1; have hfz16_2 := blk_frozen BK117.out 2; have hfz16_3 := blk_frozen BK117.out 3; have hfz16_4 := blk_frozen BK117.out 4; have hfz16_5 := blk_frozen BK117.out 5) | ((with_reducible refine gate_callee (f := 35) rfl ?_); refine goesL_ (some 5) rfl rfl Tryd.func35 (by kernel_rfl) rfl #[.int .i64 a0_0, .int .i64 0, .int .i64 65536] rfl (by (try simp only [List.map_toArray, List.map_cons, List.map_nil]); first | done | rfl | (simp only [List.length_drop, List.length_take]; rfl)) ?_; (with_reducible refine (setting_within.calls a0_0 0 65536 true _ A2.out).mono ?_); rintro e w' ⟨rfl, ⟨nd, rfl⟩⟩; refine ⟨_, rfl, ?_⟩) | (go_at_call 35; (with_reducible refine (setting_within.calls a0_1 0 1 true _ A4.out).mono ?_); rintro e w' ⟨rfl, ⟨nd, rfl⟩⟩) | (go_at_call 35; (with_reducible refine (setting_within.calls a0_2 0 2147483647 true _ A6.out).mono ?_); rintro e w' ⟨rfl, ⟨nd, rfl⟩⟩) | (go_at_call 35; (with_reducible refine (setting_within.calls a0_3 0 2147483647 true _ A8.out).mono ?_); rintro e w' ⟨rfl, ⟨nd, rfl⟩⟩) | (go_at_call 35; (with_reducible refine (setting_within.calls a0_4 16384 65536 false _ A10.out).mono ?_); rintro e w' ⟨rfl, ⟨nd, rfl⟩⟩))
            go_ret
            exact ⟨by first | rfl | (simp [errW_none, errW_some] <;> rfl) | (simp [*, errW_none, errW_some] <;> rfl), by repeat (first | (with_reducible first | exact HB.out | apply below_alloc | apply pw_below_drewN | apply below_drew1 | refine below_set ?_ GE117.out) | exact HB.out)⟩
        · replace c9 := Bool.eq_false_iff.mpr c9
          subst c9
          have H1 : (some false) = some r := by rw [if_neg (show ¬ (false = true) by decide)] at H; exact H
          clear H
          have H := H1
          clear H1
          obtain rfl := Option.some.inj H
          go_enter Tryd.func21, Tryd.ntmps21
          go_wp2_with (first | ((with_reducible refine gate_dst (N := 1) rfl ?_); refine box_event ?hg (N := 1) ?hd (cs := #[.int .i64 a0_0, .int .i64 a0_1, .int .i64 a0_2, .int .i64 a0_3, .int .i64 a0_4, .int .i64 a0_5]) (t := 23) ?hr ?_; (case hd => rfl); (case hg => rfl); (case hr => first | (go_simp; done) | (go_simp; rfl)); intro gb117 hg w17 hbox hb; have n0_ := Aside0.mk (below_step (by repeat (first | (with_reducible first | exact HB.out | apply below_alloc | apply pw_below_drewN | apply below_drew1) | exact HB.out)) hb); have n1_ := Aside0.mk (hbox); have n2_ := Aside0.mk ((by rw [hg]; exact (below_size (by repeat (first | (with_reducible first | exact HB.out | apply below_alloc | apply pw_below_drewN | apply below_drew1) | exact HB.out))) : w.heap.size ≤ gb117)); have n3_ := Aside0.mk ((by rw [hg]; exact (below_size (by repeat (first | (with_reducible first | exact HB.out | apply below_alloc | apply pw_below_drewN | apply below_drew1) | exact HB.out))) : w.heap.size ≤ gb117)); clear HB; have HB := n0_; have BK117 := n1_; have GW117 := n2_; have GE117 := n3_; clear n0_ n1_ n2_ n3_; clear hb hbox hg; have hcz18_0 : w17.cell? ⟨gb117, 0, none⟩ = some (.int .i64 a0_0) := (blk_cell BK117.out 0).trans rfl; have hcz18_1 : w17.cell? ⟨gb117, 1, none⟩ = some (.int .i64 a0_1) := (blk_cell BK117.out 1).trans rfl; have hcz18_2 : w17.cell? ⟨gb117, 2, none⟩ = some (.int .i64 a0_2) := (blk_cell BK117.out 2).trans rfl; have hcz18_3 : w17.cell? ⟨gb117, 3, none⟩ = some (.int .i64 a0_3) := (blk_cell BK117.out 3).trans rfl; have hcz18_4 : w17.cell? ⟨gb117, 4, none⟩ = some (.int .i64 a0_4) := (blk_cell BK117.out 4).trans rfl; have hcz18_5 : w17.cell? ⟨gb117, 5, none⟩ = some (.int .i64 a0_5) := (blk_cell BK117.out 5).trans rfl; have hfz18_0 := blk_frozen BK117.out 0; have hfz18_1 := blk_frozen BK117.out 1; have hfz18_2 := blk_frozen BK117.out 2; have hfz18_3 := blk_frozen BK117.out 3; have hfz18_4 := blk_frozen BK117.out 4; have hfz18_5 := blk_frozen BK117.out 5) | ((with_reducible refine gate_callee (f := 35) rfl ?_); refine goesL_ (some 5) rfl rfl Tryd.func35 (by kernel_rfl) rfl #[.int .i64 a0_0, .int .i64 0, .int .i64 65536] rfl (by (try simp only [List.map_toArray, List.map_cons, List.map_nil]); first | done | rfl | (simp only [List.length_drop, List.length_take]; rfl)) ?_; (with_reducible refine (setting_within.calls a0_0 0 65536 true _ A2.out).mono ?_); rintro e w' ⟨rfl, ⟨nd, rfl⟩⟩; refine ⟨_, rfl, ?_⟩) | (go_at_call 35; (with_reducible refine (setting_within.calls a0_1 0 1 true _ A4.out).mono ?_); rintro e w' ⟨rfl, ⟨nd, rfl⟩⟩) | (go_at_call 35; (with_reducible refine (setting_within.calls a0_2 0 2147483647 true _ A6.out).mono ?_); rintro e w' ⟨rfl, ⟨nd, rfl⟩⟩) | (go_at_call 35; (with_reducible refine (setting_within.calls a0_3 0 2147483647 false _ A8.out).mono ?_); rintro e w' ⟨rfl, ⟨nd, rfl⟩⟩))
          go_ret
          exact ⟨by first | rfl | (simp [errW_none, errW_some] <;> rfl) | (simp [*, errW_none, errW_some] <;> rfl), by repeat (first | (with_reducible first | exact HB.out | apply below_alloc | apply pw_below_drewN | apply below_drew1 | refine below_set ?_ GE117.out) | exact HB.out)⟩
      · replace c7 := Bool.eq_false_iff.mpr c7
        subst c7
        have H1 : (some false) = some r := by rw [if_neg (show ¬ (false = true) by decide)] at H; exact H
        clear H
        have H := H1
        clear H1
        obtain rfl := Option.some.inj H
        go_enter Tryd.func21, Tryd.ntmps21
        go_wp2_with (first | ((with_reducible refine gate_dst (N := 1) rfl ?_); refine box_event ?hg (N := 1) ?hd (cs := #[.int .i64 a0_0, .int .i64 a0_1, .int .i64 a0_2, .int .i64 a0_3, .int .i64 a0_4, .int .i64 a0_5]) (t := 23) ?hr ?_; (case hd => rfl); (case hg => rfl); (case hr => first | (go_simp; done) | (go_simp; rfl)); intro gb117 hg w19 hbox hb; have n0_ := Aside0.mk (below_step (by repeat (first | (with_reducible first | exact HB.out | apply below_alloc | apply pw_below_drewN | apply below_drew1) | exact HB.out)) hb); have n1_ := Aside0.mk (hbox); have n2_ := Aside0.mk ((by rw [hg]; exact (below_size (by repeat (first | (with_reducible first | exact HB.out | apply below_alloc | apply pw_below_drewN | apply below_drew1) | exact HB.out))) : w.heap.size ≤ gb117)); have n3_ := Aside0.mk ((by rw [hg]; exact (below_size (by repeat (first | (with_reducible first | exact HB.out | apply below_alloc | apply pw_below_drewN | apply below_drew1) | exact HB.out))) : w.heap.size ≤ gb117)); clear HB; have HB := n0_; have BK117 := n1_; have GW117 := n2_; have GE117 := n3_; clear n0_ n1_ n2_ n3_; clear hb hbox hg; have hcz20_0 : w19.cell? ⟨gb117, 0, none⟩ = some (.int .i64 a0_0) := (blk_cell BK117.out 0).trans rfl; have hcz20_1 : w19.cell? ⟨gb117, 1, none⟩ = some (.int .i64 a0_1) := (blk_cell BK117.out 1).trans rfl; have hcz20_2 : w19.cell? ⟨gb117, 2, none⟩ = some (.int .i64 a0_2) := (blk_cell BK117.out 2).trans rfl; have hcz20_3 : w19.cell? ⟨gb117, 3, none⟩ = some (.int .i64 a0_3) := (blk_cell BK117.out 3).trans rfl; have hcz20_4 : w19.cell? ⟨gb117, 4, none⟩ = some (.int .i64 a0_4) := (blk_cell BK117.out 4).trans rfl; have hcz20_5 : w19.cell? ⟨gb117, 5, none⟩ = some (.int .i64 a0_5) := (blk_cell BK117.out 5).trans rfl; have hfz20_0 := blk_frozen BK117.out 0; have hfz20_1 := blk_frozen BK117.out 1; have hfz20_2 := blk_frozen BK117.out 2; have hfz20_3 := blk_frozen BK117.out 3; have hfz20_4 := blk_frozen BK117.out 4; have hfz20_5 := blk_frozen BK117.out 5) | ((with_reducible refine gate_callee (f := 35) rfl ?_); refine goesL_ (some 5) rfl rfl Tryd.func35 (by kernel_rfl) rfl #[.int .i64 a0_0, .int .i64 0, .int .i64 65536] rfl (by (try simp only [List.map_toArray, List.map_cons, List.map_nil]); first | done | rfl | (simp only [List.length_drop, List.length_take]; rfl)) ?_; (with_reducible refine (setting_within.calls a0_0 0 65536 true _ A2.out).mono ?_); rintro e w' ⟨rfl, ⟨nd, rfl⟩⟩; refine ⟨_, rfl, ?_⟩) | (go_at_call 35; (with_reducible refine (setting_within.calls a0_1 0 1 true _ A4.out).mono ?_); rintro e w' ⟨rfl, ⟨nd, rfl⟩⟩) | (go_at_call 35; (with_reducible refine (setting_within.calls a0_2 0 2147483647 false _ A6.out).mono ?_); rintro e w' ⟨rfl, ⟨nd, rfl⟩⟩))
        go_ret
        exact ⟨by first | rfl | (simp [errW_none, errW_some] <;> rfl) | (simp [*, errW_none, errW_some] <;> rfl), by repeat (first | (with_reducible first | exact HB.out | apply below_alloc | apply pw_below_drewN | apply below_drew1 | refine below_set ?_ GE117.out) | exact HB.out)⟩
    · replace c5 := Bool.eq_false_iff.mpr c5
      subst c5
      have H1 : (some false) = some r := by rw [if_neg (show ¬ (false = true) by decide)] at H; exact H
      clear H
      have H := H1
      clear H1
      obtain rfl := Option.some.inj H
      go_enter Tryd.func21, Tryd.ntmps21
      go_wp2_with (first | ((with_reducible refine gate_dst (N := 1) rfl ?_); refine box_event ?hg (N := 1) ?hd (cs := #[.int .i64 a0_0, .int .i64 a0_1, .int .i64 a0_2, .int .i64 a0_3, .int .i64 a0_4, .int .i64 a0_5]) (t := 23) ?hr ?_; (case hd => rfl); (case hg => rfl); (case hr => first | (go_simp; done) | (go_simp; rfl)); intro gb117 hg w21 hbox hb; have n0_ := Aside0.mk (below_step (by repeat (first | (with_reducible first | exact HB.out | apply below_alloc | apply pw_below_drewN | apply below_drew1) | exact HB.out)) hb); have n1_ := Aside0.mk (hbox); have n2_ := Aside0.mk ((by rw [hg]; exact (below_size (by repeat (first | (with_reducible first | exact HB.out | apply below_alloc | apply pw_below_drewN | apply below_drew1) | exact HB.out))) : w.heap.size ≤ gb117)); have n3_ := Aside0.mk ((by rw [hg]; exact (below_size (by repeat (first | (with_reducible first | exact HB.out | apply below_alloc | apply pw_below_drewN | apply below_drew1) | exact HB.out))) : w.heap.size ≤ gb117)); clear HB; have HB := n0_; have BK117 := n1_; have GW117 := n2_; have GE117 := n3_; clear n0_ n1_ n2_ n3_; clear hb hbox hg; have hcz22_0 : w21.cell? ⟨gb117, 0, none⟩ = some (.int .i64 a0_0) := (blk_cell BK117.out 0).trans rfl; have hcz22_1 : w21.cell? ⟨gb117, 1, none⟩ = some (.int .i64 a0_1) := (blk_cell BK117.out 1).trans rfl; have hcz22_2 : w21.cell? ⟨gb117, 2, none⟩ = some (.int .i64 a0_2) := (blk_cell BK117.out 2).trans rfl; have hcz22_3 : w21.cell? ⟨gb117, 3, none⟩ = some (.int .i64 a0_3) := (blk_cell BK117.out 3).trans rfl; have hcz22_4 : w21.cell? ⟨gb117, 4, none⟩ = some (.int .i64 a0_4) := (blk_cell BK117.out 4).trans rfl; have hcz22_5 : w21.cell? ⟨gb117, 5, none⟩ = some (.int .i64 a0_5) := (blk_cell BK117.out 5).trans rfl; have hfz22_0 := blk_frozen BK117.out 0; have hfz22_1 := blk_frozen BK117.out 1; have hfz22_2 := blk_frozen BK117.out 2; have hfz22_3 := blk_frozen BK117.out 3; have hfz22_4 := blk_frozen BK117.out 4; have hfz22_5 := blk_frozen BK117.out 5) | ((with_reducible refine gate_callee (f := 35) rfl ?_); refine goesL_ (some 5) rfl rfl Tryd.func35 (by kernel_rfl) rfl #[.int .i64 a0_0, .int .i64 0, .int .i64 65536] rfl (by (try simp only [List.map_toArray, List.map_cons, List.map_nil]); first | done | rfl | (simp only [List.length_drop, List.length_take]; rfl)) ?_; (with_reducible refine (setting_within.calls a0_0 0 65536 true _ A2.out).mono ?_); rintro e w' ⟨rfl, ⟨nd, rfl⟩⟩; refine ⟨_, rfl, ?_⟩) | (go_at_call 35; (with_reducible refine (setting_within.calls a0_1 0 1 false _ A4.out).mono ?_); rintro e w' ⟨rfl, ⟨nd, rfl⟩⟩))
      go_ret
      exact ⟨by first | rfl | (simp [errW_none, errW_some] <;> rfl) | (simp [*, errW_none, errW_some] <;> rfl), by repeat (first | (with_reducible first | exact HB.out | apply below_alloc | apply pw_below_drewN | apply below_drew1 | refine below_set ?_ GE117.out) | exact HB.out)⟩
  · replace c3 := Bool.eq_false_iff.mpr c3
    subst c3
    have H1 : (some false) = some r := by rw [if_neg (show ¬ (false = true) by decide)] at H; exact H
    clear H
    have H := H1
    clear H1
    obtain rfl := Option.some.inj H
    go_enter Tryd.func21, Tryd.ntmps21
    go_wp2_with (first | ((with_reducible refine gate_dst (N := 1) rfl ?_); refine box_event ?hg (N := 1) ?hd (cs := #[.int .i64 a0_0, .int .i64 a0_1, .int .i64 a0_2, .int .i64 a0_3, .int .i64 a0_4, .int .i64 a0_5]) (t := 23) ?hr ?_; (case hd => rfl); (case hg => rfl); (case hr => first | (go_simp; done) | (go_simp; rfl)); intro gb117 hg w23 hbox hb; have n0_ := Aside0.mk (below_step (by repeat (first | (with_reducible first | exact HB.out | apply below_alloc | apply pw_below_drewN | apply below_drew1) | exact HB.out)) hb); have n1_ := Aside0.mk (hbox); have n2_ := Aside0.mk ((by rw [hg]; exact (below_size (by repeat (first | (with_reducible first | exact HB.out | apply below_alloc | apply pw_below_drewN | apply below_drew1) | exact HB.out))) : w.heap.size ≤ gb117)); have n3_ := Aside0.mk ((by rw [hg]; exact (below_size (by repeat (first | (with_reducible first | exact HB.out | apply below_alloc | apply pw_below_drewN | apply below_drew1) | exact HB.out))) : w.heap.size ≤ gb117)); clear HB; have HB := n0_; have BK117 := n1_; have GW117 := n2_; have GE117 := n3_; clear n0_ n1_ n2_ n3_; clear hb hbox hg; have hcz24_0 : w23.cell? ⟨gb117, 0, none⟩ = some (.int .i64 a0_0) := (blk_cell BK117.out 0).trans rfl; have hcz24_1 : w23.cell? ⟨gb117, 1, none⟩ = some (.int .i64 a0_1) := (blk_cell BK117.out 1).trans rfl; have hcz24_2 : w23.cell? ⟨gb117, 2, none⟩ = some (.int .i64 a0_2) := (blk_cell BK117.out 2).trans rfl; have hcz24_3 : w23.cell? ⟨gb117, 3, none⟩ = some (.int .i64 a0_3) := (blk_cell BK117.out 3).trans rfl; have hcz24_4 : w23.cell? ⟨gb117, 4, none⟩ = some (.int .i64 a0_4) := (blk_cell BK117.out 4).trans rfl; have hcz24_5 : w23.cell? ⟨gb117, 5, none⟩ = some (.int .i64 a0_5) := (blk_cell BK117.out 5).trans rfl; have hfz24_0 := blk_frozen BK117.out 0; have hfz24_1 := blk_frozen BK117.out 1; have hfz24_2 := blk_frozen BK117.out 2; have hfz24_3 := blk_frozen BK117.out 3; have hfz24_4 := blk_frozen BK117.out 4; have hfz24_5 := blk_frozen BK117.out 5) | ((with_reducible refine gate_callee (f := 35) rfl ?_); refine goesL_ (some 5) rfl rfl Tryd.func35 (by kernel_rfl) rfl #[.int .i64 a0_0, .int .i64 0, .int .i64 65536] rfl (by (try simp only [List.map_toArray, List.map_cons, List.map_nil]); first | done | rfl | (simp only [List.length_drop, List.length_take]; rfl)) ?_; (with_reducible refine (setting_within.calls a0_0 0 65536 false _ A2.out).mono ?_); rintro e w' ⟨rfl, ⟨nd, rfl⟩⟩; refine ⟨_, rfl, ?_⟩))
    go_ret
    exact ⟨by first | rfl | (simp [errW_none, errW_some] <;> rfl) | (simp [*, errW_none, errW_some] <;> rfl), by repeat (first | (with_reducible first | exact HB.out | apply below_alloc | apply pw_below_drewN | apply below_drew1 | refine below_set ?_ GE117.out) | exact HB.out)⟩

/-! ### setting_most: function 37 -/
def setting_most.f (a0 : Int) : Option (Int) := if a0 = 5 then (some 65536) else (some 2147483647)
set_option maxHeartbeats 8000000 in
set_option maxRecDepth 100000 in
theorem setting_most.calls (a0 : Int) (r : Int) (w : World) (h : setting_most.f a0 = some r) :
    Calls Tryd.prog 37 #[.int .i64 a0] w fun e w' => e = .returned (.int .i64 r) ∧ Drawn0 w w' := by
  have H : (if a0 = 5 then (some 65536) else (some 2147483647)) = some r := h
  clear h
  by_cases c2 : a0 = 5
  · rw [if_pos c2] at H
    have c2b0 : (a0 == 5) = true := beq_iff_eq.mpr c2
    have c2b1 : (a0 != 5) = false := bne_eq_false_iff_eq.mpr c2
    clear c2
    obtain rfl := Option.some.inj H
    go_enter Tryd.func37, Tryd.ntmps37
    go_wp2
    go_ret
    exact ⟨by first | rfl | (simp; done) | (simp [*]; done), by repeat (first | exact Drawn0.refl _ | apply Drawn0.step)⟩
  · rw [if_neg c2] at H
    have c2b0 : (a0 == 5) = false := beq_eq_false_iff_ne.mpr c2
    have c2b1 : (a0 != 5) = true := bne_iff_ne.mpr c2
    obtain rfl := Option.some.inj H
    go_enter Tryd.func37, Tryd.ntmps37
    go_wp2
    go_ret
    exact ⟨by first | rfl | (simp; done) | (simp [*]; done), by repeat (first | exact Drawn0.refl _ | apply Drawn0.step)⟩

end Go.Proofs.YtcjphkgmcfpfeaaDoor.QL
