/- Written by a program of this session (a changed run of the kit's printer): what the Go functions of one call tree answer, as plain functions, and that the machine's calls answer so; no condition but those in each statement. -/
import Derived.Test.YtndhaakknkkpfaaDoorQBookx0
import Derived.Test.YtndhaakknkkpfaaDoorQBookx1
import Derived.Test.YtndhaakknkkpfaaDoorQBookx2
import Derived.Test.YtndhaakknkkpfaaDoorQBookx3
import Derived.Test.YtndhaakknkkpfaaDoorQBookx4
import Derived.Test.YtndhaakknkkpfaaDoorQBookx5
namespace Go.Proofs.YtndhaakknkkpfaaDoor.QBook
open Go.RowKit Go.Proofs.YtndhaakknkkpfaaDoor.QAll Go.Proofs.YtndhaakknkkpfaaDoorW.PrintWords Go.Proofs.YtndhaakknkkpfaaDoorW.PrintLast Go.Proofs.YtndhaakknkkpfaaDoorW.PrintMore
attribute [local go_sem] max2_int min2_int max_two min_two max_three min_three max_four min_four   -- for this text's walks alone
set_option linter.unusedVariables false
set_option linter.unusedSimpArgs false

/-! ### heraldlaw10_StateBook: function 5 -/
mutual
def heraldlaw10_StateBook.l0 : Nat → List (S28) → Int → Int → Bool → Bool → Bool → Bool → Option (Bool)
  | 0, _, _, _, _, _, _, _ => none
  | k + 1, x0, x4, x5, x138000, x138001, x138002, x138003 => if x5 < (x0.length : Int) then (if 0 ≤ x5 then ((heraldlaw10_next.f x4 ((rd_T28 x0 x5).f0) ((rd_T28 x0 x5).f1)).bind fun bt139 => ((heraldlaw10_Book_fine.f k x138000 x138001 x138002 x138003 ((rd_T28 x0 x5).f0) ((rd_T28 x0 x5).f1)).bind fun t143 => (if t143 = true then (if bt139.2.1 = 0 then (heraldlaw10_StateBook.j1 k x0 x5 bt139.1 t143 (bt139.2.2 != 0) x138000 x138001 x138002 x138003) else (heraldlaw10_StateBook.j1 k x0 x5 bt139.1 t143 true x138000 x138001 x138002 x138003)) else (if bt139.2.1 = 0 then (heraldlaw10_StateBook.j1 k x0 x5 bt139.1 t143 true x138000 x138001 x138002 x138003) else (heraldlaw10_StateBook.j1 k x0 x5 bt139.1 t143 false x138000 x138001 x138002 x138003))))) else (none)) else (some true)
def heraldlaw10_StateBook.j1 : Nat → List (S28) → Int → Int → Bool → Bool → Bool → Bool → Bool → Bool → Option (Bool)
  | 0, _, _, _, _, _, _, _, _, _ => none
  | k + 1, x0, x5, x6, x9, x46, x138000, x138001, x138002, x138003 => if x46 = true then (some false) else (if x9 = true then (if 0 ≤ x5 then (if x5 < (x0.length : Int) then ((heraldlaw10_Book_behind.f k x138000 x138001 x138002 x138003 ((rd_T28 x0 x5).f0) ((rd_T28 x0 x5).f1)).bind fun bt145 => (heraldlaw10_StateBook.j2 k x0 x5 x6 bt145.1 bt145.2.1 bt145.2.2.1 bt145.2.2.2)) else (none)) else (none)) else (heraldlaw10_StateBook.j2 k x0 x5 x6 x138000 x138001 x138002 x138003))
def heraldlaw10_StateBook.j2 : Nat → List (S28) → Int → Int → Bool → Bool → Bool → Bool → Option (Bool)
  | 0, _, _, _, _, _, _, _ => none
  | k + 1, x0, x5, x6, x138000, x138001, x138002, x138003 => (heraldlaw10_Book_state.f k x138000 x138001 x138002 x138003).bind fun t149 => (if x6 = t149 then ((state_Counts.f k x6).bind fun t150 => (if x138001 = true then ((heraldlaw10_Book_over.f x138000 x138001 x138002 x138003).bind fun t151 => (if t150 = true then (if t151 = true then (some false) else (heraldlaw10_StateBook.l0 k x0 x6 (wrap64 (x5 + 1)) x138000 x138001 x138002 x138003)) else (if t151 = true then (heraldlaw10_StateBook.l0 k x0 x6 (wrap64 (x5 + 1)) x138000 x138001 x138002 x138003) else (some false)))) else (if t150 = true then (some false) else (heraldlaw10_StateBook.l0 k x0 x6 (wrap64 (x5 + 1)) x138000 x138001 x138002 x138003)))) else (some false))
end
def heraldlaw10_StateBook.f (k : Nat) (l0 : List (S28)) : Option (Bool) := (heraldlaw10_head.f k).bind fun t136 => (if t136 = true then (heraldlaw10_StateBook.l0 k l0 0 0 false false false false) else (some false))
theorem heraldlaw10_StateBook.mono_l : ∀ k, (∀ y0 y1 y2 y3 y4 y5 y6, LeO (heraldlaw10_StateBook.l0 k y0 y1 y2 y3 y4 y5 y6) (heraldlaw10_StateBook.l0 (k + 1) y0 y1 y2 y3 y4 y5 y6)) ∧ (∀ y0 y1 y2 y3 y4 y5 y6 y7 y8, LeO (heraldlaw10_StateBook.j1 k y0 y1 y2 y3 y4 y5 y6 y7 y8) (heraldlaw10_StateBook.j1 (k + 1) y0 y1 y2 y3 y4 y5 y6 y7 y8)) ∧ (∀ y0 y1 y2 y3 y4 y5 y6, LeO (heraldlaw10_StateBook.j2 k y0 y1 y2 y3 y4 y5 y6) (heraldlaw10_StateBook.j2 (k + 1) y0 y1 y2 y3 y4 y5 y6))
  | 0 => ⟨fun _ _ _ _ _ _ _ r h => by simp [heraldlaw10_StateBook.l0] at h, fun _ _ _ _ _ _ _ _ _ r h => by simp [heraldlaw10_StateBook.j1] at h, fun _ _ _ _ _ _ _ r h => by simp [heraldlaw10_StateBook.j2] at h⟩
  | k + 1 => by
    obtain ⟨ih0, ih1, ih2⟩ := heraldlaw10_StateBook.mono_l k
    refine ⟨?_, ?_, ?_⟩
    · intro y0 y1 y2 y3 y4 y5 y6
      unfold heraldlaw10_StateBook.l0
      repeat' first
      | (with_reducible exact ih0 _ _ _ _ _ _ _)
      | (with_reducible exact ih1 _ _ _ _ _ _ _ _ _)
      | (with_reducible exact ih2 _ _ _ _ _ _ _)
      | (with_reducible exact heraldlaw10_Book_behind.mono _ _ _ _ _ _ _)
      | (with_reducible exact heraldlaw10_Book_fine.mono _ _ _ _ _ _ _)
      | (with_reducible exact heraldlaw10_Book_state.mono _ _ _ _ _)
      | (with_reducible exact heraldlaw10_head.mono _)
      | (with_reducible exact state_Counts.mono _ _)
      | (with_reducible exact LeO.refl _)
      | (with_reducible exact LeO.none _)
      | (with_reducible refine LeO.ite ?_ ?_)
      | (with_reducible refine LeO.bind ?_ (fun _ => ?_))
      | exact ih0 _ _ _ _ _ _ _
      | exact ih1 _ _ _ _ _ _ _ _ _
      | exact ih2 _ _ _ _ _ _ _
      | exact heraldlaw10_Book_behind.mono _ _ _ _ _ _ _
      | exact heraldlaw10_Book_fine.mono _ _ _ _ _ _ _
      | exact heraldlaw10_Book_state.mono _ _ _ _ _
      | exact heraldlaw10_head.mono _
      | exact state_Counts.mono _ _
      | exact LeO.none _
      | refine LeO.ite ?_ ?_
      | refine LeO.bind ?_ (fun _ => ?_)
    · intro y0 y1 y2 y3 y4 y5 y6 y7 y8
      unfold heraldlaw10_StateBook.j1
      repeat' first
      | (with_reducible exact ih0 _ _ _ _ _ _ _)
      | (with_reducible exact ih1 _ _ _ _ _ _ _ _ _)
      | (with_reducible exact ih2 _ _ _ _ _ _ _)
      | (with_reducible exact heraldlaw10_Book_behind.mono _ _ _ _ _ _ _)
      | (with_reducible exact heraldlaw10_Book_fine.mono _ _ _ _ _ _ _)
      | (with_reducible exact heraldlaw10_Book_state.mono _ _ _ _ _)
      | (with_reducible exact heraldlaw10_head.mono _)
      | (with_reducible exact state_Counts.mono _ _)
      | (with_reducible exact LeO.refl _)
      | (with_reducible exact LeO.none _)
      | (with_reducible refine LeO.ite ?_ ?_)
      | (with_reducible refine LeO.bind ?_ (fun _ => ?_))
      | exact ih0 _ _ _ _ _ _ _
      | exact ih1 _ _ _ _ _ _ _ _ _
      | exact ih2 _ _ _ _ _ _ _
      | exact heraldlaw10_Book_behind.mono _ _ _ _ _ _ _
      | exact heraldlaw10_Book_fine.mono _ _ _ _ _ _ _
      | exact heraldlaw10_Book_state.mono _ _ _ _ _
      | exact heraldlaw10_head.mono _
      | exact state_Counts.mono _ _
      | exact LeO.none _
      | refine LeO.ite ?_ ?_
      | refine LeO.bind ?_ (fun _ => ?_)
    · intro y0 y1 y2 y3 y4 y5 y6
      unfold heraldlaw10_StateBook.j2
      repeat' first
      | (with_reducible exact ih0 _ _ _ _ _ _ _)
      | (with_reducible exact ih1 _ _ _ _ _ _ _ _ _)
      | (with_reducible exact ih2 _ _ _ _ _ _ _)
      | (with_reducible exact heraldlaw10_Book_behind.mono _ _ _ _ _ _ _)
      | (with_reducible exact heraldlaw10_Book_fine.mono _ _ _ _ _ _ _)
      | (with_reducible exact heraldlaw10_Book_state.mono _ _ _ _ _)
      | (with_reducible exact heraldlaw10_head.mono _)
      | (with_reducible exact state_Counts.mono _ _)
      | (with_reducible exact LeO.refl _)
      | (with_reducible exact LeO.none _)
      | (with_reducible refine LeO.ite ?_ ?_)
      | (with_reducible refine LeO.bind ?_ (fun _ => ?_))
      | exact ih0 _ _ _ _ _ _ _
      | exact ih1 _ _ _ _ _ _ _ _ _
      | exact ih2 _ _ _ _ _ _ _
      | exact heraldlaw10_Book_behind.mono _ _ _ _ _ _ _
      | exact heraldlaw10_Book_fine.mono _ _ _ _ _ _ _
      | exact heraldlaw10_Book_state.mono _ _ _ _ _
      | exact heraldlaw10_head.mono _
      | exact state_Counts.mono _ _
      | exact LeO.none _
      | refine LeO.ite ?_ ?_
      | refine LeO.bind ?_ (fun _ => ?_)
theorem heraldlaw10_StateBook.mono : ∀ a0 k, LeO (heraldlaw10_StateBook.f k a0) (heraldlaw10_StateBook.f (k + 1) a0) := by
  intro a0 k
  obtain ⟨ih0, ih1, ih2⟩ := heraldlaw10_StateBook.mono_l k
  unfold heraldlaw10_StateBook.f
  repeat' first
      | (with_reducible exact ih0 _ _ _ _ _ _ _)
      | (with_reducible exact ih1 _ _ _ _ _ _ _ _ _)
      | (with_reducible exact ih2 _ _ _ _ _ _ _)
      | (with_reducible exact heraldlaw10_Book_behind.mono _ _ _ _ _ _ _)
      | (with_reducible exact heraldlaw10_Book_fine.mono _ _ _ _ _ _ _)
      | (with_reducible exact heraldlaw10_Book_state.mono _ _ _ _ _)
      | (with_reducible exact heraldlaw10_head.mono _)
      | (with_reducible exact state_Counts.mono _ _)
      | (with_reducible exact LeO.refl _)
      | (with_reducible exact LeO.none _)
      | (with_reducible refine LeO.ite ?_ ?_)
      | (with_reducible refine LeO.bind ?_ (fun _ => ?_))
      | exact ih0 _ _ _ _ _ _ _
      | exact ih1 _ _ _ _ _ _ _ _ _
      | exact ih2 _ _ _ _ _ _ _
      | exact heraldlaw10_Book_behind.mono _ _ _ _ _ _ _
      | exact heraldlaw10_Book_fine.mono _ _ _ _ _ _ _
      | exact heraldlaw10_Book_state.mono _ _ _ _ _
      | exact heraldlaw10_head.mono _
      | exact state_Counts.mono _ _
      | exact LeO.none _
      | refine LeO.ite ?_ ?_
      | refine LeO.bind ?_ (fun _ => ?_)
def heraldlaw10_StateBook.T14 : Bool × List (List Nat × List Nat) := (true, [([], []), ([], []), ([1], [1]), ([0, 2], [0, 2]), ([3, 2], [3]), ([4], [4]), ([5, 4, 4], [4, 5]), ([4], [4]), ([7, 4], [4, 7]), ([8, 6, 4], [4, 8]), ([9], [9]), ([10, 9, 9], [9, 10]), ([11, 9], [9, 11]), ([9, 12, 4], [4, 9, 12]), ([6, 13, 4], [4, 6, 13]), ([4, 14], [4, 14])])
def heraldlaw10_StateBook.B14 : List Nat := [0, 0, 2, 7, 15, 31, 63, 31, 159, 511, 1023, 2047, 4095, 8191, 16383, 32767]
theorem heraldlaw10_StateBook.tab14 : rtab .any (opsOf Tryd.f5 14) = heraldlaw10_StateBook.T14 := by kernel_rfl
theorem heraldlaw10_StateBook.bits14 : waitsOk heraldlaw10_StateBook.T14.2 heraldlaw10_StateBook.B14 = true := by kernel_rfl
set_option maxHeartbeats 8000000 in
set_option maxRecDepth 100000 in
theorem heraldlaw10_StateBook.calls (k : Nat) (A0 : Option Addr) (c0 : Nat) (l0 : List (S28)) (r : Bool) (w : World) (hG : GL w) (hr0 : Kd.C k28 w A0 l0.length l0) (hc0 : l0.length ≤ c0) (h : heraldlaw10_StateBook.f k l0 = some r) :
    Calls Tryd.prog 5 #[.slice A0 l0.length c0] w fun e w' => e = .returned (.bool r) ∧ Below w.heap.size w w' := by
  have hu37 := Tryd.underlying37
  have hu28 := Tryd.underlying28
  have HR0 := Aside0.mk hr0
  have HC0 := Aside0.mk hc0
  clear hr0 hc0
  have HG := Aside0.mk hG
  clear hG
  have HB := Aside0.mk (Below.refl w.heap.size w)
  have H : ((heraldlaw10_head.f k).bind fun t136 => (if t136 = true then (heraldlaw10_StateBook.l0 k l0 0 0 false false false false) else (some false))) = some r := h
  clear h
  replace H := Option.bind_eq_some_iff.mp H
  obtain ⟨t136, A20, H⟩ := H
  replace H : (if t136 = true then (heraldlaw10_StateBook.l0 k l0 0 0 false false false false) else (some false)) = some r := H
  have A2 := Aside0.mk A20
  clear A20
  by_cases c3 : t136 = true
  · subst c3
    have H1 : (heraldlaw10_StateBook.l0 k l0 0 0 false false false false) = some r := by rw [if_pos rfl] at H; exact H
    clear H
    have H := H1
    clear H1
    have H' := Aside0.mk H
    clear H
    go_enter Tryd.func5, Tryd.ntmps5
    go_wp2_with (first | ((with_reducible refine gate_callee (f := 8) rfl ?_); refine goesL_ (some 10) rfl rfl Tryd.func8 (by kernel_rfl) rfl #[] rfl (by (try simp only [List.map_toArray, List.map_cons, List.map_nil]); first | done | rfl | (simp only [List.length_drop, List.length_take]; rfl)) ?_; (with_reducible refine (heraldlaw10_head.calls k  true _ ?side1 A2.out).mono ?_); (case side1 => exact GL.below HG.out (by repeat (first | (with_reducible first | exact HB.out | apply below_alloc | apply pw_below_drewN | apply below_drew1) | exact HB.out))); rintro e w4 ⟨rfl, hb⟩; refine ⟨_, rfl, ?_⟩; have n0_ := Aside0.mk (below_step (by repeat (first | (with_reducible first | exact HB.out | apply below_alloc | apply pw_below_drewN | apply below_drew1) | exact HB.out)) hb); clear HB; have HB := n0_; clear n0_; (try clear hb); (try clear hb2); (try clear hk); (try clear hi)) | ((with_reducible refine gate_dst (N := 3) rfl ?_); refine box_event ?hg (N := 3) ?hd (cs := #[.bool false, .bool false, .bool false, .bool false]) (t := 37) ?hr ?_; (case hd => rfl); (case hg => rfl); (case hr => first | (go_simp; done) | (go_simp; rfl)); intro gb137 hg w5 hbox hb; have n0_ := Aside0.mk (below_step (by repeat (first | (with_reducible first | exact HB.out | apply below_alloc | apply pw_below_drewN | apply below_drew1) | exact HB.out)) hb); have n1_ := Aside0.mk (hbox); have n2_ := Aside0.mk ((by rw [hg]; exact (below_size (by repeat (first | (with_reducible first | exact HB.out | apply below_alloc | apply pw_below_drewN | apply below_drew1) | exact HB.out))) : w.heap.size ≤ gb137)); have n3_ := Aside0.mk ((by rw [hg]; exact (below_size (by repeat (first | (with_reducible first | exact HB.out | apply below_alloc | apply pw_below_drewN | apply below_drew1) | exact HB.out))) : w.heap.size ≤ gb137)); clear HB; have HB := n0_; have BK137 := n1_; have GW137 := n2_; have GE137 := n3_; clear n0_ n1_ n2_ n3_; clear hb hbox hg; have hcz6_0 : w5.cell? ⟨gb137, 0, none⟩ = some (.bool false) := (blk_cell BK137.out 0).trans rfl; have hcz6_1 : w5.cell? ⟨gb137, 1, none⟩ = some (.bool false) := (blk_cell BK137.out 1).trans rfl; have hcz6_2 : w5.cell? ⟨gb137, 2, none⟩ = some (.bool false) := (blk_cell BK137.out 2).trans rfl; have hcz6_3 : w5.cell? ⟨gb137, 3, none⟩ = some (.bool false) := (blk_cell BK137.out 3).trans rfl; have hfz6_0 := blk_frozen BK137.out 0; have hfz6_1 := blk_frozen BK137.out 1; have hfz6_2 := blk_frozen BK137.out 2; have hfz6_3 := blk_frozen BK137.out 3))
    go_loopg [4, 5] k (fun kq v4 v5 w' => ∃ (x4_1 : Int) (x5_1 : Int) (x138000_1 : Bool) (x138001_1 : Bool) (x138002_1 : Bool) (x138003_1 : Bool), v4 = .int .i64 x4_1 ∧ v5 = .int .i64 x5_1 ∧ Aside0 (heraldlaw10_StateBook.l0 kq l0 x4_1 x5_1 x138000_1 x138001_1 x138002_1 x138003_1 = some r) ∧ Aside0 (kq ≤ k) ∧ Aside0 (w'.heap[gb137]? = some (.cells #[.bool x138000_1, .bool x138001_1, .bool x138002_1, .bool x138003_1] 37 (0, 0))) ∧ Aside0 (Below w.heap.size w w'))
    case atStart => exact ⟨(0), (0), (false), (false), (false), (false), (by first | rfl | (simp; done) | (simp [*]; done)), (by first | rfl | (simp; done) | (simp [*]; done)), H', ⟨Nat.le_refl _⟩, ⟨by (with_reducible repeat (first | refine blk_drewN ?_ _ | refine blk_drew ?_ | refine blk_alloc ?_ _)); refine blk_put (cs := #[.bool false, .bool false, .bool false, .bool false]) ?_ 3 _ rfl; (with_reducible repeat (first | refine blk_drewN ?_ _ | refine blk_drew ?_ | refine blk_alloc ?_ _)); refine blk_put (cs := #[.bool false, .bool false, .bool false, .bool false]) ?_ 2 _ rfl; (with_reducible repeat (first | refine blk_drewN ?_ _ | refine blk_drew ?_ | refine blk_alloc ?_ _)); refine blk_put (cs := #[.bool false, .bool false, .bool false, .bool false]) ?_ 1 _ rfl; (with_reducible repeat (first | refine blk_drewN ?_ _ | refine blk_drew ?_ | refine blk_alloc ?_ _)); refine blk_put (cs := #[.bool false, .bool false, .bool false, .bool false]) ?_ 0 _ rfl; (with_reducible repeat (first | refine blk_drewN ?_ _ | refine blk_drew ?_ | refine blk_alloc ?_ _)); exact BK137.out⟩, ⟨by repeat (first | (with_reducible first | exact HB.out | apply below_alloc | apply pw_below_drewN | apply below_drew1 | refine below_set ?_ GE137.out) | exact HB.out)⟩⟩
    case round =>
      clear H'
      try clear p2
      try clear c3
      try clear c5
      try clear hcz6_0
      try clear hcz6_1
      try clear hcz6_2
      try clear hcz6_3
      try clear hfz6_0
      try clear hfz6_1
      try clear hfz6_2
      try clear hfz6_3
      obtain ⟨x4_1, x5_1, x138000_1, x138001_1, x138002_1, x138003_1, rfl, rfl, HA, HK1, BK137, HB⟩ := hrel
      cases gk with
      | zero => exact absurd HA.out (by simp [heraldlaw10_StateBook.l0])
      | succ k1 =>
        have H := HA.out
        clear HA
        simp only [heraldlaw10_StateBook.l0] at H
        by_cases c7 : x5_1 < (l0.length : Int)
        · rw [if_pos c7] at H
          have c7b0 : decide (x5_1 < (l0.length : Int)) = true := decide_eq_true c7
          clear c7
          by_cases c8 : 0 ≤ x5_1
          · rw [if_pos c8] at H
            have c8b0 : decide (0 ≤ x5_1) = true := decide_eq_true c8
            clear c8
            replace H := Option.bind_eq_some_iff.mp H
            obtain ⟨⟨t139, t140, t141⟩, A90, H⟩ := H
            replace H : ((heraldlaw10_Book_fine.f k1 x138000_1 x138001_1 x138002_1 x138003_1 ((rd_T28 l0 x5_1).f0) ((rd_T28 l0 x5_1).f1)).bind fun t143 => (if t143 = true then (if t140 = 0 then (heraldlaw10_StateBook.j1 k1 l0 x5_1 t139 t143 (t141 != 0) x138000_1 x138001_1 x138002_1 x138003_1) else (heraldlaw10_StateBook.j1 k1 l0 x5_1 t139 t143 true x138000_1 x138001_1 x138002_1 x138003_1)) else (if t140 = 0 then (heraldlaw10_StateBook.j1 k1 l0 x5_1 t139 t143 true x138000_1 x138001_1 x138002_1 x138003_1) else (heraldlaw10_StateBook.j1 k1 l0 x5_1 t139 t143 false x138000_1 x138001_1 x138002_1 x138003_1)))) = some r := H
            have A9 := Aside0.mk A90
            clear A90
            replace H := Option.bind_eq_some_iff.mp H
            obtain ⟨t143, A100, H⟩ := H
            replace H : (if t143 = true then (if t140 = 0 then (heraldlaw10_StateBook.j1 k1 l0 x5_1 t139 t143 (t141 != 0) x138000_1 x138001_1 x138002_1 x138003_1) else (heraldlaw10_StateBook.j1 k1 l0 x5_1 t139 t143 true x138000_1 x138001_1 x138002_1 x138003_1)) else (if t140 = 0 then (heraldlaw10_StateBook.j1 k1 l0 x5_1 t139 t143 true x138000_1 x138001_1 x138002_1 x138003_1) else (heraldlaw10_StateBook.j1 k1 l0 x5_1 t139 t143 false x138000_1 x138001_1 x138002_1 x138003_1))) = some r := H
            have A10 := Aside0.mk A100
            clear A100
            have HC11 := Aside0.mk H
            clear H
            have p138 : 0 ≤ (x5_1 : Int) := of_decide_eq_true (by first | (with_reducible assumption) | assumption)
            have q138 : x5_1 < (l0.length : Int) := of_decide_eq_true (by first | (with_reducible assumption) | assumption)
            obtain ⟨ad138, e138, hx138_0, hx138_1⟩ := at_T28 HR0.out x5_1 p138 q138
            cases e138
            replace hx138_0 := (HB.out.cell (World.block_lt_of_cell? w _ hx138_0)).trans hx138_0
            replace hx138_1 := (HB.out.cell (World.block_lt_of_cell? w _ hx138_1)).trans hx138_1
            replace p138 := eq_true p138
            replace q138 := eq_true q138
            try go_wp2_with (first | ((with_reducible refine gate_callee (f := 12) rfl ?_); refine goesL_ (some 25) rfl rfl Tryd.func12 (by kernel_rfl) rfl #[.int .i64 x4_1, .agg #[.bool ((rd_T28 l0 x5_1).f0), .int .i64 ((rd_T28 l0 x5_1).f1)]] rfl (by (try simp only [List.map_toArray, List.map_cons, List.map_nil]); first | done | rfl | (simp only [List.length_drop, List.length_take]; rfl)) ?_; (with_reducible refine (heraldlaw10_next.calls x4_1 ((rd_T28 l0 x5_1).f0) ((rd_T28 l0 x5_1).f1) t139 t140 t141 _ ?side1 A9.out).mono ?_); (case side1 => exact GL.below HG.out (by repeat (first | (with_reducible first | exact HB.out | apply below_alloc | apply pw_below_drewN | apply below_drew1 | refine below_set ?_ GE137.out) | exact HB.out))); rintro e w12 ⟨rfl, hb⟩; refine ⟨_, rfl, ?_⟩; have n0_ := Aside0.mk (blk_below (g := gb137) (o := .cells #[.bool x138000_1, .bool x138001_1, .bool x138002_1, .bool x138003_1] 37 (0, 0)) (by (with_reducible repeat (first | refine blk_drewN ?_ _ | refine blk_drew ?_ | refine blk_alloc ?_ _)); exact BK137.out) hb); have n1_ := Aside0.mk (below_step (by repeat (first | (with_reducible first | exact HB.out | apply below_alloc | apply pw_below_drewN | apply below_drew1 | refine below_set ?_ GE137.out) | exact HB.out)) hb); clear BK137; clear HB; have BK137 := n0_; have HB := n1_; clear n0_ n1_; (try clear hb); (try clear hb2); (try clear hk); (try clear hi)))
            have n0_ := Aside0.mk (blk_drew BK137.out)
            have n1_ := Aside0.mk (below_drew1 HB.out)
            clear BK137
            clear HB
            have BK137 := n0_
            have HB := n1_
            clear n0_ n1_
            have p142 : 0 ≤ (x5_1 : Int) := of_decide_eq_true (by first | (with_reducible assumption) | assumption)
            have q142 : x5_1 < (l0.length : Int) := of_decide_eq_true (by first | (with_reducible assumption) | assumption)
            obtain ⟨ad142, e142, hx142_0, hx142_1⟩ := at_T28 HR0.out x5_1 p142 q142
            have hw142_1 := hx142_1
            have hw142_0 := hx142_0
            obtain rfl : ad138 = ad142 := (by injection e142)
            replace hx142_0 := (HB.out.cell (World.block_lt_of_cell? w _ hx142_0)).trans hx142_0
            replace hx142_1 := (HB.out.cell (World.block_lt_of_cell? w _ hx142_1)).trans hx142_1
            replace p142 := eq_true p142
            replace q142 := eq_true q142
            refine start_ (n := 7) (S := fun w' => w'.cell? ⟨gb137, 0, none⟩ = some (.bool x138000_1) ∧ w'.cell? ⟨gb137, 1, none⟩ = some (.bool x138001_1) ∧ w'.cell? ⟨gb137, 2, none⟩ = some (.bool x138002_1) ∧ w'.cell? ⟨gb137, 3, none⟩ = some (.bool x138003_1) ∧ w'.cell? (ad138.add ((x5_1).toNat * 2)) = some (.bool ((rd_T28 l0 x5_1).f0)) ∧ w'.cell? ⟨(ad138.add ((x5_1).toNat * 2)).block, (ad138.add ((x5_1).toNat * 2)).off + 1, none⟩ = some (.int .i64 ((rd_T28 l0 x5_1).f1))) (ds := []) #[false, false, false, false, false, false, false] (by kernel_rfl) rfl rfl ⟨(blk_cell BK137.out 0).trans rfl, (blk_cell BK137.out 1).trans rfl, (blk_cell BK137.out 2).trans rfl, (blk_cell BK137.out 3).trans rfl, ((HB.out.cell (World.block_lt_of_cell? w _ hw142_0)).trans hw142_0), ((HB.out.cell (World.block_lt_of_cell? w _ hw142_1)).trans hw142_1)⟩ (fun hHeld => ?_)
            generalize w12.drew = w13 at BK137 HB hx142_0 hx142_1 hHeld ⊢
            refine pure_ (i := 1) (N := some 30) (v := ?_) (a' := ?_) #[false, true, false, false, false, false, false] rfl rfl (by kernel_rfl) (fun _ _ _ h => h) (Or.inl ⟨by rfl, ?_⟩) ?_ ?_
            rotate_left
            · intro w'
              go_simp
              with_reducible rfl
            rotate_left
            · simp only [Act.put, List.setIfInBounds_toArray, List.set_cons_zero, List.set_cons_succ, i64_w, i32_w]
              rfl
            refine pure_ (i := 2) (N := some 31) (v := ?_) (a' := ?_) #[false, true, true, false, false, false, false] rfl rfl (by kernel_rfl) (fun _ _ _ h => h) (Or.inl ⟨by rfl, ?_⟩) ?_ ?_
            rotate_left
            · intro w'
              go_simp
              with_reducible rfl
            rotate_left
            · simp only [Act.put, List.setIfInBounds_toArray, List.set_cons_zero, List.set_cons_succ, i64_w, i32_w]
              rfl
            refine pure_ (i := 3) (N := some 32) (v := ?_) (a' := ?_) #[false, true, true, true, false, false, false] rfl rfl (by kernel_rfl) (fun _ _ _ h => h) (Or.inl ⟨by rfl, ?_⟩) ?_ ?_
            rotate_left
            · intro w'
              go_simp
              with_reducible rfl
            rotate_left
            · simp only [Act.put, List.setIfInBounds_toArray, List.set_cons_zero, List.set_cons_succ, i64_w, i32_w]
              rfl
            refine take_ (i := 0) (N := some 29) (v := ?_) (a' := ?_) #[true, true, true, true, false, false, false] rfl rfl (by kernel_rfl) (fun _ _ _ h => h) (Or.inl ⟨by rfl, ?_⟩) hHeld ?_ ?_
            rotate_left
            · rintro w' ⟨s0, s1, s2, s3, s4, s5⟩
              go_simp
              with_reducible rfl
            rotate_left
            · simp only [Act.put, List.setIfInBounds_toArray, List.set_cons_zero, List.set_cons_succ, i64_w, i32_w]
              rfl
            refine take_ (i := 4) (N := some 33) (v := ?_) (a' := ?_) #[true, true, true, true, true, false, false] rfl rfl (by kernel_rfl) (fun _ _ _ h => h) (Or.inl ⟨by rfl, ?_⟩) hHeld ?_ ?_
            rotate_left
            · rintro w' ⟨s0, s1, s2, s3, s4, s5⟩
              go_simp
              with_reducible rfl
            rotate_left
            · simp only [Act.put, List.setIfInBounds_toArray, List.set_cons_zero, List.set_cons_succ, i64_w, i32_w]
              rfl
            refine one_ (i := 5) (N := some 34) #[true, true, true, true, true, true, false] rfl rfl (by kernel_rfl) (by decide) (fun K hK => ?_)
            refine goes_ Tryd.func14 (by kernel_rfl) rfl #[.agg #[.bool x138000_1, .bool x138001_1, .bool x138002_1, .bool x138003_1], .agg #[.bool ((rd_T28 l0 x5_1).f0), .int .i64 ((rd_T28 l0 x5_1).f1)]] (by rfl) rfl rfl (by (try simp only [List.map_toArray, List.map_cons, List.map_nil]); first | done | rfl | (simp only [List.length_drop, List.length_take]; rfl)) ?_
            with_reducible refine (heraldlaw10_Book_fine.calls k1 x138000_1 x138001_1 x138002_1 x138003_1 ((rd_T28 l0 x5_1).f0) ((rd_T28 l0 x5_1).f1) t143 _ A10.out).mono ?_
            rintro e w14 ⟨rfl, hb⟩
            refine ⟨_, rfl, ?_⟩
            have n0_ := Aside0.mk (blk_below (g := gb137) (o := .cells #[.bool x138000_1, .bool x138001_1, .bool x138002_1, .bool x138003_1] 37 (0, 0)) (by (with_reducible repeat (first | refine blk_drewN ?_ _ | refine blk_drew ?_ | refine blk_alloc ?_ _)); exact BK137.out) hb)
            have n1_ := Aside0.mk (below_step (by repeat (first | (with_reducible first | exact HB.out | apply below_alloc | apply pw_below_drewN | apply below_drew1 | refine below_set ?_ GE137.out) | exact HB.out)) hb)
            clear BK137
            clear HB
            have BK137 := n0_
            have HB := n1_
            clear n0_ n1_
            (try clear hb)
            (try clear hb2)
            (try clear hk)
            (try clear hi)
            refine hK.out _ _ ⟨(blk_cell BK137.out 0).trans rfl, (blk_cell BK137.out 1).trans rfl, (blk_cell BK137.out 2).trans rfl, (blk_cell BK137.out 3).trans rfl, ((HB.out.cell (World.block_lt_of_cell? w _ hw142_0)).trans hw142_0), ((HB.out.cell (World.block_lt_of_cell? w _ hw142_1)).trans hw142_1)⟩ (fun hHeld => ?_)
            clear hK K
            refine norm_ (a' := ?_) ?_ ?_
            rotate_left
            · show Act.put _ (some 34) _ = _
              simp only [Act.put, List.setIfInBounds_toArray, List.set_cons_zero, List.set_cons_succ, i64_w, i32_w]
              rfl
            refine pure_ (i := 6) (N := some 9) (v := ?_) (a' := ?_) #[true, true, true, true, true, true, true] rfl rfl (by kernel_rfl) (fun _ _ _ h => h) (Or.inl ⟨by rfl, ?_⟩) ?_ ?_
            rotate_left
            · intro w'
              go_simp
              with_reducible rfl
            rotate_left
            · simp only [Act.put, List.setIfInBounds_toArray, List.set_cons_zero, List.set_cons_succ, i64_w, i32_w]
              rfl
            refine done_ (by kernel_rfl) ?_
            go_upto_region 10 with (fail)
            go_cut [46] (fun v46 wc => ∃ (kq : Nat) (x46_10 : Bool), v46 = .bool x46_10 ∧ Aside0 (heraldlaw10_StateBook.j1 kq l0 x5_1 t139 t143 x46_10 x138000_1 x138001_1 x138002_1 x138003_1 = some r) ∧ Aside0 (kq ≤ k1) ∧ Aside0 (wc.heap[gb137]? = some (.cells #[.bool x138000_1, .bool x138001_1, .bool x138002_1, .bool x138003_1] 37 (0, 0))) ∧ Aside0 (Below w.heap.size w wc))
            case first =>
              have H := HC11.out
              clear HC11
              by_cases c15 : t143 = true
              · subst c15
                have H1 : (if t140 = 0 then (heraldlaw10_StateBook.j1 k1 l0 x5_1 t139 true (t141 != 0) x138000_1 x138001_1 x138002_1 x138003_1) else (heraldlaw10_StateBook.j1 k1 l0 x5_1 t139 true true x138000_1 x138001_1 x138002_1 x138003_1)) = some r := by rw [if_pos rfl] at H; exact H
                clear H
                have H := H1
                clear H1
                by_cases c16 : t140 = 0
                · rw [if_pos c16] at H
                  have c16b0 : (t140 == 0) = true := beq_iff_eq.mpr c16
                  have c16b1 : (t140 != 0) = false := bne_eq_false_iff_eq.mpr c16
                  clear c16
                  (first | rw [c16b0] | (simp only [i64_w, i32_w]; rw [c16b0]) | skip)
                  as_aux_lemma =>
                    have H' := Aside0.mk H
                    clear H
                    go_wp2
                    go_meet
                    case rel => exact ⟨_, ((t141 != 0)), (by first | rfl | (simp; done) | (simp [*]; done)), H', ⟨by have := HK1.out; first | omega | exact Nat.le_refl _⟩, ⟨by (with_reducible repeat (first | refine blk_drewN ?_ _ | refine blk_drew ?_ | refine blk_alloc ?_ _)); exact BK137.out⟩, ⟨by repeat (first | (with_reducible first | exact HB.out | apply below_alloc | apply pw_below_drewN | apply below_drew1 | refine below_set ?_ GE137.out) | exact HB.out)⟩⟩
                · rw [if_neg c16] at H
                  have c16b0 : (t140 == 0) = false := beq_eq_false_iff_ne.mpr c16
                  have c16b1 : (t140 != 0) = true := bne_iff_ne.mpr c16
                  (first | rw [c16b0] | (simp only [i64_w, i32_w]; rw [c16b0]) | skip)
                  as_aux_lemma =>
                    have H' := Aside0.mk H
                    clear H
                    go_wp2
                    go_meet
                    case rel => exact ⟨_, (true), (by first | rfl | (simp; done) | (simp [*]; done)), H', ⟨by have := HK1.out; first | omega | exact Nat.le_refl _⟩, ⟨by (with_reducible repeat (first | refine blk_drewN ?_ _ | refine blk_drew ?_ | refine blk_alloc ?_ _)); exact BK137.out⟩, ⟨by repeat (first | (with_reducible first | exact HB.out | apply below_alloc | apply pw_below_drewN | apply below_drew1 | refine below_set ?_ GE137.out) | exact HB.out)⟩⟩
              · replace c15 := Bool.eq_false_iff.mpr c15
                subst c15
                have H1 : (if t140 = 0 then (heraldlaw10_StateBook.j1 k1 l0 x5_1 t139 false true x138000_1 x138001_1 x138002_1 x138003_1) else (heraldlaw10_StateBook.j1 k1 l0 x5_1 t139 false false x138000_1 x138001_1 x138002_1 x138003_1)) = some r := by rw [if_neg (show ¬ (false = true) by decide)] at H; exact H
                clear H
                have H := H1
                clear H1
                by_cases c17 : t140 = 0
                · rw [if_pos c17] at H
                  have c17b0 : (t140 == 0) = true := beq_iff_eq.mpr c17
                  have c17b1 : (t140 != 0) = false := bne_eq_false_iff_eq.mpr c17
                  clear c17
                  as_aux_lemma =>
                    have H' := Aside0.mk H
                    clear H
                    go_wp2
                    go_meet
                    case rel => exact ⟨_, (true), (by first | rfl | (simp; done) | (simp [*]; done)), H', ⟨by have := HK1.out; first | omega | exact Nat.le_refl _⟩, ⟨by (with_reducible repeat (first | refine blk_drewN ?_ _ | refine blk_drew ?_ | refine blk_alloc ?_ _)); exact BK137.out⟩, ⟨by repeat (first | (with_reducible first | exact HB.out | apply below_alloc | apply pw_below_drewN | apply below_drew1 | refine below_set ?_ GE137.out) | exact HB.out)⟩⟩
                · rw [if_neg c17] at H
                  have c17b0 : (t140 == 0) = false := beq_eq_false_iff_ne.mpr c17
                  have c17b1 : (t140 != 0) = true := bne_iff_ne.mpr c17
                  as_aux_lemma =>
                    have H' := Aside0.mk H
                    clear H
                    go_wp2
                    go_meet
                    case rel => exact ⟨_, (false), (by first | rfl | (simp; done) | (simp [*]; done)), H', ⟨by have := HK1.out; first | omega | exact Nat.le_refl _⟩, ⟨by (with_reducible repeat (first | refine blk_drewN ?_ _ | refine blk_drew ?_ | refine blk_alloc ?_ _)); exact BK137.out⟩, ⟨by repeat (first | (with_reducible first | exact HB.out | apply below_alloc | apply pw_below_drewN | apply below_drew1 | refine below_set ?_ GE137.out) | exact HB.out)⟩⟩
            case rest =>
              clear HC11
              try clear c1
              try clear p1
              try clear q1
              try clear hx1
              try clear p2
              try clear c3
              try clear c5
              try clear c7
              try clear c7b0
              try clear c8
              try clear c8b0
              try clear c12
              try clear p13
              try clear q13
              try clear hx13
              try clear c14
              try clear p14
              try clear q14
              try clear hx14
              try clear c15
              try clear c16
              try clear c16b0
              try clear c16b1
              try clear c17
              try clear c17b0
              try clear c17b1
              try clear hcz6_0
              try clear hcz6_1
              try clear hcz6_2
              try clear hcz6_3
              try clear hfz6_0
              try clear hfz6_1
              try clear hfz6_2
              try clear hfz6_3
              try clear hx138_0
              try clear hx138_1
              try clear hx142_0
              try clear hx142_1
              try clear p138
              try clear p142
              try clear p2
              try clear q138
              try clear q142
              obtain ⟨kq, x46_10, rfl, HA, HJ10, BK137, HB⟩ := hcut
              cases kq with
              | zero => exact absurd HA.out (by simp [heraldlaw10_StateBook.j1])
              | succ kj10 =>
                have H := HA.out
                clear HA
                simp only [heraldlaw10_StateBook.j1] at H
                by_cases c18 : x46_10 = true
                · subst c18
                  have H1 : (some false) = some r := by rw [if_pos rfl] at H; exact H
                  clear H
                  have H := H1
                  clear H1
                  as_aux_lemma =>
                    obtain rfl := Option.some.inj H
                    go_wp2
                    go_ret
                    exact ⟨by first | rfl | (simp [errW_none, errW_some] <;> rfl) | (simp [*, errW_none, errW_some] <;> rfl), by repeat (first | (with_reducible first | exact HB.out | apply below_alloc | apply pw_below_drewN | apply below_drew1 | refine below_set ?_ GE137.out) | exact HB.out)⟩
                · replace c18 := Bool.eq_false_iff.mpr c18
                  subst c18
                  have H1 : (if t143 = true then (if 0 ≤ x5_1 then (if x5_1 < (l0.length : Int) then ((heraldlaw10_Book_behind.f kj10 x138000_1 x138001_1 x138002_1 x138003_1 ((rd_T28 l0 x5_1).f0) ((rd_T28 l0 x5_1).f1)).bind fun bt145 => (heraldlaw10_StateBook.j2 kj10 l0 x5_1 t139 bt145.1 bt145.2.1 bt145.2.2.1 bt145.2.2.2)) else (none)) else (none)) else (heraldlaw10_StateBook.j2 kj10 l0 x5_1 t139 x138000_1 x138001_1 x138002_1 x138003_1)) = some r := by rw [if_neg (show ¬ (false = true) by decide)] at H; exact H
                  clear H
                  have H := H1
                  clear H1
                  have HC19 := Aside0.mk H
                  clear H
                  go_upto_if 47 with (fail)
                  go_cut [] (fun wc => ∃ (kq : Nat) (x138000_18 : Bool) (x138001_18 : Bool) (x138002_18 : Bool) (x138003_18 : Bool), Aside0 (heraldlaw10_StateBook.j2 kq l0 x5_1 t139 x138000_18 x138001_18 x138002_18 x138003_18 = some r) ∧ Aside0 (kq ≤ kj10) ∧ Aside0 (wc.heap[gb137]? = some (.cells #[.bool x138000_18, .bool x138001_18, .bool x138002_18, .bool x138003_18] 37 (0, 0))) ∧ Aside0 (Below w.heap.size w wc))
                  case first =>
                    have H := HC19.out
                    clear HC19
                    by_cases c20 : t143 = true
                    · subst c20
                      have H1 : (if 0 ≤ x5_1 then (if x5_1 < (l0.length : Int) then ((heraldlaw10_Book_behind.f kj10 x138000_1 x138001_1 x138002_1 x138003_1 ((rd_T28 l0 x5_1).f0) ((rd_T28 l0 x5_1).f1)).bind fun bt145 => (heraldlaw10_StateBook.j2 kj10 l0 x5_1 t139 bt145.1 bt145.2.1 bt145.2.2.1 bt145.2.2.2)) else (none)) else (none)) = some r := by rw [if_pos rfl] at H; exact H
                      clear H
                      have H := H1
                      clear H1
                      by_cases c21 : 0 ≤ x5_1
                      · rw [if_pos c21] at H
                        have c21b0 : decide (0 ≤ x5_1) = true := decide_eq_true c21
                        clear c21
                        (first | rw [c21b0] | (simp only [i64_w, i32_w]; rw [c21b0]) | skip)
                        by_cases c22 : x5_1 < (l0.length : Int)
                        · rw [if_pos c22] at H
                          have c22b0 : decide (x5_1 < (l0.length : Int)) = true := decide_eq_true c22
                          clear c22
                          replace H := Option.bind_eq_some_iff.mp H
                          obtain ⟨⟨t145, t146, t147, t148⟩, A230, H⟩ := H
                          replace H : (heraldlaw10_StateBook.j2 kj10 l0 x5_1 t139 t145 t146 t147 t148) = some r := H
                          have A23 := Aside0.mk A230
                          clear A230
                          as_aux_lemma =>
                            have H' := Aside0.mk H
                            clear H
                            try go_wp2
                            have n0_ := Aside0.mk (blk_drew BK137.out)
                            have n1_ := Aside0.mk (below_drew1 HB.out)
                            clear BK137
                            clear HB
                            have BK137 := n0_
                            have HB := n1_
                            clear n0_ n1_
                            have p144 : 0 ≤ (x5_1 : Int) := of_decide_eq_true (by first | (with_reducible assumption) | assumption)
                            have q144 : x5_1 < (l0.length : Int) := of_decide_eq_true (by first | (with_reducible assumption) | assumption)
                            obtain ⟨ad144, e144, hx144_0, hx144_1⟩ := at_T28 HR0.out x5_1 p144 q144
                            have hw144_1 := hx144_1
                            have hw144_0 := hx144_0
                            obtain rfl : ad138 = ad144 := (by injection e144)
                            replace hx144_0 := (HB.out.cell (World.block_lt_of_cell? w _ hx144_0)).trans hx144_0
                            replace hx144_1 := (HB.out.cell (World.block_lt_of_cell? w _ hx144_1)).trans hx144_1
                            replace p144 := eq_true p144
                            replace q144 := eq_true q144
                            refine start_ (n := 7) (S := fun w' => w'.cell? ⟨gb137, 0, none⟩ = some (.bool x138000_1) ∧ w'.cell? ⟨gb137, 1, none⟩ = some (.bool x138001_1) ∧ w'.cell? ⟨gb137, 2, none⟩ = some (.bool x138002_1) ∧ w'.cell? ⟨gb137, 3, none⟩ = some (.bool x138003_1) ∧ w'.cell? (ad138.add ((x5_1).toNat * 2)) = some (.bool ((rd_T28 l0 x5_1).f0)) ∧ w'.cell? ⟨(ad138.add ((x5_1).toNat * 2)).block, (ad138.add ((x5_1).toNat * 2)).off + 1, none⟩ = some (.int .i64 ((rd_T28 l0 x5_1).f1))) (ds := [6]) #[false, false, false, false, false, false, false] (by kernel_rfl) rfl rfl ⟨(blk_cell BK137.out 0).trans rfl, (blk_cell BK137.out 1).trans rfl, (blk_cell BK137.out 2).trans rfl, (blk_cell BK137.out 3).trans rfl, ((HB.out.cell (World.block_lt_of_cell? w _ hw144_0)).trans hw144_0), ((HB.out.cell (World.block_lt_of_cell? w _ hw144_1)).trans hw144_1)⟩ (fun hHeld => ?_)
                            generalize wc.drew = w24 at BK137 HB hx144_0 hx144_1 hHeld ⊢
                            refine pure_ (i := 1) (N := some 49) (v := ?_) (a' := ?_) #[false, true, false, false, false, false, false] rfl rfl (by kernel_rfl) (fun _ _ _ h => h) (Or.inl ⟨by rfl, ?_⟩) ?_ ?_
                            rotate_left
                            · intro w'
                              go_simp
                              with_reducible rfl
                            rotate_left
                            · simp only [Act.put, List.setIfInBounds_toArray, List.set_cons_zero, List.set_cons_succ, i64_w, i32_w]
                              rfl
                            refine pure_ (i := 2) (N := some 50) (v := ?_) (a' := ?_) #[false, true, true, false, false, false, false] rfl rfl (by kernel_rfl) (fun _ _ _ h => h) (Or.inl ⟨by rfl, ?_⟩) ?_ ?_
                            rotate_left
                            · intro w'
                              go_simp
                              with_reducible rfl
                            rotate_left
                            · simp only [Act.put, List.setIfInBounds_toArray, List.set_cons_zero, List.set_cons_succ, i64_w, i32_w]
                              rfl
                            refine pure_ (i := 3) (N := some 51) (v := ?_) (a' := ?_) #[false, true, true, true, false, false, false] rfl rfl (by kernel_rfl) (fun _ _ _ h => h) (Or.inl ⟨by rfl, ?_⟩) ?_ ?_
                            rotate_left
                            · intro w'
                              go_simp
                              with_reducible rfl
                            rotate_left
                            · simp only [Act.put, List.setIfInBounds_toArray, List.set_cons_zero, List.set_cons_succ, i64_w, i32_w]
                              rfl
                            refine take_ (i := 0) (N := some 48) (v := ?_) (a' := ?_) #[true, true, true, true, false, false, false] rfl rfl (by kernel_rfl) (fun _ _ _ h => h) (Or.inl ⟨by rfl, ?_⟩) hHeld ?_ ?_
                            rotate_left
                            · rintro w' ⟨s0, s1, s2, s3, s4, s5⟩
                              go_simp
                              with_reducible rfl
                            rotate_left
                            · simp only [Act.put, List.setIfInBounds_toArray, List.set_cons_zero, List.set_cons_succ, i64_w, i32_w]
                              rfl
                            refine take_ (i := 4) (N := some 52) (v := ?_) (a' := ?_) #[true, true, true, true, true, false, false] rfl rfl (by kernel_rfl) (fun _ _ _ h => h) (Or.inl ⟨by rfl, ?_⟩) hHeld ?_ ?_
                            rotate_left
                            · rintro w' ⟨s0, s1, s2, s3, s4, s5⟩
                              go_simp
                              with_reducible rfl
                            rotate_left
                            · simp only [Act.put, List.setIfInBounds_toArray, List.set_cons_zero, List.set_cons_succ, i64_w, i32_w]
                              rfl
                            refine one_ (i := 5) (N := some 53) #[true, true, true, true, true, true, false] rfl rfl (by kernel_rfl) (by decide) (fun K hK => ?_)
                            refine goes_ Tryd.func15 (by kernel_rfl) rfl #[.agg #[.bool x138000_1, .bool x138001_1, .bool x138002_1, .bool x138003_1], .agg #[.bool ((rd_T28 l0 x5_1).f0), .int .i64 ((rd_T28 l0 x5_1).f1)]] (by rfl) rfl rfl (by (try simp only [List.map_toArray, List.map_cons, List.map_nil]); first | done | rfl | (simp only [List.length_drop, List.length_take]; rfl)) ?_
                            with_reducible refine (heraldlaw10_Book_behind.calls kj10 x138000_1 x138001_1 x138002_1 x138003_1 ((rd_T28 l0 x5_1).f0) ((rd_T28 l0 x5_1).f1) t145 t146 t147 t148 _ A23.out).mono ?_
                            rintro e w25 ⟨rfl, hb⟩
                            refine ⟨_, rfl, ?_⟩
                            have n0_ := Aside0.mk (blk_below (g := gb137) (o := .cells #[.bool x138000_1, .bool x138001_1, .bool x138002_1, .bool x138003_1] 37 (0, 0)) (by (with_reducible repeat (first | refine blk_drewN ?_ _ | refine blk_drew ?_ | refine blk_alloc ?_ _)); exact BK137.out) hb)
                            have n1_ := Aside0.mk (below_step (by repeat (first | (with_reducible first | exact HB.out | apply below_alloc | apply pw_below_drewN | apply below_drew1 | refine below_set ?_ GE137.out) | exact HB.out)) hb)
                            clear BK137
                            clear HB
                            have BK137 := n0_
                            have HB := n1_
                            clear n0_ n1_
                            (try clear hb)
                            (try clear hb2)
                            (try clear hk)
                            (try clear hi)
                            refine hK.out _ _ ⟨(blk_cell BK137.out 0).trans rfl, (blk_cell BK137.out 1).trans rfl, (blk_cell BK137.out 2).trans rfl, (blk_cell BK137.out 3).trans rfl, ((HB.out.cell (World.block_lt_of_cell? w _ hw144_0)).trans hw144_0), ((HB.out.cell (World.block_lt_of_cell? w _ hw144_1)).trans hw144_1)⟩ (fun hHeld => ?_)
                            clear hK K
                            refine norm_ (a' := ?_) ?_ ?_
                            rotate_left
                            · show Act.put _ (some 53) _ = _
                              simp only [Act.put, List.setIfInBounds_toArray, List.set_cons_zero, List.set_cons_succ, i64_w, i32_w]
                              rfl
                            refine last_ (i := 6) (N := none) #[true, true, true, true, true, true, true] rfl rfl (by kernel_rfl) (by decide) (fun K hK => ?_)
                            have hs26 : w25.cell? ⟨gb137, 0, none⟩ = some (.bool x138000_1) := (blk_cell BK137.out 0).trans rfl
                            have hfs26 := blk_frozen BK137.out 0
                            have hs27 : w25.cell? ⟨gb137, 1, none⟩ = some (.bool x138001_1) := (blk_cell BK137.out 1).trans rfl
                            have hfs27 := blk_frozen BK137.out 1
                            have hs28 : w25.cell? ⟨gb137, 2, none⟩ = some (.bool x138002_1) := (blk_cell BK137.out 2).trans rfl
                            have hfs28 := blk_frozen BK137.out 2
                            have hs29 : w25.cell? ⟨gb137, 3, none⟩ = some (.bool x138003_1) := (blk_cell BK137.out 3).trans rfl
                            have hfs29 := blk_frozen BK137.out 3
                            refine skip_ (w1 := ?_) (by rfl) rfl ?_ ?_
                            rotate_left
                            · go_simp
                              rfl
                            refine hK.out _ _ ?_
                            clear hK K
                            refine done_ (by kernel_rfl) ?_
                            try go_wp2
                            go_meet
                            case rel => exact ⟨_, (t145), (t146), (t147), (t148), H', ⟨by have := HK1.out; have := HJ10.out; first | omega | exact Nat.le_refl _⟩, ⟨by (with_reducible repeat (first | refine blk_drewN ?_ _ | refine blk_drew ?_ | refine blk_alloc ?_ _)); refine blk_put (cs := #[.bool t145, .bool t146, .bool t147, .bool x138003_1]) ?_ 3 _ rfl; (with_reducible repeat (first | refine blk_drewN ?_ _ | refine blk_drew ?_ | refine blk_alloc ?_ _)); refine blk_put (cs := #[.bool t145, .bool t146, .bool x138002_1, .bool x138003_1]) ?_ 2 _ rfl; (with_reducible repeat (first | refine blk_drewN ?_ _ | refine blk_drew ?_ | refine blk_alloc ?_ _)); refine blk_put (cs := #[.bool t145, .bool x138001_1, .bool x138002_1, .bool x138003_1]) ?_ 1 _ rfl; (with_reducible repeat (first | refine blk_drewN ?_ _ | refine blk_drew ?_ | refine blk_alloc ?_ _)); refine blk_put (cs := #[.bool x138000_1, .bool x138001_1, .bool x138002_1, .bool x138003_1]) ?_ 0 _ rfl; (with_reducible repeat (first | refine blk_drewN ?_ _ | refine blk_drew ?_ | refine blk_alloc ?_ _)); exact BK137.out⟩, ⟨by repeat (first | (with_reducible first | exact HB.out | apply below_alloc | apply pw_below_drewN | apply below_drew1 | refine below_set ?_ GE137.out) | exact HB.out)⟩⟩
                        · rw [if_neg c22] at H
                          exact absurd H (by simp)
                      · rw [if_neg c21] at H
                        exact absurd H (by simp)
                    · replace c20 := Bool.eq_false_iff.mpr c20
                      subst c20
                      have H1 : (heraldlaw10_StateBook.j2 kj10 l0 x5_1 t139 x138000_1 x138001_1 x138002_1 x138003_1) = some r := by rw [if_neg (show ¬ (false = true) by decide)] at H; exact H
                      clear H
                      have H := H1
                      clear H1
                      as_aux_lemma =>
                        have H' := Aside0.mk H
                        clear H
                        go_wp2
                        go_meet
                        case rel => exact ⟨_, (x138000_1), (x138001_1), (x138002_1), (x138003_1), H', ⟨by have := HK1.out; have := HJ10.out; first | omega | exact Nat.le_refl _⟩, ⟨by (with_reducible repeat (first | refine blk_drewN ?_ _ | refine blk_drew ?_ | refine blk_alloc ?_ _)); exact BK137.out⟩, ⟨by repeat (first | (with_reducible first | exact HB.out | apply below_alloc | apply pw_below_drewN | apply below_drew1 | refine below_set ?_ GE137.out) | exact HB.out)⟩⟩
                  case rest =>
                    clear HC19
                    try clear c1
                    try clear p1
                    try clear q1
                    try clear hx1
                    try clear c2
                    try clear p2
                    try clear c3
                    try clear c5
                    try clear c7
                    try clear c7b0
                    try clear c8
                    try clear c8b0
                    try clear c12
                    try clear p13
                    try clear q13
                    try clear hx13
                    try clear c14
                    try clear p14
                    try clear q14
                    try clear hx14
                    try clear c15
                    try clear c16
                    try clear c16b0
                    try clear c16b1
                    try clear c17
                    try clear c17b0
                    try clear c17b1
                    try clear c18
                    try clear c20
                    try clear c21
                    try clear c21b0
                    try clear c22
                    try clear c22b0
                    try clear hcz6_0
                    try clear hcz6_1
                    try clear hcz6_2
                    try clear hcz6_3
                    try clear hfz6_0
                    try clear hfz6_1
                    try clear hfz6_2
                    try clear hfz6_3
                    try clear hx138_0
                    try clear hx138_1
                    try clear hx142_0
                    try clear hx142_1
                    try clear hx144_0
                    try clear hx144_1
                    try clear p1
                    try clear p13
                    try clear p138
                    try clear p14
                    try clear p142
                    try clear p144
                    try clear p2
                    try clear q1
                    try clear q13
                    try clear q138
                    try clear q14
                    try clear q142
                    try clear q144
                    obtain ⟨kq, x138000_18, x138001_18, x138002_18, x138003_18, HA, HJ18, BK137, HB⟩ := hcut
                    cases kq with
                    | zero => exact absurd HA.out (by simp [heraldlaw10_StateBook.j2])
                    | succ kj18 =>
                      have H := HA.out
                      clear HA
                      simp only [heraldlaw10_StateBook.j2] at H
                      replace H := Option.bind_eq_some_iff.mp H
                      obtain ⟨t149, A300, H⟩ := H
                      replace H : (if t139 = t149 then ((state_Counts.f kj18 t139).bind fun t150 => (if x138001_18 = true then ((heraldlaw10_Book_over.f x138000_18 x138001_18 x138002_18 x138003_18).bind fun t151 => (if t150 = true then (if t151 = true then (some false) else (heraldlaw10_StateBook.l0 kj18 l0 t139 (wrap64 (x5_1 + 1)) x138000_18 x138001_18 x138002_18 x138003_18)) else (if t151 = true then (heraldlaw10_StateBook.l0 kj18 l0 t139 (wrap64 (x5_1 + 1)) x138000_18 x138001_18 x138002_18 x138003_18) else (some false)))) else (if t150 = true then (some false) else (heraldlaw10_StateBook.l0 kj18 l0 t139 (wrap64 (x5_1 + 1)) x138000_18 x138001_18 x138002_18 x138003_18)))) else (some false)) = some r := H
                      have A30 := Aside0.mk A300
                      clear A300
                      by_cases c31 : t139 = t149
                      · rw [if_pos c31] at H
                        have c31b0 : (t139 == t149) = true := beq_iff_eq.mpr c31
                        have c31b1 : (t139 != t149) = false := bne_eq_false_iff_eq.mpr c31
                        clear c31
                        replace H := Option.bind_eq_some_iff.mp H
                        obtain ⟨t150, A320, H⟩ := H
                        replace H : (if x138001_18 = true then ((heraldlaw10_Book_over.f x138000_18 x138001_18 x138002_18 x138003_18).bind fun t151 => (if t150 = true then (if t151 = true then (some false) else (heraldlaw10_StateBook.l0 kj18 l0 t139 (wrap64 (x5_1 + 1)) x138000_18 x138001_18 x138002_18 x138003_18)) else (if t151 = true then (heraldlaw10_StateBook.l0 kj18 l0 t139 (wrap64 (x5_1 + 1)) x138000_18 x138001_18 x138002_18 x138003_18) else (some false)))) else (if t150 = true then (some false) else (heraldlaw10_StateBook.l0 kj18 l0 t139 (wrap64 (x5_1 + 1)) x138000_18 x138001_18 x138002_18 x138003_18))) = some r := H
                        have A32 := Aside0.mk A320
                        clear A320
                        by_cases c33 : x138001_18 = true
                        · subst c33
                          have H1 : ((heraldlaw10_Book_over.f x138000_18 true x138002_18 x138003_18).bind fun t151 => (if t150 = true then (if t151 = true then (some false) else (heraldlaw10_StateBook.l0 kj18 l0 t139 (wrap64 (x5_1 + 1)) x138000_18 true x138002_18 x138003_18)) else (if t151 = true then (heraldlaw10_StateBook.l0 kj18 l0 t139 (wrap64 (x5_1 + 1)) x138000_18 true x138002_18 x138003_18) else (some false)))) = some r := by rw [if_pos rfl] at H; exact H
                          clear H
                          have H := H1
                          clear H1
                          replace H := Option.bind_eq_some_iff.mp H
                          obtain ⟨t151, A340, H⟩ := H
                          replace H : (if t150 = true then (if t151 = true then (some false) else (heraldlaw10_StateBook.l0 kj18 l0 t139 (wrap64 (x5_1 + 1)) x138000_18 true x138002_18 x138003_18)) else (if t151 = true then (heraldlaw10_StateBook.l0 kj18 l0 t139 (wrap64 (x5_1 + 1)) x138000_18 true x138002_18 x138003_18) else (some false))) = some r := H
                          have A34 := Aside0.mk A340
                          clear A340
                          by_cases c35 : t150 = true
                          · subst c35
                            have H1 : (if t151 = true then (some false) else (heraldlaw10_StateBook.l0 kj18 l0 t139 (wrap64 (x5_1 + 1)) x138000_18 true x138002_18 x138003_18)) = some r := by rw [if_pos rfl] at H; exact H
                            clear H
                            have H := H1
                            clear H1
                            by_cases c36 : t151 = true
                            · subst c36
                              have H1 : (some false) = some r := by rw [if_pos rfl] at H; exact H
                              clear H
                              have H := H1
                              clear H1
                              as_aux_lemma =>
                                obtain rfl := Option.some.inj H
                                try go_wp2
                                have n0_ := Aside0.mk (blk_drew BK137.out)
                                have n1_ := Aside0.mk (below_drew1 HB.out)
                                clear BK137
                                clear HB
                                have BK137 := n0_
                                have HB := n1_
                                clear n0_ n1_
                                refine start_ (n := 16) (S := fun w' => w'.cell? ⟨gb137, 0, none⟩ = some (.bool x138000_18) ∧ w'.cell? ⟨gb137, 1, none⟩ = some (.bool true) ∧ w'.cell? ⟨gb137, 2, none⟩ = some (.bool x138002_18) ∧ w'.cell? ⟨gb137, 3, none⟩ = some (.bool x138003_18)) (ds := []) #[false, false, false, false, false, false, false, false, false, false, false, false, false, false, false, false] (by kernel_rfl) rfl rfl ⟨(blk_cell BK137.out 0).trans rfl, (blk_cell BK137.out 1).trans rfl, (blk_cell BK137.out 2).trans rfl, (blk_cell BK137.out 3).trans rfl⟩ (fun hHeld => ?_); refine with_tabW heraldlaw10_StateBook.tab14 heraldlaw10_StateBook.bits14 (fun HT_ HW_ => ?_)
                                generalize wc.drew = w37 at BK137 HB hHeld ⊢
                                refine pure_ (i := 0) (N := some 54) (v := ?_) (a' := ?_) #[true, false, false, false, false, false, false, false, false, false, false, false, false, false, false, false] rfl rfl (any_of HT_.out (by kernel_rfl)) (fun _ _ _ h => h) (Or.inl ⟨by rfl, ?_⟩) ?_ ?_
                                rotate_left
                                · intro w'
                                  go_simp
                                  with_reducible rfl
                                rotate_left
                                · simp only [Act.put, List.setIfInBounds_toArray, List.set_cons_zero, List.set_cons_succ, i64_w, i32_w]
                                  rfl
                                refine take_ (i := 1) (N := some 55) (v := ?_) (a' := ?_) #[true, true, false, false, false, false, false, false, false, false, false, false, false, false, false, false] rfl rfl (take_ofW HT_.out HW_.out (by kernel_rfl)) (fun _ _ _ h => h) (Or.inl ⟨by rfl, ?_⟩) hHeld ?_ ?_
                                rotate_left
                                · rintro w' ⟨s0, s1, s2, s3⟩
                                  go_simp
                                  with_reducible rfl
                                rotate_left
                                · simp only [Act.put, List.setIfInBounds_toArray, List.set_cons_zero, List.set_cons_succ, i64_w, i32_w]
                                  rfl
                                refine one_ (i := 2) (N := some 56) #[true, true, true, false, false, false, false, false, false, false, false, false, false, false, false, false] rfl rfl (one_of HT_.out (by kernel_rfl)) (by decide) (fun K hK => ?_)
                                refine goes_ Tryd.func16 (by kernel_rfl) rfl #[.agg #[.bool x138000_18, .bool true, .bool x138002_18, .bool x138003_18]] (by rfl) rfl rfl (by (try simp only [List.map_toArray, List.map_cons, List.map_nil]); first | done | rfl | (simp only [List.length_drop, List.length_take]; rfl)) ?_
                                with_reducible refine (heraldlaw10_Book_state.calls kj18 x138000_18 true x138002_18 x138003_18 t149 _ A30.out).mono ?_
                                rintro e w38 ⟨rfl, hb⟩
                                refine ⟨_, rfl, ?_⟩
                                have n0_ := Aside0.mk (blk_below (g := gb137) (o := .cells #[.bool x138000_18, .bool true, .bool x138002_18, .bool x138003_18] 37 (0, 0)) (by (with_reducible repeat (first | refine blk_drewN ?_ _ | refine blk_drew ?_ | refine blk_alloc ?_ _)); exact BK137.out) hb)
                                have n1_ := Aside0.mk (below_step (by repeat (first | (with_reducible first | exact HB.out | apply below_alloc | apply pw_below_drewN | apply below_drew1 | refine below_set ?_ GE137.out) | exact HB.out)) hb)
                                clear BK137
                                clear HB
                                have BK137 := n0_
                                have HB := n1_
                                clear n0_ n1_
                                (try clear hb)
                                (try clear hb2)
                                (try clear hk)
                                (try clear hi)
                                refine hK.out _ _ ⟨(blk_cell BK137.out 0).trans rfl, (blk_cell BK137.out 1).trans rfl, (blk_cell BK137.out 2).trans rfl, (blk_cell BK137.out 3).trans rfl⟩ (fun hHeld => ?_)
                                clear hK K
                                refine norm_ (a' := ?_) ?_ ?_
                                rotate_left
                                · show Act.put _ (some 56) _ = _
                                  simp only [Act.put, List.setIfInBounds_toArray, List.set_cons_zero, List.set_cons_succ, i64_w, i32_w]
                                  rfl
                                refine pure_ (i := 3) (N := some 57) (v := ?_) (a' := ?_) #[true, true, true, true, false, false, false, false, false, false, false, false, false, false, false, false] rfl rfl (any_of HT_.out (by kernel_rfl)) (fun _ _ _ h => h) (Or.inl ⟨by rfl, ?_⟩) ?_ ?_
                                rotate_left
                                · intro w'
                                  go_simp
                                  with_reducible rfl
                                rotate_left
                                · simp only [Act.put, List.setIfInBounds_toArray, List.set_cons_zero, List.set_cons_succ, i64_w, i32_w]
                                  rfl
                                refine pure_ (i := 4) (N := some 58) (v := ?_) (a' := ?_) #[true, true, true, true, true, false, false, false, false, false, false, false, false, false, false, false] rfl rfl (any_of HT_.out (by kernel_rfl)) (fun _ _ _ h => h) (Or.inl ⟨by rfl, ?_⟩) ?_ ?_
                                rotate_left
                                · intro w'
                                  go_simp
                                  with_reducible rfl
                                rotate_left
                                · simp only [Act.put, List.setIfInBounds_toArray, List.set_cons_zero, List.set_cons_succ, i64_w, i32_w]
                                  rfl
                                refine pure_ (i := 5) (N := some 59) (v := ?_) (a' := ?_) #[true, true, true, true, true, true, false, false, false, false, false, false, false, false, false, false] rfl rfl (any_of HT_.out (by kernel_rfl)) (fun _ _ _ h => h) (Or.inl ⟨by rfl, ?_⟩) ?_ ?_
                                rotate_left
                                · intro w'
                                  go_simp
                                  with_reducible rfl
                                rotate_left
                                · simp only [Act.put, List.setIfInBounds_toArray, List.set_cons_zero, List.set_cons_succ, i64_w, i32_w]
                                  rfl
                                refine pure_ (i := 7) (N := some 61) (v := ?_) (a' := ?_) #[true, true, true, true, true, true, false, true, false, false, false, false, false, false, false, false] rfl rfl (any_of HT_.out (by kernel_rfl)) (fun _ _ _ h => h) (Or.inl ⟨by rfl, ?_⟩) ?_ ?_
                                rotate_left
                                · intro w'
                                  go_simp
                                  with_reducible rfl
                                rotate_left
                                · simp only [Act.put, List.setIfInBounds_toArray, List.set_cons_zero, List.set_cons_succ, i64_w, i32_w]
                                  rfl
                                refine take_ (i := 8) (N := some 62) (v := ?_) (a' := ?_) #[true, true, true, true, true, true, false, true, true, false, false, false, false, false, false, false] rfl rfl (take_ofW HT_.out HW_.out (by kernel_rfl)) (fun _ _ _ h => h) (Or.inl ⟨by rfl, ?_⟩) hHeld ?_ ?_
                                rotate_left
                                · rintro w' ⟨s0, s1, s2, s3⟩
                                  go_simp
                                  with_reducible rfl
                                rotate_left
                                · simp only [Act.put, List.setIfInBounds_toArray, List.set_cons_zero, List.set_cons_succ, i64_w, i32_w]
                                  rfl
                                refine one_ (i := 6) (N := some 60) #[true, true, true, true, true, true, true, true, true, false, false, false, false, false, false, false] rfl rfl (one_of HT_.out (by kernel_rfl)) (by decide) (fun K hK => ?_)
                                refine goes_ Tryd.func10 (by kernel_rfl) rfl #[.int .i64 t139] (by rfl) rfl rfl (by (try simp only [List.map_toArray, List.map_cons, List.map_nil]); first | done | rfl | (simp only [List.length_drop, List.length_take]; rfl)) ?_
                                with_reducible refine (state_Counts.calls kj18 t139 true _ A32.out).mono ?_
                                rintro e w39 ⟨rfl, hb⟩
                                refine ⟨_, rfl, ?_⟩
                                have n0_ := Aside0.mk (blk_below (g := gb137) (o := .cells #[.bool x138000_18, .bool true, .bool x138002_18, .bool x138003_18] 37 (0, 0)) (by (with_reducible repeat (first | refine blk_drewN ?_ _ | refine blk_drew ?_ | refine blk_alloc ?_ _)); exact BK137.out) hb)
                                have n1_ := Aside0.mk (below_step (by repeat (first | (with_reducible first | exact HB.out | apply below_alloc | apply pw_below_drewN | apply below_drew1 | refine below_set ?_ GE137.out) | exact HB.out)) hb)
                                clear BK137
                                clear HB
                                have BK137 := n0_
                                have HB := n1_
                                clear n0_ n1_
                                (try clear hb)
                                (try clear hb2)
                                (try clear hk)
                                (try clear hi)
                                refine hK.out _ _ ⟨(blk_cell BK137.out 0).trans rfl, (blk_cell BK137.out 1).trans rfl, (blk_cell BK137.out 2).trans rfl, (blk_cell BK137.out 3).trans rfl⟩ (fun hHeld => ?_)
                                clear hK K
                                refine norm_ (a' := ?_) ?_ ?_
                                rotate_left
                                · show Act.put _ (some 60) _ = _
                                  simp only [Act.put, List.setIfInBounds_toArray, List.set_cons_zero, List.set_cons_succ, i64_w, i32_w]
                                  rfl
                                refine pure_ (i := 9) (N := some 63) (v := ?_) (a' := ?_) #[true, true, true, true, true, true, true, true, true, true, false, false, false, false, false, false] rfl rfl (any_of HT_.out (by kernel_rfl)) (fun _ _ _ h => h) (Or.inl ⟨by rfl, ?_⟩) ?_ ?_
                                rotate_left
                                · intro w'
                                  go_simp
                                  with_reducible rfl
                                rotate_left
                                · simp only [Act.put, List.setIfInBounds_toArray, List.set_cons_zero, List.set_cons_succ, i64_w, i32_w]
                                  rfl
                                refine take_ (i := 10) (N := some 64) (v := ?_) (a' := ?_) #[true, true, true, true, true, true, true, true, true, true, true, false, false, false, false, false] rfl rfl (take_ofW HT_.out HW_.out (by kernel_rfl)) (fun _ _ _ h => h) (Or.inl ⟨by rfl, ?_⟩) hHeld ?_ ?_
                                rotate_left
                                · rintro w' ⟨s0, s1, s2, s3⟩
                                  go_simp
                                  with_reducible rfl
                                rotate_left
                                · simp only [Act.put, List.setIfInBounds_toArray, List.set_cons_zero, List.set_cons_succ, i64_w, i32_w]
                                  rfl
                                refine one_ (i := 11) (N := some 65) #[true, true, true, true, true, true, true, true, true, true, true, true, false, false, false, false] rfl rfl (one_of HT_.out (by kernel_rfl)) (by decide) (fun K hK => ?_)
                                refine goes_ Tryd.func17 (by kernel_rfl) rfl #[.agg #[.bool x138000_18, .bool true, .bool x138002_18, .bool x138003_18]] (by rfl) rfl rfl (by (try simp only [List.map_toArray, List.map_cons, List.map_nil]); first | done | rfl | (simp only [List.length_drop, List.length_take]; rfl)) ?_
                                with_reducible refine (heraldlaw10_Book_over.calls x138000_18 true x138002_18 x138003_18 true _ A34.out).mono ?_
                                rintro e w40 ⟨rfl, hb⟩
                                refine ⟨_, rfl, ?_⟩
                                have n0_ := Aside0.mk (blk_below (g := gb137) (o := .cells #[.bool x138000_18, .bool true, .bool x138002_18, .bool x138003_18] 37 (0, 0)) (by (with_reducible repeat (first | refine blk_drewN ?_ _ | refine blk_drew ?_ | refine blk_alloc ?_ _)); exact BK137.out) hb)
                                have n1_ := Aside0.mk (below_step (by repeat (first | (with_reducible first | exact HB.out | apply below_alloc | apply pw_below_drewN | apply below_drew1 | refine below_set ?_ GE137.out) | exact HB.out)) hb)
                                clear BK137
                                clear HB
                                have BK137 := n0_
                                have HB := n1_
                                clear n0_ n1_
                                (try clear hb)
                                (try clear hb2)
                                (try clear hk)
                                (try clear hi)
                                refine hK.out _ _ ⟨(blk_cell BK137.out 0).trans rfl, (blk_cell BK137.out 1).trans rfl, (blk_cell BK137.out 2).trans rfl, (blk_cell BK137.out 3).trans rfl⟩ (fun hHeld => ?_)
                                clear hK K
                                refine norm_ (a' := ?_) ?_ ?_
                                rotate_left
                                · show Act.put _ (some 65) _ = _
                                  simp only [Act.put, List.setIfInBounds_toArray, List.set_cons_zero, List.set_cons_succ, i64_w, i32_w]
                                  rfl
                                refine pure_ (i := 12) (N := some 66) (v := ?_) (a' := ?_) #[true, true, true, true, true, true, true, true, true, true, true, true, true, false, false, false] rfl rfl (any_of HT_.out (by kernel_rfl)) (fun _ _ _ h => h) (Or.inl ⟨by rfl, ?_⟩) ?_ ?_
                                rotate_left
                                · intro w'
                                  go_simp
                                  with_reducible rfl
                                rotate_left
                                · simp only [Act.put, List.setIfInBounds_toArray, List.set_cons_zero, List.set_cons_succ, i64_w, i32_w]
                                  rfl
                                refine pure_ (i := 13) (N := some 67) (v := ?_) (a' := ?_) #[true, true, true, true, true, true, true, true, true, true, true, true, true, true, false, false] rfl rfl (any_of HT_.out (by kernel_rfl)) (fun _ _ _ h => h) (Or.inl ⟨by rfl, ?_⟩) ?_ ?_
                                rotate_left
                                · intro w'
                                  go_simp
                                  with_reducible rfl
                                rotate_left
                                · simp only [Act.put, List.setIfInBounds_toArray, List.set_cons_zero, List.set_cons_succ, i64_w, i32_w]
                                  rfl
                                refine pure_ (i := 14) (N := some 68) (v := ?_) (a' := ?_) #[true, true, true, true, true, true, true, true, true, true, true, true, true, true, true, false] rfl rfl (any_of HT_.out (by kernel_rfl)) (fun _ _ _ h => h) (Or.inl ⟨by rfl, ?_⟩) ?_ ?_
                                rotate_left
                                · intro w'
                                  go_simp
                                  with_reducible rfl
                                rotate_left
                                · simp only [Act.put, List.setIfInBounds_toArray, List.set_cons_zero, List.set_cons_succ, i64_w, i32_w]
                                  rfl
                                refine pure_ (i := 15) (N := some 69) (v := ?_) (a' := ?_) #[true, true, true, true, true, true, true, true, true, true, true, true, true, true, true, true] rfl rfl (any_of HT_.out (by kernel_rfl)) (fun _ _ _ h => h) (Or.inl ⟨by rfl, ?_⟩) ?_ ?_
                                rotate_left
                                · intro w'
                                  go_simp
                                  with_reducible rfl
                                rotate_left
                                · simp only [Act.put, List.setIfInBounds_toArray, List.set_cons_zero, List.set_cons_succ, i64_w, i32_w]
                                  rfl
                                refine done_ (done_of HT_.out (by kernel_rfl)) ?_
                                try go_wp2
                                go_ret
                                exact ⟨by first | rfl | (simp [errW_none, errW_some] <;> rfl) | (simp [*, errW_none, errW_some] <;> rfl), by repeat (first | (with_reducible first | exact HB.out | apply below_alloc | apply pw_below_drewN | apply below_drew1 | refine below_set ?_ GE137.out) | exact HB.out)⟩
                            · replace c36 := Bool.eq_false_iff.mpr c36
                              subst c36
                              have H1 : (heraldlaw10_StateBook.l0 kj18 l0 t139 (wrap64 (x5_1 + 1)) x138000_18 true x138002_18 x138003_18) = some r := by rw [if_neg (show ¬ (false = true) by decide)] at H; exact H
                              clear H
                              have H := H1
                              clear H1
                              as_aux_lemma =>
                                have H' := Aside0.mk H
                                clear H
                                try go_wp2
                                have n0_ := Aside0.mk (blk_drew BK137.out)
                                have n1_ := Aside0.mk (below_drew1 HB.out)
                                clear BK137
                                clear HB
                                have BK137 := n0_
                                have HB := n1_
                                clear n0_ n1_
                                refine start_ (n := 16) (S := fun w' => w'.cell? ⟨gb137, 0, none⟩ = some (.bool x138000_18) ∧ w'.cell? ⟨gb137, 1, none⟩ = some (.bool true) ∧ w'.cell? ⟨gb137, 2, none⟩ = some (.bool x138002_18) ∧ w'.cell? ⟨gb137, 3, none⟩ = some (.bool x138003_18)) (ds := []) #[false, false, false, false, false, false, false, false, false, false, false, false, false, false, false, false] (by kernel_rfl) rfl rfl ⟨(blk_cell BK137.out 0).trans rfl, (blk_cell BK137.out 1).trans rfl, (blk_cell BK137.out 2).trans rfl, (blk_cell BK137.out 3).trans rfl⟩ (fun hHeld => ?_); refine with_tabW heraldlaw10_StateBook.tab14 heraldlaw10_StateBook.bits14 (fun HT_ HW_ => ?_)
                                generalize wc.drew = w41 at BK137 HB hHeld ⊢
                                refine pure_ (i := 0) (N := some 54) (v := ?_) (a' := ?_) #[true, false, false, false, false, false, false, false, false, false, false, false, false, false, false, false] rfl rfl (any_of HT_.out (by kernel_rfl)) (fun _ _ _ h => h) (Or.inl ⟨by rfl, ?_⟩) ?_ ?_
                                rotate_left
                                · intro w'
                                  go_simp
                                  with_reducible rfl
                                rotate_left
                                · simp only [Act.put, List.setIfInBounds_toArray, List.set_cons_zero, List.set_cons_succ, i64_w, i32_w]
                                  rfl
                                refine take_ (i := 1) (N := some 55) (v := ?_) (a' := ?_) #[true, true, false, false, false, false, false, false, false, false, false, false, false, false, false, false] rfl rfl (take_ofW HT_.out HW_.out (by kernel_rfl)) (fun _ _ _ h => h) (Or.inl ⟨by rfl, ?_⟩) hHeld ?_ ?_
                                rotate_left
                                · rintro w' ⟨s0, s1, s2, s3⟩
                                  go_simp
                                  with_reducible rfl
                                rotate_left
                                · simp only [Act.put, List.setIfInBounds_toArray, List.set_cons_zero, List.set_cons_succ, i64_w, i32_w]
                                  rfl
                                refine one_ (i := 2) (N := some 56) #[true, true, true, false, false, false, false, false, false, false, false, false, false, false, false, false] rfl rfl (one_of HT_.out (by kernel_rfl)) (by decide) (fun K hK => ?_)
                                refine goes_ Tryd.func16 (by kernel_rfl) rfl #[.agg #[.bool x138000_18, .bool true, .bool x138002_18, .bool x138003_18]] (by rfl) rfl rfl (by (try simp only [List.map_toArray, List.map_cons, List.map_nil]); first | done | rfl | (simp only [List.length_drop, List.length_take]; rfl)) ?_
                                with_reducible refine (heraldlaw10_Book_state.calls kj18 x138000_18 true x138002_18 x138003_18 t149 _ A30.out).mono ?_
                                rintro e w42 ⟨rfl, hb⟩
                                refine ⟨_, rfl, ?_⟩
                                have n0_ := Aside0.mk (blk_below (g := gb137) (o := .cells #[.bool x138000_18, .bool true, .bool x138002_18, .bool x138003_18] 37 (0, 0)) (by (with_reducible repeat (first | refine blk_drewN ?_ _ | refine blk_drew ?_ | refine blk_alloc ?_ _)); exact BK137.out) hb)
                                have n1_ := Aside0.mk (below_step (by repeat (first | (with_reducible first | exact HB.out | apply below_alloc | apply pw_below_drewN | apply below_drew1 | refine below_set ?_ GE137.out) | exact HB.out)) hb)
                                clear BK137
                                clear HB
                                have BK137 := n0_
                                have HB := n1_
                                clear n0_ n1_
                                (try clear hb)
                                (try clear hb2)
                                (try clear hk)
                                (try clear hi)
                                refine hK.out _ _ ⟨(blk_cell BK137.out 0).trans rfl, (blk_cell BK137.out 1).trans rfl, (blk_cell BK137.out 2).trans rfl, (blk_cell BK137.out 3).trans rfl⟩ (fun hHeld => ?_)
                                clear hK K
                                refine norm_ (a' := ?_) ?_ ?_
                                rotate_left
                                · show Act.put _ (some 56) _ = _
                                  simp only [Act.put, List.setIfInBounds_toArray, List.set_cons_zero, List.set_cons_succ, i64_w, i32_w]
                                  rfl
                                refine pure_ (i := 3) (N := some 57) (v := ?_) (a' := ?_) #[true, true, true, true, false, false, false, false, false, false, false, false, false, false, false, false] rfl rfl (any_of HT_.out (by kernel_rfl)) (fun _ _ _ h => h) (Or.inl ⟨by rfl, ?_⟩) ?_ ?_
                                rotate_left
                                · intro w'
                                  go_simp
                                  with_reducible rfl
                                rotate_left
                                · simp only [Act.put, List.setIfInBounds_toArray, List.set_cons_zero, List.set_cons_succ, i64_w, i32_w]
                                  rfl
                                refine pure_ (i := 4) (N := some 58) (v := ?_) (a' := ?_) #[true, true, true, true, true, false, false, false, false, false, false, false, false, false, false, false] rfl rfl (any_of HT_.out (by kernel_rfl)) (fun _ _ _ h => h) (Or.inl ⟨by rfl, ?_⟩) ?_ ?_
                                rotate_left
                                · intro w'
                                  go_simp
                                  with_reducible rfl
                                rotate_left
                                · simp only [Act.put, List.setIfInBounds_toArray, List.set_cons_zero, List.set_cons_succ, i64_w, i32_w]
                                  rfl
                                refine pure_ (i := 5) (N := some 59) (v := ?_) (a' := ?_) #[true, true, true, true, true, true, false, false, false, false, false, false, false, false, false, false] rfl rfl (any_of HT_.out (by kernel_rfl)) (fun _ _ _ h => h) (Or.inl ⟨by rfl, ?_⟩) ?_ ?_
                                rotate_left
                                · intro w'
                                  go_simp
                                  with_reducible rfl
                                rotate_left
                                · simp only [Act.put, List.setIfInBounds_toArray, List.set_cons_zero, List.set_cons_succ, i64_w, i32_w]
                                  rfl
                                refine pure_ (i := 7) (N := some 61) (v := ?_) (a' := ?_) #[true, true, true, true, true, true, false, true, false, false, false, false, false, false, false, false] rfl rfl (any_of HT_.out (by kernel_rfl)) (fun _ _ _ h => h) (Or.inl ⟨by rfl, ?_⟩) ?_ ?_
                                rotate_left
                                · intro w'
                                  go_simp
                                  with_reducible rfl
                                rotate_left
                                · simp only [Act.put, List.setIfInBounds_toArray, List.set_cons_zero, List.set_cons_succ, i64_w, i32_w]
                                  rfl
                                refine take_ (i := 8) (N := some 62) (v := ?_) (a' := ?_) #[true, true, true, true, true, true, false, true, true, false, false, false, false, false, false, false] rfl rfl (take_ofW HT_.out HW_.out (by kernel_rfl)) (fun _ _ _ h => h) (Or.inl ⟨by rfl, ?_⟩) hHeld ?_ ?_
                                rotate_left
                                · rintro w' ⟨s0, s1, s2, s3⟩
                                  go_simp
                                  with_reducible rfl
                                rotate_left
                                · simp only [Act.put, List.setIfInBounds_toArray, List.set_cons_zero, List.set_cons_succ, i64_w, i32_w]
                                  rfl
                                refine one_ (i := 6) (N := some 60) #[true, true, true, true, true, true, true, true, true, false, false, false, false, false, false, false] rfl rfl (one_of HT_.out (by kernel_rfl)) (by decide) (fun K hK => ?_)
                                refine goes_ Tryd.func10 (by kernel_rfl) rfl #[.int .i64 t139] (by rfl) rfl rfl (by (try simp only [List.map_toArray, List.map_cons, List.map_nil]); first | done | rfl | (simp only [List.length_drop, List.length_take]; rfl)) ?_
                                with_reducible refine (state_Counts.calls kj18 t139 true _ A32.out).mono ?_
                                rintro e w43 ⟨rfl, hb⟩
                                refine ⟨_, rfl, ?_⟩
                                have n0_ := Aside0.mk (blk_below (g := gb137) (o := .cells #[.bool x138000_18, .bool true, .bool x138002_18, .bool x138003_18] 37 (0, 0)) (by (with_reducible repeat (first | refine blk_drewN ?_ _ | refine blk_drew ?_ | refine blk_alloc ?_ _)); exact BK137.out) hb)
                                have n1_ := Aside0.mk (below_step (by repeat (first | (with_reducible first | exact HB.out | apply below_alloc | apply pw_below_drewN | apply below_drew1 | refine below_set ?_ GE137.out) | exact HB.out)) hb)
                                clear BK137
                                clear HB
                                have BK137 := n0_
                                have HB := n1_
                                clear n0_ n1_
                                (try clear hb)
                                (try clear hb2)
                                (try clear hk)
                                (try clear hi)
                                refine hK.out _ _ ⟨(blk_cell BK137.out 0).trans rfl, (blk_cell BK137.out 1).trans rfl, (blk_cell BK137.out 2).trans rfl, (blk_cell BK137.out 3).trans rfl⟩ (fun hHeld => ?_)
                                clear hK K
                                refine norm_ (a' := ?_) ?_ ?_
                                rotate_left
                                · show Act.put _ (some 60) _ = _
                                  simp only [Act.put, List.setIfInBounds_toArray, List.set_cons_zero, List.set_cons_succ, i64_w, i32_w]
                                  rfl
                                refine pure_ (i := 9) (N := some 63) (v := ?_) (a' := ?_) #[true, true, true, true, true, true, true, true, true, true, false, false, false, false, false, false] rfl rfl (any_of HT_.out (by kernel_rfl)) (fun _ _ _ h => h) (Or.inl ⟨by rfl, ?_⟩) ?_ ?_
                                rotate_left
                                · intro w'
                                  go_simp
                                  with_reducible rfl
                                rotate_left
                                · simp only [Act.put, List.setIfInBounds_toArray, List.set_cons_zero, List.set_cons_succ, i64_w, i32_w]
                                  rfl
                                refine take_ (i := 10) (N := some 64) (v := ?_) (a' := ?_) #[true, true, true, true, true, true, true, true, true, true, true, false, false, false, false, false] rfl rfl (take_ofW HT_.out HW_.out (by kernel_rfl)) (fun _ _ _ h => h) (Or.inl ⟨by rfl, ?_⟩) hHeld ?_ ?_
                                rotate_left
                                · rintro w' ⟨s0, s1, s2, s3⟩
                                  go_simp
                                  with_reducible rfl
                                rotate_left
                                · simp only [Act.put, List.setIfInBounds_toArray, List.set_cons_zero, List.set_cons_succ, i64_w, i32_w]
                                  rfl
                                refine one_ (i := 11) (N := some 65) #[true, true, true, true, true, true, true, true, true, true, true, true, false, false, false, false] rfl rfl (one_of HT_.out (by kernel_rfl)) (by decide) (fun K hK => ?_)
                                refine goes_ Tryd.func17 (by kernel_rfl) rfl #[.agg #[.bool x138000_18, .bool true, .bool x138002_18, .bool x138003_18]] (by rfl) rfl rfl (by (try simp only [List.map_toArray, List.map_cons, List.map_nil]); first | done | rfl | (simp only [List.length_drop, List.length_take]; rfl)) ?_
                                with_reducible refine (heraldlaw10_Book_over.calls x138000_18 true x138002_18 x138003_18 false _ A34.out).mono ?_
                                rintro e w44 ⟨rfl, hb⟩
                                refine ⟨_, rfl, ?_⟩
                                have n0_ := Aside0.mk (blk_below (g := gb137) (o := .cells #[.bool x138000_18, .bool true, .bool x138002_18, .bool x138003_18] 37 (0, 0)) (by (with_reducible repeat (first | refine blk_drewN ?_ _ | refine blk_drew ?_ | refine blk_alloc ?_ _)); exact BK137.out) hb)
                                have n1_ := Aside0.mk (below_step (by repeat (first | (with_reducible first | exact HB.out | apply below_alloc | apply pw_below_drewN | apply below_drew1 | refine below_set ?_ GE137.out) | exact HB.out)) hb)
                                clear BK137
                                clear HB
                                have BK137 := n0_
                                have HB := n1_
                                clear n0_ n1_
                                (try clear hb)
                                (try clear hb2)
                                (try clear hk)
                                (try clear hi)
                                refine hK.out _ _ ⟨(blk_cell BK137.out 0).trans rfl, (blk_cell BK137.out 1).trans rfl, (blk_cell BK137.out 2).trans rfl, (blk_cell BK137.out 3).trans rfl⟩ (fun hHeld => ?_)
                                clear hK K
                                refine norm_ (a' := ?_) ?_ ?_
                                rotate_left
                                · show Act.put _ (some 65) _ = _
                                  simp only [Act.put, List.setIfInBounds_toArray, List.set_cons_zero, List.set_cons_succ, i64_w, i32_w]
                                  rfl
                                refine pure_ (i := 12) (N := some 66) (v := ?_) (a' := ?_) #[true, true, true, true, true, true, true, true, true, true, true, true, true, false, false, false] rfl rfl (any_of HT_.out (by kernel_rfl)) (fun _ _ _ h => h) (Or.inl ⟨by rfl, ?_⟩) ?_ ?_
                                rotate_left
                                · intro w'
                                  go_simp
                                  with_reducible rfl
                                rotate_left
                                · simp only [Act.put, List.setIfInBounds_toArray, List.set_cons_zero, List.set_cons_succ, i64_w, i32_w]
                                  rfl
                                refine pure_ (i := 13) (N := some 67) (v := ?_) (a' := ?_) #[true, true, true, true, true, true, true, true, true, true, true, true, true, true, false, false] rfl rfl (any_of HT_.out (by kernel_rfl)) (fun _ _ _ h => h) (Or.inl ⟨by rfl, ?_⟩) ?_ ?_
                                rotate_left
                                · intro w'
                                  go_simp
                                  with_reducible rfl
                                rotate_left
                                · simp only [Act.put, List.setIfInBounds_toArray, List.set_cons_zero, List.set_cons_succ, i64_w, i32_w]
                                  rfl
                                refine pure_ (i := 14) (N := some 68) (v := ?_) (a' := ?_) #[true, true, true, true, true, true, true, true, true, true, true, true, true, true, true, false] rfl rfl (any_of HT_.out (by kernel_rfl)) (fun _ _ _ h => h) (Or.inl ⟨by rfl, ?_⟩) ?_ ?_
                                rotate_left
                                · intro w'
                                  go_simp
                                  with_reducible rfl
                                rotate_left
                                · simp only [Act.put, List.setIfInBounds_toArray, List.set_cons_zero, List.set_cons_succ, i64_w, i32_w]
                                  rfl
                                refine pure_ (i := 15) (N := some 69) (v := ?_) (a' := ?_) #[true, true, true, true, true, true, true, true, true, true, true, true, true, true, true, true] rfl rfl (any_of HT_.out (by kernel_rfl)) (fun _ _ _ h => h) (Or.inl ⟨by rfl, ?_⟩) ?_ ?_
                                rotate_left
                                · intro w'
                                  go_simp
                                  with_reducible rfl
                                rotate_left
                                · simp only [Act.put, List.setIfInBounds_toArray, List.set_cons_zero, List.set_cons_succ, i64_w, i32_w]
                                  rfl
                                refine done_ (done_of HT_.out (by kernel_rfl)) ?_
                                try go_wp2
                                go_roundg kj18
                                case measure => have := HK1.out; have := HJ10.out; have := HJ18.out; omega
                                case rel => exact ⟨(t139), (wrap64 (x5_1 + 1)), (x138000_18), (true), (x138002_18), (x138003_18), (by first | rfl | (simp; done) | (simp [*]; done)), (by first | rfl | (simp; done) | (simp [*]; done)), H', ⟨by have := HK1.out; have := HJ10.out; have := HJ18.out; omega⟩, ⟨by (with_reducible repeat (first | refine blk_drewN ?_ _ | refine blk_drew ?_ | refine blk_alloc ?_ _)); exact BK137.out⟩, ⟨by repeat (first | (with_reducible first | exact HB.out | apply below_alloc | apply pw_below_drewN | apply below_drew1 | refine below_set ?_ GE137.out) | exact HB.out)⟩⟩
                          · replace c35 := Bool.eq_false_iff.mpr c35
                            subst c35
                            have H1 : (if t151 = true then (heraldlaw10_StateBook.l0 kj18 l0 t139 (wrap64 (x5_1 + 1)) x138000_18 true x138002_18 x138003_18) else (some false)) = some r := by rw [if_neg (show ¬ (false = true) by decide)] at H; exact H
                            clear H
                            have H := H1
                            clear H1
                            by_cases c45 : t151 = true
                            · subst c45
                              have H1 : (heraldlaw10_StateBook.l0 kj18 l0 t139 (wrap64 (x5_1 + 1)) x138000_18 true x138002_18 x138003_18) = some r := by rw [if_pos rfl] at H; exact H
                              clear H
                              have H := H1
                              clear H1
                              as_aux_lemma =>
                                have H' := Aside0.mk H
                                clear H
                                try go_wp2
                                have n0_ := Aside0.mk (blk_drew BK137.out)
                                have n1_ := Aside0.mk (below_drew1 HB.out)
                                clear BK137
                                clear HB
                                have BK137 := n0_
                                have HB := n1_
                                clear n0_ n1_
                                refine start_ (n := 16) (S := fun w' => w'.cell? ⟨gb137, 0, none⟩ = some (.bool x138000_18) ∧ w'.cell? ⟨gb137, 1, none⟩ = some (.bool true) ∧ w'.cell? ⟨gb137, 2, none⟩ = some (.bool x138002_18) ∧ w'.cell? ⟨gb137, 3, none⟩ = some (.bool x138003_18)) (ds := []) #[false, false, false, false, false, false, false, false, false, false, false, false, false, false, false, false] (by kernel_rfl) rfl rfl ⟨(blk_cell BK137.out 0).trans rfl, (blk_cell BK137.out 1).trans rfl, (blk_cell BK137.out 2).trans rfl, (blk_cell BK137.out 3).trans rfl⟩ (fun hHeld => ?_); refine with_tabW heraldlaw10_StateBook.tab14 heraldlaw10_StateBook.bits14 (fun HT_ HW_ => ?_)
                                generalize wc.drew = w46 at BK137 HB hHeld ⊢
                                refine pure_ (i := 0) (N := some 54) (v := ?_) (a' := ?_) #[true, false, false, false, false, false, false, false, false, false, false, false, false, false, false, false] rfl rfl (any_of HT_.out (by kernel_rfl)) (fun _ _ _ h => h) (Or.inl ⟨by rfl, ?_⟩) ?_ ?_
                                rotate_left
                                · intro w'
                                  go_simp
                                  with_reducible rfl
                                rotate_left
                                · simp only [Act.put, List.setIfInBounds_toArray, List.set_cons_zero, List.set_cons_succ, i64_w, i32_w]
                                  rfl
                                refine take_ (i := 1) (N := some 55) (v := ?_) (a' := ?_) #[true, true, false, false, false, false, false, false, false, false, false, false, false, false, false, false] rfl rfl (take_ofW HT_.out HW_.out (by kernel_rfl)) (fun _ _ _ h => h) (Or.inl ⟨by rfl, ?_⟩) hHeld ?_ ?_
                                rotate_left
                                · rintro w' ⟨s0, s1, s2, s3⟩
                                  go_simp
                                  with_reducible rfl
                                rotate_left
                                · simp only [Act.put, List.setIfInBounds_toArray, List.set_cons_zero, List.set_cons_succ, i64_w, i32_w]
                                  rfl
                                refine one_ (i := 2) (N := some 56) #[true, true, true, false, false, false, false, false, false, false, false, false, false, false, false, false] rfl rfl (one_of HT_.out (by kernel_rfl)) (by decide) (fun K hK => ?_)
                                refine goes_ Tryd.func16 (by kernel_rfl) rfl #[.agg #[.bool x138000_18, .bool true, .bool x138002_18, .bool x138003_18]] (by rfl) rfl rfl (by (try simp only [List.map_toArray, List.map_cons, List.map_nil]); first | done | rfl | (simp only [List.length_drop, List.length_take]; rfl)) ?_
                                with_reducible refine (heraldlaw10_Book_state.calls kj18 x138000_18 true x138002_18 x138003_18 t149 _ A30.out).mono ?_
                                rintro e w47 ⟨rfl, hb⟩
                                refine ⟨_, rfl, ?_⟩
                                have n0_ := Aside0.mk (blk_below (g := gb137) (o := .cells #[.bool x138000_18, .bool true, .bool x138002_18, .bool x138003_18] 37 (0, 0)) (by (with_reducible repeat (first | refine blk_drewN ?_ _ | refine blk_drew ?_ | refine blk_alloc ?_ _)); exact BK137.out) hb)
                                have n1_ := Aside0.mk (below_step (by repeat (first | (with_reducible first | exact HB.out | apply below_alloc | apply pw_below_drewN | apply below_drew1 | refine below_set ?_ GE137.out) | exact HB.out)) hb)
                                clear BK137
                                clear HB
                                have BK137 := n0_
                                have HB := n1_
                                clear n0_ n1_
                                (try clear hb)
                                (try clear hb2)
                                (try clear hk)
                                (try clear hi)
                                refine hK.out _ _ ⟨(blk_cell BK137.out 0).trans rfl, (blk_cell BK137.out 1).trans rfl, (blk_cell BK137.out 2).trans rfl, (blk_cell BK137.out 3).trans rfl⟩ (fun hHeld => ?_)
                                clear hK K
                                refine norm_ (a' := ?_) ?_ ?_
                                rotate_left
                                · show Act.put _ (some 56) _ = _
                                  simp only [Act.put, List.setIfInBounds_toArray, List.set_cons_zero, List.set_cons_succ, i64_w, i32_w]
                                  rfl
                                refine pure_ (i := 3) (N := some 57) (v := ?_) (a' := ?_) #[true, true, true, true, false, false, false, false, false, false, false, false, false, false, false, false] rfl rfl (any_of HT_.out (by kernel_rfl)) (fun _ _ _ h => h) (Or.inl ⟨by rfl, ?_⟩) ?_ ?_
                                rotate_left
                                · intro w'
                                  go_simp
                                  with_reducible rfl
                                rotate_left
                                · simp only [Act.put, List.setIfInBounds_toArray, List.set_cons_zero, List.set_cons_succ, i64_w, i32_w]
                                  rfl
                                refine pure_ (i := 4) (N := some 58) (v := ?_) (a' := ?_) #[true, true, true, true, true, false, false, false, false, false, false, false, false, false, false, false] rfl rfl (any_of HT_.out (by kernel_rfl)) (fun _ _ _ h => h) (Or.inl ⟨by rfl, ?_⟩) ?_ ?_
                                rotate_left
                                · intro w'
                                  go_simp
                                  with_reducible rfl
                                rotate_left
                                · simp only [Act.put, List.setIfInBounds_toArray, List.set_cons_zero, List.set_cons_succ, i64_w, i32_w]
                                  rfl
                                refine pure_ (i := 5) (N := some 59) (v := ?_) (a' := ?_) #[true, true, true, true, true, true, false, false, false, false, false, false, false, false, false, false] rfl rfl (any_of HT_.out (by kernel_rfl)) (fun _ _ _ h => h) (Or.inl ⟨by rfl, ?_⟩) ?_ ?_
                                rotate_left
                                · intro w'
                                  go_simp
                                  with_reducible rfl
                                rotate_left
                                · simp only [Act.put, List.setIfInBounds_toArray, List.set_cons_zero, List.set_cons_succ, i64_w, i32_w]
                                  rfl
                                refine pure_ (i := 7) (N := some 61) (v := ?_) (a' := ?_) #[true, true, true, true, true, true, false, true, false, false, false, false, false, false, false, false] rfl rfl (any_of HT_.out (by kernel_rfl)) (fun _ _ _ h => h) (Or.inl ⟨by rfl, ?_⟩) ?_ ?_
                                rotate_left
                                · intro w'
                                  go_simp
                                  with_reducible rfl
                                rotate_left
                                · simp only [Act.put, List.setIfInBounds_toArray, List.set_cons_zero, List.set_cons_succ, i64_w, i32_w]
                                  rfl
                                refine take_ (i := 8) (N := some 62) (v := ?_) (a' := ?_) #[true, true, true, true, true, true, false, true, true, false, false, false, false, false, false, false] rfl rfl (take_ofW HT_.out HW_.out (by kernel_rfl)) (fun _ _ _ h => h) (Or.inl ⟨by rfl, ?_⟩) hHeld ?_ ?_
                                rotate_left
                                · rintro w' ⟨s0, s1, s2, s3⟩
                                  go_simp
                                  with_reducible rfl
                                rotate_left
                                · simp only [Act.put, List.setIfInBounds_toArray, List.set_cons_zero, List.set_cons_succ, i64_w, i32_w]
                                  rfl
                                refine one_ (i := 6) (N := some 60) #[true, true, true, true, true, true, true, true, true, false, false, false, false, false, false, false] rfl rfl (one_of HT_.out (by kernel_rfl)) (by decide) (fun K hK => ?_)
                                refine goes_ Tryd.func10 (by kernel_rfl) rfl #[.int .i64 t139] (by rfl) rfl rfl (by (try simp only [List.map_toArray, List.map_cons, List.map_nil]); first | done | rfl | (simp only [List.length_drop, List.length_take]; rfl)) ?_
                                with_reducible refine (state_Counts.calls kj18 t139 false _ A32.out).mono ?_
                                rintro e w48 ⟨rfl, hb⟩
                                refine ⟨_, rfl, ?_⟩
                                have n0_ := Aside0.mk (blk_below (g := gb137) (o := .cells #[.bool x138000_18, .bool true, .bool x138002_18, .bool x138003_18] 37 (0, 0)) (by (with_reducible repeat (first | refine blk_drewN ?_ _ | refine blk_drew ?_ | refine blk_alloc ?_ _)); exact BK137.out) hb)
                                have n1_ := Aside0.mk (below_step (by repeat (first | (with_reducible first | exact HB.out | apply below_alloc | apply pw_below_drewN | apply below_drew1 | refine below_set ?_ GE137.out) | exact HB.out)) hb)
                                clear BK137
                                clear HB
                                have BK137 := n0_
                                have HB := n1_
                                clear n0_ n1_
                                (try clear hb)
                                (try clear hb2)
                                (try clear hk)
                                (try clear hi)
                                refine hK.out _ _ ⟨(blk_cell BK137.out 0).trans rfl, (blk_cell BK137.out 1).trans rfl, (blk_cell BK137.out 2).trans rfl, (blk_cell BK137.out 3).trans rfl⟩ (fun hHeld => ?_)
                                clear hK K
                                refine norm_ (a' := ?_) ?_ ?_
                                rotate_left
                                · show Act.put _ (some 60) _ = _
                                  simp only [Act.put, List.setIfInBounds_toArray, List.set_cons_zero, List.set_cons_succ, i64_w, i32_w]
                                  rfl
                                refine pure_ (i := 9) (N := some 63) (v := ?_) (a' := ?_) #[true, true, true, true, true, true, true, true, true, true, false, false, false, false, false, false] rfl rfl (any_of HT_.out (by kernel_rfl)) (fun _ _ _ h => h) (Or.inl ⟨by rfl, ?_⟩) ?_ ?_
                                rotate_left
                                · intro w'
                                  go_simp
                                  with_reducible rfl
                                rotate_left
                                · simp only [Act.put, List.setIfInBounds_toArray, List.set_cons_zero, List.set_cons_succ, i64_w, i32_w]
                                  rfl
                                refine take_ (i := 10) (N := some 64) (v := ?_) (a' := ?_) #[true, true, true, true, true, true, true, true, true, true, true, false, false, false, false, false] rfl rfl (take_ofW HT_.out HW_.out (by kernel_rfl)) (fun _ _ _ h => h) (Or.inl ⟨by rfl, ?_⟩) hHeld ?_ ?_
                                rotate_left
                                · rintro w' ⟨s0, s1, s2, s3⟩
                                  go_simp
                                  with_reducible rfl
                                rotate_left
                                · simp only [Act.put, List.setIfInBounds_toArray, List.set_cons_zero, List.set_cons_succ, i64_w, i32_w]
                                  rfl
                                refine one_ (i := 11) (N := some 65) #[true, true, true, true, true, true, true, true, true, true, true, true, false, false, false, false] rfl rfl (one_of HT_.out (by kernel_rfl)) (by decide) (fun K hK => ?_)
                                refine goes_ Tryd.func17 (by kernel_rfl) rfl #[.agg #[.bool x138000_18, .bool true, .bool x138002_18, .bool x138003_18]] (by rfl) rfl rfl (by (try simp only [List.map_toArray, List.map_cons, List.map_nil]); first | done | rfl | (simp only [List.length_drop, List.length_take]; rfl)) ?_
                                with_reducible refine (heraldlaw10_Book_over.calls x138000_18 true x138002_18 x138003_18 true _ A34.out).mono ?_
                                rintro e w49 ⟨rfl, hb⟩
                                refine ⟨_, rfl, ?_⟩
                                have n0_ := Aside0.mk (blk_below (g := gb137) (o := .cells #[.bool x138000_18, .bool true, .bool x138002_18, .bool x138003_18] 37 (0, 0)) (by (with_reducible repeat (first | refine blk_drewN ?_ _ | refine blk_drew ?_ | refine blk_alloc ?_ _)); exact BK137.out) hb)
                                have n1_ := Aside0.mk (below_step (by repeat (first | (with_reducible first | exact HB.out | apply below_alloc | apply pw_below_drewN | apply below_drew1 | refine below_set ?_ GE137.out) | exact HB.out)) hb)
                                clear BK137
                                clear HB
                                have BK137 := n0_
                                have HB := n1_
                                clear n0_ n1_
                                (try clear hb)
                                (try clear hb2)
                                (try clear hk)
                                (try clear hi)
                                refine hK.out _ _ ⟨(blk_cell BK137.out 0).trans rfl, (blk_cell BK137.out 1).trans rfl, (blk_cell BK137.out 2).trans rfl, (blk_cell BK137.out 3).trans rfl⟩ (fun hHeld => ?_)
                                clear hK K
                                refine norm_ (a' := ?_) ?_ ?_
                                rotate_left
                                · show Act.put _ (some 65) _ = _
                                  simp only [Act.put, List.setIfInBounds_toArray, List.set_cons_zero, List.set_cons_succ, i64_w, i32_w]
                                  rfl
                                refine pure_ (i := 12) (N := some 66) (v := ?_) (a' := ?_) #[true, true, true, true, true, true, true, true, true, true, true, true, true, false, false, false] rfl rfl (any_of HT_.out (by kernel_rfl)) (fun _ _ _ h => h) (Or.inl ⟨by rfl, ?_⟩) ?_ ?_
                                rotate_left
                                · intro w'
                                  go_simp
                                  with_reducible rfl
                                rotate_left
                                · simp only [Act.put, List.setIfInBounds_toArray, List.set_cons_zero, List.set_cons_succ, i64_w, i32_w]
                                  rfl
                                refine pure_ (i := 13) (N := some 67) (v := ?_) (a' := ?_) #[true, true, true, true, true, true, true, true, true, true, true, true, true, true, false, false] rfl rfl (any_of HT_.out (by kernel_rfl)) (fun _ _ _ h => h) (Or.inl ⟨by rfl, ?_⟩) ?_ ?_
                                rotate_left
                                · intro w'
                                  go_simp
                                  with_reducible rfl
                                rotate_left
                                · simp only [Act.put, List.setIfInBounds_toArray, List.set_cons_zero, List.set_cons_succ, i64_w, i32_w]
                                  rfl
                                refine pure_ (i := 14) (N := some 68) (v := ?_) (a' := ?_) #[true, true, true, true, true, true, true, true, true, true, true, true, true, true, true, false] rfl rfl (any_of HT_.out (by kernel_rfl)) (fun _ _ _ h => h) (Or.inl ⟨by rfl, ?_⟩) ?_ ?_
                                rotate_left
                                · intro w'
                                  go_simp
                                  with_reducible rfl
                                rotate_left
                                · simp only [Act.put, List.setIfInBounds_toArray, List.set_cons_zero, List.set_cons_succ, i64_w, i32_w]
                                  rfl
                                refine pure_ (i := 15) (N := some 69) (v := ?_) (a' := ?_) #[true, true, true, true, true, true, true, true, true, true, true, true, true, true, true, true] rfl rfl (any_of HT_.out (by kernel_rfl)) (fun _ _ _ h => h) (Or.inl ⟨by rfl, ?_⟩) ?_ ?_
                                rotate_left
                                · intro w'
                                  go_simp
                                  with_reducible rfl
                                rotate_left
                                · simp only [Act.put, List.setIfInBounds_toArray, List.set_cons_zero, List.set_cons_succ, i64_w, i32_w]
                                  rfl
                                refine done_ (done_of HT_.out (by kernel_rfl)) ?_
                                try go_wp2
                                go_roundg kj18
                                case measure => have := HK1.out; have := HJ10.out; have := HJ18.out; omega
                                case rel => exact ⟨(t139), (wrap64 (x5_1 + 1)), (x138000_18), (true), (x138002_18), (x138003_18), (by first | rfl | (simp; done) | (simp [*]; done)), (by first | rfl | (simp; done) | (simp [*]; done)), H', ⟨by have := HK1.out; have := HJ10.out; have := HJ18.out; omega⟩, ⟨by (with_reducible repeat (first | refine blk_drewN ?_ _ | refine blk_drew ?_ | refine blk_alloc ?_ _)); exact BK137.out⟩, ⟨by repeat (first | (with_reducible first | exact HB.out | apply below_alloc | apply pw_below_drewN | apply below_drew1 | refine below_set ?_ GE137.out) | exact HB.out)⟩⟩
                            · replace c45 := Bool.eq_false_iff.mpr c45
                              subst c45
                              have H1 : (some false) = some r := by rw [if_neg (show ¬ (false = true) by decide)] at H; exact H
                              clear H
                              have H := H1
                              clear H1
                              as_aux_lemma =>
                                obtain rfl := Option.some.inj H
                                try go_wp2
                                have n0_ := Aside0.mk (blk_drew BK137.out)
                                have n1_ := Aside0.mk (below_drew1 HB.out)
                                clear BK137
                                clear HB
                                have BK137 := n0_
                                have HB := n1_
                                clear n0_ n1_
                                refine start_ (n := 16) (S := fun w' => w'.cell? ⟨gb137, 0, none⟩ = some (.bool x138000_18) ∧ w'.cell? ⟨gb137, 1, none⟩ = some (.bool true) ∧ w'.cell? ⟨gb137, 2, none⟩ = some (.bool x138002_18) ∧ w'.cell? ⟨gb137, 3, none⟩ = some (.bool x138003_18)) (ds := []) #[false, false, false, false, false, false, false, false, false, false, false, false, false, false, false, false] (by kernel_rfl) rfl rfl ⟨(blk_cell BK137.out 0).trans rfl, (blk_cell BK137.out 1).trans rfl, (blk_cell BK137.out 2).trans rfl, (blk_cell BK137.out 3).trans rfl⟩ (fun hHeld => ?_); refine with_tabW heraldlaw10_StateBook.tab14 heraldlaw10_StateBook.bits14 (fun HT_ HW_ => ?_)
                                generalize wc.drew = w50 at BK137 HB hHeld ⊢
                                refine pure_ (i := 0) (N := some 54) (v := ?_) (a' := ?_) #[true, false, false, false, false, false, false, false, false, false, false, false, false, false, false, false] rfl rfl (any_of HT_.out (by kernel_rfl)) (fun _ _ _ h => h) (Or.inl ⟨by rfl, ?_⟩) ?_ ?_
                                rotate_left
                                · intro w'
                                  go_simp
                                  with_reducible rfl
                                rotate_left
                                · simp only [Act.put, List.setIfInBounds_toArray, List.set_cons_zero, List.set_cons_succ, i64_w, i32_w]
                                  rfl
                                refine take_ (i := 1) (N := some 55) (v := ?_) (a' := ?_) #[true, true, false, false, false, false, false, false, false, false, false, false, false, false, false, false] rfl rfl (take_ofW HT_.out HW_.out (by kernel_rfl)) (fun _ _ _ h => h) (Or.inl ⟨by rfl, ?_⟩) hHeld ?_ ?_
                                rotate_left
                                · rintro w' ⟨s0, s1, s2, s3⟩
                                  go_simp
                                  with_reducible rfl
                                rotate_left
                                · simp only [Act.put, List.setIfInBounds_toArray, List.set_cons_zero, List.set_cons_succ, i64_w, i32_w]
                                  rfl
                                refine one_ (i := 2) (N := some 56) #[true, true, true, false, false, false, false, false, false, false, false, false, false, false, false, false] rfl rfl (one_of HT_.out (by kernel_rfl)) (by decide) (fun K hK => ?_)
                                refine goes_ Tryd.func16 (by kernel_rfl) rfl #[.agg #[.bool x138000_18, .bool true, .bool x138002_18, .bool x138003_18]] (by rfl) rfl rfl (by (try simp only [List.map_toArray, List.map_cons, List.map_nil]); first | done | rfl | (simp only [List.length_drop, List.length_take]; rfl)) ?_
                                with_reducible refine (heraldlaw10_Book_state.calls kj18 x138000_18 true x138002_18 x138003_18 t149 _ A30.out).mono ?_
                                rintro e w51 ⟨rfl, hb⟩
                                refine ⟨_, rfl, ?_⟩
                                have n0_ := Aside0.mk (blk_below (g := gb137) (o := .cells #[.bool x138000_18, .bool true, .bool x138002_18, .bool x138003_18] 37 (0, 0)) (by (with_reducible repeat (first | refine blk_drewN ?_ _ | refine blk_drew ?_ | refine blk_alloc ?_ _)); exact BK137.out) hb)
                                have n1_ := Aside0.mk (below_step (by repeat (first | (with_reducible first | exact HB.out | apply below_alloc | apply pw_below_drewN | apply below_drew1 | refine below_set ?_ GE137.out) | exact HB.out)) hb)
                                clear BK137
                                clear HB
                                have BK137 := n0_
                                have HB := n1_
                                clear n0_ n1_
                                (try clear hb)
                                (try clear hb2)
                                (try clear hk)
                                (try clear hi)
                                refine hK.out _ _ ⟨(blk_cell BK137.out 0).trans rfl, (blk_cell BK137.out 1).trans rfl, (blk_cell BK137.out 2).trans rfl, (blk_cell BK137.out 3).trans rfl⟩ (fun hHeld => ?_)
                                clear hK K
                                refine norm_ (a' := ?_) ?_ ?_
                                rotate_left
                                · show Act.put _ (some 56) _ = _
                                  simp only [Act.put, List.setIfInBounds_toArray, List.set_cons_zero, List.set_cons_succ, i64_w, i32_w]
                                  rfl
                                refine pure_ (i := 3) (N := some 57) (v := ?_) (a' := ?_) #[true, true, true, true, false, false, false, false, false, false, false, false, false, false, false, false] rfl rfl (any_of HT_.out (by kernel_rfl)) (fun _ _ _ h => h) (Or.inl ⟨by rfl, ?_⟩) ?_ ?_
                                rotate_left
                                · intro w'
                                  go_simp
                                  with_reducible rfl
                                rotate_left
                                · simp only [Act.put, List.setIfInBounds_toArray, List.set_cons_zero, List.set_cons_succ, i64_w, i32_w]
                                  rfl
                                refine pure_ (i := 4) (N := some 58) (v := ?_) (a' := ?_) #[true, true, true, true, true, false, false, false, false, false, false, false, false, false, false, false] rfl rfl (any_of HT_.out (by kernel_rfl)) (fun _ _ _ h => h) (Or.inl ⟨by rfl, ?_⟩) ?_ ?_
                                rotate_left
                                · intro w'
                                  go_simp
                                  with_reducible rfl
                                rotate_left
                                · simp only [Act.put, List.setIfInBounds_toArray, List.set_cons_zero, List.set_cons_succ, i64_w, i32_w]
                                  rfl
                                refine pure_ (i := 5) (N := some 59) (v := ?_) (a' := ?_) #[true, true, true, true, true, true, false, false, false, false, false, false, false, false, false, false] rfl rfl (any_of HT_.out (by kernel_rfl)) (fun _ _ _ h => h) (Or.inl ⟨by rfl, ?_⟩) ?_ ?_
                                rotate_left
                                · intro w'
                                  go_simp
                                  with_reducible rfl
                                rotate_left
                                · simp only [Act.put, List.setIfInBounds_toArray, List.set_cons_zero, List.set_cons_succ, i64_w, i32_w]
                                  rfl
                                refine pure_ (i := 7) (N := some 61) (v := ?_) (a' := ?_) #[true, true, true, true, true, true, false, true, false, false, false, false, false, false, false, false] rfl rfl (any_of HT_.out (by kernel_rfl)) (fun _ _ _ h => h) (Or.inl ⟨by rfl, ?_⟩) ?_ ?_
                                rotate_left
                                · intro w'
                                  go_simp
                                  with_reducible rfl
                                rotate_left
                                · simp only [Act.put, List.setIfInBounds_toArray, List.set_cons_zero, List.set_cons_succ, i64_w, i32_w]
                                  rfl
                                refine take_ (i := 8) (N := some 62) (v := ?_) (a' := ?_) #[true, true, true, true, true, true, false, true, true, false, false, false, false, false, false, false] rfl rfl (take_ofW HT_.out HW_.out (by kernel_rfl)) (fun _ _ _ h => h) (Or.inl ⟨by rfl, ?_⟩) hHeld ?_ ?_
                                rotate_left
                                · rintro w' ⟨s0, s1, s2, s3⟩
                                  go_simp
                                  with_reducible rfl
                                rotate_left
                                · simp only [Act.put, List.setIfInBounds_toArray, List.set_cons_zero, List.set_cons_succ, i64_w, i32_w]
                                  rfl
                                refine one_ (i := 6) (N := some 60) #[true, true, true, true, true, true, true, true, true, false, false, false, false, false, false, false] rfl rfl (one_of HT_.out (by kernel_rfl)) (by decide) (fun K hK => ?_)
                                refine goes_ Tryd.func10 (by kernel_rfl) rfl #[.int .i64 t139] (by rfl) rfl rfl (by (try simp only [List.map_toArray, List.map_cons, List.map_nil]); first | done | rfl | (simp only [List.length_drop, List.length_take]; rfl)) ?_
                                with_reducible refine (state_Counts.calls kj18 t139 false _ A32.out).mono ?_
                                rintro e w52 ⟨rfl, hb⟩
                                refine ⟨_, rfl, ?_⟩
                                have n0_ := Aside0.mk (blk_below (g := gb137) (o := .cells #[.bool x138000_18, .bool true, .bool x138002_18, .bool x138003_18] 37 (0, 0)) (by (with_reducible repeat (first | refine blk_drewN ?_ _ | refine blk_drew ?_ | refine blk_alloc ?_ _)); exact BK137.out) hb)
                                have n1_ := Aside0.mk (below_step (by repeat (first | (with_reducible first | exact HB.out | apply below_alloc | apply pw_below_drewN | apply below_drew1 | refine below_set ?_ GE137.out) | exact HB.out)) hb)
                                clear BK137
                                clear HB
                                have BK137 := n0_
                                have HB := n1_
                                clear n0_ n1_
                                (try clear hb)
                                (try clear hb2)
                                (try clear hk)
                                (try clear hi)
                                refine hK.out _ _ ⟨(blk_cell BK137.out 0).trans rfl, (blk_cell BK137.out 1).trans rfl, (blk_cell BK137.out 2).trans rfl, (blk_cell BK137.out 3).trans rfl⟩ (fun hHeld => ?_)
                                clear hK K
                                refine norm_ (a' := ?_) ?_ ?_
                                rotate_left
                                · show Act.put _ (some 60) _ = _
                                  simp only [Act.put, List.setIfInBounds_toArray, List.set_cons_zero, List.set_cons_succ, i64_w, i32_w]
                                  rfl
                                refine pure_ (i := 9) (N := some 63) (v := ?_) (a' := ?_) #[true, true, true, true, true, true, true, true, true, true, false, false, false, false, false, false] rfl rfl (any_of HT_.out (by kernel_rfl)) (fun _ _ _ h => h) (Or.inl ⟨by rfl, ?_⟩) ?_ ?_
                                rotate_left
                                · intro w'
                                  go_simp
                                  with_reducible rfl
                                rotate_left
                                · simp only [Act.put, List.setIfInBounds_toArray, List.set_cons_zero, List.set_cons_succ, i64_w, i32_w]
                                  rfl
                                refine take_ (i := 10) (N := some 64) (v := ?_) (a' := ?_) #[true, true, true, true, true, true, true, true, true, true, true, false, false, false, false, false] rfl rfl (take_ofW HT_.out HW_.out (by kernel_rfl)) (fun _ _ _ h => h) (Or.inl ⟨by rfl, ?_⟩) hHeld ?_ ?_
                                rotate_left
                                · rintro w' ⟨s0, s1, s2, s3⟩
                                  go_simp
                                  with_reducible rfl
                                rotate_left
                                · simp only [Act.put, List.setIfInBounds_toArray, List.set_cons_zero, List.set_cons_succ, i64_w, i32_w]
                                  rfl
                                refine one_ (i := 11) (N := some 65) #[true, true, true, true, true, true, true, true, true, true, true, true, false, false, false, false] rfl rfl (one_of HT_.out (by kernel_rfl)) (by decide) (fun K hK => ?_)
                                refine goes_ Tryd.func17 (by kernel_rfl) rfl #[.agg #[.bool x138000_18, .bool true, .bool x138002_18, .bool x138003_18]] (by rfl) rfl rfl (by (try simp only [List.map_toArray, List.map_cons, List.map_nil]); first | done | rfl | (simp only [List.length_drop, List.length_take]; rfl)) ?_
                                with_reducible refine (heraldlaw10_Book_over.calls x138000_18 true x138002_18 x138003_18 false _ A34.out).mono ?_
                                rintro e w53 ⟨rfl, hb⟩
                                refine ⟨_, rfl, ?_⟩
                                have n0_ := Aside0.mk (blk_below (g := gb137) (o := .cells #[.bool x138000_18, .bool true, .bool x138002_18, .bool x138003_18] 37 (0, 0)) (by (with_reducible repeat (first | refine blk_drewN ?_ _ | refine blk_drew ?_ | refine blk_alloc ?_ _)); exact BK137.out) hb)
                                have n1_ := Aside0.mk (below_step (by repeat (first | (with_reducible first | exact HB.out | apply below_alloc | apply pw_below_drewN | apply below_drew1 | refine below_set ?_ GE137.out) | exact HB.out)) hb)
                                clear BK137
                                clear HB
                                have BK137 := n0_
                                have HB := n1_
                                clear n0_ n1_
                                (try clear hb)
                                (try clear hb2)
                                (try clear hk)
                                (try clear hi)
                                refine hK.out _ _ ⟨(blk_cell BK137.out 0).trans rfl, (blk_cell BK137.out 1).trans rfl, (blk_cell BK137.out 2).trans rfl, (blk_cell BK137.out 3).trans rfl⟩ (fun hHeld => ?_)
                                clear hK K
                                refine norm_ (a' := ?_) ?_ ?_
                                rotate_left
                                · show Act.put _ (some 65) _ = _
                                  simp only [Act.put, List.setIfInBounds_toArray, List.set_cons_zero, List.set_cons_succ, i64_w, i32_w]
                                  rfl
                                refine pure_ (i := 12) (N := some 66) (v := ?_) (a' := ?_) #[true, true, true, true, true, true, true, true, true, true, true, true, true, false, false, false] rfl rfl (any_of HT_.out (by kernel_rfl)) (fun _ _ _ h => h) (Or.inl ⟨by rfl, ?_⟩) ?_ ?_
                                rotate_left
                                · intro w'
                                  go_simp
                                  with_reducible rfl
                                rotate_left
                                · simp only [Act.put, List.setIfInBounds_toArray, List.set_cons_zero, List.set_cons_succ, i64_w, i32_w]
                                  rfl
                                refine pure_ (i := 13) (N := some 67) (v := ?_) (a' := ?_) #[true, true, true, true, true, true, true, true, true, true, true, true, true, true, false, false] rfl rfl (any_of HT_.out (by kernel_rfl)) (fun _ _ _ h => h) (Or.inl ⟨by rfl, ?_⟩) ?_ ?_
                                rotate_left
                                · intro w'
                                  go_simp
                                  with_reducible rfl
                                rotate_left
                                · simp only [Act.put, List.setIfInBounds_toArray, List.set_cons_zero, List.set_cons_succ, i64_w, i32_w]
                                  rfl
                                refine pure_ (i := 14) (N := some 68) (v := ?_) (a' := ?_) #[true, true, true, true, true, true, true, true, true, true, true, true, true, true, true, false] rfl rfl (any_of HT_.out (by kernel_rfl)) (fun _ _ _ h => h) (Or.inl ⟨by rfl, ?_⟩) ?_ ?_
                                rotate_left
                                · intro w'
                                  go_simp
                                  with_reducible rfl
                                rotate_left
                                · simp only [Act.put, List.setIfInBounds_toArray, List.set_cons_zero, List.set_cons_succ, i64_w, i32_w]
                                  rfl
                                refine pure_ (i := 15) (N := some 69) (v := ?_) (a' := ?_) #[true, true, true, true, true, true, true, true, true, true, true, true, true, true, true, true] rfl rfl (any_of HT_.out (by kernel_rfl)) (fun _ _ _ h => h) (Or.inl ⟨by rfl, ?_⟩) ?_ ?_
                                rotate_left
                                · intro w'
                                  go_simp
                                  with_reducible rfl
                                rotate_left
                                · simp only [Act.put, List.setIfInBounds_toArray, List.set_cons_zero, List.set_cons_succ, i64_w, i32_w]
                                  rfl
                                refine done_ (done_of HT_.out (by kernel_rfl)) ?_
                                try go_wp2
                                go_ret
                                exact ⟨by first | rfl | (simp [errW_none, errW_some] <;> rfl) | (simp [*, errW_none, errW_some] <;> rfl), by repeat (first | (with_reducible first | exact HB.out | apply below_alloc | apply pw_below_drewN | apply below_drew1 | refine below_set ?_ GE137.out) | exact HB.out)⟩
                        · replace c33 := Bool.eq_false_iff.mpr c33
                          subst c33
                          have H1 : (if t150 = true then (some false) else (heraldlaw10_StateBook.l0 kj18 l0 t139 (wrap64 (x5_1 + 1)) x138000_18 false x138002_18 x138003_18)) = some r := by rw [if_neg (show ¬ (false = true) by decide)] at H; exact H
                          clear H
                          have H := H1
                          clear H1
                          by_cases c54 : t150 = true
                          · subst c54
                            have H1 : (some false) = some r := by rw [if_pos rfl] at H; exact H
                            clear H
                            have H := H1
                            clear H1
                            as_aux_lemma =>
                              obtain rfl := Option.some.inj H
                              try go_wp2
                              have n0_ := Aside0.mk (blk_drew BK137.out)
                              have n1_ := Aside0.mk (below_drew1 HB.out)
                              clear BK137
                              clear HB
                              have BK137 := n0_
                              have HB := n1_
                              clear n0_ n1_
                              refine start_ (n := 16) (S := fun w' => w'.cell? ⟨gb137, 0, none⟩ = some (.bool x138000_18) ∧ w'.cell? ⟨gb137, 1, none⟩ = some (.bool false) ∧ w'.cell? ⟨gb137, 2, none⟩ = some (.bool x138002_18) ∧ w'.cell? ⟨gb137, 3, none⟩ = some (.bool x138003_18)) (ds := []) #[false, false, false, false, false, false, false, false, false, false, false, false, false, false, false, false] (by kernel_rfl) rfl rfl ⟨(blk_cell BK137.out 0).trans rfl, (blk_cell BK137.out 1).trans rfl, (blk_cell BK137.out 2).trans rfl, (blk_cell BK137.out 3).trans rfl⟩ (fun hHeld => ?_); refine with_tabW heraldlaw10_StateBook.tab14 heraldlaw10_StateBook.bits14 (fun HT_ HW_ => ?_)
                              generalize wc.drew = w55 at BK137 HB hHeld ⊢
                              refine pure_ (i := 0) (N := some 54) (v := ?_) (a' := ?_) #[true, false, false, false, false, false, false, false, false, false, false, false, false, false, false, false] rfl rfl (any_of HT_.out (by kernel_rfl)) (fun _ _ _ h => h) (Or.inl ⟨by rfl, ?_⟩) ?_ ?_
                              rotate_left
                              · intro w'
                                go_simp
                                with_reducible rfl
                              rotate_left
                              · simp only [Act.put, List.setIfInBounds_toArray, List.set_cons_zero, List.set_cons_succ, i64_w, i32_w]
                                rfl
                              refine take_ (i := 1) (N := some 55) (v := ?_) (a' := ?_) #[true, true, false, false, false, false, false, false, false, false, false, false, false, false, false, false] rfl rfl (take_ofW HT_.out HW_.out (by kernel_rfl)) (fun _ _ _ h => h) (Or.inl ⟨by rfl, ?_⟩) hHeld ?_ ?_
                              rotate_left
                              · rintro w' ⟨s0, s1, s2, s3⟩
                                go_simp
                                with_reducible rfl
                              rotate_left
                              · simp only [Act.put, List.setIfInBounds_toArray, List.set_cons_zero, List.set_cons_succ, i64_w, i32_w]
                                rfl
                              refine one_ (i := 2) (N := some 56) #[true, true, true, false, false, false, false, false, false, false, false, false, false, false, false, false] rfl rfl (one_of HT_.out (by kernel_rfl)) (by decide) (fun K hK => ?_)
                              refine goes_ Tryd.func16 (by kernel_rfl) rfl #[.agg #[.bool x138000_18, .bool false, .bool x138002_18, .bool x138003_18]] (by rfl) rfl rfl (by (try simp only [List.map_toArray, List.map_cons, List.map_nil]); first | done | rfl | (simp only [List.length_drop, List.length_take]; rfl)) ?_
                              with_reducible refine (heraldlaw10_Book_state.calls kj18 x138000_18 false x138002_18 x138003_18 t149 _ A30.out).mono ?_
                              rintro e w56 ⟨rfl, hb⟩
                              refine ⟨_, rfl, ?_⟩
                              have n0_ := Aside0.mk (blk_below (g := gb137) (o := .cells #[.bool x138000_18, .bool false, .bool x138002_18, .bool x138003_18] 37 (0, 0)) (by (with_reducible repeat (first | refine blk_drewN ?_ _ | refine blk_drew ?_ | refine blk_alloc ?_ _)); exact BK137.out) hb)
                              have n1_ := Aside0.mk (below_step (by repeat (first | (with_reducible first | exact HB.out | apply below_alloc | apply pw_below_drewN | apply below_drew1 | refine below_set ?_ GE137.out) | exact HB.out)) hb)
                              clear BK137
                              clear HB
                              have BK137 := n0_
                              have HB := n1_
                              clear n0_ n1_
                              (try clear hb)
                              (try clear hb2)
                              (try clear hk)
                              (try clear hi)
                              refine hK.out _ _ ⟨(blk_cell BK137.out 0).trans rfl, (blk_cell BK137.out 1).trans rfl, (blk_cell BK137.out 2).trans rfl, (blk_cell BK137.out 3).trans rfl⟩ (fun hHeld => ?_)
                              clear hK K
                              refine norm_ (a' := ?_) ?_ ?_
                              rotate_left
                              · show Act.put _ (some 56) _ = _
                                simp only [Act.put, List.setIfInBounds_toArray, List.set_cons_zero, List.set_cons_succ, i64_w, i32_w]
                                rfl
                              refine pure_ (i := 3) (N := some 57) (v := ?_) (a' := ?_) #[true, true, true, true, false, false, false, false, false, false, false, false, false, false, false, false] rfl rfl (any_of HT_.out (by kernel_rfl)) (fun _ _ _ h => h) (Or.inl ⟨by rfl, ?_⟩) ?_ ?_
                              rotate_left
                              · intro w'
                                go_simp
                                with_reducible rfl
                              rotate_left
                              · simp only [Act.put, List.setIfInBounds_toArray, List.set_cons_zero, List.set_cons_succ, i64_w, i32_w]
                                rfl
                              refine pure_ (i := 4) (N := some 58) (v := ?_) (a' := ?_) #[true, true, true, true, true, false, false, false, false, false, false, false, false, false, false, false] rfl rfl (any_of HT_.out (by kernel_rfl)) (fun _ _ _ h => h) (Or.inl ⟨by rfl, ?_⟩) ?_ ?_
                              rotate_left
                              · intro w'
                                go_simp
                                with_reducible rfl
                              rotate_left
                              · simp only [Act.put, List.setIfInBounds_toArray, List.set_cons_zero, List.set_cons_succ, i64_w, i32_w]
                                rfl
                              refine pure_ (i := 5) (N := some 59) (v := ?_) (a' := ?_) #[true, true, true, true, true, true, false, false, false, false, false, false, false, false, false, false] rfl rfl (any_of HT_.out (by kernel_rfl)) (fun _ _ _ h => h) (Or.inl ⟨by rfl, ?_⟩) ?_ ?_
                              rotate_left
                              · intro w'
                                go_simp
                                with_reducible rfl
                              rotate_left
                              · simp only [Act.put, List.setIfInBounds_toArray, List.set_cons_zero, List.set_cons_succ, i64_w, i32_w]
                                rfl
                              refine pure_ (i := 7) (N := some 61) (v := ?_) (a' := ?_) #[true, true, true, true, true, true, false, true, false, false, false, false, false, false, false, false] rfl rfl (any_of HT_.out (by kernel_rfl)) (fun _ _ _ h => h) (Or.inl ⟨by rfl, ?_⟩) ?_ ?_
                              rotate_left
                              · intro w'
                                go_simp
                                with_reducible rfl
                              rotate_left
                              · simp only [Act.put, List.setIfInBounds_toArray, List.set_cons_zero, List.set_cons_succ, i64_w, i32_w]
                                rfl
                              refine take_ (i := 8) (N := some 62) (v := ?_) (a' := ?_) #[true, true, true, true, true, true, false, true, true, false, false, false, false, false, false, false] rfl rfl (take_ofW HT_.out HW_.out (by kernel_rfl)) (fun _ _ _ h => h) (Or.inl ⟨by rfl, ?_⟩) hHeld ?_ ?_
                              rotate_left
                              · rintro w' ⟨s0, s1, s2, s3⟩
                                go_simp
                                with_reducible rfl
                              rotate_left
                              · simp only [Act.put, List.setIfInBounds_toArray, List.set_cons_zero, List.set_cons_succ, i64_w, i32_w]
                                rfl
                              refine one_ (i := 6) (N := some 60) #[true, true, true, true, true, true, true, true, true, false, false, false, false, false, false, false] rfl rfl (one_of HT_.out (by kernel_rfl)) (by decide) (fun K hK => ?_)
                              refine goes_ Tryd.func10 (by kernel_rfl) rfl #[.int .i64 t139] (by rfl) rfl rfl (by (try simp only [List.map_toArray, List.map_cons, List.map_nil]); first | done | rfl | (simp only [List.length_drop, List.length_take]; rfl)) ?_
                              with_reducible refine (state_Counts.calls kj18 t139 true _ A32.out).mono ?_
                              rintro e w57 ⟨rfl, hb⟩
                              refine ⟨_, rfl, ?_⟩
                              have n0_ := Aside0.mk (blk_below (g := gb137) (o := .cells #[.bool x138000_18, .bool false, .bool x138002_18, .bool x138003_18] 37 (0, 0)) (by (with_reducible repeat (first | refine blk_drewN ?_ _ | refine blk_drew ?_ | refine blk_alloc ?_ _)); exact BK137.out) hb)
                              have n1_ := Aside0.mk (below_step (by repeat (first | (with_reducible first | exact HB.out | apply below_alloc | apply pw_below_drewN | apply below_drew1 | refine below_set ?_ GE137.out) | exact HB.out)) hb)
                              clear BK137
                              clear HB
                              have BK137 := n0_
                              have HB := n1_
                              clear n0_ n1_
                              (try clear hb)
                              (try clear hb2)
                              (try clear hk)
                              (try clear hi)
                              refine hK.out _ _ ⟨(blk_cell BK137.out 0).trans rfl, (blk_cell BK137.out 1).trans rfl, (blk_cell BK137.out 2).trans rfl, (blk_cell BK137.out 3).trans rfl⟩ (fun hHeld => ?_)
                              clear hK K
                              refine norm_ (a' := ?_) ?_ ?_
                              rotate_left
                              · show Act.put _ (some 60) _ = _
                                simp only [Act.put, List.setIfInBounds_toArray, List.set_cons_zero, List.set_cons_succ, i64_w, i32_w]
                                rfl
                              refine pure_ (i := 9) (N := some 63) (v := ?_) (a' := ?_) #[true, true, true, true, true, true, true, true, true, true, false, false, false, false, false, false] rfl rfl (any_of HT_.out (by kernel_rfl)) (fun _ _ _ h => h) (Or.inl ⟨by rfl, ?_⟩) ?_ ?_
                              rotate_left
                              · intro w'
                                go_simp
                                with_reducible rfl
                              rotate_left
                              · simp only [Act.put, List.setIfInBounds_toArray, List.set_cons_zero, List.set_cons_succ, i64_w, i32_w]
                                rfl
                              refine pure_ (i := 10) (N := some 64) (v := undef) (a' := ?_) #[true, true, true, true, true, true, true, true, true, true, true, false, false, false, false, false] rfl rfl (any_of HT_.out (by kernel_rfl)) (fun _ _ _ h => h) (Or.inr ⟨by rfl, rfl⟩) ?_ ?_
                              rotate_left
                              · simp only [Act.put, List.setIfInBounds_toArray, List.set_cons_zero, List.set_cons_succ, i64_w, i32_w]
                                rfl
                              refine pure_ (i := 11) (N := some 65) (v := undef) (a' := ?_) #[true, true, true, true, true, true, true, true, true, true, true, true, false, false, false, false] rfl rfl (any_of HT_.out (by kernel_rfl)) (fun _ _ _ h => h) (Or.inr ⟨by rfl, rfl⟩) ?_ ?_
                              rotate_left
                              · simp only [Act.put, List.setIfInBounds_toArray, List.set_cons_zero, List.set_cons_succ, i64_w, i32_w]
                                rfl
                              refine pure_ (i := 12) (N := some 66) (v := undef) (a' := ?_) #[true, true, true, true, true, true, true, true, true, true, true, true, true, false, false, false] rfl rfl (any_of HT_.out (by kernel_rfl)) (fun _ _ _ h => h) (Or.inr ⟨by rfl, rfl⟩) ?_ ?_
                              rotate_left
                              · simp only [Act.put, List.setIfInBounds_toArray, List.set_cons_zero, List.set_cons_succ, i64_w, i32_w]
                                rfl
                              refine pure_ (i := 13) (N := some 67) (v := ?_) (a' := ?_) #[true, true, true, true, true, true, true, true, true, true, true, true, true, true, false, false] rfl rfl (any_of HT_.out (by kernel_rfl)) (fun _ _ _ h => h) (Or.inl ⟨by rfl, ?_⟩) ?_ ?_
                              rotate_left
                              · intro w'
                                go_simp
                                with_reducible rfl
                              rotate_left
                              · simp only [Act.put, List.setIfInBounds_toArray, List.set_cons_zero, List.set_cons_succ, i64_w, i32_w]
                                rfl
                              refine pure_ (i := 14) (N := some 68) (v := ?_) (a' := ?_) #[true, true, true, true, true, true, true, true, true, true, true, true, true, true, true, false] rfl rfl (any_of HT_.out (by kernel_rfl)) (fun _ _ _ h => h) (Or.inl ⟨by rfl, ?_⟩) ?_ ?_
                              rotate_left
                              · intro w'
                                go_simp
                                with_reducible rfl
                              rotate_left
                              · simp only [Act.put, List.setIfInBounds_toArray, List.set_cons_zero, List.set_cons_succ, i64_w, i32_w]
                                rfl
                              refine pure_ (i := 15) (N := some 69) (v := ?_) (a' := ?_) #[true, true, true, true, true, true, true, true, true, true, true, true, true, true, true, true] rfl rfl (any_of HT_.out (by kernel_rfl)) (fun _ _ _ h => h) (Or.inl ⟨by rfl, ?_⟩) ?_ ?_
                              rotate_left
                              · intro w'
                                go_simp
                                with_reducible rfl
                              rotate_left
                              · simp only [Act.put, List.setIfInBounds_toArray, List.set_cons_zero, List.set_cons_succ, i64_w, i32_w]
                                rfl
                              refine done_ (done_of HT_.out (by kernel_rfl)) ?_
                              try go_wp2
                              go_ret
                              exact ⟨by first | rfl | (simp [errW_none, errW_some] <;> rfl) | (simp [*, errW_none, errW_some] <;> rfl), by repeat (first | (with_reducible first | exact HB.out | apply below_alloc | apply pw_below_drewN | apply below_drew1 | refine below_set ?_ GE137.out) | exact HB.out)⟩
                          · replace c54 := Bool.eq_false_iff.mpr c54
                            subst c54
                            have H1 : (heraldlaw10_StateBook.l0 kj18 l0 t139 (wrap64 (x5_1 + 1)) x138000_18 false x138002_18 x138003_18) = some r := by rw [if_neg (show ¬ (false = true) by decide)] at H; exact H
                            clear H
                            have H := H1
                            clear H1
                            as_aux_lemma =>
                              have H' := Aside0.mk H
                              clear H
                              try go_wp2
                              have n0_ := Aside0.mk (blk_drew BK137.out)
                              have n1_ := Aside0.mk (below_drew1 HB.out)
                              clear BK137
                              clear HB
                              have BK137 := n0_
                              have HB := n1_
                              clear n0_ n1_
                              refine start_ (n := 16) (S := fun w' => w'.cell? ⟨gb137, 0, none⟩ = some (.bool x138000_18) ∧ w'.cell? ⟨gb137, 1, none⟩ = some (.bool false) ∧ w'.cell? ⟨gb137, 2, none⟩ = some (.bool x138002_18) ∧ w'.cell? ⟨gb137, 3, none⟩ = some (.bool x138003_18)) (ds := []) #[false, false, false, false, false, false, false, false, false, false, false, false, false, false, false, false] (by kernel_rfl) rfl rfl ⟨(blk_cell BK137.out 0).trans rfl, (blk_cell BK137.out 1).trans rfl, (blk_cell BK137.out 2).trans rfl, (blk_cell BK137.out 3).trans rfl⟩ (fun hHeld => ?_); refine with_tabW heraldlaw10_StateBook.tab14 heraldlaw10_StateBook.bits14 (fun HT_ HW_ => ?_)
                              generalize wc.drew = w58 at BK137 HB hHeld ⊢
                              refine pure_ (i := 0) (N := some 54) (v := ?_) (a' := ?_) #[true, false, false, false, false, false, false, false, false, false, false, false, false, false, false, false] rfl rfl (any_of HT_.out (by kernel_rfl)) (fun _ _ _ h => h) (Or.inl ⟨by rfl, ?_⟩) ?_ ?_
                              rotate_left
                              · intro w'
                                go_simp
                                with_reducible rfl
                              rotate_left
                              · simp only [Act.put, List.setIfInBounds_toArray, List.set_cons_zero, List.set_cons_succ, i64_w, i32_w]
                                rfl
                              refine take_ (i := 1) (N := some 55) (v := ?_) (a' := ?_) #[true, true, false, false, false, false, false, false, false, false, false, false, false, false, false, false] rfl rfl (take_ofW HT_.out HW_.out (by kernel_rfl)) (fun _ _ _ h => h) (Or.inl ⟨by rfl, ?_⟩) hHeld ?_ ?_
                              rotate_left
                              · rintro w' ⟨s0, s1, s2, s3⟩
                                go_simp
                                with_reducible rfl
                              rotate_left
                              · simp only [Act.put, List.setIfInBounds_toArray, List.set_cons_zero, List.set_cons_succ, i64_w, i32_w]
                                rfl
                              refine one_ (i := 2) (N := some 56) #[true, true, true, false, false, false, false, false, false, false, false, false, false, false, false, false] rfl rfl (one_of HT_.out (by kernel_rfl)) (by decide) (fun K hK => ?_)
                              refine goes_ Tryd.func16 (by kernel_rfl) rfl #[.agg #[.bool x138000_18, .bool false, .bool x138002_18, .bool x138003_18]] (by rfl) rfl rfl (by (try simp only [List.map_toArray, List.map_cons, List.map_nil]); first | done | rfl | (simp only [List.length_drop, List.length_take]; rfl)) ?_
                              with_reducible refine (heraldlaw10_Book_state.calls kj18 x138000_18 false x138002_18 x138003_18 t149 _ A30.out).mono ?_
                              rintro e w59 ⟨rfl, hb⟩
                              refine ⟨_, rfl, ?_⟩
                              have n0_ := Aside0.mk (blk_below (g := gb137) (o := .cells #[.bool x138000_18, .bool false, .bool x138002_18, .bool x138003_18] 37 (0, 0)) (by (with_reducible repeat (first | refine blk_drewN ?_ _ | refine blk_drew ?_ | refine blk_alloc ?_ _)); exact BK137.out) hb)
                              have n1_ := Aside0.mk (below_step (by repeat (first | (with_reducible first | exact HB.out | apply below_alloc | apply pw_below_drewN | apply below_drew1 | refine below_set ?_ GE137.out) | exact HB.out)) hb)
                              clear BK137
                              clear HB
                              have BK137 := n0_
                              have HB := n1_
                              clear n0_ n1_
                              (try clear hb)
                              (try clear hb2)
                              (try clear hk)
                              (try clear hi)
                              refine hK.out _ _ ⟨(blk_cell BK137.out 0).trans rfl, (blk_cell BK137.out 1).trans rfl, (blk_cell BK137.out 2).trans rfl, (blk_cell BK137.out 3).trans rfl⟩ (fun hHeld => ?_)
                              clear hK K
                              refine norm_ (a' := ?_) ?_ ?_
                              rotate_left
                              · show Act.put _ (some 56) _ = _
                                simp only [Act.put, List.setIfInBounds_toArray, List.set_cons_zero, List.set_cons_succ, i64_w, i32_w]
                                rfl
                              refine pure_ (i := 3) (N := some 57) (v := ?_) (a' := ?_) #[true, true, true, true, false, false, false, false, false, false, false, false, false, false, false, false] rfl rfl (any_of HT_.out (by kernel_rfl)) (fun _ _ _ h => h) (Or.inl ⟨by rfl, ?_⟩) ?_ ?_
                              rotate_left
                              · intro w'
                                go_simp
                                with_reducible rfl
                              rotate_left
                              · simp only [Act.put, List.setIfInBounds_toArray, List.set_cons_zero, List.set_cons_succ, i64_w, i32_w]
                                rfl
                              refine pure_ (i := 4) (N := some 58) (v := ?_) (a' := ?_) #[true, true, true, true, true, false, false, false, false, false, false, false, false, false, false, false] rfl rfl (any_of HT_.out (by kernel_rfl)) (fun _ _ _ h => h) (Or.inl ⟨by rfl, ?_⟩) ?_ ?_
                              rotate_left
                              · intro w'
                                go_simp
                                with_reducible rfl
                              rotate_left
                              · simp only [Act.put, List.setIfInBounds_toArray, List.set_cons_zero, List.set_cons_succ, i64_w, i32_w]
                                rfl
                              refine pure_ (i := 5) (N := some 59) (v := ?_) (a' := ?_) #[true, true, true, true, true, true, false, false, false, false, false, false, false, false, false, false] rfl rfl (any_of HT_.out (by kernel_rfl)) (fun _ _ _ h => h) (Or.inl ⟨by rfl, ?_⟩) ?_ ?_
                              rotate_left
                              · intro w'
                                go_simp
                                with_reducible rfl
                              rotate_left
                              · simp only [Act.put, List.setIfInBounds_toArray, List.set_cons_zero, List.set_cons_succ, i64_w, i32_w]
                                rfl
                              refine pure_ (i := 7) (N := some 61) (v := ?_) (a' := ?_) #[true, true, true, true, true, true, false, true, false, false, false, false, false, false, false, false] rfl rfl (any_of HT_.out (by kernel_rfl)) (fun _ _ _ h => h) (Or.inl ⟨by rfl, ?_⟩) ?_ ?_
                              rotate_left
                              · intro w'
                                go_simp
                                with_reducible rfl
                              rotate_left
                              · simp only [Act.put, List.setIfInBounds_toArray, List.set_cons_zero, List.set_cons_succ, i64_w, i32_w]
                                rfl
                              refine take_ (i := 8) (N := some 62) (v := ?_) (a' := ?_) #[true, true, true, true, true, true, false, true, true, false, false, false, false, false, false, false] rfl rfl (take_ofW HT_.out HW_.out (by kernel_rfl)) (fun _ _ _ h => h) (Or.inl ⟨by rfl, ?_⟩) hHeld ?_ ?_
                              rotate_left
                              · rintro w' ⟨s0, s1, s2, s3⟩
                                go_simp
                                with_reducible rfl
                              rotate_left
                              · simp only [Act.put, List.setIfInBounds_toArray, List.set_cons_zero, List.set_cons_succ, i64_w, i32_w]
                                rfl
                              refine one_ (i := 6) (N := some 60) #[true, true, true, true, true, true, true, true, true, false, false, false, false, false, false, false] rfl rfl (one_of HT_.out (by kernel_rfl)) (by decide) (fun K hK => ?_)
                              refine goes_ Tryd.func10 (by kernel_rfl) rfl #[.int .i64 t139] (by rfl) rfl rfl (by (try simp only [List.map_toArray, List.map_cons, List.map_nil]); first | done | rfl | (simp only [List.length_drop, List.length_take]; rfl)) ?_
                              with_reducible refine (state_Counts.calls kj18 t139 false _ A32.out).mono ?_
                              rintro e w60 ⟨rfl, hb⟩
                              refine ⟨_, rfl, ?_⟩
                              have n0_ := Aside0.mk (blk_below (g := gb137) (o := .cells #[.bool x138000_18, .bool false, .bool x138002_18, .bool x138003_18] 37 (0, 0)) (by (with_reducible repeat (first | refine blk_drewN ?_ _ | refine blk_drew ?_ | refine blk_alloc ?_ _)); exact BK137.out) hb)
                              have n1_ := Aside0.mk (below_step (by repeat (first | (with_reducible first | exact HB.out | apply below_alloc | apply pw_below_drewN | apply below_drew1 | refine below_set ?_ GE137.out) | exact HB.out)) hb)
                              clear BK137
                              clear HB
                              have BK137 := n0_
                              have HB := n1_
                              clear n0_ n1_
                              (try clear hb)
                              (try clear hb2)
                              (try clear hk)
                              (try clear hi)
                              refine hK.out _ _ ⟨(blk_cell BK137.out 0).trans rfl, (blk_cell BK137.out 1).trans rfl, (blk_cell BK137.out 2).trans rfl, (blk_cell BK137.out 3).trans rfl⟩ (fun hHeld => ?_)
                              clear hK K
                              refine norm_ (a' := ?_) ?_ ?_
                              rotate_left
                              · show Act.put _ (some 60) _ = _
                                simp only [Act.put, List.setIfInBounds_toArray, List.set_cons_zero, List.set_cons_succ, i64_w, i32_w]
                                rfl
                              refine pure_ (i := 9) (N := some 63) (v := ?_) (a' := ?_) #[true, true, true, true, true, true, true, true, true, true, false, false, false, false, false, false] rfl rfl (any_of HT_.out (by kernel_rfl)) (fun _ _ _ h => h) (Or.inl ⟨by rfl, ?_⟩) ?_ ?_
                              rotate_left
                              · intro w'
                                go_simp
                                with_reducible rfl
                              rotate_left
                              · simp only [Act.put, List.setIfInBounds_toArray, List.set_cons_zero, List.set_cons_succ, i64_w, i32_w]
                                rfl
                              refine pure_ (i := 10) (N := some 64) (v := undef) (a' := ?_) #[true, true, true, true, true, true, true, true, true, true, true, false, false, false, false, false] rfl rfl (any_of HT_.out (by kernel_rfl)) (fun _ _ _ h => h) (Or.inr ⟨by rfl, rfl⟩) ?_ ?_
                              rotate_left
                              · simp only [Act.put, List.setIfInBounds_toArray, List.set_cons_zero, List.set_cons_succ, i64_w, i32_w]
                                rfl
                              refine pure_ (i := 11) (N := some 65) (v := undef) (a' := ?_) #[true, true, true, true, true, true, true, true, true, true, true, true, false, false, false, false] rfl rfl (any_of HT_.out (by kernel_rfl)) (fun _ _ _ h => h) (Or.inr ⟨by rfl, rfl⟩) ?_ ?_
                              rotate_left
                              · simp only [Act.put, List.setIfInBounds_toArray, List.set_cons_zero, List.set_cons_succ, i64_w, i32_w]
                                rfl
                              refine pure_ (i := 12) (N := some 66) (v := undef) (a' := ?_) #[true, true, true, true, true, true, true, true, true, true, true, true, true, false, false, false] rfl rfl (any_of HT_.out (by kernel_rfl)) (fun _ _ _ h => h) (Or.inr ⟨by rfl, rfl⟩) ?_ ?_
                              rotate_left
                              · simp only [Act.put, List.setIfInBounds_toArray, List.set_cons_zero, List.set_cons_succ, i64_w, i32_w]
                                rfl
                              refine pure_ (i := 13) (N := some 67) (v := ?_) (a' := ?_) #[true, true, true, true, true, true, true, true, true, true, true, true, true, true, false, false] rfl rfl (any_of HT_.out (by kernel_rfl)) (fun _ _ _ h => h) (Or.inl ⟨by rfl, ?_⟩) ?_ ?_
                              rotate_left
                              · intro w'
                                go_simp
                                with_reducible rfl
                              rotate_left
                              · simp only [Act.put, List.setIfInBounds_toArray, List.set_cons_zero, List.set_cons_succ, i64_w, i32_w]
                                rfl
                              refine pure_ (i := 14) (N := some 68) (v := ?_) (a' := ?_) #[true, true, true, true, true, true, true, true, true, true, true, true, true, true, true, false] rfl rfl (any_of HT_.out (by kernel_rfl)) (fun _ _ _ h => h) (Or.inl ⟨by rfl, ?_⟩) ?_ ?_
                              rotate_left
                              · intro w'
                                go_simp
                                with_reducible rfl
                              rotate_left
                              · simp only [Act.put, List.setIfInBounds_toArray, List.set_cons_zero, List.set_cons_succ, i64_w, i32_w]
                                rfl
                              refine pure_ (i := 15) (N := some 69) (v := ?_) (a' := ?_) #[true, true, true, true, true, true, true, true, true, true, true, true, true, true, true, true] rfl rfl (any_of HT_.out (by kernel_rfl)) (fun _ _ _ h => h) (Or.inl ⟨by rfl, ?_⟩) ?_ ?_
                              rotate_left
                              · intro w'
                                go_simp
                                with_reducible rfl
                              rotate_left
                              · simp only [Act.put, List.setIfInBounds_toArray, List.set_cons_zero, List.set_cons_succ, i64_w, i32_w]
                                rfl
                              refine done_ (done_of HT_.out (by kernel_rfl)) ?_
                              try go_wp2
                              go_roundg kj18
                              case measure => have := HK1.out; have := HJ10.out; have := HJ18.out; omega
                              case rel => exact ⟨(t139), (wrap64 (x5_1 + 1)), (x138000_18), (false), (x138002_18), (x138003_18), (by first | rfl | (simp; done) | (simp [*]; done)), (by first | rfl | (simp; done) | (simp [*]; done)), H', ⟨by have := HK1.out; have := HJ10.out; have := HJ18.out; omega⟩, ⟨by (with_reducible repeat (first | refine blk_drewN ?_ _ | refine blk_drew ?_ | refine blk_alloc ?_ _)); exact BK137.out⟩, ⟨by repeat (first | (with_reducible first | exact HB.out | apply below_alloc | apply pw_below_drewN | apply below_drew1 | refine below_set ?_ GE137.out) | exact HB.out)⟩⟩
                      · rw [if_neg c31] at H
                        have c31b0 : (t139 == t149) = false := beq_eq_false_iff_ne.mpr c31
                        have c31b1 : (t139 != t149) = true := bne_iff_ne.mpr c31
                        as_aux_lemma =>
                          obtain rfl := Option.some.inj H
                          try go_wp2
                          have n0_ := Aside0.mk (blk_drew BK137.out)
                          have n1_ := Aside0.mk (below_drew1 HB.out)
                          clear BK137
                          clear HB
                          have BK137 := n0_
                          have HB := n1_
                          clear n0_ n1_
                          refine start_ (n := 16) (S := fun w' => w'.cell? ⟨gb137, 0, none⟩ = some (.bool x138000_18) ∧ w'.cell? ⟨gb137, 1, none⟩ = some (.bool x138001_18) ∧ w'.cell? ⟨gb137, 2, none⟩ = some (.bool x138002_18) ∧ w'.cell? ⟨gb137, 3, none⟩ = some (.bool x138003_18)) (ds := []) #[false, false, false, false, false, false, false, false, false, false, false, false, false, false, false, false] (by kernel_rfl) rfl rfl ⟨(blk_cell BK137.out 0).trans rfl, (blk_cell BK137.out 1).trans rfl, (blk_cell BK137.out 2).trans rfl, (blk_cell BK137.out 3).trans rfl⟩ (fun hHeld => ?_); refine with_tabW heraldlaw10_StateBook.tab14 heraldlaw10_StateBook.bits14 (fun HT_ HW_ => ?_)
                          generalize wc.drew = w61 at BK137 HB hHeld ⊢
                          refine pure_ (i := 0) (N := some 54) (v := ?_) (a' := ?_) #[true, false, false, false, false, false, false, false, false, false, false, false, false, false, false, false] rfl rfl (any_of HT_.out (by kernel_rfl)) (fun _ _ _ h => h) (Or.inl ⟨by rfl, ?_⟩) ?_ ?_
                          rotate_left
                          · intro w'
                            go_simp
                            with_reducible rfl
                          rotate_left
                          · simp only [Act.put, List.setIfInBounds_toArray, List.set_cons_zero, List.set_cons_succ, i64_w, i32_w]
                            rfl
                          refine take_ (i := 1) (N := some 55) (v := ?_) (a' := ?_) #[true, true, false, false, false, false, false, false, false, false, false, false, false, false, false, false] rfl rfl (take_ofW HT_.out HW_.out (by kernel_rfl)) (fun _ _ _ h => h) (Or.inl ⟨by rfl, ?_⟩) hHeld ?_ ?_
                          rotate_left
                          · rintro w' ⟨s0, s1, s2, s3⟩
                            go_simp
                            with_reducible rfl
                          rotate_left
                          · simp only [Act.put, List.setIfInBounds_toArray, List.set_cons_zero, List.set_cons_succ, i64_w, i32_w]
                            rfl
                          refine one_ (i := 2) (N := some 56) #[true, true, true, false, false, false, false, false, false, false, false, false, false, false, false, false] rfl rfl (one_of HT_.out (by kernel_rfl)) (by decide) (fun K hK => ?_)
                          refine goes_ Tryd.func16 (by kernel_rfl) rfl #[.agg #[.bool x138000_18, .bool x138001_18, .bool x138002_18, .bool x138003_18]] (by rfl) rfl rfl (by (try simp only [List.map_toArray, List.map_cons, List.map_nil]); first | done | rfl | (simp only [List.length_drop, List.length_take]; rfl)) ?_
                          with_reducible refine (heraldlaw10_Book_state.calls kj18 x138000_18 x138001_18 x138002_18 x138003_18 t149 _ A30.out).mono ?_
                          rintro e w62 ⟨rfl, hb⟩
                          refine ⟨_, rfl, ?_⟩
                          have n0_ := Aside0.mk (blk_below (g := gb137) (o := .cells #[.bool x138000_18, .bool x138001_18, .bool x138002_18, .bool x138003_18] 37 (0, 0)) (by (with_reducible repeat (first | refine blk_drewN ?_ _ | refine blk_drew ?_ | refine blk_alloc ?_ _)); exact BK137.out) hb)
                          have n1_ := Aside0.mk (below_step (by repeat (first | (with_reducible first | exact HB.out | apply below_alloc | apply pw_below_drewN | apply below_drew1 | refine below_set ?_ GE137.out) | exact HB.out)) hb)
                          clear BK137
                          clear HB
                          have BK137 := n0_
                          have HB := n1_
                          clear n0_ n1_
                          (try clear hb)
                          (try clear hb2)
                          (try clear hk)
                          (try clear hi)
                          refine hK.out _ _ ⟨(blk_cell BK137.out 0).trans rfl, (blk_cell BK137.out 1).trans rfl, (blk_cell BK137.out 2).trans rfl, (blk_cell BK137.out 3).trans rfl⟩ (fun hHeld => ?_)
                          clear hK K
                          refine norm_ (a' := ?_) ?_ ?_
                          rotate_left
                          · show Act.put _ (some 56) _ = _
                            simp only [Act.put, List.setIfInBounds_toArray, List.set_cons_zero, List.set_cons_succ, i64_w, i32_w]
                            rfl
                          refine pure_ (i := 3) (N := some 57) (v := ?_) (a' := ?_) #[true, true, true, true, false, false, false, false, false, false, false, false, false, false, false, false] rfl rfl (any_of HT_.out (by kernel_rfl)) (fun _ _ _ h => h) (Or.inl ⟨by rfl, ?_⟩) ?_ ?_
                          rotate_left
                          · intro w'
                            go_simp
                            with_reducible rfl
                          rotate_left
                          · simp only [Act.put, List.setIfInBounds_toArray, List.set_cons_zero, List.set_cons_succ, i64_w, i32_w]
                            rfl
                          refine pure_ (i := 4) (N := some 58) (v := ?_) (a' := ?_) #[true, true, true, true, true, false, false, false, false, false, false, false, false, false, false, false] rfl rfl (any_of HT_.out (by kernel_rfl)) (fun _ _ _ h => h) (Or.inl ⟨by rfl, ?_⟩) ?_ ?_
                          rotate_left
                          · intro w'
                            go_simp
                            with_reducible rfl
                          rotate_left
                          · simp only [Act.put, List.setIfInBounds_toArray, List.set_cons_zero, List.set_cons_succ, i64_w, i32_w]
                            rfl
                          refine pure_ (i := 5) (N := some 59) (v := undef) (a' := ?_) #[true, true, true, true, true, true, false, false, false, false, false, false, false, false, false, false] rfl rfl (any_of HT_.out (by kernel_rfl)) (fun _ _ _ h => h) (Or.inr ⟨by rfl, rfl⟩) ?_ ?_
                          rotate_left
                          · simp only [Act.put, List.setIfInBounds_toArray, List.set_cons_zero, List.set_cons_succ, i64_w, i32_w]
                            rfl
                          refine pure_ (i := 6) (N := some 60) (v := undef) (a' := ?_) #[true, true, true, true, true, true, true, false, false, false, false, false, false, false, false, false] rfl rfl (any_of HT_.out (by kernel_rfl)) (fun _ _ _ h => h) (Or.inr ⟨by rfl, rfl⟩) ?_ ?_
                          rotate_left
                          · simp only [Act.put, List.setIfInBounds_toArray, List.set_cons_zero, List.set_cons_succ, i64_w, i32_w]
                            rfl
                          refine pure_ (i := 7) (N := some 61) (v := undef) (a' := ?_) #[true, true, true, true, true, true, true, true, false, false, false, false, false, false, false, false] rfl rfl (any_of HT_.out (by kernel_rfl)) (fun _ _ _ h => h) (Or.inr ⟨by rfl, rfl⟩) ?_ ?_
                          rotate_left
                          · simp only [Act.put, List.setIfInBounds_toArray, List.set_cons_zero, List.set_cons_succ, i64_w, i32_w]
                            rfl
                          refine pure_ (i := 8) (N := some 62) (v := undef) (a' := ?_) #[true, true, true, true, true, true, true, true, true, false, false, false, false, false, false, false] rfl rfl (any_of HT_.out (by kernel_rfl)) (fun _ _ _ h => h) (Or.inr ⟨by rfl, rfl⟩) ?_ ?_
                          rotate_left
                          · simp only [Act.put, List.setIfInBounds_toArray, List.set_cons_zero, List.set_cons_succ, i64_w, i32_w]
                            rfl
                          refine pure_ (i := 9) (N := some 63) (v := undef) (a' := ?_) #[true, true, true, true, true, true, true, true, true, true, false, false, false, false, false, false] rfl rfl (any_of HT_.out (by kernel_rfl)) (fun _ _ _ h => h) (Or.inr ⟨by rfl, rfl⟩) ?_ ?_
                          rotate_left
                          · simp only [Act.put, List.setIfInBounds_toArray, List.set_cons_zero, List.set_cons_succ, i64_w, i32_w]
                            rfl
                          refine pure_ (i := 10) (N := some 64) (v := undef) (a' := ?_) #[true, true, true, true, true, true, true, true, true, true, true, false, false, false, false, false] rfl rfl (any_of HT_.out (by kernel_rfl)) (fun _ _ _ h => h) (Or.inr ⟨by rfl, rfl⟩) ?_ ?_
                          rotate_left
                          · simp only [Act.put, List.setIfInBounds_toArray, List.set_cons_zero, List.set_cons_succ, i64_w, i32_w]
                            rfl
                          refine pure_ (i := 11) (N := some 65) (v := undef) (a' := ?_) #[true, true, true, true, true, true, true, true, true, true, true, true, false, false, false, false] rfl rfl (any_of HT_.out (by kernel_rfl)) (fun _ _ _ h => h) (Or.inr ⟨by rfl, rfl⟩) ?_ ?_
                          rotate_left
                          · simp only [Act.put, List.setIfInBounds_toArray, List.set_cons_zero, List.set_cons_succ, i64_w, i32_w]
                            rfl
                          refine pure_ (i := 12) (N := some 66) (v := undef) (a' := ?_) #[true, true, true, true, true, true, true, true, true, true, true, true, true, false, false, false] rfl rfl (any_of HT_.out (by kernel_rfl)) (fun _ _ _ h => h) (Or.inr ⟨by rfl, rfl⟩) ?_ ?_
                          rotate_left
                          · simp only [Act.put, List.setIfInBounds_toArray, List.set_cons_zero, List.set_cons_succ, i64_w, i32_w]
                            rfl
                          refine pure_ (i := 13) (N := some 67) (v := undef) (a' := ?_) #[true, true, true, true, true, true, true, true, true, true, true, true, true, true, false, false] rfl rfl (any_of HT_.out (by kernel_rfl)) (fun _ _ _ h => h) (Or.inr ⟨by rfl, rfl⟩) ?_ ?_
                          rotate_left
                          · simp only [Act.put, List.setIfInBounds_toArray, List.set_cons_zero, List.set_cons_succ, i64_w, i32_w]
                            rfl
                          refine pure_ (i := 14) (N := some 68) (v := undef) (a' := ?_) #[true, true, true, true, true, true, true, true, true, true, true, true, true, true, true, false] rfl rfl (any_of HT_.out (by kernel_rfl)) (fun _ _ _ h => h) (Or.inr ⟨by rfl, rfl⟩) ?_ ?_
                          rotate_left
                          · simp only [Act.put, List.setIfInBounds_toArray, List.set_cons_zero, List.set_cons_succ, i64_w, i32_w]
                            rfl
                          refine pure_ (i := 15) (N := some 69) (v := ?_) (a' := ?_) #[true, true, true, true, true, true, true, true, true, true, true, true, true, true, true, true] rfl rfl (any_of HT_.out (by kernel_rfl)) (fun _ _ _ h => h) (Or.inl ⟨by rfl, ?_⟩) ?_ ?_
                          rotate_left
                          · intro w'
                            go_simp
                            with_reducible rfl
                          rotate_left
                          · simp only [Act.put, List.setIfInBounds_toArray, List.set_cons_zero, List.set_cons_succ, i64_w, i32_w]
                            rfl
                          refine done_ (done_of HT_.out (by kernel_rfl)) ?_
                          try go_wp2
                          go_ret
                          exact ⟨by first | rfl | (simp [errW_none, errW_some] <;> rfl) | (simp [*, errW_none, errW_some] <;> rfl), by repeat (first | (with_reducible first | exact HB.out | apply below_alloc | apply pw_below_drewN | apply below_drew1 | refine below_set ?_ GE137.out) | exact HB.out)⟩
          · rw [if_neg c8] at H
            exact absurd H (by simp)
        · rw [if_neg c7] at H
          have c7b0 : decide (x5_1 < (l0.length : Int)) = false := decide_eq_false c7
          clear c7
          as_aux_lemma =>
            obtain rfl := Option.some.inj H
            go_wp2
            go_ret
            exact ⟨by first | rfl | (simp [errW_none, errW_some] <;> rfl) | (simp [*, errW_none, errW_some] <;> rfl), by repeat (first | (with_reducible first | exact HB.out | apply below_alloc | apply pw_below_drewN | apply below_drew1 | refine below_set ?_ GE137.out) | exact HB.out)⟩
  · replace c3 := Bool.eq_false_iff.mpr c3
    subst c3
    have H1 : (some false) = some r := by rw [if_neg (show ¬ (false = true) by decide)] at H; exact H
    clear H
    have H := H1
    clear H1
    as_aux_lemma =>
      obtain rfl := Option.some.inj H
      go_enter Tryd.func5, Tryd.ntmps5
      go_wp2_with (first | ((with_reducible refine gate_callee (f := 8) rfl ?_); refine goesL_ (some 10) rfl rfl Tryd.func8 (by kernel_rfl) rfl #[] rfl (by (try simp only [List.map_toArray, List.map_cons, List.map_nil]); first | done | rfl | (simp only [List.length_drop, List.length_take]; rfl)) ?_; (with_reducible refine (heraldlaw10_head.calls k  false _ ?side1 A2.out).mono ?_); (case side1 => exact GL.below HG.out (by repeat (first | (with_reducible first | exact HB.out | apply below_alloc | apply pw_below_drewN | apply below_drew1) | exact HB.out))); rintro e w63 ⟨rfl, hb⟩; refine ⟨_, rfl, ?_⟩; have n0_ := Aside0.mk (below_step (by repeat (first | (with_reducible first | exact HB.out | apply below_alloc | apply pw_below_drewN | apply below_drew1) | exact HB.out)) hb); clear HB; have HB := n0_; clear n0_; (try clear hb); (try clear hb2); (try clear hk); (try clear hi)))
      go_ret
      exact ⟨by first | rfl | (simp [errW_none, errW_some] <;> rfl) | (simp [*, errW_none, errW_some] <;> rfl), by repeat (first | (with_reducible first | exact HB.out | apply below_alloc | apply pw_below_drewN | apply below_drew1) | exact HB.out)⟩

end Go.Proofs.YtndhaakknkkpfaaDoor.QBook
