/- Written by a program of this session (a changed run of the kit's printer): what the Go functions of one call tree answer, as plain functions, and that the machine's calls answer so; no condition but those in each statement. -/
import Derived.Test.YtndhaakknkkpfaaDoorQAllx0
import Derived.Test.YtndhaakknkkpfaaDoorQAllx2
import Derived.Test.YtndhaakknkkpfaaDoorQAllx3
namespace Go.Proofs.YtndhaakknkkpfaaDoor.QAll
open Go.RowKit Go.Proofs.YtndhaakknkkpfaaDoorW.PrintWords Go.Proofs.YtndhaakknkkpfaaDoorW.PrintLast Go.Proofs.YtndhaakknkkpfaaDoorW.PrintMore
attribute [local go_sem] max2_int min2_int max_two min_two max_three min_three max_four min_four   -- for this text's walks alone
set_option linter.unusedVariables false
set_option linter.unusedSimpArgs false

/-! ### heraldlaw10_mirror: function 18 -/
def heraldlaw10_mirror.f (a0 : Int) : Option (Int) := if a0 = 1 then (some 2) else (if a0 = 2 then (some 1) else (if a0 = 4 then (some 5) else (if a0 = 5 then (some 4) else (some a0))))
set_option maxHeartbeats 8000000 in
set_option maxRecDepth 100000 in
theorem heraldlaw10_mirror.calls (a0 : Int) (r : Int) (w : World) (h : heraldlaw10_mirror.f a0 = some r) :
    Calls Tryd.prog 18 #[.int .i64 a0] w fun e w' => e = .returned (.int .i64 r) ∧ Drawn0 w w' := by
  have H : (if a0 = 1 then (some 2) else (if a0 = 2 then (some 1) else (if a0 = 4 then (some 5) else (if a0 = 5 then (some 4) else (some a0))))) = some r := h
  clear h
  by_cases c2 : a0 = 1
  · rw [if_pos c2] at H
    have c2b0 : (a0 == 1) = true := beq_iff_eq.mpr c2
    have c2b1 : (a0 != 1) = false := bne_eq_false_iff_eq.mpr c2
    clear c2
    obtain rfl := Option.some.inj H
    go_enter Tryd.func18, Tryd.ntmps18
    go_wp2
    go_ret
    exact ⟨by first | rfl | (simp; done) | (simp [*]; done), by repeat (first | exact Drawn0.refl _ | apply Drawn0.step)⟩
  · rw [if_neg c2] at H
    have c2b0 : (a0 == 1) = false := beq_eq_false_iff_ne.mpr c2
    have c2b1 : (a0 != 1) = true := bne_iff_ne.mpr c2
    by_cases c3 : a0 = 2
    · rw [if_pos c3] at H
      have c3b0 : (a0 == 2) = true := beq_iff_eq.mpr c3
      have c3b1 : (a0 != 2) = false := bne_eq_false_iff_eq.mpr c3
      clear c3
      obtain rfl := Option.some.inj H
      go_enter Tryd.func18, Tryd.ntmps18
      go_wp2
      go_ret
      exact ⟨by first | rfl | (simp; done) | (simp [*]; done), by repeat (first | exact Drawn0.refl _ | apply Drawn0.step)⟩
    · rw [if_neg c3] at H
      have c3b0 : (a0 == 2) = false := beq_eq_false_iff_ne.mpr c3
      have c3b1 : (a0 != 2) = true := bne_iff_ne.mpr c3
      by_cases c4 : a0 = 4
      · rw [if_pos c4] at H
        have c4b0 : (a0 == 4) = true := beq_iff_eq.mpr c4
        have c4b1 : (a0 != 4) = false := bne_eq_false_iff_eq.mpr c4
        clear c4
        obtain rfl := Option.some.inj H
        go_enter Tryd.func18, Tryd.ntmps18
        go_wp2
        go_ret
        exact ⟨by first | rfl | (simp; done) | (simp [*]; done), by repeat (first | exact Drawn0.refl _ | apply Drawn0.step)⟩
      · rw [if_neg c4] at H
        have c4b0 : (a0 == 4) = false := beq_eq_false_iff_ne.mpr c4
        have c4b1 : (a0 != 4) = true := bne_iff_ne.mpr c4
        by_cases c5 : a0 = 5
        · rw [if_pos c5] at H
          have c5b0 : (a0 == 5) = true := beq_iff_eq.mpr c5
          have c5b1 : (a0 != 5) = false := bne_eq_false_iff_eq.mpr c5
          clear c5
          obtain rfl := Option.some.inj H
          go_enter Tryd.func18, Tryd.ntmps18
          go_wp2
          go_ret
          exact ⟨by first | rfl | (simp; done) | (simp [*]; done), by repeat (first | exact Drawn0.refl _ | apply Drawn0.step)⟩
        · rw [if_neg c5] at H
          have c5b0 : (a0 == 5) = false := beq_eq_false_iff_ne.mpr c5
          have c5b1 : (a0 != 5) = true := bne_iff_ne.mpr c5
          obtain rfl := Option.some.inj H
          go_enter Tryd.func18, Tryd.ntmps18
          go_wp2
          go_ret
          exact ⟨by first | rfl | (simp; done) | (simp [*]; done), by repeat (first | exact Drawn0.refl _ | apply Drawn0.step)⟩

/-! ### heraldlaw10_StateMirror: function 6 -/
mutual
def heraldlaw10_StateMirror.j0 : Nat → Int → List (S28) → Bool → Option (Bool)
  | 0, _, _, _ => none
  | k + 1, x0, x1, x24 => if x24 = true then (heraldlaw10_StateMirror.j1 k 0 x1) else (heraldlaw10_StateMirror.j1 k x0 x1)
def heraldlaw10_StateMirror.j1 : Nat → Int → List (S28) → Option (Bool)
  | 0, _, _ => none
  | k + 1, x0, x1 => (heraldlaw10_mirror.f x0).bind fun t185 => (heraldlaw10_StateMirror.l0 k x1 x0 t185 0)
def heraldlaw10_StateMirror.l0 : Nat → List (S28) → Int → Int → Int → Option (Bool)
  | 0, _, _, _, _ => none
  | k + 1, x1, x5, x6, x7 => if x7 < (x1.length : Int) then (if 0 ≤ x7 then (if (rd_T28 x1 x7).f0 = true then (heraldlaw10_StateMirror.j3 k x1 x5 x6 x7 x6 x5 false ((rd_T28 x1 x7).f1)) else (heraldlaw10_StateMirror.j3 k x1 x5 x6 x7 x5 x6 false ((rd_T28 x1 x7).f1))) else (none)) else (some true)
def heraldlaw10_StateMirror.j3 : Nat → List (S28) → Int → Int → Int → Int → Int → Bool → Int → Option (Bool)
  | 0, _, _, _, _, _, _, _, _ => none
  | k + 1, x1, x5, x6, x7, x9, x10, x188000, x188001 => (heraldlaw10_next.f x9 x188000 x188001).bind fun bt189 => (if bt189.2.1 = 0 then ((heraldlaw10_next.f x10 true x188001).bind fun bt192 => (if bt192.2.1 > 1 then (heraldlaw10_StateMirror.j4 k x1 x7 bt189.1 bt192.1 true) else (if bt192.2.1 < 0 then (heraldlaw10_StateMirror.j4 k x1 x7 bt189.1 bt192.1 true) else (if bt192.2.2 = 0 then ((heraldlaw10_mirror.f bt189.1).bind fun t195 => (heraldlaw10_StateMirror.j4 k x1 x7 bt189.1 bt192.1 (bt192.1 != t195))) else (heraldlaw10_StateMirror.j4 k x1 x7 bt189.1 bt192.1 true))))) else (if bt189.2.1 = 4 then (if bt189.1 = x9 then (if bt189.2.2 = 0 then (heraldlaw10_StateMirror.l0 k x1 x5 x6 (wrap64 (x7 + 1))) else (some false)) else (some false)) else (some false)))
def heraldlaw10_StateMirror.j4 : Nat → List (S28) → Int → Int → Int → Bool → Option (Bool)
  | 0, _, _, _, _, _ => none
  | k + 1, x1, x7, x11, x14, x92 => if x92 = true then (some false) else (if 0 ≤ x7 then (if x7 < (x1.length : Int) then (if (rd_T28 x1 x7).f0 = true then (heraldlaw10_StateMirror.l0 k x1 x14 x11 (wrap64 (x7 + 1))) else (heraldlaw10_StateMirror.l0 k x1 x11 x14 (wrap64 (x7 + 1)))) else (none)) else (none))
end
def heraldlaw10_StateMirror.f (k : Nat) (a0 : Int) (l1 : List (S28)) : Option (Bool) := (heraldlaw10_head.f k).bind fun t184 => (if t184 = true then (if a0 < 0 then (heraldlaw10_StateMirror.j0 k a0 l1 true) else (heraldlaw10_StateMirror.j0 k a0 l1 (decide (a0 > 6)))) else (some false))
theorem heraldlaw10_StateMirror.mono_l : ∀ k, (∀ y0 y1 y2, LeO (heraldlaw10_StateMirror.j0 k y0 y1 y2) (heraldlaw10_StateMirror.j0 (k + 1) y0 y1 y2)) ∧ (∀ y0 y1, LeO (heraldlaw10_StateMirror.j1 k y0 y1) (heraldlaw10_StateMirror.j1 (k + 1) y0 y1)) ∧ (∀ y0 y1 y2 y3, LeO (heraldlaw10_StateMirror.l0 k y0 y1 y2 y3) (heraldlaw10_StateMirror.l0 (k + 1) y0 y1 y2 y3)) ∧ (∀ y0 y1 y2 y3 y4 y5 y6 y7, LeO (heraldlaw10_StateMirror.j3 k y0 y1 y2 y3 y4 y5 y6 y7) (heraldlaw10_StateMirror.j3 (k + 1) y0 y1 y2 y3 y4 y5 y6 y7)) ∧ (∀ y0 y1 y2 y3 y4, LeO (heraldlaw10_StateMirror.j4 k y0 y1 y2 y3 y4) (heraldlaw10_StateMirror.j4 (k + 1) y0 y1 y2 y3 y4))
  | 0 => ⟨fun _ _ _ r h => by simp [heraldlaw10_StateMirror.j0] at h, fun _ _ r h => by simp [heraldlaw10_StateMirror.j1] at h, fun _ _ _ _ r h => by simp [heraldlaw10_StateMirror.l0] at h, fun _ _ _ _ _ _ _ _ r h => by simp [heraldlaw10_StateMirror.j3] at h, fun _ _ _ _ _ r h => by simp [heraldlaw10_StateMirror.j4] at h⟩
  | k + 1 => by
    obtain ⟨ih0, ih1, ih2, ih3, ih4⟩ := heraldlaw10_StateMirror.mono_l k
    refine ⟨?_, ?_, ?_, ?_, ?_⟩
    · intro y0 y1 y2
      unfold heraldlaw10_StateMirror.j0
      repeat' first
      | (with_reducible exact ih0 _ _ _)
      | (with_reducible exact ih1 _ _)
      | (with_reducible exact ih2 _ _ _ _)
      | (with_reducible exact ih3 _ _ _ _ _ _ _ _)
      | (with_reducible exact ih4 _ _ _ _ _)
      | (with_reducible exact heraldlaw10_head.mono _)
      | (with_reducible exact LeO.refl _)
      | (with_reducible exact LeO.none _)
      | (with_reducible refine LeO.ite ?_ ?_)
      | (with_reducible refine LeO.bind ?_ (fun _ => ?_))
      | exact ih0 _ _ _
      | exact ih1 _ _
      | exact ih2 _ _ _ _
      | exact ih3 _ _ _ _ _ _ _ _
      | exact ih4 _ _ _ _ _
      | exact heraldlaw10_head.mono _
      | exact LeO.none _
      | refine LeO.ite ?_ ?_
      | refine LeO.bind ?_ (fun _ => ?_)
    · intro y0 y1
      unfold heraldlaw10_StateMirror.j1
      repeat' first
      | (with_reducible exact ih0 _ _ _)
      | (with_reducible exact ih1 _ _)
      | (with_reducible exact ih2 _ _ _ _)
      | (with_reducible exact ih3 _ _ _ _ _ _ _ _)
      | (with_reducible exact ih4 _ _ _ _ _)
      | (with_reducible exact heraldlaw10_head.mono _)
      | (with_reducible exact LeO.refl _)
      | (with_reducible exact LeO.none _)
      | (with_reducible refine LeO.ite ?_ ?_)
      | (with_reducible refine LeO.bind ?_ (fun _ => ?_))
      | exact ih0 _ _ _
      | exact ih1 _ _
      | exact ih2 _ _ _ _
      | exact ih3 _ _ _ _ _ _ _ _
      | exact ih4 _ _ _ _ _
      | exact heraldlaw10_head.mono _
      | exact LeO.none _
      | refine LeO.ite ?_ ?_
      | refine LeO.bind ?_ (fun _ => ?_)
    · intro y0 y1 y2 y3
      unfold heraldlaw10_StateMirror.l0
      repeat' first
      | (with_reducible exact ih0 _ _ _)
      | (with_reducible exact ih1 _ _)
      | (with_reducible exact ih2 _ _ _ _)
      | (with_reducible exact ih3 _ _ _ _ _ _ _ _)
      | (with_reducible exact ih4 _ _ _ _ _)
      | (with_reducible exact heraldlaw10_head.mono _)
      | (with_reducible exact LeO.refl _)
      | (with_reducible exact LeO.none _)
      | (with_reducible refine LeO.ite ?_ ?_)
      | (with_reducible refine LeO.bind ?_ (fun _ => ?_))
      | exact ih0 _ _ _
      | exact ih1 _ _
      | exact ih2 _ _ _ _
      | exact ih3 _ _ _ _ _ _ _ _
      | exact ih4 _ _ _ _ _
      | exact heraldlaw10_head.mono _
      | exact LeO.none _
      | refine LeO.ite ?_ ?_
      | refine LeO.bind ?_ (fun _ => ?_)
    · intro y0 y1 y2 y3 y4 y5 y6 y7
      unfold heraldlaw10_StateMirror.j3
      repeat' first
      | (with_reducible exact ih0 _ _ _)
      | (with_reducible exact ih1 _ _)
      | (with_reducible exact ih2 _ _ _ _)
      | (with_reducible exact ih3 _ _ _ _ _ _ _ _)
      | (with_reducible exact ih4 _ _ _ _ _)
      | (with_reducible exact heraldlaw10_head.mono _)
      | (with_reducible exact LeO.refl _)
      | (with_reducible exact LeO.none _)
      | (with_reducible refine LeO.ite ?_ ?_)
      | (with_reducible refine LeO.bind ?_ (fun _ => ?_))
      | exact ih0 _ _ _
      | exact ih1 _ _
      | exact ih2 _ _ _ _
      | exact ih3 _ _ _ _ _ _ _ _
      | exact ih4 _ _ _ _ _
      | exact heraldlaw10_head.mono _
      | exact LeO.none _
      | refine LeO.ite ?_ ?_
      | refine LeO.bind ?_ (fun _ => ?_)
    · intro y0 y1 y2 y3 y4
      unfold heraldlaw10_StateMirror.j4
      repeat' first
      | (with_reducible exact ih0 _ _ _)
      | (with_reducible exact ih1 _ _)
      | (with_reducible exact ih2 _ _ _ _)
      | (with_reducible exact ih3 _ _ _ _ _ _ _ _)
      | (with_reducible exact ih4 _ _ _ _ _)
      | (with_reducible exact heraldlaw10_head.mono _)
      | (with_reducible exact LeO.refl _)
      | (with_reducible exact LeO.none _)
      | (with_reducible refine LeO.ite ?_ ?_)
      | (with_reducible refine LeO.bind ?_ (fun _ => ?_))
      | exact ih0 _ _ _
      | exact ih1 _ _
      | exact ih2 _ _ _ _
      | exact ih3 _ _ _ _ _ _ _ _
      | exact ih4 _ _ _ _ _
      | exact heraldlaw10_head.mono _
      | exact LeO.none _
      | refine LeO.ite ?_ ?_
      | refine LeO.bind ?_ (fun _ => ?_)
theorem heraldlaw10_StateMirror.mono : ∀ a0 a1 k, LeO (heraldlaw10_StateMirror.f k a0 a1) (heraldlaw10_StateMirror.f (k + 1) a0 a1) := by
  intro a0 a1 k
  obtain ⟨ih0, ih1, ih2, ih3, ih4⟩ := heraldlaw10_StateMirror.mono_l k
  unfold heraldlaw10_StateMirror.f
  repeat' first
      | (with_reducible exact ih0 _ _ _)
      | (with_reducible exact ih1 _ _)
      | (with_reducible exact ih2 _ _ _ _)
      | (with_reducible exact ih3 _ _ _ _ _ _ _ _)
      | (with_reducible exact ih4 _ _ _ _ _)
      | (with_reducible exact heraldlaw10_head.mono _)
      | (with_reducible exact LeO.refl _)
      | (with_reducible exact LeO.none _)
      | (with_reducible refine LeO.ite ?_ ?_)
      | (with_reducible refine LeO.bind ?_ (fun _ => ?_))
      | exact ih0 _ _ _
      | exact ih1 _ _
      | exact ih2 _ _ _ _
      | exact ih3 _ _ _ _ _ _ _ _
      | exact ih4 _ _ _ _ _
      | exact heraldlaw10_head.mono _
      | exact LeO.none _
      | refine LeO.ite ?_ ?_
      | refine LeO.bind ?_ (fun _ => ?_)
set_option maxHeartbeats 8000000 in
set_option maxRecDepth 100000 in
theorem heraldlaw10_StateMirror.calls (k : Nat) (a0 : Int) (A1 : Option Addr) (c1 : Nat) (l1 : List (S28)) (r : Bool) (w : World) (hG : GL w) (hr1 : Kd.C k28 w A1 l1.length l1) (hc1 : l1.length ≤ c1) (h : heraldlaw10_StateMirror.f k a0 l1 = some r) :
    Calls Tryd.prog 6 #[.int .i64 a0, .slice A1 l1.length c1] w fun e w' => e = .returned (.bool r) ∧ Below w.heap.size w w' := by
  have hu28 := Tryd.underlying28
  have HR1 := Aside0.mk hr1
  have HC1 := Aside0.mk hc1
  clear hr1 hc1
  have HG := Aside0.mk hG
  clear hG
  have HB := Aside0.mk (Below.refl w.heap.size w)
  have H : ((heraldlaw10_head.f k).bind fun t184 => (if t184 = true then (if a0 < 0 then (heraldlaw10_StateMirror.j0 k a0 l1 true) else (heraldlaw10_StateMirror.j0 k a0 l1 (decide (a0 > 6)))) else (some false))) = some r := h
  clear h
  replace H := Option.bind_eq_some_iff.mp H
  obtain ⟨t184, A30, H⟩ := H
  replace H : (if t184 = true then (if a0 < 0 then (heraldlaw10_StateMirror.j0 k a0 l1 true) else (heraldlaw10_StateMirror.j0 k a0 l1 (decide (a0 > 6)))) else (some false)) = some r := H
  have A3 := Aside0.mk A30
  clear A30
  by_cases c4 : t184 = true
  · subst c4
    have H1 : (if a0 < 0 then (heraldlaw10_StateMirror.j0 k a0 l1 true) else (heraldlaw10_StateMirror.j0 k a0 l1 (decide (a0 > 6)))) = some r := by rw [if_pos rfl] at H; exact H
    clear H
    have H := H1
    clear H1
    have HC5 := Aside0.mk H
    clear H
    go_enter Tryd.func6, Tryd.ntmps6
    go_upto_region 3 with (first | ((with_reducible refine gate_callee (f := 8) rfl ?_); refine goesL_ (some 17) rfl rfl Tryd.func8 (by kernel_rfl) rfl #[] rfl (by (try simp only [List.map_toArray, List.map_cons, List.map_nil]); first | done | rfl | (simp only [List.length_drop, List.length_take]; rfl)) ?_; (with_reducible refine (heraldlaw10_head.calls k  true _ ?side1 A3.out).mono ?_); (case side1 => exact GL.below HG.out (by repeat (first | (with_reducible first | exact HB.out | apply below_alloc | apply pw_below_drewN | apply below_drew1) | exact HB.out))); rintro e w6 ⟨rfl, hb⟩; refine ⟨_, rfl, ?_⟩; have n0_ := Aside0.mk (below_step (by repeat (first | (with_reducible first | exact HB.out | apply below_alloc | apply pw_below_drewN | apply below_drew1) | exact HB.out)) hb); clear HB; have HB := n0_; clear n0_; (try clear hb); (try clear hb2); (try clear hk); (try clear hi)))
    (try simp only [Act.put, List.setIfInBounds_toArray, List.set_cons_zero, List.set_cons_succ])
    go_cut [24] (fun v24 wc => ∃ (kq : Nat) (x24_4 : Bool), v24 = .bool x24_4 ∧ Aside0 (heraldlaw10_StateMirror.j0 kq a0 l1 x24_4 = some r) ∧ Aside0 (kq ≤ k) ∧ Aside0 (Below w.heap.size w wc))
    case first =>
      have H := HC5.out
      clear HC5
      by_cases c7 : a0 < 0
      · rw [if_pos c7] at H
        have c7b0 : decide (a0 < 0) = true := decide_eq_true c7
        clear c7
        (first | rw [c7b0] | (simp only [i64_w, i32_w]; rw [c7b0]) | skip)
        have H' := Aside0.mk H
        clear H
        go_wp2
        go_meet
        case rel => exact ⟨_, (true), (by first | rfl | (simp; done) | (simp [*]; done)), H', ⟨by first | omega | exact Nat.le_refl _⟩, ⟨by repeat (first | (with_reducible first | exact HB.out | apply below_alloc | apply pw_below_drewN | apply below_drew1) | exact HB.out)⟩⟩
      · rw [if_neg c7] at H
        have c7b0 : decide (a0 < 0) = false := decide_eq_false c7
        clear c7
        (first | rw [c7b0] | (simp only [i64_w, i32_w]; rw [c7b0]) | skip)
        have H' := Aside0.mk H
        clear H
        go_wp2
        go_meet
        case rel => exact ⟨_, (decide (a0 > 6)), (by first | rfl | (simp; done) | (simp [*]; done)), H', ⟨by first | omega | exact Nat.le_refl _⟩, ⟨by repeat (first | (with_reducible first | exact HB.out | apply below_alloc | apply pw_below_drewN | apply below_drew1) | exact HB.out)⟩⟩
    case rest =>
      clear HC5
      try clear c1
      try clear p2
      try clear c4
      try clear c6
      try clear c7
      try clear c7b0
      obtain ⟨kq, x24_4, rfl, HA, HJ4, HB⟩ := hcut
      cases kq with
      | zero => exact absurd HA.out (by simp [heraldlaw10_StateMirror.j0])
      | succ kj4 =>
        have H := HA.out
        clear HA
        simp only [heraldlaw10_StateMirror.j0] at H
        have HC8 := Aside0.mk H
        clear H
        go_upto_if 24 with (fail)
        go_cut [0] (fun v0 wc => ∃ (kq : Nat) (x0_7 : Int), v0 = .int .i64 x0_7 ∧ Aside0 (heraldlaw10_StateMirror.j1 kq x0_7 l1 = some r) ∧ Aside0 (kq ≤ kj4) ∧ Aside0 (Below w.heap.size w wc))
        case first =>
          have H := HC8.out
          clear HC8
          by_cases c9 : x24_4 = true
          · subst c9
            have H1 : (heraldlaw10_StateMirror.j1 kj4 0 l1) = some r := by rw [if_pos rfl] at H; exact H
            clear H
            have H := H1
            clear H1
            have H' := Aside0.mk H
            clear H
            go_wp2
            go_meet
            case rel => exact ⟨_, (0), (by first | rfl | (simp; done) | (simp [*]; done)), H', ⟨by have := HJ4.out; first | omega | exact Nat.le_refl _⟩, ⟨by repeat (first | (with_reducible first | exact HB.out | apply below_alloc | apply pw_below_drewN | apply below_drew1) | exact HB.out)⟩⟩
          · replace c9 := Bool.eq_false_iff.mpr c9
            subst c9
            have H1 : (heraldlaw10_StateMirror.j1 kj4 a0 l1) = some r := by rw [if_neg (show ¬ (false = true) by decide)] at H; exact H
            clear H
            have H := H1
            clear H1
            have H' := Aside0.mk H
            clear H
            go_wp2
            go_meet
            case rel => exact ⟨_, (a0), (by first | rfl | (simp; done) | (simp [*]; done)), H', ⟨by have := HJ4.out; first | omega | exact Nat.le_refl _⟩, ⟨by repeat (first | (with_reducible first | exact HB.out | apply below_alloc | apply pw_below_drewN | apply below_drew1) | exact HB.out)⟩⟩
        case rest =>
          clear HC8
          try clear c1
          try clear p2
          try clear c4
          try clear c6
          try clear c7
          try clear c7b0
          try clear c8
          try clear c9
          try clear p2
          obtain ⟨kq, x0_7, rfl, HA, HJ7, HB⟩ := hcut
          cases kq with
          | zero => exact absurd HA.out (by simp [heraldlaw10_StateMirror.j1])
          | succ kj7 =>
            have H := HA.out
            clear HA
            simp only [heraldlaw10_StateMirror.j1] at H
            replace H := Option.bind_eq_some_iff.mp H
            obtain ⟨t185, A100, H⟩ := H
            replace H : (heraldlaw10_StateMirror.l0 kj7 l1 x0_7 t185 0) = some r := H
            have A10 := Aside0.mk A100
            clear A100
            have H' := Aside0.mk H
            clear H
            go_wp2_with (first | ((with_reducible refine gate_callee (f := 18) rfl ?_); refine goesL_ (some 27) rfl rfl Tryd.func18 (by kernel_rfl) rfl #[.int .i64 x0_7] rfl (by (try simp only [List.map_toArray, List.map_cons, List.map_nil]); first | done | rfl | (simp only [List.length_drop, List.length_take]; rfl)) ?_; (with_reducible refine (heraldlaw10_mirror.calls x0_7 t185 _ A10.out).mono ?_); rintro e w' ⟨rfl, ⟨nd, rfl⟩⟩; refine ⟨_, rfl, ?_⟩))
            go_loopg [5, 6, 7] kj7 (fun kq v5 v6 v7 w' => ∃ (x5_3 : Int) (x6_3 : Int) (x7_3 : Int), v5 = .int .i64 x5_3 ∧ v6 = .int .i64 x6_3 ∧ v7 = .int .i64 x7_3 ∧ Aside0 (heraldlaw10_StateMirror.l0 kq l1 x5_3 x6_3 x7_3 = some r) ∧ Aside0 (kq ≤ kj7) ∧ Aside0 (Below w.heap.size w w'))
            case atStart => exact ⟨(x0_7), (t185), (0), (by first | rfl | (simp; done) | (simp [*]; done)), (by first | rfl | (simp; done) | (simp [*]; done)), (by first | rfl | (simp; done) | (simp [*]; done)), H', ⟨Nat.le_refl _⟩, ⟨by repeat (first | (with_reducible first | exact HB.out | apply below_alloc | apply pw_below_drewN | apply below_drew1) | exact HB.out)⟩⟩
            case round =>
              clear H'
              try clear c1
              try clear p2
              try clear c4
              try clear c6
              try clear c7
              try clear c7b0
              try clear c8
              try clear c9
              try clear p2
              obtain ⟨x5_3, x6_3, x7_3, rfl, rfl, rfl, HA, HK3, HB⟩ := hrel
              cases gk with
              | zero => exact absurd HA.out (by simp [heraldlaw10_StateMirror.l0])
              | succ k3 =>
                have H := HA.out
                clear HA
                simp only [heraldlaw10_StateMirror.l0] at H
                by_cases c11 : x7_3 < (l1.length : Int)
                · rw [if_pos c11] at H
                  have c11b0 : decide (x7_3 < (l1.length : Int)) = true := decide_eq_true c11
                  clear c11
                  by_cases c12 : 0 ≤ x7_3
                  · rw [if_pos c12] at H
                    have c12b0 : decide (0 ≤ x7_3) = true := decide_eq_true c12
                    clear c12
                    have HC13 := Aside0.mk H
                    clear H
                    have p186 : 0 ≤ (x7_3 : Int) := of_decide_eq_true (by first | (with_reducible assumption) | assumption)
                    have q186 : x7_3 < (l1.length : Int) := of_decide_eq_true (by first | (with_reducible assumption) | assumption)
                    obtain ⟨ad186, e186, hx186_0, hx186_1⟩ := at_T28 HR1.out x7_3 p186 q186
                    cases e186
                    replace hx186_0 := (HB.out.cell (World.block_lt_of_cell? w _ hx186_0)).trans hx186_0
                    replace hx186_1 := (HB.out.cell (World.block_lt_of_cell? w _ hx186_1)).trans hx186_1
                    replace p186 := eq_true p186
                    replace q186 := eq_true q186
                    go_upto_if 46 with (first | ((with_reducible refine gate_dst (N := 8) rfl ?_); refine box_event ?hg (N := 8) ?hd (cs := #[.bool false, .int .i64 0]) (t := 28) ?hr ?_; (case hd => rfl); (case hg => rfl); (case hr => first | (go_simp; done) | (go_simp; rfl)); intro gb187 hg w14 hbox hb; have n0_ := Aside0.mk (below_step (by repeat (first | (with_reducible first | exact HB.out | apply below_alloc | apply pw_below_drewN | apply below_drew1) | exact HB.out)) hb); have n1_ := Aside0.mk (hbox); have n2_ := Aside0.mk ((by rw [hg]; exact (below_size (by repeat (first | (with_reducible first | exact HB.out | apply below_alloc | apply pw_below_drewN | apply below_drew1) | exact HB.out))) : w.heap.size ≤ gb187)); have n3_ := Aside0.mk ((by rw [hg]; exact (below_size (by repeat (first | (with_reducible first | exact HB.out | apply below_alloc | apply pw_below_drewN | apply below_drew1) | exact HB.out))) : w.heap.size ≤ gb187)); clear HB; have HB := n0_; have BK187 := n1_; have GW187 := n2_; have GE187 := n3_; clear n0_ n1_ n2_ n3_; clear hb hbox hg; have hcz15_0 : w14.cell? ⟨gb187, 0, none⟩ = some (.bool false) := (blk_cell BK187.out 0).trans rfl; have hcz15_1 : w14.cell? ⟨gb187, 1, none⟩ = some (.int .i64 0) := (blk_cell BK187.out 1).trans rfl; have hfz15_0 := blk_frozen BK187.out 0; have hfz15_1 := blk_frozen BK187.out 1; have p188 : 0 ≤ (x7_3 : Int) := of_decide_eq_true (by first | (with_reducible assumption) | assumption); have q188 : x7_3 < (l1.length : Int) := of_decide_eq_true (by first | (with_reducible assumption) | assumption); obtain ⟨ad188, e188, hx188_0, hx188_1⟩ := at_T28 HR1.out x7_3 p188 q188; obtain rfl : ad186 = ad188 := (by injection e188); have hn188_0 : ad186.block ≠ gb187 := Nat.ne_of_lt (Nat.lt_of_lt_of_le (by have := World.block_lt_of_cell? _ _ hx188_0; first | rwa [add_block] at this | exact this) GW187.out); have hn188_1 : ad186.block ≠ gb187 := Nat.ne_of_lt (Nat.lt_of_lt_of_le (by have := World.block_lt_of_cell? _ _ hx188_0; first | rwa [add_block] at this | exact this) GW187.out); replace hx188_0 := (HB.out.cell (World.block_lt_of_cell? w _ hx188_0)).trans hx188_0; replace hx188_1 := (HB.out.cell (World.block_lt_of_cell? w _ hx188_1)).trans hx188_1; replace hx188_0 := (cell_far (p := ⟨gb187, 0, none⟩) (by first | (rw [add_block]; exact hn188_0) | (show (Addr.add _ _).block ≠ _; rw [add_block]; exact hn188_0) | exact hn188_0) (.bool false)).trans hx188_0; replace hx188_1 := (cell_far (p := ⟨gb187, 0, none⟩) (by first | (rw [add_block]; exact hn188_0) | (show (Addr.add _ _).block ≠ _; rw [add_block]; exact hn188_0) | exact hn188_0) (.bool false)).trans hx188_1; replace hx188_0 := (cell_far (p := ⟨gb187, 1, none⟩) (by first | (rw [add_block]; exact hn188_1) | (show (Addr.add _ _).block ≠ _; rw [add_block]; exact hn188_1) | exact hn188_1) (.int .i64 ((rd_T28 l1 x7_3).f1))).trans hx188_0; replace hx188_1 := (cell_far (p := ⟨gb187, 1, none⟩) (by first | (rw [add_block]; exact hn188_1) | (show (Addr.add _ _).block ≠ _; rw [add_block]; exact hn188_1) | exact hn188_1) (.int .i64 ((rd_T28 l1 x7_3).f1))).trans hx188_1; clear hn188_0; clear hn188_1; replace p188 := eq_true p188; replace q188 := eq_true q188))
                    (try simp only [Act.put, List.setIfInBounds_toArray, List.set_cons_zero, List.set_cons_succ])
                    go_cut [9, 10] (fun v9 v10 wc => ∃ (kq : Nat) (x9_12 : Int) (x10_12 : Int), v9 = .int .i64 x9_12 ∧ v10 = .int .i64 x10_12 ∧ Aside0 (heraldlaw10_StateMirror.j3 kq l1 x5_3 x6_3 x7_3 x9_12 x10_12 false ((rd_T28 l1 x7_3).f1) = some r) ∧ Aside0 (kq ≤ k3) ∧ Aside0 (wc.heap[gb187]? = some (.cells #[.bool false, .int .i64 ((rd_T28 l1 x7_3).f1)] 28 (0, 0))) ∧ Aside0 (Below w.heap.size w wc))
                    case first =>
                      have H := HC13.out
                      clear HC13
                      obtain ⟨bq16, hbq16⟩ : ∃ b_ : Bool, b_ = ((rd_T28 l1 x7_3).f0) := ⟨_, rfl⟩
                      replace H : (if bq16 = true then (heraldlaw10_StateMirror.j3 k3 l1 x5_3 x6_3 x7_3 x6_3 x5_3 false ((rd_T28 l1 x7_3).f1)) else (heraldlaw10_StateMirror.j3 k3 l1 x5_3 x6_3 x7_3 x5_3 x6_3 false ((rd_T28 l1 x7_3).f1))) = some r := by rw [← hbq16] at H; exact H
                      have Nbq16 := Aside0.mk hbq16
                      clear hbq16
                      (try rw [← Nbq16.out])
                      by_cases c17 : bq16 = true
                      · subst c17
                        have H1 : (heraldlaw10_StateMirror.j3 k3 l1 x5_3 x6_3 x7_3 x6_3 x5_3 false ((rd_T28 l1 x7_3).f1)) = some r := by rw [if_pos rfl] at H; exact H
                        clear H
                        have H := H1
                        clear H1
                        have H' := Aside0.mk H
                        clear H
                        go_wp2
                        go_meet
                        case rel => exact ⟨_, (x6_3), (x5_3), (by first | rfl | (simp; done) | (simp [*]; done)), (by first | rfl | (simp; done) | (simp [*]; done)), H', ⟨by have := HJ4.out; have := HJ7.out; have := HK3.out; first | omega | exact Nat.le_refl _⟩, ⟨by (with_reducible repeat (first | refine blk_drewN ?_ _ | refine blk_drew ?_ | refine blk_alloc ?_ _)); refine blk_put (cs := #[.bool false, .int .i64 0]) ?_ 1 _ rfl; (with_reducible repeat (first | refine blk_drewN ?_ _ | refine blk_drew ?_ | refine blk_alloc ?_ _)); refine blk_put (cs := #[.bool false, .int .i64 0]) ?_ 0 _ rfl; (with_reducible repeat (first | refine blk_drewN ?_ _ | refine blk_drew ?_ | refine blk_alloc ?_ _)); exact BK187.out⟩, ⟨by repeat (first | (with_reducible first | exact HB.out | apply below_alloc | apply pw_below_drewN | apply below_drew1 | refine below_set ?_ GE187.out) | exact HB.out)⟩⟩
                      · replace c17 := Bool.eq_false_iff.mpr c17
                        subst c17
                        have H1 : (heraldlaw10_StateMirror.j3 k3 l1 x5_3 x6_3 x7_3 x5_3 x6_3 false ((rd_T28 l1 x7_3).f1)) = some r := by rw [if_neg (show ¬ (false = true) by decide)] at H; exact H
                        clear H
                        have H := H1
                        clear H1
                        have H' := Aside0.mk H
                        clear H
                        go_wp2
                        go_meet
                        case rel => exact ⟨_, (x5_3), (x6_3), (by first | rfl | (simp; done) | (simp [*]; done)), (by first | rfl | (simp; done) | (simp [*]; done)), H', ⟨by have := HJ4.out; have := HJ7.out; have := HK3.out; first | omega | exact Nat.le_refl _⟩, ⟨by (with_reducible repeat (first | refine blk_drewN ?_ _ | refine blk_drew ?_ | refine blk_alloc ?_ _)); refine blk_put (cs := #[.bool false, .int .i64 0]) ?_ 1 _ rfl; (with_reducible repeat (first | refine blk_drewN ?_ _ | refine blk_drew ?_ | refine blk_alloc ?_ _)); refine blk_put (cs := #[.bool false, .int .i64 0]) ?_ 0 _ rfl; (with_reducible repeat (first | refine blk_drewN ?_ _ | refine blk_drew ?_ | refine blk_alloc ?_ _)); exact BK187.out⟩, ⟨by repeat (first | (with_reducible first | exact HB.out | apply below_alloc | apply pw_below_drewN | apply below_drew1 | refine below_set ?_ GE187.out) | exact HB.out)⟩⟩
                    case rest =>
                      clear HC13
                      try clear c1
                      try clear p1
                      try clear q1
                      try clear hx1
                      try clear p2
                      try clear c4
                      try clear c6
                      try clear c7
                      try clear c7b0
                      try clear c8
                      try clear c9
                      try clear c11
                      try clear c11b0
                      try clear c12
                      try clear c12b0
                      try clear q16
                      try clear c17
                      try clear hcz15_0
                      try clear hcz15_1
                      try clear hfz15_0
                      try clear hfz15_1
                      try clear hx186_0
                      try clear hx186_1
                      try clear hx188_0
                      try clear hx188_1
                      try clear p186
                      try clear p188
                      try clear p2
                      try clear q186
                      try clear q188
                      obtain ⟨kq, x9_12, x10_12, rfl, rfl, HA, HJ12, BK187, HB⟩ := hcut
                      cases kq with
                      | zero => exact absurd HA.out (by simp [heraldlaw10_StateMirror.j3])
                      | succ kj12 =>
                        have H := HA.out
                        clear HA
                        simp only [heraldlaw10_StateMirror.j3] at H
                        replace H := Option.bind_eq_some_iff.mp H
                        obtain ⟨⟨t189, t190, t191⟩, A180, H⟩ := H
                        replace H : (if t190 = 0 then ((heraldlaw10_next.f x10_12 true ((rd_T28 l1 x7_3).f1)).bind fun bt192 => (if bt192.2.1 > 1 then (heraldlaw10_StateMirror.j4 kj12 l1 x7_3 t189 bt192.1 true) else (if bt192.2.1 < 0 then (heraldlaw10_StateMirror.j4 kj12 l1 x7_3 t189 bt192.1 true) else (if bt192.2.2 = 0 then ((heraldlaw10_mirror.f t189).bind fun t195 => (heraldlaw10_StateMirror.j4 kj12 l1 x7_3 t189 bt192.1 (bt192.1 != t195))) else (heraldlaw10_StateMirror.j4 kj12 l1 x7_3 t189 bt192.1 true))))) else (if t190 = 4 then (if t189 = x9_12 then (if t191 = 0 then (heraldlaw10_StateMirror.l0 kj12 l1 x5_3 x6_3 (wrap64 (x7_3 + 1))) else (some false)) else (some false)) else (some false))) = some r := H
                        have A18 := Aside0.mk A180
                        clear A180
                        by_cases c19 : t190 = 0
                        · rw [if_pos c19] at H
                          have c19b0 : (t190 == 0) = true := beq_iff_eq.mpr c19
                          have c19b1 : (t190 != 0) = false := bne_eq_false_iff_eq.mpr c19
                          clear c19
                          replace H := Option.bind_eq_some_iff.mp H
                          obtain ⟨⟨t192, t193, t194⟩, A200, H⟩ := H
                          replace H : (if t193 > 1 then (heraldlaw10_StateMirror.j4 kj12 l1 x7_3 t189 t192 true) else (if t193 < 0 then (heraldlaw10_StateMirror.j4 kj12 l1 x7_3 t189 t192 true) else (if t194 = 0 then ((heraldlaw10_mirror.f t189).bind fun t195 => (heraldlaw10_StateMirror.j4 kj12 l1 x7_3 t189 t192 (t192 != t195))) else (heraldlaw10_StateMirror.j4 kj12 l1 x7_3 t189 t192 true)))) = some r := H
                          have A20 := Aside0.mk A200
                          clear A200
                          have HC21 := Aside0.mk H
                          clear H
                          have hcz22_0 : wc.cell? ⟨gb187, 0, none⟩ = some (.bool false) := (blk_cell BK187.out 0).trans rfl
                          have hcz22_1 : wc.cell? ⟨gb187, 1, none⟩ = some (.int .i64 ((rd_T28 l1 x7_3).f1)) := (blk_cell BK187.out 1).trans rfl
                          have hfz22_0 := blk_frozen BK187.out 0
                          have hfz22_1 := blk_frozen BK187.out 1
                          go_upto_region 22 with (first | ((with_reducible refine gate_callee (f := 12) rfl ?_); refine goesL_ (some 52) rfl rfl Tryd.func12 (by kernel_rfl) rfl #[.int .i64 x9_12, .agg #[.bool false, .int .i64 ((rd_T28 l1 x7_3).f1)]] rfl (by (try simp only [List.map_toArray, List.map_cons, List.map_nil]); first | done | rfl | (simp only [List.length_drop, List.length_take]; rfl)) ?_; (with_reducible refine (heraldlaw10_next.calls x9_12 false ((rd_T28 l1 x7_3).f1) t189 t190 t191 _ ?side1 A18.out).mono ?_); (case side1 => exact GL.below HG.out (by repeat (first | (with_reducible first | exact HB.out | apply below_alloc | apply pw_below_drewN | apply below_drew1 | refine below_set ?_ GE187.out) | exact HB.out))); rintro e w23 ⟨rfl, hb⟩; refine ⟨_, rfl, ?_⟩; have n0_ := Aside0.mk (blk_below (g := gb187) (o := .cells #[.bool false, .int .i64 ((rd_T28 l1 x7_3).f1)] 28 (0, 0)) (by (with_reducible repeat (first | refine blk_drewN ?_ _ | refine blk_drew ?_ | refine blk_alloc ?_ _)); exact BK187.out) hb); have n1_ := Aside0.mk (below_step (by repeat (first | (with_reducible first | exact HB.out | apply below_alloc | apply pw_below_drewN | apply below_drew1 | refine below_set ?_ GE187.out) | exact HB.out)) hb); clear BK187; clear HB; have BK187 := n0_; have HB := n1_; clear n0_ n1_; (try clear hb); (try clear hb2); (try clear hk); (try clear hi); have hcz24_0 : w23.cell? ⟨gb187, 0, none⟩ = some (.bool false) := (blk_cell BK187.out 0).trans rfl; have hcz24_1 : w23.cell? ⟨gb187, 1, none⟩ = some (.int .i64 ((rd_T28 l1 x7_3).f1)) := (blk_cell BK187.out 1).trans rfl; have hfz24_0 := blk_frozen BK187.out 0; have hfz24_1 := blk_frozen BK187.out 1) | ((with_reducible refine gate_callee (f := 12) rfl ?_); refine goesL_ (some 73) rfl rfl Tryd.func12 (by kernel_rfl) rfl #[.int .i64 x10_12, .agg #[.bool true, .int .i64 ((rd_T28 l1 x7_3).f1)]] rfl (by (try simp only [List.map_toArray, List.map_cons, List.map_nil]); first | done | rfl | (simp only [List.length_drop, List.length_take]; rfl)) ?_; (with_reducible refine (heraldlaw10_next.calls x10_12 true ((rd_T28 l1 x7_3).f1) t192 t193 t194 _ ?side1 A20.out).mono ?_); (case side1 => exact GL.below HG.out (by repeat (first | (with_reducible first | exact HB.out | apply below_alloc | apply pw_below_drewN | apply below_drew1 | refine below_set ?_ GE187.out) | exact HB.out))); rintro e w25 ⟨rfl, hb⟩; refine ⟨_, rfl, ?_⟩; have n0_ := Aside0.mk (blk_below (g := gb187) (o := .cells #[.bool true, .int .i64 ((rd_T28 l1 x7_3).f1)] 28 (0, 0)) (by (with_reducible repeat (first | refine blk_drewN ?_ _ | refine blk_drew ?_ | refine blk_alloc ?_ _)); refine blk_put (cs := #[.bool false, .int .i64 ((rd_T28 l1 x7_3).f1)]) ?_ 0 _ rfl; (with_reducible repeat (first | refine blk_drewN ?_ _ | refine blk_drew ?_ | refine blk_alloc ?_ _)); exact BK187.out) hb); have n1_ := Aside0.mk (below_step (by repeat (first | (with_reducible first | exact HB.out | apply below_alloc | apply pw_below_drewN | apply below_drew1 | refine below_set ?_ GE187.out) | exact HB.out)) hb); clear BK187; clear HB; have BK187 := n0_; have HB := n1_; clear n0_ n1_; (try clear hb); (try clear hb2); (try clear hk); (try clear hi)))
                          (try simp only [Act.put, List.setIfInBounds_toArray, List.set_cons_zero, List.set_cons_succ])
                          go_cut [92] (fun v92 wc => ∃ (kq : Nat) (x92_20 : Bool), v92 = .bool x92_20 ∧ Aside0 (heraldlaw10_StateMirror.j4 kq l1 x7_3 t189 t192 x92_20 = some r) ∧ Aside0 (kq ≤ kj12) ∧ Aside0 (wc.heap[gb187]? = some (.cells #[.bool true, .int .i64 ((rd_T28 l1 x7_3).f1)] 28 (0, 0))) ∧ Aside0 (Below w.heap.size w wc))
                          case first =>
                            have H := HC21.out
                            clear HC21
                            by_cases c26 : t193 > 1
                            · rw [if_pos c26] at H
                              have c26b0 : decide (1 < t193) = true := decide_eq_true c26
                              clear c26
                              (first | rw [c26b0] | (simp only [i64_w, i32_w]; rw [c26b0]) | skip)
                              have H' := Aside0.mk H
                              clear H
                              go_wp2
                              go_meet
                              case rel => exact ⟨_, (true), (by first | rfl | (simp; done) | (simp [*]; done)), H', ⟨by have := HJ4.out; have := HJ7.out; have := HK3.out; have := HJ12.out; first | omega | exact Nat.le_refl _⟩, ⟨by (with_reducible repeat (first | refine blk_drewN ?_ _ | refine blk_drew ?_ | refine blk_alloc ?_ _)); exact BK187.out⟩, ⟨by repeat (first | (with_reducible first | exact HB.out | apply below_alloc | apply pw_below_drewN | apply below_drew1 | refine below_set ?_ GE187.out) | exact HB.out)⟩⟩
                            · rw [if_neg c26] at H
                              have c26b0 : decide (1 < t193) = false := decide_eq_false c26
                              clear c26
                              (first | rw [c26b0] | (simp only [i64_w, i32_w]; rw [c26b0]) | skip)
                              by_cases c27 : t193 < 0
                              · rw [if_pos c27] at H
                                have c27b0 : decide (t193 < 0) = true := decide_eq_true c27
                                clear c27
                                have H' := Aside0.mk H
                                clear H
                                go_wp2
                                go_meet
                                case rel => exact ⟨_, (true), (by first | rfl | (simp; done) | (simp [*]; done)), H', ⟨by have := HJ4.out; have := HJ7.out; have := HK3.out; have := HJ12.out; first | omega | exact Nat.le_refl _⟩, ⟨by (with_reducible repeat (first | refine blk_drewN ?_ _ | refine blk_drew ?_ | refine blk_alloc ?_ _)); exact BK187.out⟩, ⟨by repeat (first | (with_reducible first | exact HB.out | apply below_alloc | apply pw_below_drewN | apply below_drew1 | refine below_set ?_ GE187.out) | exact HB.out)⟩⟩
                              · rw [if_neg c27] at H
                                have c27b0 : decide (t193 < 0) = false := decide_eq_false c27
                                clear c27
                                by_cases c28 : t194 = 0
                                · rw [if_pos c28] at H
                                  have c28b0 : (t194 == 0) = true := beq_iff_eq.mpr c28
                                  have c28b1 : (t194 != 0) = false := bne_eq_false_iff_eq.mpr c28
                                  clear c28
                                  replace H := Option.bind_eq_some_iff.mp H
                                  obtain ⟨t195, A290, H⟩ := H
                                  replace H : (heraldlaw10_StateMirror.j4 kj12 l1 x7_3 t189 t192 (t192 != t195)) = some r := H
                                  have A29 := Aside0.mk A290
                                  clear A290
                                  have H' := Aside0.mk H
                                  clear H
                                  go_wp2_with (first | (go_at_call 18; (with_reducible refine (heraldlaw10_mirror.calls t189 t195 _ A29.out).mono ?_); rintro e w' ⟨rfl, ⟨nd, rfl⟩⟩))
                                  go_meet
                                  case rel => exact ⟨_, ((t192 != t195)), (by first | rfl | (simp; done) | (simp [*]; done)), H', ⟨by have := HJ4.out; have := HJ7.out; have := HK3.out; have := HJ12.out; first | omega | exact Nat.le_refl _⟩, ⟨by (with_reducible repeat (first | refine blk_drewN ?_ _ | refine blk_drew ?_ | refine blk_alloc ?_ _)); exact BK187.out⟩, ⟨by repeat (first | (with_reducible first | exact HB.out | apply below_alloc | apply pw_below_drewN | apply below_drew1 | refine below_set ?_ GE187.out) | exact HB.out)⟩⟩
                                · rw [if_neg c28] at H
                                  have c28b0 : (t194 == 0) = false := beq_eq_false_iff_ne.mpr c28
                                  have c28b1 : (t194 != 0) = true := bne_iff_ne.mpr c28
                                  have H' := Aside0.mk H
                                  clear H
                                  go_wp2
                                  go_meet
                                  case rel => exact ⟨_, (true), (by first | rfl | (simp; done) | (simp [*]; done)), H', ⟨by have := HJ4.out; have := HJ7.out; have := HK3.out; have := HJ12.out; first | omega | exact Nat.le_refl _⟩, ⟨by (with_reducible repeat (first | refine blk_drewN ?_ _ | refine blk_drew ?_ | refine blk_alloc ?_ _)); exact BK187.out⟩, ⟨by repeat (first | (with_reducible first | exact HB.out | apply below_alloc | apply pw_below_drewN | apply below_drew1 | refine below_set ?_ GE187.out) | exact HB.out)⟩⟩
                          case rest =>
                            clear HC21
                            try clear c1
                            try clear p1
                            try clear q1
                            try clear hx1
                            try clear c2
                            try clear p2
                            try clear c4
                            try clear c6
                            try clear p6
                            try clear c7
                            try clear c7b0
                            try clear c8
                            try clear c9
                            try clear c11
                            try clear c11b0
                            try clear c12
                            try clear c12b0
                            try clear q16
                            try clear c17
                            try clear c18
                            try clear p18
                            try clear q18
                            try clear hx18
                            try clear c19
                            try clear c19b0
                            try clear c19b1
                            try clear c26
                            try clear c26b0
                            try clear c27
                            try clear c27b0
                            try clear c28
                            try clear c28b0
                            try clear c28b1
                            try clear hcz15_0
                            try clear hcz15_1
                            try clear hcz22_0
                            try clear hcz22_1
                            try clear hcz24_0
                            try clear hcz24_1
                            try clear hfz15_0
                            try clear hfz15_1
                            try clear hfz22_0
                            try clear hfz22_1
                            try clear hfz24_0
                            try clear hfz24_1
                            try clear hx186_0
                            try clear hx186_1
                            try clear hx188_0
                            try clear hx188_1
                            try clear p1
                            try clear p186
                            try clear p188
                            try clear p2
                            try clear q1
                            try clear q16
                            try clear q186
                            try clear q188
                            obtain ⟨kq, x92_20, rfl, HA, HJ20, BK187, HB⟩ := hcut
                            cases kq with
                            | zero => exact absurd HA.out (by simp [heraldlaw10_StateMirror.j4])
                            | succ kj20 =>
                              have H := HA.out
                              clear HA
                              simp only [heraldlaw10_StateMirror.j4] at H
                              by_cases c30 : x92_20 = true
                              · subst c30
                                have H1 : (some false) = some r := by rw [if_pos rfl] at H; exact H
                                clear H
                                have H := H1
                                clear H1
                                obtain rfl := Option.some.inj H
                                go_wp2
                                go_ret
                                exact ⟨by first | rfl | (simp [errW_none, errW_some] <;> rfl) | (simp [*, errW_none, errW_some] <;> rfl), by repeat (first | (with_reducible first | exact HB.out | apply below_alloc | apply pw_below_drewN | apply below_drew1 | refine below_set ?_ GE187.out) | exact HB.out)⟩
                              · replace c30 := Bool.eq_false_iff.mpr c30
                                subst c30
                                have H1 : (if 0 ≤ x7_3 then (if x7_3 < (l1.length : Int) then (if (rd_T28 l1 x7_3).f0 = true then (heraldlaw10_StateMirror.l0 kj20 l1 t192 t189 (wrap64 (x7_3 + 1))) else (heraldlaw10_StateMirror.l0 kj20 l1 t189 t192 (wrap64 (x7_3 + 1)))) else (none)) else (none)) = some r := by rw [if_neg (show ¬ (false = true) by decide)] at H; exact H
                                clear H
                                have H := H1
                                clear H1
                                by_cases c31 : 0 ≤ x7_3
                                · rw [if_pos c31] at H
                                  have c31b0 : decide (0 ≤ x7_3) = true := decide_eq_true c31
                                  clear c31
                                  by_cases c32 : x7_3 < (l1.length : Int)
                                  · rw [if_pos c32] at H
                                    have c32b0 : decide (x7_3 < (l1.length : Int)) = true := decide_eq_true c32
                                    clear c32
                                    obtain ⟨bq33, hbq33⟩ : ∃ b_ : Bool, b_ = ((rd_T28 l1 x7_3).f0) := ⟨_, rfl⟩
                                    replace H : (if bq33 = true then (heraldlaw10_StateMirror.l0 kj20 l1 t192 t189 (wrap64 (x7_3 + 1))) else (heraldlaw10_StateMirror.l0 kj20 l1 t189 t192 (wrap64 (x7_3 + 1)))) = some r := by rw [← hbq33] at H; exact H
                                    have Nbq33 := Aside0.mk hbq33
                                    clear hbq33
                                    by_cases c34 : bq33 = true
                                    · subst c34
                                      have H1 : (heraldlaw10_StateMirror.l0 kj20 l1 t192 t189 (wrap64 (x7_3 + 1))) = some r := by rw [if_pos rfl] at H; exact H
                                      clear H
                                      have H := H1
                                      clear H1
                                      have H' := Aside0.mk H
                                      clear H
                                      have p196 : 0 ≤ (x7_3 : Int) := of_decide_eq_true (by first | (with_reducible assumption) | assumption)
                                      have q196 : x7_3 < (l1.length : Int) := of_decide_eq_true (by first | (with_reducible assumption) | assumption)
                                      obtain ⟨ad196, e196, hx196_0, hx196_1⟩ := at_T28 HR1.out x7_3 p196 q196
                                      (try rw [← Nbq33.out] at hx196_0)
                                      obtain rfl : ad186 = ad196 := (by injection e196)
                                      replace hx196_0 := (HB.out.cell (World.block_lt_of_cell? w _ hx196_0)).trans hx196_0
                                      replace hx196_1 := (HB.out.cell (World.block_lt_of_cell? w _ hx196_1)).trans hx196_1
                                      replace p196 := eq_true p196
                                      replace q196 := eq_true q196
                                      go_wp2
                                      go_roundg kj20
                                      case measure => have := HJ4.out; have := HJ7.out; have := HK3.out; have := HJ12.out; have := HJ20.out; omega
                                      case rel => exact ⟨(t192), (t189), (wrap64 (x7_3 + 1)), (by first | rfl | (simp; done) | (simp [*]; done)), (by first | rfl | (simp; done) | (simp [*]; done)), (by first | rfl | (simp; done) | (simp [*]; done)), H', ⟨by have := HJ4.out; have := HJ7.out; have := HK3.out; have := HJ12.out; have := HJ20.out; omega⟩, ⟨by repeat (first | (with_reducible first | exact HB.out | apply below_alloc | apply pw_below_drewN | apply below_drew1 | refine below_set ?_ GE187.out) | exact HB.out)⟩⟩
                                    · replace c34 := Bool.eq_false_iff.mpr c34
                                      subst c34
                                      have H1 : (heraldlaw10_StateMirror.l0 kj20 l1 t189 t192 (wrap64 (x7_3 + 1))) = some r := by rw [if_neg (show ¬ (false = true) by decide)] at H; exact H
                                      clear H
                                      have H := H1
                                      clear H1
                                      have H' := Aside0.mk H
                                      clear H
                                      have p196 : 0 ≤ (x7_3 : Int) := of_decide_eq_true (by first | (with_reducible assumption) | assumption)
                                      have q196 : x7_3 < (l1.length : Int) := of_decide_eq_true (by first | (with_reducible assumption) | assumption)
                                      obtain ⟨ad196, e196, hx196_0, hx196_1⟩ := at_T28 HR1.out x7_3 p196 q196
                                      (try rw [← Nbq33.out] at hx196_0)
                                      obtain rfl : ad186 = ad196 := (by injection e196)
                                      replace hx196_0 := (HB.out.cell (World.block_lt_of_cell? w _ hx196_0)).trans hx196_0
                                      replace hx196_1 := (HB.out.cell (World.block_lt_of_cell? w _ hx196_1)).trans hx196_1
                                      replace p196 := eq_true p196
                                      replace q196 := eq_true q196
                                      go_wp2
                                      go_roundg kj20
                                      case measure => have := HJ4.out; have := HJ7.out; have := HK3.out; have := HJ12.out; have := HJ20.out; omega
                                      case rel => exact ⟨(t189), (t192), (wrap64 (x7_3 + 1)), (by first | rfl | (simp; done) | (simp [*]; done)), (by first | rfl | (simp; done) | (simp [*]; done)), (by first | rfl | (simp; done) | (simp [*]; done)), H', ⟨by have := HJ4.out; have := HJ7.out; have := HK3.out; have := HJ12.out; have := HJ20.out; omega⟩, ⟨by repeat (first | (with_reducible first | exact HB.out | apply below_alloc | apply pw_below_drewN | apply below_drew1 | refine below_set ?_ GE187.out) | exact HB.out)⟩⟩
                                  · rw [if_neg c32] at H
                                    exact absurd H (by simp)
                                · rw [if_neg c31] at H
                                  exact absurd H (by simp)
                        · rw [if_neg c19] at H
                          have c19b0 : (t190 == 0) = false := beq_eq_false_iff_ne.mpr c19
                          have c19b1 : (t190 != 0) = true := bne_iff_ne.mpr c19
                          by_cases c35 : t190 = 4
                          · rw [if_pos c35] at H
                            have c35b0 : (t190 == 4) = true := beq_iff_eq.mpr c35
                            have c35b1 : (t190 != 4) = false := bne_eq_false_iff_eq.mpr c35
                            clear c35
                            by_cases c36 : t189 = x9_12
                            · rw [if_pos c36] at H
                              have c36b0 : (t189 == x9_12) = true := beq_iff_eq.mpr c36
                              have c36b1 : (t189 != x9_12) = false := bne_eq_false_iff_eq.mpr c36
                              clear c36
                              by_cases c37 : t191 = 0
                              · rw [if_pos c37] at H
                                have c37b0 : (t191 == 0) = true := beq_iff_eq.mpr c37
                                have c37b1 : (t191 != 0) = false := bne_eq_false_iff_eq.mpr c37
                                clear c37
                                have H' := Aside0.mk H
                                clear H
                                have hcz38_0 : wc.cell? ⟨gb187, 0, none⟩ = some (.bool false) := (blk_cell BK187.out 0).trans rfl
                                have hcz38_1 : wc.cell? ⟨gb187, 1, none⟩ = some (.int .i64 ((rd_T28 l1 x7_3).f1)) := (blk_cell BK187.out 1).trans rfl
                                have hfz38_0 := blk_frozen BK187.out 0
                                have hfz38_1 := blk_frozen BK187.out 1
                                go_wp2_with (first | ((with_reducible refine gate_callee (f := 12) rfl ?_); refine goesL_ (some 52) rfl rfl Tryd.func12 (by kernel_rfl) rfl #[.int .i64 x9_12, .agg #[.bool false, .int .i64 ((rd_T28 l1 x7_3).f1)]] rfl (by (try simp only [List.map_toArray, List.map_cons, List.map_nil]); first | done | rfl | (simp only [List.length_drop, List.length_take]; rfl)) ?_; (with_reducible refine (heraldlaw10_next.calls x9_12 false ((rd_T28 l1 x7_3).f1) t189 t190 t191 _ ?side1 A18.out).mono ?_); (case side1 => exact GL.below HG.out (by repeat (first | (with_reducible first | exact HB.out | apply below_alloc | apply pw_below_drewN | apply below_drew1 | refine below_set ?_ GE187.out) | exact HB.out))); rintro e w39 ⟨rfl, hb⟩; refine ⟨_, rfl, ?_⟩; have n0_ := Aside0.mk (blk_below (g := gb187) (o := .cells #[.bool false, .int .i64 ((rd_T28 l1 x7_3).f1)] 28 (0, 0)) (by (with_reducible repeat (first | refine blk_drewN ?_ _ | refine blk_drew ?_ | refine blk_alloc ?_ _)); exact BK187.out) hb); have n1_ := Aside0.mk (below_step (by repeat (first | (with_reducible first | exact HB.out | apply below_alloc | apply pw_below_drewN | apply below_drew1 | refine below_set ?_ GE187.out) | exact HB.out)) hb); clear BK187; clear HB; have BK187 := n0_; have HB := n1_; clear n0_ n1_; (try clear hb); (try clear hb2); (try clear hk); (try clear hi)))
                                go_roundg kj12
                                case measure => have := HJ4.out; have := HJ7.out; have := HK3.out; have := HJ12.out; omega
                                case rel => exact ⟨(x5_3), (x6_3), (wrap64 (x7_3 + 1)), (by first | rfl | (simp; done) | (simp [*]; done)), (by first | rfl | (simp; done) | (simp [*]; done)), (by first | rfl | (simp; done) | (simp [*]; done)), H', ⟨by have := HJ4.out; have := HJ7.out; have := HK3.out; have := HJ12.out; omega⟩, ⟨by repeat (first | (with_reducible first | exact HB.out | apply below_alloc | apply pw_below_drewN | apply below_drew1 | refine below_set ?_ GE187.out) | exact HB.out)⟩⟩
                              · rw [if_neg c37] at H
                                have c37b0 : (t191 == 0) = false := beq_eq_false_iff_ne.mpr c37
                                have c37b1 : (t191 != 0) = true := bne_iff_ne.mpr c37
                                obtain rfl := Option.some.inj H
                                have hcz40_0 : wc.cell? ⟨gb187, 0, none⟩ = some (.bool false) := (blk_cell BK187.out 0).trans rfl
                                have hcz40_1 : wc.cell? ⟨gb187, 1, none⟩ = some (.int .i64 ((rd_T28 l1 x7_3).f1)) := (blk_cell BK187.out 1).trans rfl
                                have hfz40_0 := blk_frozen BK187.out 0
                                have hfz40_1 := blk_frozen BK187.out 1
                                go_wp2_with (first | ((with_reducible refine gate_callee (f := 12) rfl ?_); refine goesL_ (some 52) rfl rfl Tryd.func12 (by kernel_rfl) rfl #[.int .i64 x9_12, .agg #[.bool false, .int .i64 ((rd_T28 l1 x7_3).f1)]] rfl (by (try simp only [List.map_toArray, List.map_cons, List.map_nil]); first | done | rfl | (simp only [List.length_drop, List.length_take]; rfl)) ?_; (with_reducible refine (heraldlaw10_next.calls x9_12 false ((rd_T28 l1 x7_3).f1) t189 t190 t191 _ ?side1 A18.out).mono ?_); (case side1 => exact GL.below HG.out (by repeat (first | (with_reducible first | exact HB.out | apply below_alloc | apply pw_below_drewN | apply below_drew1 | refine below_set ?_ GE187.out) | exact HB.out))); rintro e w41 ⟨rfl, hb⟩; refine ⟨_, rfl, ?_⟩; have n0_ := Aside0.mk (blk_below (g := gb187) (o := .cells #[.bool false, .int .i64 ((rd_T28 l1 x7_3).f1)] 28 (0, 0)) (by (with_reducible repeat (first | refine blk_drewN ?_ _ | refine blk_drew ?_ | refine blk_alloc ?_ _)); exact BK187.out) hb); have n1_ := Aside0.mk (below_step (by repeat (first | (with_reducible first | exact HB.out | apply below_alloc | apply pw_below_drewN | apply below_drew1 | refine below_set ?_ GE187.out) | exact HB.out)) hb); clear BK187; clear HB; have BK187 := n0_; have HB := n1_; clear n0_ n1_; (try clear hb); (try clear hb2); (try clear hk); (try clear hi)))
                                go_ret
                                exact ⟨by first | rfl | (simp [errW_none, errW_some] <;> rfl) | (simp [*, errW_none, errW_some] <;> rfl), by repeat (first | (with_reducible first | exact HB.out | apply below_alloc | apply pw_below_drewN | apply below_drew1 | refine below_set ?_ GE187.out) | exact HB.out)⟩
                            · rw [if_neg c36] at H
                              have c36b0 : (t189 == x9_12) = false := beq_eq_false_iff_ne.mpr c36
                              have c36b1 : (t189 != x9_12) = true := bne_iff_ne.mpr c36
                              obtain rfl := Option.some.inj H
                              have hcz42_0 : wc.cell? ⟨gb187, 0, none⟩ = some (.bool false) := (blk_cell BK187.out 0).trans rfl
                              have hcz42_1 : wc.cell? ⟨gb187, 1, none⟩ = some (.int .i64 ((rd_T28 l1 x7_3).f1)) := (blk_cell BK187.out 1).trans rfl
                              have hfz42_0 := blk_frozen BK187.out 0
                              have hfz42_1 := blk_frozen BK187.out 1
                              go_wp2_with (first | ((with_reducible refine gate_callee (f := 12) rfl ?_); refine goesL_ (some 52) rfl rfl Tryd.func12 (by kernel_rfl) rfl #[.int .i64 x9_12, .agg #[.bool false, .int .i64 ((rd_T28 l1 x7_3).f1)]] rfl (by (try simp only [List.map_toArray, List.map_cons, List.map_nil]); first | done | rfl | (simp only [List.length_drop, List.length_take]; rfl)) ?_; (with_reducible refine (heraldlaw10_next.calls x9_12 false ((rd_T28 l1 x7_3).f1) t189 t190 t191 _ ?side1 A18.out).mono ?_); (case side1 => exact GL.below HG.out (by repeat (first | (with_reducible first | exact HB.out | apply below_alloc | apply pw_below_drewN | apply below_drew1 | refine below_set ?_ GE187.out) | exact HB.out))); rintro e w43 ⟨rfl, hb⟩; refine ⟨_, rfl, ?_⟩; have n0_ := Aside0.mk (blk_below (g := gb187) (o := .cells #[.bool false, .int .i64 ((rd_T28 l1 x7_3).f1)] 28 (0, 0)) (by (with_reducible repeat (first | refine blk_drewN ?_ _ | refine blk_drew ?_ | refine blk_alloc ?_ _)); exact BK187.out) hb); have n1_ := Aside0.mk (below_step (by repeat (first | (with_reducible first | exact HB.out | apply below_alloc | apply pw_below_drewN | apply below_drew1 | refine below_set ?_ GE187.out) | exact HB.out)) hb); clear BK187; clear HB; have BK187 := n0_; have HB := n1_; clear n0_ n1_; (try clear hb); (try clear hb2); (try clear hk); (try clear hi)))
                              go_ret
                              exact ⟨by first | rfl | (simp [errW_none, errW_some] <;> rfl) | (simp [*, errW_none, errW_some] <;> rfl), by repeat (first | (with_reducible first | exact HB.out | apply below_alloc | apply pw_below_drewN | apply below_drew1 | refine below_set ?_ GE187.out) | exact HB.out)⟩
                          · rw [if_neg c35] at H
                            have c35b0 : (t190 == 4) = false := beq_eq_false_iff_ne.mpr c35
                            have c35b1 : (t190 != 4) = true := bne_iff_ne.mpr c35
                            obtain rfl := Option.some.inj H
                            have hcz44_0 : wc.cell? ⟨gb187, 0, none⟩ = some (.bool false) := (blk_cell BK187.out 0).trans rfl
                            have hcz44_1 : wc.cell? ⟨gb187, 1, none⟩ = some (.int .i64 ((rd_T28 l1 x7_3).f1)) := (blk_cell BK187.out 1).trans rfl
                            have hfz44_0 := blk_frozen BK187.out 0
                            have hfz44_1 := blk_frozen BK187.out 1
                            go_wp2_with (first | ((with_reducible refine gate_callee (f := 12) rfl ?_); refine goesL_ (some 52) rfl rfl Tryd.func12 (by kernel_rfl) rfl #[.int .i64 x9_12, .agg #[.bool false, .int .i64 ((rd_T28 l1 x7_3).f1)]] rfl (by (try simp only [List.map_toArray, List.map_cons, List.map_nil]); first | done | rfl | (simp only [List.length_drop, List.length_take]; rfl)) ?_; (with_reducible refine (heraldlaw10_next.calls x9_12 false ((rd_T28 l1 x7_3).f1) t189 t190 t191 _ ?side1 A18.out).mono ?_); (case side1 => exact GL.below HG.out (by repeat (first | (with_reducible first | exact HB.out | apply below_alloc | apply pw_below_drewN | apply below_drew1 | refine below_set ?_ GE187.out) | exact HB.out))); rintro e w45 ⟨rfl, hb⟩; refine ⟨_, rfl, ?_⟩; have n0_ := Aside0.mk (blk_below (g := gb187) (o := .cells #[.bool false, .int .i64 ((rd_T28 l1 x7_3).f1)] 28 (0, 0)) (by (with_reducible repeat (first | refine blk_drewN ?_ _ | refine blk_drew ?_ | refine blk_alloc ?_ _)); exact BK187.out) hb); have n1_ := Aside0.mk (below_step (by repeat (first | (with_reducible first | exact HB.out | apply below_alloc | apply pw_below_drewN | apply below_drew1 | refine below_set ?_ GE187.out) | exact HB.out)) hb); clear BK187; clear HB; have BK187 := n0_; have HB := n1_; clear n0_ n1_; (try clear hb); (try clear hb2); (try clear hk); (try clear hi)))
                            go_ret
                            exact ⟨by first | rfl | (simp [errW_none, errW_some] <;> rfl) | (simp [*, errW_none, errW_some] <;> rfl), by repeat (first | (with_reducible first | exact HB.out | apply below_alloc | apply pw_below_drewN | apply below_drew1 | refine below_set ?_ GE187.out) | exact HB.out)⟩
                  · rw [if_neg c12] at H
                    exact absurd H (by simp)
                · rw [if_neg c11] at H
                  have c11b0 : decide (x7_3 < (l1.length : Int)) = false := decide_eq_false c11
                  clear c11
                  obtain rfl := Option.some.inj H
                  go_wp2
                  go_ret
                  exact ⟨by first | rfl | (simp [errW_none, errW_some] <;> rfl) | (simp [*, errW_none, errW_some] <;> rfl), by repeat (first | (with_reducible first | exact HB.out | apply below_alloc | apply pw_below_drewN | apply below_drew1) | exact HB.out)⟩
  · replace c4 := Bool.eq_false_iff.mpr c4
    subst c4
    have H1 : (some false) = some r := by rw [if_neg (show ¬ (false = true) by decide)] at H; exact H
    clear H
    have H := H1
    clear H1
    obtain rfl := Option.some.inj H
    go_enter Tryd.func6, Tryd.ntmps6
    go_wp2_with (first | ((with_reducible refine gate_callee (f := 8) rfl ?_); refine goesL_ (some 17) rfl rfl Tryd.func8 (by kernel_rfl) rfl #[] rfl (by (try simp only [List.map_toArray, List.map_cons, List.map_nil]); first | done | rfl | (simp only [List.length_drop, List.length_take]; rfl)) ?_; (with_reducible refine (heraldlaw10_head.calls k  false _ ?side1 A3.out).mono ?_); (case side1 => exact GL.below HG.out (by repeat (first | (with_reducible first | exact HB.out | apply below_alloc | apply pw_below_drewN | apply below_drew1) | exact HB.out))); rintro e w46 ⟨rfl, hb⟩; refine ⟨_, rfl, ?_⟩; have n0_ := Aside0.mk (below_step (by repeat (first | (with_reducible first | exact HB.out | apply below_alloc | apply pw_below_drewN | apply below_drew1) | exact HB.out)) hb); clear HB; have HB := n0_; clear n0_; (try clear hb); (try clear hb2); (try clear hk); (try clear hi)))
    go_ret
    exact ⟨by first | rfl | (simp [errW_none, errW_some] <;> rfl) | (simp [*, errW_none, errW_some] <;> rfl), by repeat (first | (with_reducible first | exact HB.out | apply below_alloc | apply pw_below_drewN | apply below_drew1) | exact HB.out)⟩

end Go.Proofs.YtndhaakknkkpfaaDoor.QAll
