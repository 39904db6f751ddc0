/- Written by a program of this session (a changed run of the kit's printer): what the Go functions of one call tree answer, as plain functions, and that the machine's calls answer so; no condition but those in each statement. -/
import Derived.Test.YtndhaakknkkpfaaDoorQAllx0
import Derived.Test.YtndhaakknkkpfaaDoorQAllx1
import Derived.Test.YtndhaakknkkpfaaDoorQAllx2
import Derived.Test.YtndhaakknkkpfaaDoorQAllx3
import Derived.Test.YtndhaakknkkpfaaDoorMState
namespace Go.Proofs.YtndhaakknkkpfaaDoor.QAll
open Go.RowKit Go.Proofs.YtndhaakknkkpfaaDoorW.PrintWords Go.Proofs.YtndhaakknkkpfaaDoorW.PrintLast Go.Proofs.YtndhaakknkkpfaaDoorW.PrintMore
attribute [local go_sem] max2_int min2_int max_two min_two max_three min_three max_four min_four   -- for this text's walks alone
set_option linter.unusedVariables false
set_option linter.unusedSimpArgs false

/-! ### heraldlaw10_StateNexts: function 3 -/
mutual
def heraldlaw10_StateNexts.j0 : Nat → Int → List (S28) → Bool → Option (Bool)
  | 0, _, _, _ => none
  | k + 1, x0, x1, x16 => if x16 = true then (some false) else ((state_Counts.f k x0).bind fun t124 => ((heraldref10_Counts.f x0).bind fun t125 => (if (t124 != t125) = true then (some false) else (heraldlaw10_StateNexts.l0 k x0 x1 0))))
def heraldlaw10_StateNexts.l0 : Nat → Int → List (S28) → Int → Option (Bool)
  | 0, _, _, _ => none
  | k + 1, x0, x1, x5 => if x5 < (x1.length : Int) then (if 0 ≤ x5 then ((heraldlaw10_next.f x0 ((rd_T28 x1 x5).f0) ((rd_T28 x1 x5).f1)).bind fun bt127 => ((heraldref10_Next.f x0 ((rd_T28 x1 x5).f0) ((rd_T28 x1 x5).f1)).bind fun bt132 => (if bt127.1 = bt132.1 then (if bt127.2.1 = bt132.2.1 then (if bt127.2.2 = bt132.2.2 then ((state_Counts.f k bt127.1).bind fun t136 => ((heraldref10_Counts.f bt132.1).bind fun t137 => (if (t136 != t137) = true then (some false) else (heraldlaw10_StateNexts.l0 k bt127.1 x1 (wrap64 (x5 + 1)))))) else (some false)) else (some false)) else (some false)))) else (none)) else (some true)
end
def heraldlaw10_StateNexts.f (k : Nat) (a0 : Int) (l1 : List (S28)) : Option (Bool) := (heraldlaw10_head.f k).bind fun t122 => (if t122 = true then ((heraldlaw10_names.f).bind fun t123 => (heraldlaw10_StateNexts.j0 k a0 l1 (!t123))) else (heraldlaw10_StateNexts.j0 k a0 l1 true))
theorem heraldlaw10_StateNexts.mono_l : ∀ k, (∀ y0 y1 y2, LeO (heraldlaw10_StateNexts.j0 k y0 y1 y2) (heraldlaw10_StateNexts.j0 (k + 1) y0 y1 y2)) ∧ (∀ y0 y1 y2, LeO (heraldlaw10_StateNexts.l0 k y0 y1 y2) (heraldlaw10_StateNexts.l0 (k + 1) y0 y1 y2))
  | 0 => ⟨fun _ _ _ r h => by simp [heraldlaw10_StateNexts.j0] at h, fun _ _ _ r h => by simp [heraldlaw10_StateNexts.l0] at h⟩
  | k + 1 => by
    obtain ⟨ih0, ih1⟩ := heraldlaw10_StateNexts.mono_l k
    refine ⟨?_, ?_⟩
    · intro y0 y1 y2
      unfold heraldlaw10_StateNexts.j0
      repeat' first
      | (with_reducible exact ih0 _ _ _)
      | (with_reducible exact ih1 _ _ _)
      | (with_reducible exact heraldlaw10_head.mono _)
      | (with_reducible exact state_Counts.mono _ _)
      | (with_reducible exact LeO.refl _)
      | (with_reducible exact LeO.none _)
      | (with_reducible refine LeO.ite ?_ ?_)
      | (with_reducible refine LeO.bind ?_ (fun _ => ?_))
      | exact ih0 _ _ _
      | exact ih1 _ _ _
      | exact heraldlaw10_head.mono _
      | exact state_Counts.mono _ _
      | exact LeO.none _
      | refine LeO.ite ?_ ?_
      | refine LeO.bind ?_ (fun _ => ?_)
    · intro y0 y1 y2
      unfold heraldlaw10_StateNexts.l0
      repeat' first
      | (with_reducible exact ih0 _ _ _)
      | (with_reducible exact ih1 _ _ _)
      | (with_reducible exact heraldlaw10_head.mono _)
      | (with_reducible exact state_Counts.mono _ _)
      | (with_reducible exact LeO.refl _)
      | (with_reducible exact LeO.none _)
      | (with_reducible refine LeO.ite ?_ ?_)
      | (with_reducible refine LeO.bind ?_ (fun _ => ?_))
      | exact ih0 _ _ _
      | exact ih1 _ _ _
      | exact heraldlaw10_head.mono _
      | exact state_Counts.mono _ _
      | exact LeO.none _
      | refine LeO.ite ?_ ?_
      | refine LeO.bind ?_ (fun _ => ?_)
theorem heraldlaw10_StateNexts.mono : ∀ a0 a1 k, LeO (heraldlaw10_StateNexts.f k a0 a1) (heraldlaw10_StateNexts.f (k + 1) a0 a1) := by
  intro a0 a1 k
  obtain ⟨ih0, ih1⟩ := heraldlaw10_StateNexts.mono_l k
  unfold heraldlaw10_StateNexts.f
  repeat' first
      | (with_reducible exact ih0 _ _ _)
      | (with_reducible exact ih1 _ _ _)
      | (with_reducible exact heraldlaw10_head.mono _)
      | (with_reducible exact state_Counts.mono _ _)
      | (with_reducible exact LeO.refl _)
      | (with_reducible exact LeO.none _)
      | (with_reducible refine LeO.ite ?_ ?_)
      | (with_reducible refine LeO.bind ?_ (fun _ => ?_))
      | exact ih0 _ _ _
      | exact ih1 _ _ _
      | exact heraldlaw10_head.mono _
      | exact state_Counts.mono _ _
      | exact LeO.none _
      | refine LeO.ite ?_ ?_
      | refine LeO.bind ?_ (fun _ => ?_)
def heraldlaw10_StateNexts.T9 : Bool × List (List Nat × List Nat) := (true, [([], []), ([], []), ([], []), ([1, 2], [1, 2]), ([3], [3]), ([4], [4]), ([], []), ([], []), ([6, 7], [6, 7]), ([8], [8]), ([9], [9]), ([5, 10], [5, 10]), ([0, 11], [0, 11]), ([12], [12]), ([13], [13]), ([13], [13]), ([], []), ([14, 12, 0, 1, 2, 3, 4, 5, 6, 7, 8, 9, 10, 11, 12, 13, 14, 16], [14]), ([16, 15, 17, 0, 1, 2, 3, 4, 5, 6, 7, 8, 9, 10, 11, 12, 13, 14, 15, 16, 17], [15, 16])])
def heraldlaw10_StateNexts.B9 : List Nat := [0, 0, 0, 6, 14, 30, 0, 0, 192, 448, 960, 2046, 4095, 8191, 16383, 16383, 0, 98303, 262143]
theorem heraldlaw10_StateNexts.tab9 : rtab .any (opsOf Tryd.f3 9) = heraldlaw10_StateNexts.T9 := by kernel_rfl
theorem heraldlaw10_StateNexts.bits9 : waitsOk heraldlaw10_StateNexts.T9.2 heraldlaw10_StateNexts.B9 = true := by kernel_rfl
set_option maxHeartbeats 8000000 in
set_option maxRecDepth 100000 in
theorem heraldlaw10_StateNexts.calls (k : Nat) (a0 : Int) (A1 : Option Addr) (c1 : Nat) (l1 : List (S28)) (r : Bool) (w : World) (hG : GL w) (hr1 : Kd.C k28 w A1 l1.length l1) (hc1 : l1.length ≤ c1) (h : heraldlaw10_StateNexts.f k a0 l1 = some r) :
    Calls Tryd.prog 3 #[.int .i64 a0, .slice A1 l1.length c1] w fun e w' => e = .returned (.bool r) ∧ Below w.heap.size w w' := by
  have hu28 := Tryd.underlying28
  have hu33 := Tryd.underlying33
  have hu30 := Tryd.underlying30
  have HR1 := Aside0.mk hr1
  have HC1 := Aside0.mk hc1
  clear hr1 hc1
  have HG := Aside0.mk hG
  clear hG
  have HB := Aside0.mk (Below.refl w.heap.size w)
  have H : ((heraldlaw10_head.f k).bind fun t122 => (if t122 = true then ((heraldlaw10_names.f).bind fun t123 => (heraldlaw10_StateNexts.j0 k a0 l1 (!t123))) else (heraldlaw10_StateNexts.j0 k a0 l1 true))) = some r := h
  clear h
  have HC3 := Aside0.mk H
  clear H
  go_enter Tryd.func3, Tryd.ntmps3
  go_upto_region 1 with (fail)
  go_cut [16] (fun v16 wc => ∃ (kq : Nat) (x16_2 : Bool), v16 = .bool x16_2 ∧ Aside0 (heraldlaw10_StateNexts.j0 kq a0 l1 x16_2 = some r) ∧ Aside0 (kq ≤ k) ∧ Aside0 (Below w.heap.size w wc))
  case first =>
    have H := HC3.out
    clear HC3
    replace H := Option.bind_eq_some_iff.mp H
    obtain ⟨t122, A40, H⟩ := H
    replace H : (if t122 = true then ((heraldlaw10_names.f).bind fun t123 => (heraldlaw10_StateNexts.j0 k a0 l1 (!t123))) else (heraldlaw10_StateNexts.j0 k a0 l1 true)) = some r := H
    have A4 := Aside0.mk A40
    clear A40
    by_cases c5 : t122 = true
    · subst c5
      have H1 : ((heraldlaw10_names.f).bind fun t123 => (heraldlaw10_StateNexts.j0 k a0 l1 (!t123))) = some r := by rw [if_pos rfl] at H; exact H
      clear H
      have H := H1
      clear H1
      replace H := Option.bind_eq_some_iff.mp H
      obtain ⟨t123, A60, H⟩ := H
      replace H : (heraldlaw10_StateNexts.j0 k a0 l1 (!t123)) = some r := H
      have A6 := Aside0.mk A60
      clear A60
      have H' := Aside0.mk H
      clear H
      go_wp2_with (first | ((with_reducible refine gate_callee (f := 8) rfl ?_); refine goesL_ (some 11) rfl rfl Tryd.func8 (by kernel_rfl) rfl #[] rfl (by (try simp only [List.map_toArray, List.map_cons, List.map_nil]); first | done | rfl | (simp only [List.length_drop, List.length_take]; rfl)) ?_; (with_reducible refine (heraldlaw10_head.calls k  true _ ?side1 A4.out).mono ?_); (case side1 => exact GL.below HG.out (by repeat (first | (with_reducible first | exact HB.out | apply below_alloc | apply pw_below_drewN | apply below_drew1) | exact HB.out))); rintro e w7 ⟨rfl, hb⟩; refine ⟨_, rfl, ?_⟩; have n0_ := Aside0.mk (below_step (by repeat (first | (with_reducible first | exact HB.out | apply below_alloc | apply pw_below_drewN | apply below_drew1) | exact HB.out)) hb); clear HB; have HB := n0_; clear n0_; (try clear hb); (try clear hb2); (try clear hk); (try clear hi)) | (go_at_call 9; (with_reducible refine (heraldlaw10_names.calls  t123 _ A6.out).mono ?_); rintro e w' ⟨rfl, ⟨nd, rfl⟩⟩))
      go_meet
      case rel => exact ⟨_, (!t123), (by first | rfl | (simp; done) | (simp [*]; done)), H', ⟨by first | omega | exact Nat.le_refl _⟩, ⟨by repeat (first | (with_reducible first | exact HB.out | apply below_alloc | apply pw_below_drewN | apply below_drew1) | exact HB.out)⟩⟩
    · replace c5 := Bool.eq_false_iff.mpr c5
      subst c5
      have H1 : (heraldlaw10_StateNexts.j0 k a0 l1 true) = some r := by rw [if_neg (show ¬ (false = true) by decide)] at H; exact H
      clear H
      have H := H1
      clear H1
      have H' := Aside0.mk H
      clear H
      go_wp2_with (first | ((with_reducible refine gate_callee (f := 8) rfl ?_); refine goesL_ (some 11) rfl rfl Tryd.func8 (by kernel_rfl) rfl #[] rfl (by (try simp only [List.map_toArray, List.map_cons, List.map_nil]); first | done | rfl | (simp only [List.length_drop, List.length_take]; rfl)) ?_; (with_reducible refine (heraldlaw10_head.calls k  false _ ?side1 A4.out).mono ?_); (case side1 => exact GL.below HG.out (by repeat (first | (with_reducible first | exact HB.out | apply below_alloc | apply pw_below_drewN | apply below_drew1) | exact HB.out))); rintro e w8 ⟨rfl, hb⟩; refine ⟨_, rfl, ?_⟩; have n0_ := Aside0.mk (below_step (by repeat (first | (with_reducible first | exact HB.out | apply below_alloc | apply pw_below_drewN | apply below_drew1) | exact HB.out)) hb); clear HB; have HB := n0_; clear n0_; (try clear hb); (try clear hb2); (try clear hk); (try clear hi)))
      go_meet
      case rel => exact ⟨_, (true), (by first | rfl | (simp; done) | (simp [*]; done)), H', ⟨by first | omega | exact Nat.le_refl _⟩, ⟨by repeat (first | (with_reducible first | exact HB.out | apply below_alloc | apply pw_below_drewN | apply below_drew1) | exact HB.out)⟩⟩
  case rest =>
    clear HC3
    try clear c1
    try clear p2
    try clear c3
    try clear c5
    try clear c8
    obtain ⟨kq, x16_2, rfl, HA, HJ2, HB⟩ := hcut
    cases kq with
    | zero => exact absurd HA.out (by simp [heraldlaw10_StateNexts.j0])
    | succ kj2 =>
      have H := HA.out
      clear HA
      simp only [heraldlaw10_StateNexts.j0] at H
      by_cases c9 : x16_2 = true
      · subst c9
        have H1 : (some false) = some r := by rw [if_pos rfl] at H; exact H
        clear H
        have H := H1
        clear H1
        obtain rfl := Option.some.inj H
        go_wp2
        go_ret
        exact ⟨by first | rfl | (simp [errW_none, errW_some] <;> rfl) | (simp [*, errW_none, errW_some] <;> rfl), by repeat (first | (with_reducible first | exact HB.out | apply below_alloc | apply pw_below_drewN | apply below_drew1) | exact HB.out)⟩
      · replace c9 := Bool.eq_false_iff.mpr c9
        subst c9
        have H1 : ((state_Counts.f kj2 a0).bind fun t124 => ((heraldref10_Counts.f a0).bind fun t125 => (if (t124 != t125) = true then (some false) else (heraldlaw10_StateNexts.l0 kj2 a0 l1 0)))) = some r := by rw [if_neg (show ¬ (false = true) by decide)] at H; exact H
        clear H
        have H := H1
        clear H1
        replace H := Option.bind_eq_some_iff.mp H
        obtain ⟨t124, A100, H⟩ := H
        replace H : ((heraldref10_Counts.f a0).bind fun t125 => (if (t124 != t125) = true then (some false) else (heraldlaw10_StateNexts.l0 kj2 a0 l1 0))) = some r := H
        have A10 := Aside0.mk A100
        clear A100
        replace H := Option.bind_eq_some_iff.mp H
        obtain ⟨t125, A110, H⟩ := H
        replace H : (if (t124 != t125) = true then (some false) else (heraldlaw10_StateNexts.l0 kj2 a0 l1 0)) = some r := H
        have A11 := Aside0.mk A110
        clear A110
        by_cases c12 : (t124 != t125) = true
        · rw [if_pos c12] at H
          have c12b0 : (t124 != t125) = true := c12
          (try (have c12b1 : decide (t124 = t125) = false := by simpa using c12))
          (try (have c12b2 : (t124 == t125) = false := by simpa using c12))
          (try (have c12b3 : ¬ (t124 = t125) := by simpa using c12))
          clear c12
          obtain rfl := Option.some.inj H
          go_wp2_with (first | ((with_reducible refine gate_callee (f := 10) rfl ?_); refine goesL_ (some 18) rfl rfl Tryd.func10 (by kernel_rfl) rfl #[.int .i64 a0] rfl (by (try simp only [List.map_toArray, List.map_cons, List.map_nil]); first | done | rfl | (simp only [List.length_drop, List.length_take]; rfl)) ?_; (with_reducible refine (state_Counts.calls kj2 a0 t124 _ A10.out).mono ?_); rintro e w13 ⟨rfl, hb⟩; refine ⟨_, rfl, ?_⟩; have n0_ := Aside0.mk (below_step (by repeat (first | (with_reducible first | exact HB.out | apply below_alloc | apply pw_below_drewN | apply below_drew1) | exact HB.out)) hb); clear HB; have HB := n0_; clear n0_; (try clear hb); (try clear hb2); (try clear hk); (try clear hi)) | ((with_reducible refine gate_callee (f := 11) rfl ?_); refine goesL_ (some 20) rfl rfl Tryd.func11 (by kernel_rfl) rfl #[.int .i64 a0] rfl (by (try simp only [List.map_toArray, List.map_cons, List.map_nil]); first | done | rfl | (simp only [List.length_drop, List.length_take]; rfl)) ?_; (with_reducible refine (heraldref10_Counts.calls a0 t125 _ A11.out).mono ?_); rintro e w' ⟨rfl, ⟨nd, rfl⟩⟩; refine ⟨_, rfl, ?_⟩))
          go_ret
          exact ⟨by first | rfl | (simp [errW_none, errW_some] <;> rfl) | (simp [*, errW_none, errW_some] <;> rfl), by repeat (first | (with_reducible first | exact HB.out | apply below_alloc | apply pw_below_drewN | apply below_drew1) | exact HB.out)⟩
        · rw [if_neg c12] at H
          have c12b0 : (t124 != t125) = false := by simpa using c12
          (try (have c12b1 : decide (t124 = t125) = true := by simpa using c12))
          (try (have c12b2 : (t124 == t125) = true := by simpa using c12))
          clear c12
          have H' := Aside0.mk H
          clear H
          go_wp2_with (first | ((with_reducible refine gate_callee (f := 10) rfl ?_); refine goesL_ (some 18) rfl rfl Tryd.func10 (by kernel_rfl) rfl #[.int .i64 a0] rfl (by (try simp only [List.map_toArray, List.map_cons, List.map_nil]); first | done | rfl | (simp only [List.length_drop, List.length_take]; rfl)) ?_; (with_reducible refine (state_Counts.calls kj2 a0 t124 _ A10.out).mono ?_); rintro e w14 ⟨rfl, hb⟩; refine ⟨_, rfl, ?_⟩; have n0_ := Aside0.mk (below_step (by repeat (first | (with_reducible first | exact HB.out | apply below_alloc | apply pw_below_drewN | apply below_drew1) | exact HB.out)) hb); clear HB; have HB := n0_; clear n0_; (try clear hb); (try clear hb2); (try clear hk); (try clear hi)) | ((with_reducible refine gate_callee (f := 11) rfl ?_); refine goesL_ (some 20) rfl rfl Tryd.func11 (by kernel_rfl) rfl #[.int .i64 a0] rfl (by (try simp only [List.map_toArray, List.map_cons, List.map_nil]); first | done | rfl | (simp only [List.length_drop, List.length_take]; rfl)) ?_; (with_reducible refine (heraldref10_Counts.calls a0 t125 _ A11.out).mono ?_); rintro e w' ⟨rfl, ⟨nd, rfl⟩⟩; refine ⟨_, rfl, ?_⟩))
          go_loopg [0, 5] kj2 (fun kq v0 v5 w' => ∃ (x0_2 : Int) (x5_2 : Int), v0 = .int .i64 x0_2 ∧ v5 = .int .i64 x5_2 ∧ Aside0 (heraldlaw10_StateNexts.l0 kq x0_2 l1 x5_2 = some r) ∧ Aside0 (kq ≤ kj2) ∧ Aside0 (Below w.heap.size w w'))
          case atStart => exact ⟨(a0), (0), (by first | rfl | (simp; done) | (simp [*]; done)), (by first | rfl | (simp; done) | (simp [*]; done)), H', ⟨Nat.le_refl _⟩, ⟨by repeat (first | (with_reducible first | exact HB.out | apply below_alloc | apply pw_below_drewN | apply below_drew1) | exact HB.out)⟩⟩
          case round =>
            clear H'
            try clear c1
            try clear p2
            try clear c3
            try clear c5
            try clear c8
            try clear c9
            try clear c10
            try clear c11
            try clear c12
            try clear c12b0
            try clear c12b1
            try clear c12b2
            try clear p2
            obtain ⟨x0_2, x5_2, rfl, rfl, HA, HK2, HB⟩ := hrel
            cases gk with
            | zero => exact absurd HA.out (by simp [heraldlaw10_StateNexts.l0])
            | succ k2 =>
              have H := HA.out
              clear HA
              simp only [heraldlaw10_StateNexts.l0] at H
              by_cases c15 : x5_2 < (l1.length : Int)
              · rw [if_pos c15] at H
                have c15b0 : decide (x5_2 < (l1.length : Int)) = true := decide_eq_true c15
                clear c15
                by_cases c16 : 0 ≤ x5_2
                · rw [if_pos c16] at H
                  have c16b0 : decide (0 ≤ x5_2) = true := decide_eq_true c16
                  clear c16
                  replace H := Option.bind_eq_some_iff.mp H
                  obtain ⟨⟨t127, t128, t129⟩, A170, H⟩ := H
                  replace H : ((heraldref10_Next.f x0_2 ((rd_T28 l1 x5_2).f0) ((rd_T28 l1 x5_2).f1)).bind fun bt132 => (if t127 = bt132.1 then (if t128 = bt132.2.1 then (if t129 = bt132.2.2 then ((state_Counts.f k2 t127).bind fun t136 => ((heraldref10_Counts.f bt132.1).bind fun t137 => (if (t136 != t137) = true then (some false) else (heraldlaw10_StateNexts.l0 k2 t127 l1 (wrap64 (x5_2 + 1)))))) else (some false)) else (some false)) else (some false))) = some r := H
                  have A17 := Aside0.mk A170
                  clear A170
                  replace H := Option.bind_eq_some_iff.mp H
                  obtain ⟨⟨t132, t133, t134⟩, A180, H⟩ := H
                  replace H : (if t127 = t132 then (if t128 = t133 then (if t129 = t134 then ((state_Counts.f k2 t127).bind fun t136 => ((heraldref10_Counts.f t132).bind fun t137 => (if (t136 != t137) = true then (some false) else (heraldlaw10_StateNexts.l0 k2 t127 l1 (wrap64 (x5_2 + 1)))))) else (some false)) else (some false)) else (some false)) = some r := H
                  have A18 := Aside0.mk A180
                  clear A180
                  by_cases c19 : t127 = t132
                  · rw [if_pos c19] at H
                    have c19b0 : (t127 == t132) = true := beq_iff_eq.mpr c19
                    have c19b1 : (t127 != t132) = false := bne_eq_false_iff_eq.mpr c19
                    clear c19
                    by_cases c20 : t128 = t133
                    · rw [if_pos c20] at H
                      have c20b0 : (t128 == t133) = true := beq_iff_eq.mpr c20
                      have c20b1 : (t128 != t133) = false := bne_eq_false_iff_eq.mpr c20
                      clear c20
                      by_cases c21 : t129 = t134
                      · rw [if_pos c21] at H
                        have c21b0 : (t129 == t134) = true := beq_iff_eq.mpr c21
                        have c21b1 : (t129 != t134) = false := bne_eq_false_iff_eq.mpr c21
                        clear c21
                        replace H := Option.bind_eq_some_iff.mp H
                        obtain ⟨t136, A220, H⟩ := H
                        replace H : ((heraldref10_Counts.f t132).bind fun t137 => (if (t136 != t137) = true then (some false) else (heraldlaw10_StateNexts.l0 k2 t127 l1 (wrap64 (x5_2 + 1))))) = some r := H
                        have A22 := Aside0.mk A220
                        clear A220
                        replace H := Option.bind_eq_some_iff.mp H
                        obtain ⟨t137, A230, H⟩ := H
                        replace H : (if (t136 != t137) = true then (some false) else (heraldlaw10_StateNexts.l0 k2 t127 l1 (wrap64 (x5_2 + 1)))) = some r := H
                        have A23 := Aside0.mk A230
                        clear A230
                        by_cases c24 : (t136 != t137) = true
                        · rw [if_pos c24] at H
                          have c24b0 : (t136 != t137) = true := c24
                          (try (have c24b1 : decide (t136 = t137) = false := by simpa using c24))
                          (try (have c24b2 : (t136 == t137) = false := by simpa using c24))
                          (try (have c24b3 : ¬ (t136 = t137) := by simpa using c24))
                          clear c24
                          obtain rfl := Option.some.inj H
                          have p126 : 0 ≤ (x5_2 : Int) := of_decide_eq_true (by first | (with_reducible assumption) | assumption)
                          have q126 : x5_2 < (l1.length : Int) := of_decide_eq_true (by first | (with_reducible assumption) | assumption)
                          obtain ⟨ad126, e126, hx126_0, hx126_1⟩ := at_T28 HR1.out x5_2 p126 q126
                          cases e126
                          replace hx126_0 := (HB.out.cell (World.block_lt_of_cell? w _ hx126_0)).trans hx126_0
                          replace hx126_1 := (HB.out.cell (World.block_lt_of_cell? w _ hx126_1)).trans hx126_1
                          replace p126 := eq_true p126
                          replace q126 := eq_true q126
                          try go_wp2_with (first | ((with_reducible refine gate_callee (f := 12) rfl ?_); refine goesL_ (some 34) rfl rfl Tryd.func12 (by kernel_rfl) rfl #[.int .i64 x0_2, .agg #[.bool ((rd_T28 l1 x5_2).f0), .int .i64 ((rd_T28 l1 x5_2).f1)]] rfl (by (try simp only [List.map_toArray, List.map_cons, List.map_nil]); first | done | rfl | (simp only [List.length_drop, List.length_take]; rfl)) ?_; (with_reducible refine (heraldlaw10_next.calls x0_2 ((rd_T28 l1 x5_2).f0) ((rd_T28 l1 x5_2).f1) t127 t128 t129 _ ?side1 A17.out).mono ?_); (case side1 => exact GL.below HG.out (by repeat (first | (with_reducible first | exact HB.out | apply below_alloc | apply pw_below_drewN | apply below_drew1) | exact HB.out))); rintro e w25 ⟨rfl, hb⟩; refine ⟨_, rfl, ?_⟩; have n0_ := Aside0.mk (below_step (by repeat (first | (with_reducible first | exact HB.out | apply below_alloc | apply pw_below_drewN | apply below_drew1) | exact HB.out)) hb); clear HB; have HB := n0_; clear n0_; (try clear hb); (try clear hb2); (try clear hk); (try clear hi)))
                          have n0_ := Aside0.mk (below_drew1 HB.out)
                          clear HB
                          have HB := n0_
                          clear n0_
                          have p130 : 0 ≤ (x5_2 : Int) := of_decide_eq_true (by first | (with_reducible assumption) | assumption)
                          have q130 : x5_2 < (l1.length : Int) := of_decide_eq_true (by first | (with_reducible assumption) | assumption)
                          obtain ⟨ad130, e130, hx130_0, hx130_1⟩ := at_T28 HR1.out x5_2 p130 q130
                          have hw130_1 := hx130_1
                          have hw130_0 := hx130_0
                          obtain rfl : ad126 = ad130 := (by injection e130)
                          replace hx130_0 := (HB.out.cell (World.block_lt_of_cell? w _ hx130_0)).trans hx130_0
                          replace hx130_1 := (HB.out.cell (World.block_lt_of_cell? w _ hx130_1)).trans hx130_1
                          replace p130 := eq_true p130
                          replace q130 := eq_true q130
                          have p131 : 0 ≤ (x5_2 : Int) := of_decide_eq_true (by first | (with_reducible assumption) | assumption)
                          have q131 : x5_2 < (l1.length : Int) := of_decide_eq_true (by first | (with_reducible assumption) | assumption)
                          obtain ⟨ad131, e131, hx131_0, hx131_1⟩ := at_T28 HR1.out x5_2 p131 q131
                          have hw131_1 := hx131_1
                          have hw131_0 := hx131_0
                          obtain rfl : ad126 = ad131 := (by injection e131)
                          replace hx131_0 := (HB.out.cell (World.block_lt_of_cell? w _ hx131_0)).trans hx131_0
                          replace hx131_1 := (HB.out.cell (World.block_lt_of_cell? w _ hx131_1)).trans hx131_1
                          replace p131 := eq_true p131
                          replace q131 := eq_true q131
                          refine start_ (n := 19) (S := fun w' => w'.cell? (ad126.add ((x5_2).toNat * 2)) = some (.bool ((rd_T28 l1 x5_2).f0)) ∧ w'.cell? ⟨(ad126.add ((x5_2).toNat * 2)).block, (ad126.add ((x5_2).toNat * 2)).off + 1, none⟩ = some (.int .i64 ((rd_T28 l1 x5_2).f1)) ∧ w'.cell? (ad126.add ((x5_2).toNat * 2)) = some (.bool ((rd_T28 l1 x5_2).f0)) ∧ w'.cell? ⟨(ad126.add ((x5_2).toNat * 2)).block, (ad126.add ((x5_2).toNat * 2)).off + 1, none⟩ = some (.int .i64 ((rd_T28 l1 x5_2).f1))) (ds := []) #[false, false, false, false, false, false, false, false, false, false, false, false, false, false, false, false, false, false, false] (by kernel_rfl) rfl rfl ⟨((HB.out.cell (World.block_lt_of_cell? w _ hw130_0)).trans hw130_0), ((HB.out.cell (World.block_lt_of_cell? w _ hw130_1)).trans hw130_1), ((HB.out.cell (World.block_lt_of_cell? w _ hw131_0)).trans hw131_0), ((HB.out.cell (World.block_lt_of_cell? w _ hw131_1)).trans hw131_1)⟩ (fun hHeld => ?_); refine with_tabW heraldlaw10_StateNexts.tab9 heraldlaw10_StateNexts.bits9 (fun HT_ HW_ => ?_)
                          generalize w25.drew = w26 at HB hx130_0 hx130_1 hx131_0 hx131_1 hHeld ⊢
                          refine pure_ (i := 0) (N := some 39) (v := ?_) (a' := ?_) #[true, false, false, false, false, false, false, false, false, false, false, false, false, false, false, false, false, false, false] rfl rfl (any_of HT_.out (by kernel_rfl)) (fun _ _ _ h => h) (Or.inl ⟨by rfl, ?_⟩) ?_ ?_
                          rotate_left
                          · intro w'
                            go_simp
                            with_reducible rfl
                          rotate_left
                          · simp only [Act.put, List.setIfInBounds_toArray, List.set_cons_zero, List.set_cons_succ, i64_w, i32_w]
                            rfl
                          refine pure_ (i := 1) (N := some 40) (v := ?_) (a' := ?_) #[true, true, false, false, false, false, false, false, false, false, false, false, false, false, false, false, false, false, false] rfl rfl (any_of HT_.out (by kernel_rfl)) (fun _ _ _ h => h) (Or.inl ⟨by rfl, ?_⟩) ?_ ?_
                          rotate_left
                          · intro w'
                            go_simp
                            with_reducible rfl
                          rotate_left
                          · simp only [Act.put, List.setIfInBounds_toArray, List.set_cons_zero, List.set_cons_succ, i64_w, i32_w]
                            rfl
                          refine pure_ (i := 2) (N := some 41) (v := ?_) (a' := ?_) #[true, true, true, false, false, false, false, false, false, false, false, false, false, false, false, false, false, false, false] rfl rfl (any_of HT_.out (by kernel_rfl)) (fun _ _ _ h => h) (Or.inl ⟨by rfl, ?_⟩) ?_ ?_
                          rotate_left
                          · intro w'
                            go_simp
                            with_reducible rfl
                          rotate_left
                          · simp only [Act.put, List.setIfInBounds_toArray, List.set_cons_zero, List.set_cons_succ, i64_w, i32_w]
                            rfl
                          refine pure_ (i := 3) (N := some 42) (v := ?_) (a' := ?_) #[true, true, true, true, false, false, false, false, false, false, false, false, false, false, false, false, false, false, false] rfl rfl (any_of HT_.out (by kernel_rfl)) (fun _ _ _ h => h) (Or.inl ⟨by rfl, ?_⟩) ?_ ?_
                          rotate_left
                          · intro w'
                            go_simp
                            with_reducible rfl
                          rotate_left
                          · simp only [Act.put, List.setIfInBounds_toArray, List.set_cons_zero, List.set_cons_succ, i64_w, i32_w]
                            rfl
                          refine pure_ (i := 4) (N := some 43) (v := ?_) (a' := ?_) #[true, true, true, true, true, false, false, false, false, false, false, false, false, false, false, false, false, false, false] rfl rfl (any_of HT_.out (by kernel_rfl)) (fun _ _ _ h => h) (Or.inl ⟨by rfl, ?_⟩) ?_ ?_
                          rotate_left
                          · intro w'
                            go_simp
                            with_reducible rfl
                          rotate_left
                          · simp only [Act.put, List.setIfInBounds_toArray, List.set_cons_zero, List.set_cons_succ, i64_w, i32_w]
                            rfl
                          refine pure_ (i := 6) (N := some 45) (v := ?_) (a' := ?_) #[true, true, true, true, true, false, true, false, false, false, false, false, false, false, false, false, false, false, false] rfl rfl (any_of HT_.out (by kernel_rfl)) (fun _ _ _ h => h) (Or.inl ⟨by rfl, ?_⟩) ?_ ?_
                          rotate_left
                          · intro w'
                            go_simp
                            with_reducible rfl
                          rotate_left
                          · simp only [Act.put, List.setIfInBounds_toArray, List.set_cons_zero, List.set_cons_succ, i64_w, i32_w]
                            rfl
                          refine pure_ (i := 7) (N := some 46) (v := ?_) (a' := ?_) #[true, true, true, true, true, false, true, true, false, false, false, false, false, false, false, false, false, false, false] rfl rfl (any_of HT_.out (by kernel_rfl)) (fun _ _ _ h => h) (Or.inl ⟨by rfl, ?_⟩) ?_ ?_
                          rotate_left
                          · intro w'
                            go_simp
                            with_reducible rfl
                          rotate_left
                          · simp only [Act.put, List.setIfInBounds_toArray, List.set_cons_zero, List.set_cons_succ, i64_w, i32_w]
                            rfl
                          refine pure_ (i := 8) (N := some 47) (v := ?_) (a' := ?_) #[true, true, true, true, true, false, true, true, true, false, false, false, false, false, false, false, false, false, false] rfl rfl (any_of HT_.out (by kernel_rfl)) (fun _ _ _ h => h) (Or.inl ⟨by rfl, ?_⟩) ?_ ?_
                          rotate_left
                          · intro w'
                            go_simp
                            with_reducible rfl
                          rotate_left
                          · simp only [Act.put, List.setIfInBounds_toArray, List.set_cons_zero, List.set_cons_succ, i64_w, i32_w]
                            rfl
                          refine pure_ (i := 9) (N := some 48) (v := ?_) (a' := ?_) #[true, true, true, true, true, false, true, true, true, true, false, false, false, false, false, false, false, false, false] rfl rfl (any_of HT_.out (by kernel_rfl)) (fun _ _ _ h => h) (Or.inl ⟨by rfl, ?_⟩) ?_ ?_
                          rotate_left
                          · intro w'
                            go_simp
                            with_reducible rfl
                          rotate_left
                          · simp only [Act.put, List.setIfInBounds_toArray, List.set_cons_zero, List.set_cons_succ, i64_w, i32_w]
                            rfl
                          refine take_ (i := 5) (N := some 44) (v := ?_) (a' := ?_) #[true, true, true, true, true, true, true, true, true, true, false, false, false, false, false, false, false, false, false] rfl rfl (take_ofW HT_.out HW_.out (by kernel_rfl)) (fun _ _ _ h => h) (Or.inl ⟨by rfl, ?_⟩) hHeld ?_ ?_
                          rotate_left
                          · rintro w' ⟨s0, s1, s2, s3⟩
                            go_simp
                            with_reducible rfl
                          rotate_left
                          · simp only [Act.put, List.setIfInBounds_toArray, List.set_cons_zero, List.set_cons_succ, i64_w, i32_w]
                            rfl
                          refine take_ (i := 10) (N := some 49) (v := ?_) (a' := ?_) #[true, true, true, true, true, true, true, true, true, true, true, false, false, false, false, false, false, false, false] rfl rfl (take_ofW HT_.out HW_.out (by kernel_rfl)) (fun _ _ _ h => h) (Or.inl ⟨by rfl, ?_⟩) hHeld ?_ ?_
                          rotate_left
                          · rintro w' ⟨s0, s1, s2, s3⟩
                            go_simp
                            with_reducible rfl
                          rotate_left
                          · simp only [Act.put, List.setIfInBounds_toArray, List.set_cons_zero, List.set_cons_succ, i64_w, i32_w]
                            rfl
                          refine pure_ (i := 11) (N := some 50) (v := ?_) (a' := ?_) #[true, true, true, true, true, true, true, true, true, true, true, true, false, false, false, false, false, false, false] rfl rfl (any_of HT_.out (by kernel_rfl)) (fun _ _ _ h => h) (Or.inl ⟨by rfl, ?_⟩) ?_ ?_
                          rotate_left
                          · intro w'
                            go_simp
                            with_reducible rfl
                          rotate_left
                          · simp only [Act.put, List.setIfInBounds_toArray, List.set_cons_zero, List.set_cons_succ, i64_w, i32_w]
                            rfl
                          refine join_ (σ := Nat) 2 #[true, true, true, true, true, true, true, true, true, true, true, true, true, true, true, true, true, false, false] (fun s_ => [(51, .tuple #[.int .i64 t132, .agg #[.int .i64 t133, .int .i64 t134]]), (10, .pointer (some ⟨s_, 0, none⟩)), (38, .tuple #[.int .i64 t132, .agg #[.int .i64 t133, .int .i64 t134]]), (52, .int .i64 t132), (53, .agg #[.int .i64 t133, .int .i64 t134])]) (fun s_ w' => (w'.cell? (ad126.add ((x5_2).toNat * 2)) = some (.bool ((rd_T28 l1 x5_2).f0)) ∧ w'.cell? ⟨(ad126.add ((x5_2).toNat * 2)).block, (ad126.add ((x5_2).toNat * 2)).off + 1, none⟩ = some (.int .i64 ((rd_T28 l1 x5_2).f1)) ∧ w'.cell? (ad126.add ((x5_2).toNat * 2)) = some (.bool ((rd_T28 l1 x5_2).f0)) ∧ w'.cell? ⟨(ad126.add ((x5_2).toNat * 2)).block, (ad126.add ((x5_2).toNat * 2)).off + 1, none⟩ = some (.int .i64 ((rd_T28 l1 x5_2).f1))) ∧ (w'.heap[s_]? = some (.cells #[.int .i64 0, .int .i64 0] 30 (0, 0))) ∧ (w.heap.size ≤ s_) ∧ (w.heap.size ≤ s_) ∧ (Below w.heap.size w w')) ?_ ?_
                          rotate_left
                          · intro hCont
                            refine two_ (i := 12) (j := 16) (Ni := some 51) (Nj := some 10) #[true, true, true, true, true, true, true, true, true, true, true, true, true, false, false, false, false, false, false] #[true, true, true, true, true, true, true, true, true, true, true, true, false, false, false, false, true, false, false] rfl rfl rfl rfl (two_of HT_.out (by kernel_rfl)) (by decide) (by decide) (fun K hK => ?_) (fun K hK => ?_)
                            · skip
                              refine goes_ Tryd.func13 (by kernel_rfl) rfl #[.int .i64 x0_2, .agg #[.bool ((rd_T28 l1 x5_2).f0), .int .i64 ((rd_T28 l1 x5_2).f1)]] (by rfl) rfl rfl (by (try simp only [List.map_toArray, List.map_cons, List.map_nil]); first | done | rfl | (simp only [List.length_drop, List.length_take]; rfl)) ?_
                              with_reducible refine (heraldref10_Next.calls x0_2 ((rd_T28 l1 x5_2).f0) ((rd_T28 l1 x5_2).f1) t132 t133 t134 _ A18.out).mono ?_
                              rintro e w27 ⟨rfl, hb⟩
                              refine ⟨_, rfl, ?_⟩
                              have n0_ := Aside0.mk (below_step (by repeat (first | (with_reducible first | exact HB.out | apply below_alloc | apply pw_below_drewN | apply below_drew1) | exact HB.out)) hb)
                              clear HB
                              have HB := n0_
                              clear n0_
                              (try clear hb)
                              (try clear hb2)
                              (try clear hk)
                              (try clear hi)
                              refine hK.out _ _ ⟨((HB.out.cell (World.block_lt_of_cell? w _ hw130_0)).trans hw130_0), ((HB.out.cell (World.block_lt_of_cell? w _ hw130_1)).trans hw130_1), ((HB.out.cell (World.block_lt_of_cell? w _ hw131_0)).trans hw131_0), ((HB.out.cell (World.block_lt_of_cell? w _ hw131_1)).trans hw131_1)⟩ (fun hHeld => ?_)
                              clear hK K
                              refine norm_ (a' := ?_) ?_ ?_
                              rotate_left
                              · show Act.put _ (some 51) _ = _
                                simp only [Act.put, List.setIfInBounds_toArray, List.set_cons_zero, List.set_cons_succ, i64_w, i32_w]
                                rfl
                              refine pure_ (i := 13) (N := some 38) (v := ?_) (a' := ?_) #[true, true, true, true, true, true, true, true, true, true, true, true, true, true, false, false, false, false, false] rfl rfl (any_of HT_.out (by kernel_rfl)) (fun _ _ _ h => h) (Or.inl ⟨by rfl, ?_⟩) ?_ ?_
                              rotate_left
                              · intro w'
                                go_simp
                                with_reducible rfl
                              rotate_left
                              · simp only [Act.put, List.setIfInBounds_toArray, List.set_cons_zero, List.set_cons_succ, i64_w, i32_w]
                                rfl
                              refine pure_ (i := 14) (N := some 52) (v := ?_) (a' := ?_) #[true, true, true, true, true, true, true, true, true, true, true, true, true, true, true, false, false, false, false] rfl rfl (any_of HT_.out (by kernel_rfl)) (fun _ _ _ h => h) (Or.inl ⟨by rfl, ?_⟩) ?_ ?_
                              rotate_left
                              · intro w'
                                go_simp
                                with_reducible rfl
                              rotate_left
                              · simp only [Act.put, List.setIfInBounds_toArray, List.set_cons_zero, List.set_cons_succ, i64_w, i32_w]
                                rfl
                              refine pure_ (i := 15) (N := some 53) (v := ?_) (a' := ?_) #[true, true, true, true, true, true, true, true, true, true, true, true, true, true, true, true, false, false, false] rfl rfl (any_of HT_.out (by kernel_rfl)) (fun _ _ _ h => h) (Or.inl ⟨by rfl, ?_⟩) ?_ ?_
                              rotate_left
                              · intro w'
                                go_simp
                                with_reducible rfl
                              rotate_left
                              · simp only [Act.put, List.setIfInBounds_toArray, List.set_cons_zero, List.set_cons_succ, i64_w, i32_w]
                                rfl
                              refine one_ (i := 16) (N := some 10) #[true, true, true, true, true, true, true, true, true, true, true, true, true, true, true, true, true, false, false] rfl rfl (one_of HT_.out (by kernel_rfl)) (by decide) (fun K hK => ?_)
                              refine box_step ?hg (N := 10) ?hd (cs := #[.int .i64 0, .int .i64 0]) (t := 30) ?hr ?_; (case hd => rfl); (case hg => rfl); (case hr => first | (go_simp; done) | (go_simp; rfl))
                              intro gb135 hg w28 hbox hb
                              have n0_ := Aside0.mk (below_step (by repeat (first | (with_reducible first | exact HB.out | apply below_alloc | apply pw_below_drewN | apply below_drew1) | exact HB.out)) hb)
                              have n1_ := Aside0.mk (hbox)
                              have n2_ := Aside0.mk ((by rw [hg]; exact (below_size (by repeat (first | (with_reducible first | exact HB.out | apply below_alloc | apply pw_below_drewN | apply below_drew1) | exact HB.out))) : w.heap.size ≤ gb135))
                              have n3_ := Aside0.mk ((by rw [hg]; exact (below_size (by repeat (first | (with_reducible first | exact HB.out | apply below_alloc | apply pw_below_drewN | apply below_drew1) | exact HB.out))) : w.heap.size ≤ gb135))
                              clear HB
                              have HB := n0_
                              have BK135 := n1_
                              have GW135 := n2_
                              have GE135 := n3_
                              clear n0_ n1_ n2_ n3_
                              clear hb hbox hg
                              refine hK.out _ _ ⟨((HB.out.cell (World.block_lt_of_cell? w _ hw130_0)).trans hw130_0), ((HB.out.cell (World.block_lt_of_cell? w _ hw130_1)).trans hw130_1), ((HB.out.cell (World.block_lt_of_cell? w _ hw131_0)).trans hw131_0), ((HB.out.cell (World.block_lt_of_cell? w _ hw131_1)).trans hw131_1)⟩ (fun hHeld => ?_)
                              clear hK K
                              refine norm_ (a' := ?_) ?_ ?_
                              rotate_left
                              · show Act.put _ (some 10) _ = _
                                simp only [Act.put, List.setIfInBounds_toArray, List.set_cons_zero, List.set_cons_succ, i64_w, i32_w]
                                rfl
                              exact norm_ (by simp only [putAll, Act.put, List.setIfInBounds_toArray, List.set_cons_zero, List.set_cons_succ]) (hCont (gb135) _ ⟨hHeld, (by (with_reducible repeat (first | refine blk_drewN ?_ _ | refine blk_drew ?_ | refine blk_alloc ?_ _)); exact BK135.out), GW135.out, GE135.out, (by repeat (first | (with_reducible first | exact HB.out | apply below_alloc | apply pw_below_drewN | apply below_drew1 | refine below_set ?_ GE135.out) | exact HB.out))⟩)
                            · skip
                              refine box_step ?hg (N := 10) ?hd (cs := #[.int .i64 0, .int .i64 0]) (t := 30) ?hr ?_; (case hd => rfl); (case hg => rfl); (case hr => first | (go_simp; done) | (go_simp; rfl))
                              intro gb135 hg w27 hbox hb
                              have n0_ := Aside0.mk (below_step (by repeat (first | (with_reducible first | exact HB.out | apply below_alloc | apply pw_below_drewN | apply below_drew1) | exact HB.out)) hb)
                              have n1_ := Aside0.mk (hbox)
                              have n2_ := Aside0.mk ((by rw [hg]; exact (below_size (by repeat (first | (with_reducible first | exact HB.out | apply below_alloc | apply pw_below_drewN | apply below_drew1) | exact HB.out))) : w.heap.size ≤ gb135))
                              have n3_ := Aside0.mk ((by rw [hg]; exact (below_size (by repeat (first | (with_reducible first | exact HB.out | apply below_alloc | apply pw_below_drewN | apply below_drew1) | exact HB.out))) : w.heap.size ≤ gb135))
                              clear HB
                              have HB := n0_
                              have BK135 := n1_
                              have GW135 := n2_
                              have GE135 := n3_
                              clear n0_ n1_ n2_ n3_
                              clear hb hbox hg
                              refine hK.out _ _ ⟨((HB.out.cell (World.block_lt_of_cell? w _ hw130_0)).trans hw130_0), ((HB.out.cell (World.block_lt_of_cell? w _ hw130_1)).trans hw130_1), ((HB.out.cell (World.block_lt_of_cell? w _ hw131_0)).trans hw131_0), ((HB.out.cell (World.block_lt_of_cell? w _ hw131_1)).trans hw131_1)⟩ (fun hHeld => ?_)
                              clear hK K
                              refine norm_ (a' := ?_) ?_ ?_
                              rotate_left
                              · show Act.put _ (some 10) _ = _
                                simp only [Act.put, List.setIfInBounds_toArray, List.set_cons_zero, List.set_cons_succ, i64_w, i32_w]
                                rfl
                              refine one_ (i := 12) (N := some 51) #[true, true, true, true, true, true, true, true, true, true, true, true, true, false, false, false, true, false, false] rfl rfl (one_of HT_.out (by kernel_rfl)) (by decide) (fun K hK => ?_)
                              refine goes_ Tryd.func13 (by kernel_rfl) rfl #[.int .i64 x0_2, .agg #[.bool ((rd_T28 l1 x5_2).f0), .int .i64 ((rd_T28 l1 x5_2).f1)]] (by rfl) rfl rfl (by (try simp only [List.map_toArray, List.map_cons, List.map_nil]); first | done | rfl | (simp only [List.length_drop, List.length_take]; rfl)) ?_
                              with_reducible refine (heraldref10_Next.calls x0_2 ((rd_T28 l1 x5_2).f0) ((rd_T28 l1 x5_2).f1) t132 t133 t134 _ A18.out).mono ?_
                              rintro e w28 ⟨rfl, hb⟩
                              refine ⟨_, rfl, ?_⟩
                              have n0_ := Aside0.mk (blk_below (g := gb135) (o := .cells #[.int .i64 0, .int .i64 0] 30 (0, 0)) (by (with_reducible repeat (first | refine blk_drewN ?_ _ | refine blk_drew ?_ | refine blk_alloc ?_ _)); exact BK135.out) hb)
                              have n1_ := Aside0.mk (below_step (by repeat (first | (with_reducible first | exact HB.out | apply below_alloc | apply pw_below_drewN | apply below_drew1 | refine below_set ?_ GE135.out) | exact HB.out)) hb)
                              clear BK135
                              clear HB
                              have BK135 := n0_
                              have HB := n1_
                              clear n0_ n1_
                              (try clear hb)
                              (try clear hb2)
                              (try clear hk)
                              (try clear hi)
                              refine hK.out _ _ ⟨((HB.out.cell (World.block_lt_of_cell? w _ hw130_0)).trans hw130_0), ((HB.out.cell (World.block_lt_of_cell? w _ hw130_1)).trans hw130_1), ((HB.out.cell (World.block_lt_of_cell? w _ hw131_0)).trans hw131_0), ((HB.out.cell (World.block_lt_of_cell? w _ hw131_1)).trans hw131_1)⟩ (fun hHeld => ?_)
                              clear hK K
                              refine norm_ (a' := ?_) ?_ ?_
                              rotate_left
                              · show Act.put _ (some 51) _ = _
                                simp only [Act.put, List.setIfInBounds_toArray, List.set_cons_zero, List.set_cons_succ, i64_w, i32_w]
                                rfl
                              refine pure_ (i := 13) (N := some 38) (v := ?_) (a' := ?_) #[true, true, true, true, true, true, true, true, true, true, true, true, true, true, false, false, true, false, false] rfl rfl (any_of HT_.out (by kernel_rfl)) (fun _ _ _ h => h) (Or.inl ⟨by rfl, ?_⟩) ?_ ?_
                              rotate_left
                              · intro w'
                                go_simp
                                with_reducible rfl
                              rotate_left
                              · simp only [Act.put, List.setIfInBounds_toArray, List.set_cons_zero, List.set_cons_succ, i64_w, i32_w]
                                rfl
                              refine pure_ (i := 14) (N := some 52) (v := ?_) (a' := ?_) #[true, true, true, true, true, true, true, true, true, true, true, true, true, true, true, false, true, false, false] rfl rfl (any_of HT_.out (by kernel_rfl)) (fun _ _ _ h => h) (Or.inl ⟨by rfl, ?_⟩) ?_ ?_
                              rotate_left
                              · intro w'
                                go_simp
                                with_reducible rfl
                              rotate_left
                              · simp only [Act.put, List.setIfInBounds_toArray, List.set_cons_zero, List.set_cons_succ, i64_w, i32_w]
                                rfl
                              refine pure_ (i := 15) (N := some 53) (v := ?_) (a' := ?_) #[true, true, true, true, true, true, true, true, true, true, true, true, true, true, true, true, true, false, false] rfl rfl (any_of HT_.out (by kernel_rfl)) (fun _ _ _ h => h) (Or.inl ⟨by rfl, ?_⟩) ?_ ?_
                              rotate_left
                              · intro w'
                                go_simp
                                with_reducible rfl
                              rotate_left
                              · simp only [Act.put, List.setIfInBounds_toArray, List.set_cons_zero, List.set_cons_succ, i64_w, i32_w]
                                rfl
                              exact norm_ (by simp only [putAll, Act.put, List.setIfInBounds_toArray, List.set_cons_zero, List.set_cons_succ]) (hCont (gb135) _ ⟨hHeld, (by (with_reducible repeat (first | refine blk_drewN ?_ _ | refine blk_drew ?_ | refine blk_alloc ?_ _)); exact BK135.out), GW135.out, GE135.out, (by repeat (first | (with_reducible first | exact HB.out | apply below_alloc | apply pw_below_drewN | apply below_drew1 | refine below_set ?_ GE135.out) | exact HB.out))⟩)
                          rintro gb135 w29 ⟨hS_, h0_, h1_, h2_, h3_⟩
                          have n0_ : Aside0 (w29.heap[gb135]? = some (.cells #[.int .i64 0, .int .i64 0] 30 (0, 0))) := ⟨h0_⟩
                          have n1_ : Aside0 (w.heap.size ≤ gb135) := ⟨h1_⟩
                          have n2_ : Aside0 (w.heap.size ≤ gb135) := ⟨h2_⟩
                          have n3_ : Aside0 (Below w.heap.size w w29) := ⟨h3_⟩
                          clear HB
                          clear h0_ h1_ h2_ h3_
                          have BK135 := n0_
                          have GW135 := n1_
                          have GE135 := n2_
                          have HB := n3_
                          clear n0_ n1_ n2_ n3_
                          have hHeld : w29.cell? (ad126.add ((x5_2).toNat * 2)) = some (.bool ((rd_T28 l1 x5_2).f0)) ∧ w29.cell? ⟨(ad126.add ((x5_2).toNat * 2)).block, (ad126.add ((x5_2).toNat * 2)).off + 1, none⟩ = some (.int .i64 ((rd_T28 l1 x5_2).f1)) ∧ w29.cell? (ad126.add ((x5_2).toNat * 2)) = some (.bool ((rd_T28 l1 x5_2).f0)) ∧ w29.cell? ⟨(ad126.add ((x5_2).toNat * 2)).block, (ad126.add ((x5_2).toNat * 2)).off + 1, none⟩ = some (.int .i64 ((rd_T28 l1 x5_2).f1)) := hS_
                          refine norm_ (a' := ?_) ?_ ?_
                          rotate_left
                          · simp only [putAll, Act.put, List.setIfInBounds_toArray, List.set_cons_zero, List.set_cons_succ]
                            rfl
                          refine pure_ (i := 17) (N := some 9) (v := ?_) (a' := ?_) #[true, true, true, true, true, true, true, true, true, true, true, true, true, true, true, true, true, true, false] rfl rfl (any_of HT_.out (by kernel_rfl)) (fun _ _ _ h => h) (Or.inl ⟨by rfl, ?_⟩) ?_ ?_
                          rotate_left
                          · intro w'
                            go_simp
                            with_reducible rfl
                          rotate_left
                          · simp only [Act.put, List.setIfInBounds_toArray, List.set_cons_zero, List.set_cons_succ, i64_w, i32_w]
                            rfl
                          refine one_ (i := 18) (N := none) #[true, true, true, true, true, true, true, true, true, true, true, true, true, true, true, true, true, true, true] rfl rfl (one_of HT_.out (by kernel_rfl)) (by decide) (fun K hK => ?_)
                          have hs30 : w29.cell? ⟨gb135, 0, none⟩ = some (.int .i64 0) := (blk_cell BK135.out 0).trans rfl
                          have hfs30 := blk_frozen BK135.out 0
                          have hs31 : w29.cell? ⟨gb135, 1, none⟩ = some (.int .i64 0) := (blk_cell BK135.out 1).trans rfl
                          have hfs31 := blk_frozen BK135.out 1
                          refine skip_ (w1 := ?_) (by rfl) rfl ?_ ?_
                          rotate_left
                          · go_simp
                            rfl
                          refine hK.out _ _ ⟨((cell_far (p := ⟨gb135, _, none⟩) (by first | exact Nat.ne_of_lt (Nat.lt_of_lt_of_le (by have := World.block_lt_of_cell? _ _ hw130_0; first | rwa [add_block] at this | exact this) GW135.out) | (rw [add_block]; exact Nat.ne_of_lt (Nat.lt_of_lt_of_le (by have := World.block_lt_of_cell? _ _ hw130_0; first | rwa [add_block] at this | exact this) GW135.out)) | (show (Addr.add _ _).block ≠ _; rw [add_block]; exact Nat.ne_of_lt (Nat.lt_of_lt_of_le (by have := World.block_lt_of_cell? _ _ hw130_0; first | rwa [add_block] at this | exact this) GW135.out)) | (dsimp only; exact Nat.ne_of_lt (Nat.lt_of_lt_of_le (by have := World.block_lt_of_cell? _ _ hw130_0; first | rwa [add_block] at this | exact this) GW135.out))) _).trans (((cell_far (p := ⟨gb135, _, none⟩) (by first | exact Nat.ne_of_lt (Nat.lt_of_lt_of_le (by have := World.block_lt_of_cell? _ _ hw130_0; first | rwa [add_block] at this | exact this) GW135.out) | (rw [add_block]; exact Nat.ne_of_lt (Nat.lt_of_lt_of_le (by have := World.block_lt_of_cell? _ _ hw130_0; first | rwa [add_block] at this | exact this) GW135.out)) | (show (Addr.add _ _).block ≠ _; rw [add_block]; exact Nat.ne_of_lt (Nat.lt_of_lt_of_le (by have := World.block_lt_of_cell? _ _ hw130_0; first | rwa [add_block] at this | exact this) GW135.out)) | (dsimp only; exact Nat.ne_of_lt (Nat.lt_of_lt_of_le (by have := World.block_lt_of_cell? _ _ hw130_0; first | rwa [add_block] at this | exact this) GW135.out))) _).trans (hHeld.1)))), ((cell_far (p := ⟨gb135, _, none⟩) (by first | exact Nat.ne_of_lt (Nat.lt_of_lt_of_le (by have := World.block_lt_of_cell? _ _ hw130_1; first | rwa [add_block] at this | exact this) GW135.out) | (rw [add_block]; exact Nat.ne_of_lt (Nat.lt_of_lt_of_le (by have := World.block_lt_of_cell? _ _ hw130_1; first | rwa [add_block] at this | exact this) GW135.out)) | (show (Addr.add _ _).block ≠ _; rw [add_block]; exact Nat.ne_of_lt (Nat.lt_of_lt_of_le (by have := World.block_lt_of_cell? _ _ hw130_1; first | rwa [add_block] at this | exact this) GW135.out)) | (dsimp only; exact Nat.ne_of_lt (Nat.lt_of_lt_of_le (by have := World.block_lt_of_cell? _ _ hw130_1; first | rwa [add_block] at this | exact this) GW135.out))) _).trans (((cell_far (p := ⟨gb135, _, none⟩) (by first | exact Nat.ne_of_lt (Nat.lt_of_lt_of_le (by have := World.block_lt_of_cell? _ _ hw130_1; first | rwa [add_block] at this | exact this) GW135.out) | (rw [add_block]; exact Nat.ne_of_lt (Nat.lt_of_lt_of_le (by have := World.block_lt_of_cell? _ _ hw130_1; first | rwa [add_block] at this | exact this) GW135.out)) | (show (Addr.add _ _).block ≠ _; rw [add_block]; exact Nat.ne_of_lt (Nat.lt_of_lt_of_le (by have := World.block_lt_of_cell? _ _ hw130_1; first | rwa [add_block] at this | exact this) GW135.out)) | (dsimp only; exact Nat.ne_of_lt (Nat.lt_of_lt_of_le (by have := World.block_lt_of_cell? _ _ hw130_1; first | rwa [add_block] at this | exact this) GW135.out))) _).trans (hHeld.2.1)))), ((cell_far (p := ⟨gb135, _, none⟩) (by first | exact Nat.ne_of_lt (Nat.lt_of_lt_of_le (by have := World.block_lt_of_cell? _ _ hw131_0; first | rwa [add_block] at this | exact this) GW135.out) | (rw [add_block]; exact Nat.ne_of_lt (Nat.lt_of_lt_of_le (by have := World.block_lt_of_cell? _ _ hw131_0; first | rwa [add_block] at this | exact this) GW135.out)) | (show (Addr.add _ _).block ≠ _; rw [add_block]; exact Nat.ne_of_lt (Nat.lt_of_lt_of_le (by have := World.block_lt_of_cell? _ _ hw131_0; first | rwa [add_block] at this | exact this) GW135.out)) | (dsimp only; exact Nat.ne_of_lt (Nat.lt_of_lt_of_le (by have := World.block_lt_of_cell? _ _ hw131_0; first | rwa [add_block] at this | exact this) GW135.out))) _).trans (((cell_far (p := ⟨gb135, _, none⟩) (by first | exact Nat.ne_of_lt (Nat.lt_of_lt_of_le (by have := World.block_lt_of_cell? _ _ hw131_0; first | rwa [add_block] at this | exact this) GW135.out) | (rw [add_block]; exact Nat.ne_of_lt (Nat.lt_of_lt_of_le (by have := World.block_lt_of_cell? _ _ hw131_0; first | rwa [add_block] at this | exact this) GW135.out)) | (show (Addr.add _ _).block ≠ _; rw [add_block]; exact Nat.ne_of_lt (Nat.lt_of_lt_of_le (by have := World.block_lt_of_cell? _ _ hw131_0; first | rwa [add_block] at this | exact this) GW135.out)) | (dsimp only; exact Nat.ne_of_lt (Nat.lt_of_lt_of_le (by have := World.block_lt_of_cell? _ _ hw131_0; first | rwa [add_block] at this | exact this) GW135.out))) _).trans (hHeld.2.2.1)))), ((cell_far (p := ⟨gb135, _, none⟩) (by first | exact Nat.ne_of_lt (Nat.lt_of_lt_of_le (by have := World.block_lt_of_cell? _ _ hw131_1; first | rwa [add_block] at this | exact this) GW135.out) | (rw [add_block]; exact Nat.ne_of_lt (Nat.lt_of_lt_of_le (by have := World.block_lt_of_cell? _ _ hw131_1; first | rwa [add_block] at this | exact this) GW135.out)) | (show (Addr.add _ _).block ≠ _; rw [add_block]; exact Nat.ne_of_lt (Nat.lt_of_lt_of_le (by have := World.block_lt_of_cell? _ _ hw131_1; first | rwa [add_block] at this | exact this) GW135.out)) | (dsimp only; exact Nat.ne_of_lt (Nat.lt_of_lt_of_le (by have := World.block_lt_of_cell? _ _ hw131_1; first | rwa [add_block] at this | exact this) GW135.out))) _).trans (((cell_far (p := ⟨gb135, _, none⟩) (by first | exact Nat.ne_of_lt (Nat.lt_of_lt_of_le (by have := World.block_lt_of_cell? _ _ hw131_1; first | rwa [add_block] at this | exact this) GW135.out) | (rw [add_block]; exact Nat.ne_of_lt (Nat.lt_of_lt_of_le (by have := World.block_lt_of_cell? _ _ hw131_1; first | rwa [add_block] at this | exact this) GW135.out)) | (show (Addr.add _ _).block ≠ _; rw [add_block]; exact Nat.ne_of_lt (Nat.lt_of_lt_of_le (by have := World.block_lt_of_cell? _ _ hw131_1; first | rwa [add_block] at this | exact this) GW135.out)) | (dsimp only; exact Nat.ne_of_lt (Nat.lt_of_lt_of_le (by have := World.block_lt_of_cell? _ _ hw131_1; first | rwa [add_block] at this | exact this) GW135.out))) _).trans (hHeld.2.2.2))))⟩ (fun hHeld => ?_)
                          clear hK K
                          refine done_ (done_of HT_.out (by kernel_rfl)) ?_
                          have hcz32_0 : w29.cell? ⟨gb135, 0, none⟩ = some (.int .i64 0) := (blk_cell BK135.out 0).trans rfl
                          have hcz32_1 : w29.cell? ⟨gb135, 1, none⟩ = some (.int .i64 0) := (blk_cell BK135.out 1).trans rfl
                          have hfz32_0 := blk_frozen BK135.out 0
                          have hfz32_1 := blk_frozen BK135.out 1
                          try go_wp2_with (first | (go_at_call 10; (with_reducible refine (state_Counts.calls k2 t127 t136 _ A22.out).mono ?_); rintro e w33 ⟨rfl, hb⟩; have n0_ := Aside0.mk (blk_below (g := gb135) (o := .cells #[.int .i64 t133, .int .i64 t134] 30 (0, 0)) (by (with_reducible repeat (first | refine blk_drewN ?_ _ | refine blk_drew ?_ | refine blk_alloc ?_ _)); refine blk_put (cs := #[.int .i64 t133, .int .i64 0]) ?_ 1 _ rfl; (with_reducible repeat (first | refine blk_drewN ?_ _ | refine blk_drew ?_ | refine blk_alloc ?_ _)); refine blk_put (cs := #[.int .i64 0, .int .i64 0]) ?_ 0 _ rfl; (with_reducible repeat (first | refine blk_drewN ?_ _ | refine blk_drew ?_ | refine blk_alloc ?_ _)); exact BK135.out) hb); have n1_ := Aside0.mk (below_step (by repeat (first | (with_reducible first | exact HB.out | apply below_alloc | apply pw_below_drewN | apply below_drew1 | refine below_set ?_ GE135.out) | exact HB.out)) hb); clear BK135; clear HB; have BK135 := n0_; have HB := n1_; clear n0_ n1_; (try clear hb); (try clear hb2); (try clear hk); (try clear hi)) | (go_at_call 11; (with_reducible refine (heraldref10_Counts.calls t132 t137 _ A23.out).mono ?_); rintro e w' ⟨rfl, ⟨nd, rfl⟩⟩))
                          go_ret
                          exact ⟨by first | rfl | (simp [errW_none, errW_some] <;> rfl) | (simp [*, errW_none, errW_some] <;> rfl), by repeat (first | (with_reducible first | exact HB.out | apply below_alloc | apply pw_below_drewN | apply below_drew1 | refine below_set ?_ GE135.out) | exact HB.out)⟩
                        · rw [if_neg c24] at H
                          have c24b0 : (t136 != t137) = false := by simpa using c24
                          (try (have c24b1 : decide (t136 = t137) = true := by simpa using c24))
                          (try (have c24b2 : (t136 == t137) = true := by simpa using c24))
                          clear c24
                          have H' := Aside0.mk H
                          clear H
                          have p126 : 0 ≤ (x5_2 : Int) := of_decide_eq_true (by first | (with_reducible assumption) | assumption)
                          have q126 : x5_2 < (l1.length : Int) := of_decide_eq_true (by first | (with_reducible assumption) | assumption)
                          obtain ⟨ad126, e126, hx126_0, hx126_1⟩ := at_T28 HR1.out x5_2 p126 q126
                          cases e126
                          replace hx126_0 := (HB.out.cell (World.block_lt_of_cell? w _ hx126_0)).trans hx126_0
                          replace hx126_1 := (HB.out.cell (World.block_lt_of_cell? w _ hx126_1)).trans hx126_1
                          replace p126 := eq_true p126
                          replace q126 := eq_true q126
                          try go_wp2_with (first | ((with_reducible refine gate_callee (f := 12) rfl ?_); refine goesL_ (some 34) rfl rfl Tryd.func12 (by kernel_rfl) rfl #[.int .i64 x0_2, .agg #[.bool ((rd_T28 l1 x5_2).f0), .int .i64 ((rd_T28 l1 x5_2).f1)]] rfl (by (try simp only [List.map_toArray, List.map_cons, List.map_nil]); first | done | rfl | (simp only [List.length_drop, List.length_take]; rfl)) ?_; (with_reducible refine (heraldlaw10_next.calls x0_2 ((rd_T28 l1 x5_2).f0) ((rd_T28 l1 x5_2).f1) t127 t128 t129 _ ?side1 A17.out).mono ?_); (case side1 => exact GL.below HG.out (by repeat (first | (with_reducible first | exact HB.out | apply below_alloc | apply pw_below_drewN | apply below_drew1) | exact HB.out))); rintro e w34 ⟨rfl, hb⟩; refine ⟨_, rfl, ?_⟩; have n0_ := Aside0.mk (below_step (by repeat (first | (with_reducible first | exact HB.out | apply below_alloc | apply pw_below_drewN | apply below_drew1) | exact HB.out)) hb); clear HB; have HB := n0_; clear n0_; (try clear hb); (try clear hb2); (try clear hk); (try clear hi)))
                          have n0_ := Aside0.mk (below_drew1 HB.out)
                          clear HB
                          have HB := n0_
                          clear n0_
                          have p130 : 0 ≤ (x5_2 : Int) := of_decide_eq_true (by first | (with_reducible assumption) | assumption)
                          have q130 : x5_2 < (l1.length : Int) := of_decide_eq_true (by first | (with_reducible assumption) | assumption)
                          obtain ⟨ad130, e130, hx130_0, hx130_1⟩ := at_T28 HR1.out x5_2 p130 q130
                          have hw130_1 := hx130_1
                          have hw130_0 := hx130_0
                          obtain rfl : ad126 = ad130 := (by injection e130)
                          replace hx130_0 := (HB.out.cell (World.block_lt_of_cell? w _ hx130_0)).trans hx130_0
                          replace hx130_1 := (HB.out.cell (World.block_lt_of_cell? w _ hx130_1)).trans hx130_1
                          replace p130 := eq_true p130
                          replace q130 := eq_true q130
                          have p131 : 0 ≤ (x5_2 : Int) := of_decide_eq_true (by first | (with_reducible assumption) | assumption)
                          have q131 : x5_2 < (l1.length : Int) := of_decide_eq_true (by first | (with_reducible assumption) | assumption)
                          obtain ⟨ad131, e131, hx131_0, hx131_1⟩ := at_T28 HR1.out x5_2 p131 q131
                          have hw131_1 := hx131_1
                          have hw131_0 := hx131_0
                          obtain rfl : ad126 = ad131 := (by injection e131)
                          replace hx131_0 := (HB.out.cell (World.block_lt_of_cell? w _ hx131_0)).trans hx131_0
                          replace hx131_1 := (HB.out.cell (World.block_lt_of_cell? w _ hx131_1)).trans hx131_1
                          replace p131 := eq_true p131
                          replace q131 := eq_true q131
                          refine start_ (n := 19) (S := fun w' => w'.cell? (ad126.add ((x5_2).toNat * 2)) = some (.bool ((rd_T28 l1 x5_2).f0)) ∧ w'.cell? ⟨(ad126.add ((x5_2).toNat * 2)).block, (ad126.add ((x5_2).toNat * 2)).off + 1, none⟩ = some (.int .i64 ((rd_T28 l1 x5_2).f1)) ∧ w'.cell? (ad126.add ((x5_2).toNat * 2)) = some (.bool ((rd_T28 l1 x5_2).f0)) ∧ w'.cell? ⟨(ad126.add ((x5_2).toNat * 2)).block, (ad126.add ((x5_2).toNat * 2)).off + 1, none⟩ = some (.int .i64 ((rd_T28 l1 x5_2).f1))) (ds := []) #[false, false, false, false, false, false, false, false, false, false, false, false, false, false, false, false, false, false, false] (by kernel_rfl) rfl rfl ⟨((HB.out.cell (World.block_lt_of_cell? w _ hw130_0)).trans hw130_0), ((HB.out.cell (World.block_lt_of_cell? w _ hw130_1)).trans hw130_1), ((HB.out.cell (World.block_lt_of_cell? w _ hw131_0)).trans hw131_0), ((HB.out.cell (World.block_lt_of_cell? w _ hw131_1)).trans hw131_1)⟩ (fun hHeld => ?_); refine with_tabW heraldlaw10_StateNexts.tab9 heraldlaw10_StateNexts.bits9 (fun HT_ HW_ => ?_)
                          generalize w34.drew = w35 at HB hx130_0 hx130_1 hx131_0 hx131_1 hHeld ⊢
                          refine pure_ (i := 0) (N := some 39) (v := ?_) (a' := ?_) #[true, false, false, false, false, false, false, false, false, false, false, false, false, false, false, false, false, false, false] rfl rfl (any_of HT_.out (by kernel_rfl)) (fun _ _ _ h => h) (Or.inl ⟨by rfl, ?_⟩) ?_ ?_
                          rotate_left
                          · intro w'
                            go_simp
                            with_reducible rfl
                          rotate_left
                          · simp only [Act.put, List.setIfInBounds_toArray, List.set_cons_zero, List.set_cons_succ, i64_w, i32_w]
                            rfl
                          refine pure_ (i := 1) (N := some 40) (v := ?_) (a' := ?_) #[true, true, false, false, false, false, false, false, false, false, false, false, false, false, false, false, false, false, false] rfl rfl (any_of HT_.out (by kernel_rfl)) (fun _ _ _ h => h) (Or.inl ⟨by rfl, ?_⟩) ?_ ?_
                          rotate_left
                          · intro w'
                            go_simp
                            with_reducible rfl
                          rotate_left
                          · simp only [Act.put, List.setIfInBounds_toArray, List.set_cons_zero, List.set_cons_succ, i64_w, i32_w]
                            rfl
                          refine pure_ (i := 2) (N := some 41) (v := ?_) (a' := ?_) #[true, true, true, false, false, false, false, false, false, false, false, false, false, false, false, false, false, false, false] rfl rfl (any_of HT_.out (by kernel_rfl)) (fun _ _ _ h => h) (Or.inl ⟨by rfl, ?_⟩) ?_ ?_
                          rotate_left
                          · intro w'
                            go_simp
                            with_reducible rfl
                          rotate_left
                          · simp only [Act.put, List.setIfInBounds_toArray, List.set_cons_zero, List.set_cons_succ, i64_w, i32_w]
                            rfl
                          refine pure_ (i := 3) (N := some 42) (v := ?_) (a' := ?_) #[true, true, true, true, false, false, false, false, false, false, false, false, false, false, false, false, false, false, false] rfl rfl (any_of HT_.out (by kernel_rfl)) (fun _ _ _ h => h) (Or.inl ⟨by rfl, ?_⟩) ?_ ?_
                          rotate_left
                          · intro w'
                            go_simp
                            with_reducible rfl
                          rotate_left
                          · simp only [Act.put, List.setIfInBounds_toArray, List.set_cons_zero, List.set_cons_succ, i64_w, i32_w]
                            rfl
                          refine pure_ (i := 4) (N := some 43) (v := ?_) (a' := ?_) #[true, true, true, true, true, false, false, false, false, false, false, false, false, false, false, false, false, false, false] rfl rfl (any_of HT_.out (by kernel_rfl)) (fun _ _ _ h => h) (Or.inl ⟨by rfl, ?_⟩) ?_ ?_
                          rotate_left
                          · intro w'
                            go_simp
                            with_reducible rfl
                          rotate_left
                          · simp only [Act.put, List.setIfInBounds_toArray, List.set_cons_zero, List.set_cons_succ, i64_w, i32_w]
                            rfl
                          refine pure_ (i := 6) (N := some 45) (v := ?_) (a' := ?_) #[true, true, true, true, true, false, true, false, false, false, false, false, false, false, false, false, false, false, false] rfl rfl (any_of HT_.out (by kernel_rfl)) (fun _ _ _ h => h) (Or.inl ⟨by rfl, ?_⟩) ?_ ?_
                          rotate_left
                          · intro w'
                            go_simp
                            with_reducible rfl
                          rotate_left
                          · simp only [Act.put, List.setIfInBounds_toArray, List.set_cons_zero, List.set_cons_succ, i64_w, i32_w]
                            rfl
                          refine pure_ (i := 7) (N := some 46) (v := ?_) (a' := ?_) #[true, true, true, true, true, false, true, true, false, false, false, false, false, false, false, false, false, false, false] rfl rfl (any_of HT_.out (by kernel_rfl)) (fun _ _ _ h => h) (Or.inl ⟨by rfl, ?_⟩) ?_ ?_
                          rotate_left
                          · intro w'
                            go_simp
                            with_reducible rfl
                          rotate_left
                          · simp only [Act.put, List.setIfInBounds_toArray, List.set_cons_zero, List.set_cons_succ, i64_w, i32_w]
                            rfl
                          refine pure_ (i := 8) (N := some 47) (v := ?_) (a' := ?_) #[true, true, true, true, true, false, true, true, true, false, false, false, false, false, false, false, false, false, false] rfl rfl (any_of HT_.out (by kernel_rfl)) (fun _ _ _ h => h) (Or.inl ⟨by rfl, ?_⟩) ?_ ?_
                          rotate_left
                          · intro w'
                            go_simp
                            with_reducible rfl
                          rotate_left
                          · simp only [Act.put, List.setIfInBounds_toArray, List.set_cons_zero, List.set_cons_succ, i64_w, i32_w]
                            rfl
                          refine pure_ (i := 9) (N := some 48) (v := ?_) (a' := ?_) #[true, true, true, true, true, false, true, true, true, true, false, false, false, false, false, false, false, false, false] rfl rfl (any_of HT_.out (by kernel_rfl)) (fun _ _ _ h => h) (Or.inl ⟨by rfl, ?_⟩) ?_ ?_
                          rotate_left
                          · intro w'
                            go_simp
                            with_reducible rfl
                          rotate_left
                          · simp only [Act.put, List.setIfInBounds_toArray, List.set_cons_zero, List.set_cons_succ, i64_w, i32_w]
                            rfl
                          refine take_ (i := 5) (N := some 44) (v := ?_) (a' := ?_) #[true, true, true, true, true, true, true, true, true, true, false, false, false, false, false, false, false, false, false] rfl rfl (take_ofW HT_.out HW_.out (by kernel_rfl)) (fun _ _ _ h => h) (Or.inl ⟨by rfl, ?_⟩) hHeld ?_ ?_
                          rotate_left
                          · rintro w' ⟨s0, s1, s2, s3⟩
                            go_simp
                            with_reducible rfl
                          rotate_left
                          · simp only [Act.put, List.setIfInBounds_toArray, List.set_cons_zero, List.set_cons_succ, i64_w, i32_w]
                            rfl
                          refine take_ (i := 10) (N := some 49) (v := ?_) (a' := ?_) #[true, true, true, true, true, true, true, true, true, true, true, false, false, false, false, false, false, false, false] rfl rfl (take_ofW HT_.out HW_.out (by kernel_rfl)) (fun _ _ _ h => h) (Or.inl ⟨by rfl, ?_⟩) hHeld ?_ ?_
                          rotate_left
                          · rintro w' ⟨s0, s1, s2, s3⟩
                            go_simp
                            with_reducible rfl
                          rotate_left
                          · simp only [Act.put, List.setIfInBounds_toArray, List.set_cons_zero, List.set_cons_succ, i64_w, i32_w]
                            rfl
                          refine pure_ (i := 11) (N := some 50) (v := ?_) (a' := ?_) #[true, true, true, true, true, true, true, true, true, true, true, true, false, false, false, false, false, false, false] rfl rfl (any_of HT_.out (by kernel_rfl)) (fun _ _ _ h => h) (Or.inl ⟨by rfl, ?_⟩) ?_ ?_
                          rotate_left
                          · intro w'
                            go_simp
                            with_reducible rfl
                          rotate_left
                          · simp only [Act.put, List.setIfInBounds_toArray, List.set_cons_zero, List.set_cons_succ, i64_w, i32_w]
                            rfl
                          refine join_ (σ := Nat) 2 #[true, true, true, true, true, true, true, true, true, true, true, true, true, true, true, true, true, false, false] (fun s_ => [(51, .tuple #[.int .i64 t132, .agg #[.int .i64 t133, .int .i64 t134]]), (10, .pointer (some ⟨s_, 0, none⟩)), (38, .tuple #[.int .i64 t132, .agg #[.int .i64 t133, .int .i64 t134]]), (52, .int .i64 t132), (53, .agg #[.int .i64 t133, .int .i64 t134])]) (fun s_ w' => (w'.cell? (ad126.add ((x5_2).toNat * 2)) = some (.bool ((rd_T28 l1 x5_2).f0)) ∧ w'.cell? ⟨(ad126.add ((x5_2).toNat * 2)).block, (ad126.add ((x5_2).toNat * 2)).off + 1, none⟩ = some (.int .i64 ((rd_T28 l1 x5_2).f1)) ∧ w'.cell? (ad126.add ((x5_2).toNat * 2)) = some (.bool ((rd_T28 l1 x5_2).f0)) ∧ w'.cell? ⟨(ad126.add ((x5_2).toNat * 2)).block, (ad126.add ((x5_2).toNat * 2)).off + 1, none⟩ = some (.int .i64 ((rd_T28 l1 x5_2).f1))) ∧ (w'.heap[s_]? = some (.cells #[.int .i64 0, .int .i64 0] 30 (0, 0))) ∧ (w.heap.size ≤ s_) ∧ (w.heap.size ≤ s_) ∧ (Below w.heap.size w w')) ?_ ?_
                          rotate_left
                          · intro hCont
                            refine two_ (i := 12) (j := 16) (Ni := some 51) (Nj := some 10) #[true, true, true, true, true, true, true, true, true, true, true, true, true, false, false, false, false, false, false] #[true, true, true, true, true, true, true, true, true, true, true, true, false, false, false, false, true, false, false] rfl rfl rfl rfl (two_of HT_.out (by kernel_rfl)) (by decide) (by decide) (fun K hK => ?_) (fun K hK => ?_)
                            · skip
                              refine goes_ Tryd.func13 (by kernel_rfl) rfl #[.int .i64 x0_2, .agg #[.bool ((rd_T28 l1 x5_2).f0), .int .i64 ((rd_T28 l1 x5_2).f1)]] (by rfl) rfl rfl (by (try simp only [List.map_toArray, List.map_cons, List.map_nil]); first | done | rfl | (simp only [List.length_drop, List.length_take]; rfl)) ?_
                              with_reducible refine (heraldref10_Next.calls x0_2 ((rd_T28 l1 x5_2).f0) ((rd_T28 l1 x5_2).f1) t132 t133 t134 _ A18.out).mono ?_
                              rintro e w36 ⟨rfl, hb⟩
                              refine ⟨_, rfl, ?_⟩
                              have n0_ := Aside0.mk (below_step (by repeat (first | (with_reducible first | exact HB.out | apply below_alloc | apply pw_below_drewN | apply below_drew1) | exact HB.out)) hb)
                              clear HB
                              have HB := n0_
                              clear n0_
                              (try clear hb)
                              (try clear hb2)
                              (try clear hk)
                              (try clear hi)
                              refine hK.out _ _ ⟨((HB.out.cell (World.block_lt_of_cell? w _ hw130_0)).trans hw130_0), ((HB.out.cell (World.block_lt_of_cell? w _ hw130_1)).trans hw130_1), ((HB.out.cell (World.block_lt_of_cell? w _ hw131_0)).trans hw131_0), ((HB.out.cell (World.block_lt_of_cell? w _ hw131_1)).trans hw131_1)⟩ (fun hHeld => ?_)
                              clear hK K
                              refine norm_ (a' := ?_) ?_ ?_
                              rotate_left
                              · show Act.put _ (some 51) _ = _
                                simp only [Act.put, List.setIfInBounds_toArray, List.set_cons_zero, List.set_cons_succ, i64_w, i32_w]
                                rfl
                              refine pure_ (i := 13) (N := some 38) (v := ?_) (a' := ?_) #[true, true, true, true, true, true, true, true, true, true, true, true, true, true, false, false, false, false, false] rfl rfl (any_of HT_.out (by kernel_rfl)) (fun _ _ _ h => h) (Or.inl ⟨by rfl, ?_⟩) ?_ ?_
                              rotate_left
                              · intro w'
                                go_simp
                                with_reducible rfl
                              rotate_left
                              · simp only [Act.put, List.setIfInBounds_toArray, List.set_cons_zero, List.set_cons_succ, i64_w, i32_w]
                                rfl
                              refine pure_ (i := 14) (N := some 52) (v := ?_) (a' := ?_) #[true, true, true, true, true, true, true, true, true, true, true, true, true, true, true, false, false, false, false] rfl rfl (any_of HT_.out (by kernel_rfl)) (fun _ _ _ h => h) (Or.inl ⟨by rfl, ?_⟩) ?_ ?_
                              rotate_left
                              · intro w'
                                go_simp
                                with_reducible rfl
                              rotate_left
                              · simp only [Act.put, List.setIfInBounds_toArray, List.set_cons_zero, List.set_cons_succ, i64_w, i32_w]
                                rfl
                              refine pure_ (i := 15) (N := some 53) (v := ?_) (a' := ?_) #[true, true, true, true, true, true, true, true, true, true, true, true, true, true, true, true, false, false, false] rfl rfl (any_of HT_.out (by kernel_rfl)) (fun _ _ _ h => h) (Or.inl ⟨by rfl, ?_⟩) ?_ ?_
                              rotate_left
                              · intro w'
                                go_simp
                                with_reducible rfl
                              rotate_left
                              · simp only [Act.put, List.setIfInBounds_toArray, List.set_cons_zero, List.set_cons_succ, i64_w, i32_w]
                                rfl
                              refine one_ (i := 16) (N := some 10) #[true, true, true, true, true, true, true, true, true, true, true, true, true, true, true, true, true, false, false] rfl rfl (one_of HT_.out (by kernel_rfl)) (by decide) (fun K hK => ?_)
                              refine box_step ?hg (N := 10) ?hd (cs := #[.int .i64 0, .int .i64 0]) (t := 30) ?hr ?_; (case hd => rfl); (case hg => rfl); (case hr => first | (go_simp; done) | (go_simp; rfl))
                              intro gb135 hg w37 hbox hb
                              have n0_ := Aside0.mk (below_step (by repeat (first | (with_reducible first | exact HB.out | apply below_alloc | apply pw_below_drewN | apply below_drew1) | exact HB.out)) hb)
                              have n1_ := Aside0.mk (hbox)
                              have n2_ := Aside0.mk ((by rw [hg]; exact (below_size (by repeat (first | (with_reducible first | exact HB.out | apply below_alloc | apply pw_below_drewN | apply below_drew1) | exact HB.out))) : w.heap.size ≤ gb135))
                              have n3_ := Aside0.mk ((by rw [hg]; exact (below_size (by repeat (first | (with_reducible first | exact HB.out | apply below_alloc | apply pw_below_drewN | apply below_drew1) | exact HB.out))) : w.heap.size ≤ gb135))
                              clear HB
                              have HB := n0_
                              have BK135 := n1_
                              have GW135 := n2_
                              have GE135 := n3_
                              clear n0_ n1_ n2_ n3_
                              clear hb hbox hg
                              refine hK.out _ _ ⟨((HB.out.cell (World.block_lt_of_cell? w _ hw130_0)).trans hw130_0), ((HB.out.cell (World.block_lt_of_cell? w _ hw130_1)).trans hw130_1), ((HB.out.cell (World.block_lt_of_cell? w _ hw131_0)).trans hw131_0), ((HB.out.cell (World.block_lt_of_cell? w _ hw131_1)).trans hw131_1)⟩ (fun hHeld => ?_)
                              clear hK K
                              refine norm_ (a' := ?_) ?_ ?_
                              rotate_left
                              · show Act.put _ (some 10) _ = _
                                simp only [Act.put, List.setIfInBounds_toArray, List.set_cons_zero, List.set_cons_succ, i64_w, i32_w]
                                rfl
                              exact norm_ (by simp only [putAll, Act.put, List.setIfInBounds_toArray, List.set_cons_zero, List.set_cons_succ]) (hCont (gb135) _ ⟨hHeld, (by (with_reducible repeat (first | refine blk_drewN ?_ _ | refine blk_drew ?_ | refine blk_alloc ?_ _)); exact BK135.out), GW135.out, GE135.out, (by repeat (first | (with_reducible first | exact HB.out | apply below_alloc | apply pw_below_drewN | apply below_drew1 | refine below_set ?_ GE135.out) | exact HB.out))⟩)
                            · skip
                              refine box_step ?hg (N := 10) ?hd (cs := #[.int .i64 0, .int .i64 0]) (t := 30) ?hr ?_; (case hd => rfl); (case hg => rfl); (case hr => first | (go_simp; done) | (go_simp; rfl))
                              intro gb135 hg w36 hbox hb
                              have n0_ := Aside0.mk (below_step (by repeat (first | (with_reducible first | exact HB.out | apply below_alloc | apply pw_below_drewN | apply below_drew1) | exact HB.out)) hb)
                              have n1_ := Aside0.mk (hbox)
                              have n2_ := Aside0.mk ((by rw [hg]; exact (below_size (by repeat (first | (with_reducible first | exact HB.out | apply below_alloc | apply pw_below_drewN | apply below_drew1) | exact HB.out))) : w.heap.size ≤ gb135))
                              have n3_ := Aside0.mk ((by rw [hg]; exact (below_size (by repeat (first | (with_reducible first | exact HB.out | apply below_alloc | apply pw_below_drewN | apply below_drew1) | exact HB.out))) : w.heap.size ≤ gb135))
                              clear HB
                              have HB := n0_
                              have BK135 := n1_
                              have GW135 := n2_
                              have GE135 := n3_
                              clear n0_ n1_ n2_ n3_
                              clear hb hbox hg
                              refine hK.out _ _ ⟨((HB.out.cell (World.block_lt_of_cell? w _ hw130_0)).trans hw130_0), ((HB.out.cell (World.block_lt_of_cell? w _ hw130_1)).trans hw130_1), ((HB.out.cell (World.block_lt_of_cell? w _ hw131_0)).trans hw131_0), ((HB.out.cell (World.block_lt_of_cell? w _ hw131_1)).trans hw131_1)⟩ (fun hHeld => ?_)
                              clear hK K
                              refine norm_ (a' := ?_) ?_ ?_
                              rotate_left
                              · show Act.put _ (some 10) _ = _
                                simp only [Act.put, List.setIfInBounds_toArray, List.set_cons_zero, List.set_cons_succ, i64_w, i32_w]
                                rfl
                              refine one_ (i := 12) (N := some 51) #[true, true, true, true, true, true, true, true, true, true, true, true, true, false, false, false, true, false, false] rfl rfl (one_of HT_.out (by kernel_rfl)) (by decide) (fun K hK => ?_)
                              refine goes_ Tryd.func13 (by kernel_rfl) rfl #[.int .i64 x0_2, .agg #[.bool ((rd_T28 l1 x5_2).f0), .int .i64 ((rd_T28 l1 x5_2).f1)]] (by rfl) rfl rfl (by (try simp only [List.map_toArray, List.map_cons, List.map_nil]); first | done | rfl | (simp only [List.length_drop, List.length_take]; rfl)) ?_
                              with_reducible refine (heraldref10_Next.calls x0_2 ((rd_T28 l1 x5_2).f0) ((rd_T28 l1 x5_2).f1) t132 t133 t134 _ A18.out).mono ?_
                              rintro e w37 ⟨rfl, hb⟩
                              refine ⟨_, rfl, ?_⟩
                              have n0_ := Aside0.mk (blk_below (g := gb135) (o := .cells #[.int .i64 0, .int .i64 0] 30 (0, 0)) (by (with_reducible repeat (first | refine blk_drewN ?_ _ | refine blk_drew ?_ | refine blk_alloc ?_ _)); exact BK135.out) hb)
                              have n1_ := Aside0.mk (below_step (by repeat (first | (with_reducible first | exact HB.out | apply below_alloc | apply pw_below_drewN | apply below_drew1 | refine below_set ?_ GE135.out) | exact HB.out)) hb)
                              clear BK135
                              clear HB
                              have BK135 := n0_
                              have HB := n1_
                              clear n0_ n1_
                              (try clear hb)
                              (try clear hb2)
                              (try clear hk)
                              (try clear hi)
                              refine hK.out _ _ ⟨((HB.out.cell (World.block_lt_of_cell? w _ hw130_0)).trans hw130_0), ((HB.out.cell (World.block_lt_of_cell? w _ hw130_1)).trans hw130_1), ((HB.out.cell (World.block_lt_of_cell? w _ hw131_0)).trans hw131_0), ((HB.out.cell (World.block_lt_of_cell? w _ hw131_1)).trans hw131_1)⟩ (fun hHeld => ?_)
                              clear hK K
                              refine norm_ (a' := ?_) ?_ ?_
                              rotate_left
                              · show Act.put _ (some 51) _ = _
                                simp only [Act.put, List.setIfInBounds_toArray, List.set_cons_zero, List.set_cons_succ, i64_w, i32_w]
                                rfl
                              refine pure_ (i := 13) (N := some 38) (v := ?_) (a' := ?_) #[true, true, true, true, true, true, true, true, true, true, true, true, true, true, false, false, true, false, false] rfl rfl (any_of HT_.out (by kernel_rfl)) (fun _ _ _ h => h) (Or.inl ⟨by rfl, ?_⟩) ?_ ?_
                              rotate_left
                              · intro w'
                                go_simp
                                with_reducible rfl
                              rotate_left
                              · simp only [Act.put, List.setIfInBounds_toArray, List.set_cons_zero, List.set_cons_succ, i64_w, i32_w]
                                rfl
                              refine pure_ (i := 14) (N := some 52) (v := ?_) (a' := ?_) #[true, true, true, true, true, true, true, true, true, true, true, true, true, true, true, false, true, false, false] rfl rfl (any_of HT_.out (by kernel_rfl)) (fun _ _ _ h => h) (Or.inl ⟨by rfl, ?_⟩) ?_ ?_
                              rotate_left
                              · intro w'
                                go_simp
                                with_reducible rfl
                              rotate_left
                              · simp only [Act.put, List.setIfInBounds_toArray, List.set_cons_zero, List.set_cons_succ, i64_w, i32_w]
                                rfl
                              refine pure_ (i := 15) (N := some 53) (v := ?_) (a' := ?_) #[true, true, true, true, true, true, true, true, true, true, true, true, true, true, true, true, true, false, false] rfl rfl (any_of HT_.out (by kernel_rfl)) (fun _ _ _ h => h) (Or.inl ⟨by rfl, ?_⟩) ?_ ?_
                              rotate_left
                              · intro w'
                                go_simp
                                with_reducible rfl
                              rotate_left
                              · simp only [Act.put, List.setIfInBounds_toArray, List.set_cons_zero, List.set_cons_succ, i64_w, i32_w]
                                rfl
                              exact norm_ (by simp only [putAll, Act.put, List.setIfInBounds_toArray, List.set_cons_zero, List.set_cons_succ]) (hCont (gb135) _ ⟨hHeld, (by (with_reducible repeat (first | refine blk_drewN ?_ _ | refine blk_drew ?_ | refine blk_alloc ?_ _)); exact BK135.out), GW135.out, GE135.out, (by repeat (first | (with_reducible first | exact HB.out | apply below_alloc | apply pw_below_drewN | apply below_drew1 | refine below_set ?_ GE135.out) | exact HB.out))⟩)
                          rintro gb135 w38 ⟨hS_, h0_, h1_, h2_, h3_⟩
                          have n0_ : Aside0 (w38.heap[gb135]? = some (.cells #[.int .i64 0, .int .i64 0] 30 (0, 0))) := ⟨h0_⟩
                          have n1_ : Aside0 (w.heap.size ≤ gb135) := ⟨h1_⟩
                          have n2_ : Aside0 (w.heap.size ≤ gb135) := ⟨h2_⟩
                          have n3_ : Aside0 (Below w.heap.size w w38) := ⟨h3_⟩
                          clear HB
                          clear h0_ h1_ h2_ h3_
                          have BK135 := n0_
                          have GW135 := n1_
                          have GE135 := n2_
                          have HB := n3_
                          clear n0_ n1_ n2_ n3_
                          have hHeld : w38.cell? (ad126.add ((x5_2).toNat * 2)) = some (.bool ((rd_T28 l1 x5_2).f0)) ∧ w38.cell? ⟨(ad126.add ((x5_2).toNat * 2)).block, (ad126.add ((x5_2).toNat * 2)).off + 1, none⟩ = some (.int .i64 ((rd_T28 l1 x5_2).f1)) ∧ w38.cell? (ad126.add ((x5_2).toNat * 2)) = some (.bool ((rd_T28 l1 x5_2).f0)) ∧ w38.cell? ⟨(ad126.add ((x5_2).toNat * 2)).block, (ad126.add ((x5_2).toNat * 2)).off + 1, none⟩ = some (.int .i64 ((rd_T28 l1 x5_2).f1)) := hS_
                          refine norm_ (a' := ?_) ?_ ?_
                          rotate_left
                          · simp only [putAll, Act.put, List.setIfInBounds_toArray, List.set_cons_zero, List.set_cons_succ]
                            rfl
                          refine pure_ (i := 17) (N := some 9) (v := ?_) (a' := ?_) #[true, true, true, true, true, true, true, true, true, true, true, true, true, true, true, true, true, true, false] rfl rfl (any_of HT_.out (by kernel_rfl)) (fun _ _ _ h => h) (Or.inl ⟨by rfl, ?_⟩) ?_ ?_
                          rotate_left
                          · intro w'
                            go_simp
                            with_reducible rfl
                          rotate_left
                          · simp only [Act.put, List.setIfInBounds_toArray, List.set_cons_zero, List.set_cons_succ, i64_w, i32_w]
                            rfl
                          refine one_ (i := 18) (N := none) #[true, true, true, true, true, true, true, true, true, true, true, true, true, true, true, true, true, true, true] rfl rfl (one_of HT_.out (by kernel_rfl)) (by decide) (fun K hK => ?_)
                          have hs39 : w38.cell? ⟨gb135, 0, none⟩ = some (.int .i64 0) := (blk_cell BK135.out 0).trans rfl
                          have hfs39 := blk_frozen BK135.out 0
                          have hs40 : w38.cell? ⟨gb135, 1, none⟩ = some (.int .i64 0) := (blk_cell BK135.out 1).trans rfl
                          have hfs40 := blk_frozen BK135.out 1
                          refine skip_ (w1 := ?_) (by rfl) rfl ?_ ?_
                          rotate_left
                          · go_simp
                            rfl
                          refine hK.out _ _ ⟨((cell_far (p := ⟨gb135, _, none⟩) (by first | exact Nat.ne_of_lt (Nat.lt_of_lt_of_le (by have := World.block_lt_of_cell? _ _ hw130_0; first | rwa [add_block] at this | exact this) GW135.out) | (rw [add_block]; exact Nat.ne_of_lt (Nat.lt_of_lt_of_le (by have := World.block_lt_of_cell? _ _ hw130_0; first | rwa [add_block] at this | exact this) GW135.out)) | (show (Addr.add _ _).block ≠ _; rw [add_block]; exact Nat.ne_of_lt (Nat.lt_of_lt_of_le (by have := World.block_lt_of_cell? _ _ hw130_0; first | rwa [add_block] at this | exact this) GW135.out)) | (dsimp only; exact Nat.ne_of_lt (Nat.lt_of_lt_of_le (by have := World.block_lt_of_cell? _ _ hw130_0; first | rwa [add_block] at this | exact this) GW135.out))) _).trans (((cell_far (p := ⟨gb135, _, none⟩) (by first | exact Nat.ne_of_lt (Nat.lt_of_lt_of_le (by have := World.block_lt_of_cell? _ _ hw130_0; first | rwa [add_block] at this | exact this) GW135.out) | (rw [add_block]; exact Nat.ne_of_lt (Nat.lt_of_lt_of_le (by have := World.block_lt_of_cell? _ _ hw130_0; first | rwa [add_block] at this | exact this) GW135.out)) | (show (Addr.add _ _).block ≠ _; rw [add_block]; exact Nat.ne_of_lt (Nat.lt_of_lt_of_le (by have := World.block_lt_of_cell? _ _ hw130_0; first | rwa [add_block] at this | exact this) GW135.out)) | (dsimp only; exact Nat.ne_of_lt (Nat.lt_of_lt_of_le (by have := World.block_lt_of_cell? _ _ hw130_0; first | rwa [add_block] at this | exact this) GW135.out))) _).trans (hHeld.1)))), ((cell_far (p := ⟨gb135, _, none⟩) (by first | exact Nat.ne_of_lt (Nat.lt_of_lt_of_le (by have := World.block_lt_of_cell? _ _ hw130_1; first | rwa [add_block] at this | exact this) GW135.out) | (rw [add_block]; exact Nat.ne_of_lt (Nat.lt_of_lt_of_le (by have := World.block_lt_of_cell? _ _ hw130_1; first | rwa [add_block] at this | exact this) GW135.out)) | (show (Addr.add _ _).block ≠ _; rw [add_block]; exact Nat.ne_of_lt (Nat.lt_of_lt_of_le (by have := World.block_lt_of_cell? _ _ hw130_1; first | rwa [add_block] at this | exact this) GW135.out)) | (dsimp only; exact Nat.ne_of_lt (Nat.lt_of_lt_of_le (by have := World.block_lt_of_cell? _ _ hw130_1; first | rwa [add_block] at this | exact this) GW135.out))) _).trans (((cell_far (p := ⟨gb135, _, none⟩) (by first | exact Nat.ne_of_lt (Nat.lt_of_lt_of_le (by have := World.block_lt_of_cell? _ _ hw130_1; first | rwa [add_block] at this | exact this) GW135.out) | (rw [add_block]; exact Nat.ne_of_lt (Nat.lt_of_lt_of_le (by have := World.block_lt_of_cell? _ _ hw130_1; first | rwa [add_block] at this | exact this) GW135.out)) | (show (Addr.add _ _).block ≠ _; rw [add_block]; exact Nat.ne_of_lt (Nat.lt_of_lt_of_le (by have := World.block_lt_of_cell? _ _ hw130_1; first | rwa [add_block] at this | exact this) GW135.out)) | (dsimp only; exact Nat.ne_of_lt (Nat.lt_of_lt_of_le (by have := World.block_lt_of_cell? _ _ hw130_1; first | rwa [add_block] at this | exact this) GW135.out))) _).trans (hHeld.2.1)))), ((cell_far (p := ⟨gb135, _, none⟩) (by first | exact Nat.ne_of_lt (Nat.lt_of_lt_of_le (by have := World.block_lt_of_cell? _ _ hw131_0; first | rwa [add_block] at this | exact this) GW135.out) | (rw [add_block]; exact Nat.ne_of_lt (Nat.lt_of_lt_of_le (by have := World.block_lt_of_cell? _ _ hw131_0; first | rwa [add_block] at this | exact this) GW135.out)) | (show (Addr.add _ _).block ≠ _; rw [add_block]; exact Nat.ne_of_lt (Nat.lt_of_lt_of_le (by have := World.block_lt_of_cell? _ _ hw131_0; first | rwa [add_block] at this | exact this) GW135.out)) | (dsimp only; exact Nat.ne_of_lt (Nat.lt_of_lt_of_le (by have := World.block_lt_of_cell? _ _ hw131_0; first | rwa [add_block] at this | exact this) GW135.out))) _).trans (((cell_far (p := ⟨gb135, _, none⟩) (by first | exact Nat.ne_of_lt (Nat.lt_of_lt_of_le (by have := World.block_lt_of_cell? _ _ hw131_0; first | rwa [add_block] at this | exact this) GW135.out) | (rw [add_block]; exact Nat.ne_of_lt (Nat.lt_of_lt_of_le (by have := World.block_lt_of_cell? _ _ hw131_0; first | rwa [add_block] at this | exact this) GW135.out)) | (show (Addr.add _ _).block ≠ _; rw [add_block]; exact Nat.ne_of_lt (Nat.lt_of_lt_of_le (by have := World.block_lt_of_cell? _ _ hw131_0; first | rwa [add_block] at this | exact this) GW135.out)) | (dsimp only; exact Nat.ne_of_lt (Nat.lt_of_lt_of_le (by have := World.block_lt_of_cell? _ _ hw131_0; first | rwa [add_block] at this | exact this) GW135.out))) _).trans (hHeld.2.2.1)))), ((cell_far (p := ⟨gb135, _, none⟩) (by first | exact Nat.ne_of_lt (Nat.lt_of_lt_of_le (by have := World.block_lt_of_cell? _ _ hw131_1; first | rwa [add_block] at this | exact this) GW135.out) | (rw [add_block]; exact Nat.ne_of_lt (Nat.lt_of_lt_of_le (by have := World.block_lt_of_cell? _ _ hw131_1; first | rwa [add_block] at this | exact this) GW135.out)) | (show (Addr.add _ _).block ≠ _; rw [add_block]; exact Nat.ne_of_lt (Nat.lt_of_lt_of_le (by have := World.block_lt_of_cell? _ _ hw131_1; first | rwa [add_block] at this | exact this) GW135.out)) | (dsimp only; exact Nat.ne_of_lt (Nat.lt_of_lt_of_le (by have := World.block_lt_of_cell? _ _ hw131_1; first | rwa [add_block] at this | exact this) GW135.out))) _).trans (((cell_far (p := ⟨gb135, _, none⟩) (by first | exact Nat.ne_of_lt (Nat.lt_of_lt_of_le (by have := World.block_lt_of_cell? _ _ hw131_1; first | rwa [add_block] at this | exact this) GW135.out) | (rw [add_block]; exact Nat.ne_of_lt (Nat.lt_of_lt_of_le (by have := World.block_lt_of_cell? _ _ hw131_1; first | rwa [add_block] at this | exact this) GW135.out)) | (show (Addr.add _ _).block ≠ _; rw [add_block]; exact Nat.ne_of_lt (Nat.lt_of_lt_of_le (by have := World.block_lt_of_cell? _ _ hw131_1; first | rwa [add_block] at this | exact this) GW135.out)) | (dsimp only; exact Nat.ne_of_lt (Nat.lt_of_lt_of_le (by have := World.block_lt_of_cell? _ _ hw131_1; first | rwa [add_block] at this | exact this) GW135.out))) _).trans (hHeld.2.2.2))))⟩ (fun hHeld => ?_)
                          clear hK K
                          refine done_ (done_of HT_.out (by kernel_rfl)) ?_
                          have hcz41_0 : w38.cell? ⟨gb135, 0, none⟩ = some (.int .i64 0) := (blk_cell BK135.out 0).trans rfl
                          have hcz41_1 : w38.cell? ⟨gb135, 1, none⟩ = some (.int .i64 0) := (blk_cell BK135.out 1).trans rfl
                          have hfz41_0 := blk_frozen BK135.out 0
                          have hfz41_1 := blk_frozen BK135.out 1
                          try go_wp2_with (first | (go_at_call 10; (with_reducible refine (state_Counts.calls k2 t127 t136 _ A22.out).mono ?_); rintro e w42 ⟨rfl, hb⟩; have n0_ := Aside0.mk (blk_below (g := gb135) (o := .cells #[.int .i64 t133, .int .i64 t134] 30 (0, 0)) (by (with_reducible repeat (first | refine blk_drewN ?_ _ | refine blk_drew ?_ | refine blk_alloc ?_ _)); refine blk_put (cs := #[.int .i64 t133, .int .i64 0]) ?_ 1 _ rfl; (with_reducible repeat (first | refine blk_drewN ?_ _ | refine blk_drew ?_ | refine blk_alloc ?_ _)); refine blk_put (cs := #[.int .i64 0, .int .i64 0]) ?_ 0 _ rfl; (with_reducible repeat (first | refine blk_drewN ?_ _ | refine blk_drew ?_ | refine blk_alloc ?_ _)); exact BK135.out) hb); have n1_ := Aside0.mk (below_step (by repeat (first | (with_reducible first | exact HB.out | apply below_alloc | apply pw_below_drewN | apply below_drew1 | refine below_set ?_ GE135.out) | exact HB.out)) hb); clear BK135; clear HB; have BK135 := n0_; have HB := n1_; clear n0_ n1_; (try clear hb); (try clear hb2); (try clear hk); (try clear hi)) | (go_at_call 11; (with_reducible refine (heraldref10_Counts.calls t132 t137 _ A23.out).mono ?_); rintro e w' ⟨rfl, ⟨nd, rfl⟩⟩))
                          go_roundg k2
                          case measure => have := HJ2.out; have := HK2.out; omega
                          case rel => exact ⟨(t127), (wrap64 (x5_2 + 1)), (by first | rfl | (simp; done) | (simp [*]; done)), (by first | rfl | (simp; done) | (simp [*]; done)), H', ⟨by have := HJ2.out; have := HK2.out; omega⟩, ⟨by repeat (first | (with_reducible first | exact HB.out | apply below_alloc | apply pw_below_drewN | apply below_drew1 | refine below_set ?_ GE135.out) | exact HB.out)⟩⟩
                      · rw [if_neg c21] at H
                        have c21b0 : (t129 == t134) = false := beq_eq_false_iff_ne.mpr c21
                        have c21b1 : (t129 != t134) = true := bne_iff_ne.mpr c21
                        obtain rfl := Option.some.inj H
                        have p126 : 0 ≤ (x5_2 : Int) := of_decide_eq_true (by first | (with_reducible assumption) | assumption)
                        have q126 : x5_2 < (l1.length : Int) := of_decide_eq_true (by first | (with_reducible assumption) | assumption)
                        obtain ⟨ad126, e126, hx126_0, hx126_1⟩ := at_T28 HR1.out x5_2 p126 q126
                        cases e126
                        replace hx126_0 := (HB.out.cell (World.block_lt_of_cell? w _ hx126_0)).trans hx126_0
                        replace hx126_1 := (HB.out.cell (World.block_lt_of_cell? w _ hx126_1)).trans hx126_1
                        replace p126 := eq_true p126
                        replace q126 := eq_true q126
                        try go_wp2_with (first | ((with_reducible refine gate_callee (f := 12) rfl ?_); refine goesL_ (some 34) rfl rfl Tryd.func12 (by kernel_rfl) rfl #[.int .i64 x0_2, .agg #[.bool ((rd_T28 l1 x5_2).f0), .int .i64 ((rd_T28 l1 x5_2).f1)]] rfl (by (try simp only [List.map_toArray, List.map_cons, List.map_nil]); first | done | rfl | (simp only [List.length_drop, List.length_take]; rfl)) ?_; (with_reducible refine (heraldlaw10_next.calls x0_2 ((rd_T28 l1 x5_2).f0) ((rd_T28 l1 x5_2).f1) t127 t128 t129 _ ?side1 A17.out).mono ?_); (case side1 => exact GL.below HG.out (by repeat (first | (with_reducible first | exact HB.out | apply below_alloc | apply pw_below_drewN | apply below_drew1) | exact HB.out))); rintro e w43 ⟨rfl, hb⟩; refine ⟨_, rfl, ?_⟩; have n0_ := Aside0.mk (below_step (by repeat (first | (with_reducible first | exact HB.out | apply below_alloc | apply pw_below_drewN | apply below_drew1) | exact HB.out)) hb); clear HB; have HB := n0_; clear n0_; (try clear hb); (try clear hb2); (try clear hk); (try clear hi)))
                        have n0_ := Aside0.mk (below_drew1 HB.out)
                        clear HB
                        have HB := n0_
                        clear n0_
                        have p130 : 0 ≤ (x5_2 : Int) := of_decide_eq_true (by first | (with_reducible assumption) | assumption)
                        have q130 : x5_2 < (l1.length : Int) := of_decide_eq_true (by first | (with_reducible assumption) | assumption)
                        obtain ⟨ad130, e130, hx130_0, hx130_1⟩ := at_T28 HR1.out x5_2 p130 q130
                        have hw130_1 := hx130_1
                        have hw130_0 := hx130_0
                        obtain rfl : ad126 = ad130 := (by injection e130)
                        replace hx130_0 := (HB.out.cell (World.block_lt_of_cell? w _ hx130_0)).trans hx130_0
                        replace hx130_1 := (HB.out.cell (World.block_lt_of_cell? w _ hx130_1)).trans hx130_1
                        replace p130 := eq_true p130
                        replace q130 := eq_true q130
                        have p131 : 0 ≤ (x5_2 : Int) := of_decide_eq_true (by first | (with_reducible assumption) | assumption)
                        have q131 : x5_2 < (l1.length : Int) := of_decide_eq_true (by first | (with_reducible assumption) | assumption)
                        obtain ⟨ad131, e131, hx131_0, hx131_1⟩ := at_T28 HR1.out x5_2 p131 q131
                        have hw131_1 := hx131_1
                        have hw131_0 := hx131_0
                        obtain rfl : ad126 = ad131 := (by injection e131)
                        replace hx131_0 := (HB.out.cell (World.block_lt_of_cell? w _ hx131_0)).trans hx131_0
                        replace hx131_1 := (HB.out.cell (World.block_lt_of_cell? w _ hx131_1)).trans hx131_1
                        replace p131 := eq_true p131
                        replace q131 := eq_true q131
                        refine start_ (n := 19) (S := fun w' => w'.cell? (ad126.add ((x5_2).toNat * 2)) = some (.bool ((rd_T28 l1 x5_2).f0)) ∧ w'.cell? ⟨(ad126.add ((x5_2).toNat * 2)).block, (ad126.add ((x5_2).toNat * 2)).off + 1, none⟩ = some (.int .i64 ((rd_T28 l1 x5_2).f1)) ∧ w'.cell? (ad126.add ((x5_2).toNat * 2)) = some (.bool ((rd_T28 l1 x5_2).f0)) ∧ w'.cell? ⟨(ad126.add ((x5_2).toNat * 2)).block, (ad126.add ((x5_2).toNat * 2)).off + 1, none⟩ = some (.int .i64 ((rd_T28 l1 x5_2).f1))) (ds := []) #[false, false, false, false, false, false, false, false, false, false, false, false, false, false, false, false, false, false, false] (by kernel_rfl) rfl rfl ⟨((HB.out.cell (World.block_lt_of_cell? w _ hw130_0)).trans hw130_0), ((HB.out.cell (World.block_lt_of_cell? w _ hw130_1)).trans hw130_1), ((HB.out.cell (World.block_lt_of_cell? w _ hw131_0)).trans hw131_0), ((HB.out.cell (World.block_lt_of_cell? w _ hw131_1)).trans hw131_1)⟩ (fun hHeld => ?_); refine with_tabW heraldlaw10_StateNexts.tab9 heraldlaw10_StateNexts.bits9 (fun HT_ HW_ => ?_)
                        generalize w43.drew = w44 at HB hx130_0 hx130_1 hx131_0 hx131_1 hHeld ⊢
                        refine pure_ (i := 0) (N := some 39) (v := ?_) (a' := ?_) #[true, false, false, false, false, false, false, false, false, false, false, false, false, false, false, false, false, false, false] rfl rfl (any_of HT_.out (by kernel_rfl)) (fun _ _ _ h => h) (Or.inl ⟨by rfl, ?_⟩) ?_ ?_
                        rotate_left
                        · intro w'
                          go_simp
                          with_reducible rfl
                        rotate_left
                        · simp only [Act.put, List.setIfInBounds_toArray, List.set_cons_zero, List.set_cons_succ, i64_w, i32_w]
                          rfl
                        refine pure_ (i := 1) (N := some 40) (v := ?_) (a' := ?_) #[true, true, false, false, false, false, false, false, false, false, false, false, false, false, false, false, false, false, false] rfl rfl (any_of HT_.out (by kernel_rfl)) (fun _ _ _ h => h) (Or.inl ⟨by rfl, ?_⟩) ?_ ?_
                        rotate_left
                        · intro w'
                          go_simp
                          with_reducible rfl
                        rotate_left
                        · simp only [Act.put, List.setIfInBounds_toArray, List.set_cons_zero, List.set_cons_succ, i64_w, i32_w]
                          rfl
                        refine pure_ (i := 2) (N := some 41) (v := ?_) (a' := ?_) #[true, true, true, false, false, false, false, false, false, false, false, false, false, false, false, false, false, false, false] rfl rfl (any_of HT_.out (by kernel_rfl)) (fun _ _ _ h => h) (Or.inl ⟨by rfl, ?_⟩) ?_ ?_
                        rotate_left
                        · intro w'
                          go_simp
                          with_reducible rfl
                        rotate_left
                        · simp only [Act.put, List.setIfInBounds_toArray, List.set_cons_zero, List.set_cons_succ, i64_w, i32_w]
                          rfl
                        refine pure_ (i := 3) (N := some 42) (v := ?_) (a' := ?_) #[true, true, true, true, false, false, false, false, false, false, false, false, false, false, false, false, false, false, false] rfl rfl (any_of HT_.out (by kernel_rfl)) (fun _ _ _ h => h) (Or.inl ⟨by rfl, ?_⟩) ?_ ?_
                        rotate_left
                        · intro w'
                          go_simp
                          with_reducible rfl
                        rotate_left
                        · simp only [Act.put, List.setIfInBounds_toArray, List.set_cons_zero, List.set_cons_succ, i64_w, i32_w]
                          rfl
                        refine pure_ (i := 4) (N := some 43) (v := ?_) (a' := ?_) #[true, true, true, true, true, false, false, false, false, false, false, false, false, false, false, false, false, false, false] rfl rfl (any_of HT_.out (by kernel_rfl)) (fun _ _ _ h => h) (Or.inl ⟨by rfl, ?_⟩) ?_ ?_
                        rotate_left
                        · intro w'
                          go_simp
                          with_reducible rfl
                        rotate_left
                        · simp only [Act.put, List.setIfInBounds_toArray, List.set_cons_zero, List.set_cons_succ, i64_w, i32_w]
                          rfl
                        refine pure_ (i := 6) (N := some 45) (v := ?_) (a' := ?_) #[true, true, true, true, true, false, true, false, false, false, false, false, false, false, false, false, false, false, false] rfl rfl (any_of HT_.out (by kernel_rfl)) (fun _ _ _ h => h) (Or.inl ⟨by rfl, ?_⟩) ?_ ?_
                        rotate_left
                        · intro w'
                          go_simp
                          with_reducible rfl
                        rotate_left
                        · simp only [Act.put, List.setIfInBounds_toArray, List.set_cons_zero, List.set_cons_succ, i64_w, i32_w]
                          rfl
                        refine pure_ (i := 7) (N := some 46) (v := ?_) (a' := ?_) #[true, true, true, true, true, false, true, true, false, false, false, false, false, false, false, false, false, false, false] rfl rfl (any_of HT_.out (by kernel_rfl)) (fun _ _ _ h => h) (Or.inl ⟨by rfl, ?_⟩) ?_ ?_
                        rotate_left
                        · intro w'
                          go_simp
                          with_reducible rfl
                        rotate_left
                        · simp only [Act.put, List.setIfInBounds_toArray, List.set_cons_zero, List.set_cons_succ, i64_w, i32_w]
                          rfl
                        refine pure_ (i := 8) (N := some 47) (v := ?_) (a' := ?_) #[true, true, true, true, true, false, true, true, true, false, false, false, false, false, false, false, false, false, false] rfl rfl (any_of HT_.out (by kernel_rfl)) (fun _ _ _ h => h) (Or.inl ⟨by rfl, ?_⟩) ?_ ?_
                        rotate_left
                        · intro w'
                          go_simp
                          with_reducible rfl
                        rotate_left
                        · simp only [Act.put, List.setIfInBounds_toArray, List.set_cons_zero, List.set_cons_succ, i64_w, i32_w]
                          rfl
                        refine pure_ (i := 9) (N := some 48) (v := ?_) (a' := ?_) #[true, true, true, true, true, false, true, true, true, true, false, false, false, false, false, false, false, false, false] rfl rfl (any_of HT_.out (by kernel_rfl)) (fun _ _ _ h => h) (Or.inl ⟨by rfl, ?_⟩) ?_ ?_
                        rotate_left
                        · intro w'
                          go_simp
                          with_reducible rfl
                        rotate_left
                        · simp only [Act.put, List.setIfInBounds_toArray, List.set_cons_zero, List.set_cons_succ, i64_w, i32_w]
                          rfl
                        refine take_ (i := 5) (N := some 44) (v := ?_) (a' := ?_) #[true, true, true, true, true, true, true, true, true, true, false, false, false, false, false, false, false, false, false] rfl rfl (take_ofW HT_.out HW_.out (by kernel_rfl)) (fun _ _ _ h => h) (Or.inl ⟨by rfl, ?_⟩) hHeld ?_ ?_
                        rotate_left
                        · rintro w' ⟨s0, s1, s2, s3⟩
                          go_simp
                          with_reducible rfl
                        rotate_left
                        · simp only [Act.put, List.setIfInBounds_toArray, List.set_cons_zero, List.set_cons_succ, i64_w, i32_w]
                          rfl
                        refine take_ (i := 10) (N := some 49) (v := ?_) (a' := ?_) #[true, true, true, true, true, true, true, true, true, true, true, false, false, false, false, false, false, false, false] rfl rfl (take_ofW HT_.out HW_.out (by kernel_rfl)) (fun _ _ _ h => h) (Or.inl ⟨by rfl, ?_⟩) hHeld ?_ ?_
                        rotate_left
                        · rintro w' ⟨s0, s1, s2, s3⟩
                          go_simp
                          with_reducible rfl
                        rotate_left
                        · simp only [Act.put, List.setIfInBounds_toArray, List.set_cons_zero, List.set_cons_succ, i64_w, i32_w]
                          rfl
                        refine pure_ (i := 11) (N := some 50) (v := ?_) (a' := ?_) #[true, true, true, true, true, true, true, true, true, true, true, true, false, false, false, false, false, false, false] rfl rfl (any_of HT_.out (by kernel_rfl)) (fun _ _ _ h => h) (Or.inl ⟨by rfl, ?_⟩) ?_ ?_
                        rotate_left
                        · intro w'
                          go_simp
                          with_reducible rfl
                        rotate_left
                        · simp only [Act.put, List.setIfInBounds_toArray, List.set_cons_zero, List.set_cons_succ, i64_w, i32_w]
                          rfl
                        refine join_ (σ := Nat) 2 #[true, true, true, true, true, true, true, true, true, true, true, true, true, true, true, true, true, false, false] (fun s_ => [(51, .tuple #[.int .i64 t132, .agg #[.int .i64 t133, .int .i64 t134]]), (10, .pointer (some ⟨s_, 0, none⟩)), (38, .tuple #[.int .i64 t132, .agg #[.int .i64 t133, .int .i64 t134]]), (52, .int .i64 t132), (53, .agg #[.int .i64 t133, .int .i64 t134])]) (fun s_ w' => (w'.cell? (ad126.add ((x5_2).toNat * 2)) = some (.bool ((rd_T28 l1 x5_2).f0)) ∧ w'.cell? ⟨(ad126.add ((x5_2).toNat * 2)).block, (ad126.add ((x5_2).toNat * 2)).off + 1, none⟩ = some (.int .i64 ((rd_T28 l1 x5_2).f1)) ∧ w'.cell? (ad126.add ((x5_2).toNat * 2)) = some (.bool ((rd_T28 l1 x5_2).f0)) ∧ w'.cell? ⟨(ad126.add ((x5_2).toNat * 2)).block, (ad126.add ((x5_2).toNat * 2)).off + 1, none⟩ = some (.int .i64 ((rd_T28 l1 x5_2).f1))) ∧ (w'.heap[s_]? = some (.cells #[.int .i64 0, .int .i64 0] 30 (0, 0))) ∧ (w.heap.size ≤ s_) ∧ (w.heap.size ≤ s_) ∧ (Below w.heap.size w w')) ?_ ?_
                        rotate_left
                        · intro hCont
                          refine two_ (i := 12) (j := 16) (Ni := some 51) (Nj := some 10) #[true, true, true, true, true, true, true, true, true, true, true, true, true, false, false, false, false, false, false] #[true, true, true, true, true, true, true, true, true, true, true, true, false, false, false, false, true, false, false] rfl rfl rfl rfl (two_of HT_.out (by kernel_rfl)) (by decide) (by decide) (fun K hK => ?_) (fun K hK => ?_)
                          · skip
                            refine goes_ Tryd.func13 (by kernel_rfl) rfl #[.int .i64 x0_2, .agg #[.bool ((rd_T28 l1 x5_2).f0), .int .i64 ((rd_T28 l1 x5_2).f1)]] (by rfl) rfl rfl (by (try simp only [List.map_toArray, List.map_cons, List.map_nil]); first | done | rfl | (simp only [List.length_drop, List.length_take]; rfl)) ?_
                            with_reducible refine (heraldref10_Next.calls x0_2 ((rd_T28 l1 x5_2).f0) ((rd_T28 l1 x5_2).f1) t132 t133 t134 _ A18.out).mono ?_
                            rintro e w45 ⟨rfl, hb⟩
                            refine ⟨_, rfl, ?_⟩
                            have n0_ := Aside0.mk (below_step (by repeat (first | (with_reducible first | exact HB.out | apply below_alloc | apply pw_below_drewN | apply below_drew1) | exact HB.out)) hb)
                            clear HB
                            have HB := n0_
                            clear n0_
                            (try clear hb)
                            (try clear hb2)
                            (try clear hk)
                            (try clear hi)
                            refine hK.out _ _ ⟨((HB.out.cell (World.block_lt_of_cell? w _ hw130_0)).trans hw130_0), ((HB.out.cell (World.block_lt_of_cell? w _ hw130_1)).trans hw130_1), ((HB.out.cell (World.block_lt_of_cell? w _ hw131_0)).trans hw131_0), ((HB.out.cell (World.block_lt_of_cell? w _ hw131_1)).trans hw131_1)⟩ (fun hHeld => ?_)
                            clear hK K
                            refine norm_ (a' := ?_) ?_ ?_
                            rotate_left
                            · show Act.put _ (some 51) _ = _
                              simp only [Act.put, List.setIfInBounds_toArray, List.set_cons_zero, List.set_cons_succ, i64_w, i32_w]
                              rfl
                            refine pure_ (i := 13) (N := some 38) (v := ?_) (a' := ?_) #[true, true, true, true, true, true, true, true, true, true, true, true, true, true, false, false, false, false, false] rfl rfl (any_of HT_.out (by kernel_rfl)) (fun _ _ _ h => h) (Or.inl ⟨by rfl, ?_⟩) ?_ ?_
                            rotate_left
                            · intro w'
                              go_simp
                              with_reducible rfl
                            rotate_left
                            · simp only [Act.put, List.setIfInBounds_toArray, List.set_cons_zero, List.set_cons_succ, i64_w, i32_w]
                              rfl
                            refine pure_ (i := 14) (N := some 52) (v := ?_) (a' := ?_) #[true, true, true, true, true, true, true, true, true, true, true, true, true, true, true, false, false, false, false] rfl rfl (any_of HT_.out (by kernel_rfl)) (fun _ _ _ h => h) (Or.inl ⟨by rfl, ?_⟩) ?_ ?_
                            rotate_left
                            · intro w'
                              go_simp
                              with_reducible rfl
                            rotate_left
                            · simp only [Act.put, List.setIfInBounds_toArray, List.set_cons_zero, List.set_cons_succ, i64_w, i32_w]
                              rfl
                            refine pure_ (i := 15) (N := some 53) (v := ?_) (a' := ?_) #[true, true, true, true, true, true, true, true, true, true, true, true, true, true, true, true, false, false, false] rfl rfl (any_of HT_.out (by kernel_rfl)) (fun _ _ _ h => h) (Or.inl ⟨by rfl, ?_⟩) ?_ ?_
                            rotate_left
                            · intro w'
                              go_simp
                              with_reducible rfl
                            rotate_left
                            · simp only [Act.put, List.setIfInBounds_toArray, List.set_cons_zero, List.set_cons_succ, i64_w, i32_w]
                              rfl
                            refine one_ (i := 16) (N := some 10) #[true, true, true, true, true, true, true, true, true, true, true, true, true, true, true, true, true, false, false] rfl rfl (one_of HT_.out (by kernel_rfl)) (by decide) (fun K hK => ?_)
                            refine box_step ?hg (N := 10) ?hd (cs := #[.int .i64 0, .int .i64 0]) (t := 30) ?hr ?_; (case hd => rfl); (case hg => rfl); (case hr => first | (go_simp; done) | (go_simp; rfl))
                            intro gb135 hg w46 hbox hb
                            have n0_ := Aside0.mk (below_step (by repeat (first | (with_reducible first | exact HB.out | apply below_alloc | apply pw_below_drewN | apply below_drew1) | exact HB.out)) hb)
                            have n1_ := Aside0.mk (hbox)
                            have n2_ := Aside0.mk ((by rw [hg]; exact (below_size (by repeat (first | (with_reducible first | exact HB.out | apply below_alloc | apply pw_below_drewN | apply below_drew1) | exact HB.out))) : w.heap.size ≤ gb135))
                            have n3_ := Aside0.mk ((by rw [hg]; exact (below_size (by repeat (first | (with_reducible first | exact HB.out | apply below_alloc | apply pw_below_drewN | apply below_drew1) | exact HB.out))) : w.heap.size ≤ gb135))
                            clear HB
                            have HB := n0_
                            have BK135 := n1_
                            have GW135 := n2_
                            have GE135 := n3_
                            clear n0_ n1_ n2_ n3_
                            clear hb hbox hg
                            refine hK.out _ _ ⟨((HB.out.cell (World.block_lt_of_cell? w _ hw130_0)).trans hw130_0), ((HB.out.cell (World.block_lt_of_cell? w _ hw130_1)).trans hw130_1), ((HB.out.cell (World.block_lt_of_cell? w _ hw131_0)).trans hw131_0), ((HB.out.cell (World.block_lt_of_cell? w _ hw131_1)).trans hw131_1)⟩ (fun hHeld => ?_)
                            clear hK K
                            refine norm_ (a' := ?_) ?_ ?_
                            rotate_left
                            · show Act.put _ (some 10) _ = _
                              simp only [Act.put, List.setIfInBounds_toArray, List.set_cons_zero, List.set_cons_succ, i64_w, i32_w]
                              rfl
                            exact norm_ (by simp only [putAll, Act.put, List.setIfInBounds_toArray, List.set_cons_zero, List.set_cons_succ]) (hCont (gb135) _ ⟨hHeld, (by (with_reducible repeat (first | refine blk_drewN ?_ _ | refine blk_drew ?_ | refine blk_alloc ?_ _)); exact BK135.out), GW135.out, GE135.out, (by repeat (first | (with_reducible first | exact HB.out | apply below_alloc | apply pw_below_drewN | apply below_drew1 | refine below_set ?_ GE135.out) | exact HB.out))⟩)
                          · skip
                            refine box_step ?hg (N := 10) ?hd (cs := #[.int .i64 0, .int .i64 0]) (t := 30) ?hr ?_; (case hd => rfl); (case hg => rfl); (case hr => first | (go_simp; done) | (go_simp; rfl))
                            intro gb135 hg w45 hbox hb
                            have n0_ := Aside0.mk (below_step (by repeat (first | (with_reducible first | exact HB.out | apply below_alloc | apply pw_below_drewN | apply below_drew1) | exact HB.out)) hb)
                            have n1_ := Aside0.mk (hbox)
                            have n2_ := Aside0.mk ((by rw [hg]; exact (below_size (by repeat (first | (with_reducible first | exact HB.out | apply below_alloc | apply pw_below_drewN | apply below_drew1) | exact HB.out))) : w.heap.size ≤ gb135))
                            have n3_ := Aside0.mk ((by rw [hg]; exact (below_size (by repeat (first | (with_reducible first | exact HB.out | apply below_alloc | apply pw_below_drewN | apply below_drew1) | exact HB.out))) : w.heap.size ≤ gb135))
                            clear HB
                            have HB := n0_
                            have BK135 := n1_
                            have GW135 := n2_
                            have GE135 := n3_
                            clear n0_ n1_ n2_ n3_
                            clear hb hbox hg
                            refine hK.out _ _ ⟨((HB.out.cell (World.block_lt_of_cell? w _ hw130_0)).trans hw130_0), ((HB.out.cell (World.block_lt_of_cell? w _ hw130_1)).trans hw130_1), ((HB.out.cell (World.block_lt_of_cell? w _ hw131_0)).trans hw131_0), ((HB.out.cell (World.block_lt_of_cell? w _ hw131_1)).trans hw131_1)⟩ (fun hHeld => ?_)
                            clear hK K
                            refine norm_ (a' := ?_) ?_ ?_
                            rotate_left
                            · show Act.put _ (some 10) _ = _
                              simp only [Act.put, List.setIfInBounds_toArray, List.set_cons_zero, List.set_cons_succ, i64_w, i32_w]
                              rfl
                            refine one_ (i := 12) (N := some 51) #[true, true, true, true, true, true, true, true, true, true, true, true, true, false, false, false, true, false, false] rfl rfl (one_of HT_.out (by kernel_rfl)) (by decide) (fun K hK => ?_)
                            refine goes_ Tryd.func13 (by kernel_rfl) rfl #[.int .i64 x0_2, .agg #[.bool ((rd_T28 l1 x5_2).f0), .int .i64 ((rd_T28 l1 x5_2).f1)]] (by rfl) rfl rfl (by (try simp only [List.map_toArray, List.map_cons, List.map_nil]); first | done | rfl | (simp only [List.length_drop, List.length_take]; rfl)) ?_
                            with_reducible refine (heraldref10_Next.calls x0_2 ((rd_T28 l1 x5_2).f0) ((rd_T28 l1 x5_2).f1) t132 t133 t134 _ A18.out).mono ?_
                            rintro e w46 ⟨rfl, hb⟩
                            refine ⟨_, rfl, ?_⟩
                            have n0_ := Aside0.mk (blk_below (g := gb135) (o := .cells #[.int .i64 0, .int .i64 0] 30 (0, 0)) (by (with_reducible repeat (first | refine blk_drewN ?_ _ | refine blk_drew ?_ | refine blk_alloc ?_ _)); exact BK135.out) hb)
                            have n1_ := Aside0.mk (below_step (by repeat (first | (with_reducible first | exact HB.out | apply below_alloc | apply pw_below_drewN | apply below_drew1 | refine below_set ?_ GE135.out) | exact HB.out)) hb)
                            clear BK135
                            clear HB
                            have BK135 := n0_
                            have HB := n1_
                            clear n0_ n1_
                            (try clear hb)
                            (try clear hb2)
                            (try clear hk)
                            (try clear hi)
                            refine hK.out _ _ ⟨((HB.out.cell (World.block_lt_of_cell? w _ hw130_0)).trans hw130_0), ((HB.out.cell (World.block_lt_of_cell? w _ hw130_1)).trans hw130_1), ((HB.out.cell (World.block_lt_of_cell? w _ hw131_0)).trans hw131_0), ((HB.out.cell (World.block_lt_of_cell? w _ hw131_1)).trans hw131_1)⟩ (fun hHeld => ?_)
                            clear hK K
                            refine norm_ (a' := ?_) ?_ ?_
                            rotate_left
                            · show Act.put _ (some 51) _ = _
                              simp only [Act.put, List.setIfInBounds_toArray, List.set_cons_zero, List.set_cons_succ, i64_w, i32_w]
                              rfl
                            refine pure_ (i := 13) (N := some 38) (v := ?_) (a' := ?_) #[true, true, true, true, true, true, true, true, true, true, true, true, true, true, false, false, true, false, false] rfl rfl (any_of HT_.out (by kernel_rfl)) (fun _ _ _ h => h) (Or.inl ⟨by rfl, ?_⟩) ?_ ?_
                            rotate_left
                            · intro w'
                              go_simp
                              with_reducible rfl
                            rotate_left
                            · simp only [Act.put, List.setIfInBounds_toArray, List.set_cons_zero, List.set_cons_succ, i64_w, i32_w]
                              rfl
                            refine pure_ (i := 14) (N := some 52) (v := ?_) (a' := ?_) #[true, true, true, true, true, true, true, true, true, true, true, true, true, true, true, false, true, false, false] rfl rfl (any_of HT_.out (by kernel_rfl)) (fun _ _ _ h => h) (Or.inl ⟨by rfl, ?_⟩) ?_ ?_
                            rotate_left
                            · intro w'
                              go_simp
                              with_reducible rfl
                            rotate_left
                            · simp only [Act.put, List.setIfInBounds_toArray, List.set_cons_zero, List.set_cons_succ, i64_w, i32_w]
                              rfl
                            refine pure_ (i := 15) (N := some 53) (v := ?_) (a' := ?_) #[true, true, true, true, true, true, true, true, true, true, true, true, true, true, true, true, true, false, false] rfl rfl (any_of HT_.out (by kernel_rfl)) (fun _ _ _ h => h) (Or.inl ⟨by rfl, ?_⟩) ?_ ?_
                            rotate_left
                            · intro w'
                              go_simp
                              with_reducible rfl
                            rotate_left
                            · simp only [Act.put, List.setIfInBounds_toArray, List.set_cons_zero, List.set_cons_succ, i64_w, i32_w]
                              rfl
                            exact norm_ (by simp only [putAll, Act.put, List.setIfInBounds_toArray, List.set_cons_zero, List.set_cons_succ]) (hCont (gb135) _ ⟨hHeld, (by (with_reducible repeat (first | refine blk_drewN ?_ _ | refine blk_drew ?_ | refine blk_alloc ?_ _)); exact BK135.out), GW135.out, GE135.out, (by repeat (first | (with_reducible first | exact HB.out | apply below_alloc | apply pw_below_drewN | apply below_drew1 | refine below_set ?_ GE135.out) | exact HB.out))⟩)
                        rintro gb135 w47 ⟨hS_, h0_, h1_, h2_, h3_⟩
                        have n0_ : Aside0 (w47.heap[gb135]? = some (.cells #[.int .i64 0, .int .i64 0] 30 (0, 0))) := ⟨h0_⟩
                        have n1_ : Aside0 (w.heap.size ≤ gb135) := ⟨h1_⟩
                        have n2_ : Aside0 (w.heap.size ≤ gb135) := ⟨h2_⟩
                        have n3_ : Aside0 (Below w.heap.size w w47) := ⟨h3_⟩
                        clear HB
                        clear h0_ h1_ h2_ h3_
                        have BK135 := n0_
                        have GW135 := n1_
                        have GE135 := n2_
                        have HB := n3_
                        clear n0_ n1_ n2_ n3_
                        have hHeld : w47.cell? (ad126.add ((x5_2).toNat * 2)) = some (.bool ((rd_T28 l1 x5_2).f0)) ∧ w47.cell? ⟨(ad126.add ((x5_2).toNat * 2)).block, (ad126.add ((x5_2).toNat * 2)).off + 1, none⟩ = some (.int .i64 ((rd_T28 l1 x5_2).f1)) ∧ w47.cell? (ad126.add ((x5_2).toNat * 2)) = some (.bool ((rd_T28 l1 x5_2).f0)) ∧ w47.cell? ⟨(ad126.add ((x5_2).toNat * 2)).block, (ad126.add ((x5_2).toNat * 2)).off + 1, none⟩ = some (.int .i64 ((rd_T28 l1 x5_2).f1)) := hS_
                        refine norm_ (a' := ?_) ?_ ?_
                        rotate_left
                        · simp only [putAll, Act.put, List.setIfInBounds_toArray, List.set_cons_zero, List.set_cons_succ]
                          rfl
                        refine pure_ (i := 17) (N := some 9) (v := ?_) (a' := ?_) #[true, true, true, true, true, true, true, true, true, true, true, true, true, true, true, true, true, true, false] rfl rfl (any_of HT_.out (by kernel_rfl)) (fun _ _ _ h => h) (Or.inl ⟨by rfl, ?_⟩) ?_ ?_
                        rotate_left
                        · intro w'
                          go_simp
                          with_reducible rfl
                        rotate_left
                        · simp only [Act.put, List.setIfInBounds_toArray, List.set_cons_zero, List.set_cons_succ, i64_w, i32_w]
                          rfl
                        refine one_ (i := 18) (N := none) #[true, true, true, true, true, true, true, true, true, true, true, true, true, true, true, true, true, true, true] rfl rfl (one_of HT_.out (by kernel_rfl)) (by decide) (fun K hK => ?_)
                        have hs48 : w47.cell? ⟨gb135, 0, none⟩ = some (.int .i64 0) := (blk_cell BK135.out 0).trans rfl
                        have hfs48 := blk_frozen BK135.out 0
                        have hs49 : w47.cell? ⟨gb135, 1, none⟩ = some (.int .i64 0) := (blk_cell BK135.out 1).trans rfl
                        have hfs49 := blk_frozen BK135.out 1
                        refine skip_ (w1 := ?_) (by rfl) rfl ?_ ?_
                        rotate_left
                        · go_simp
                          rfl
                        refine hK.out _ _ ⟨((cell_far (p := ⟨gb135, _, none⟩) (by first | exact Nat.ne_of_lt (Nat.lt_of_lt_of_le (by have := World.block_lt_of_cell? _ _ hw130_0; first | rwa [add_block] at this | exact this) GW135.out) | (rw [add_block]; exact Nat.ne_of_lt (Nat.lt_of_lt_of_le (by have := World.block_lt_of_cell? _ _ hw130_0; first | rwa [add_block] at this | exact this) GW135.out)) | (show (Addr.add _ _).block ≠ _; rw [add_block]; exact Nat.ne_of_lt (Nat.lt_of_lt_of_le (by have := World.block_lt_of_cell? _ _ hw130_0; first | rwa [add_block] at this | exact this) GW135.out)) | (dsimp only; exact Nat.ne_of_lt (Nat.lt_of_lt_of_le (by have := World.block_lt_of_cell? _ _ hw130_0; first | rwa [add_block] at this | exact this) GW135.out))) _).trans (((cell_far (p := ⟨gb135, _, none⟩) (by first | exact Nat.ne_of_lt (Nat.lt_of_lt_of_le (by have := World.block_lt_of_cell? _ _ hw130_0; first | rwa [add_block] at this | exact this) GW135.out) | (rw [add_block]; exact Nat.ne_of_lt (Nat.lt_of_lt_of_le (by have := World.block_lt_of_cell? _ _ hw130_0; first | rwa [add_block] at this | exact this) GW135.out)) | (show (Addr.add _ _).block ≠ _; rw [add_block]; exact Nat.ne_of_lt (Nat.lt_of_lt_of_le (by have := World.block_lt_of_cell? _ _ hw130_0; first | rwa [add_block] at this | exact this) GW135.out)) | (dsimp only; exact Nat.ne_of_lt (Nat.lt_of_lt_of_le (by have := World.block_lt_of_cell? _ _ hw130_0; first | rwa [add_block] at this | exact this) GW135.out))) _).trans (hHeld.1)))), ((cell_far (p := ⟨gb135, _, none⟩) (by first | exact Nat.ne_of_lt (Nat.lt_of_lt_of_le (by have := World.block_lt_of_cell? _ _ hw130_1; first | rwa [add_block] at this | exact this) GW135.out) | (rw [add_block]; exact Nat.ne_of_lt (Nat.lt_of_lt_of_le (by have := World.block_lt_of_cell? _ _ hw130_1; first | rwa [add_block] at this | exact this) GW135.out)) | (show (Addr.add _ _).block ≠ _; rw [add_block]; exact Nat.ne_of_lt (Nat.lt_of_lt_of_le (by have := World.block_lt_of_cell? _ _ hw130_1; first | rwa [add_block] at this | exact this) GW135.out)) | (dsimp only; exact Nat.ne_of_lt (Nat.lt_of_lt_of_le (by have := World.block_lt_of_cell? _ _ hw130_1; first | rwa [add_block] at this | exact this) GW135.out))) _).trans (((cell_far (p := ⟨gb135, _, none⟩) (by first | exact Nat.ne_of_lt (Nat.lt_of_lt_of_le (by have := World.block_lt_of_cell? _ _ hw130_1; first | rwa [add_block] at this | exact this) GW135.out) | (rw [add_block]; exact Nat.ne_of_lt (Nat.lt_of_lt_of_le (by have := World.block_lt_of_cell? _ _ hw130_1; first | rwa [add_block] at this | exact this) GW135.out)) | (show (Addr.add _ _).block ≠ _; rw [add_block]; exact Nat.ne_of_lt (Nat.lt_of_lt_of_le (by have := World.block_lt_of_cell? _ _ hw130_1; first | rwa [add_block] at this | exact this) GW135.out)) | (dsimp only; exact Nat.ne_of_lt (Nat.lt_of_lt_of_le (by have := World.block_lt_of_cell? _ _ hw130_1; first | rwa [add_block] at this | exact this) GW135.out))) _).trans (hHeld.2.1)))), ((cell_far (p := ⟨gb135, _, none⟩) (by first | exact Nat.ne_of_lt (Nat.lt_of_lt_of_le (by have := World.block_lt_of_cell? _ _ hw131_0; first | rwa [add_block] at this | exact this) GW135.out) | (rw [add_block]; exact Nat.ne_of_lt (Nat.lt_of_lt_of_le (by have := World.block_lt_of_cell? _ _ hw131_0; first | rwa [add_block] at this | exact this) GW135.out)) | (show (Addr.add _ _).block ≠ _; rw [add_block]; exact Nat.ne_of_lt (Nat.lt_of_lt_of_le (by have := World.block_lt_of_cell? _ _ hw131_0; first | rwa [add_block] at this | exact this) GW135.out)) | (dsimp only; exact Nat.ne_of_lt (Nat.lt_of_lt_of_le (by have := World.block_lt_of_cell? _ _ hw131_0; first | rwa [add_block] at this | exact this) GW135.out))) _).trans (((cell_far (p := ⟨gb135, _, none⟩) (by first | exact Nat.ne_of_lt (Nat.lt_of_lt_of_le (by have := World.block_lt_of_cell? _ _ hw131_0; first | rwa [add_block] at this | exact this) GW135.out) | (rw [add_block]; exact Nat.ne_of_lt (Nat.lt_of_lt_of_le (by have := World.block_lt_of_cell? _ _ hw131_0; first | rwa [add_block] at this | exact this) GW135.out)) | (show (Addr.add _ _).block ≠ _; rw [add_block]; exact Nat.ne_of_lt (Nat.lt_of_lt_of_le (by have := World.block_lt_of_cell? _ _ hw131_0; first | rwa [add_block] at this | exact this) GW135.out)) | (dsimp only; exact Nat.ne_of_lt (Nat.lt_of_lt_of_le (by have := World.block_lt_of_cell? _ _ hw131_0; first | rwa [add_block] at this | exact this) GW135.out))) _).trans (hHeld.2.2.1)))), ((cell_far (p := ⟨gb135, _, none⟩) (by first | exact Nat.ne_of_lt (Nat.lt_of_lt_of_le (by have := World.block_lt_of_cell? _ _ hw131_1; first | rwa [add_block] at this | exact this) GW135.out) | (rw [add_block]; exact Nat.ne_of_lt (Nat.lt_of_lt_of_le (by have := World.block_lt_of_cell? _ _ hw131_1; first | rwa [add_block] at this | exact this) GW135.out)) | (show (Addr.add _ _).block ≠ _; rw [add_block]; exact Nat.ne_of_lt (Nat.lt_of_lt_of_le (by have := World.block_lt_of_cell? _ _ hw131_1; first | rwa [add_block] at this | exact this) GW135.out)) | (dsimp only; exact Nat.ne_of_lt (Nat.lt_of_lt_of_le (by have := World.block_lt_of_cell? _ _ hw131_1; first | rwa [add_block] at this | exact this) GW135.out))) _).trans (((cell_far (p := ⟨gb135, _, none⟩) (by first | exact Nat.ne_of_lt (Nat.lt_of_lt_of_le (by have := World.block_lt_of_cell? _ _ hw131_1; first | rwa [add_block] at this | exact this) GW135.out) | (rw [add_block]; exact Nat.ne_of_lt (Nat.lt_of_lt_of_le (by have := World.block_lt_of_cell? _ _ hw131_1; first | rwa [add_block] at this | exact this) GW135.out)) | (show (Addr.add _ _).block ≠ _; rw [add_block]; exact Nat.ne_of_lt (Nat.lt_of_lt_of_le (by have := World.block_lt_of_cell? _ _ hw131_1; first | rwa [add_block] at this | exact this) GW135.out)) | (dsimp only; exact Nat.ne_of_lt (Nat.lt_of_lt_of_le (by have := World.block_lt_of_cell? _ _ hw131_1; first | rwa [add_block] at this | exact this) GW135.out))) _).trans (hHeld.2.2.2))))⟩ (fun hHeld => ?_)
                        clear hK K
                        refine done_ (done_of HT_.out (by kernel_rfl)) ?_
                        have hcz50_0 : w47.cell? ⟨gb135, 0, none⟩ = some (.int .i64 0) := (blk_cell BK135.out 0).trans rfl
                        have hcz50_1 : w47.cell? ⟨gb135, 1, none⟩ = some (.int .i64 0) := (blk_cell BK135.out 1).trans rfl
                        have hfz50_0 := blk_frozen BK135.out 0
                        have hfz50_1 := blk_frozen BK135.out 1
                        try go_wp2
                        go_ret
                        exact ⟨by first | rfl | (simp [errW_none, errW_some] <;> rfl) | (simp [*, errW_none, errW_some] <;> rfl), by repeat (first | (with_reducible first | exact HB.out | apply below_alloc | apply pw_below_drewN | apply below_drew1 | refine below_set ?_ GE135.out) | exact HB.out)⟩
                    · rw [if_neg c20] at H
                      have c20b0 : (t128 == t133) = false := beq_eq_false_iff_ne.mpr c20
                      have c20b1 : (t128 != t133) = true := bne_iff_ne.mpr c20
                      obtain rfl := Option.some.inj H
                      have p126 : 0 ≤ (x5_2 : Int) := of_decide_eq_true (by first | (with_reducible assumption) | assumption)
                      have q126 : x5_2 < (l1.length : Int) := of_decide_eq_true (by first | (with_reducible assumption) | assumption)
                      obtain ⟨ad126, e126, hx126_0, hx126_1⟩ := at_T28 HR1.out x5_2 p126 q126
                      cases e126
                      replace hx126_0 := (HB.out.cell (World.block_lt_of_cell? w _ hx126_0)).trans hx126_0
                      replace hx126_1 := (HB.out.cell (World.block_lt_of_cell? w _ hx126_1)).trans hx126_1
                      replace p126 := eq_true p126
                      replace q126 := eq_true q126
                      try go_wp2_with (first | ((with_reducible refine gate_callee (f := 12) rfl ?_); refine goesL_ (some 34) rfl rfl Tryd.func12 (by kernel_rfl) rfl #[.int .i64 x0_2, .agg #[.bool ((rd_T28 l1 x5_2).f0), .int .i64 ((rd_T28 l1 x5_2).f1)]] rfl (by (try simp only [List.map_toArray, List.map_cons, List.map_nil]); first | done | rfl | (simp only [List.length_drop, List.length_take]; rfl)) ?_; (with_reducible refine (heraldlaw10_next.calls x0_2 ((rd_T28 l1 x5_2).f0) ((rd_T28 l1 x5_2).f1) t127 t128 t129 _ ?side1 A17.out).mono ?_); (case side1 => exact GL.below HG.out (by repeat (first | (with_reducible first | exact HB.out | apply below_alloc | apply pw_below_drewN | apply below_drew1) | exact HB.out))); rintro e w51 ⟨rfl, hb⟩; refine ⟨_, rfl, ?_⟩; have n0_ := Aside0.mk (below_step (by repeat (first | (with_reducible first | exact HB.out | apply below_alloc | apply pw_below_drewN | apply below_drew1) | exact HB.out)) hb); clear HB; have HB := n0_; clear n0_; (try clear hb); (try clear hb2); (try clear hk); (try clear hi)))
                      have n0_ := Aside0.mk (below_drew1 HB.out)
                      clear HB
                      have HB := n0_
                      clear n0_
                      have p130 : 0 ≤ (x5_2 : Int) := of_decide_eq_true (by first | (with_reducible assumption) | assumption)
                      have q130 : x5_2 < (l1.length : Int) := of_decide_eq_true (by first | (with_reducible assumption) | assumption)
                      obtain ⟨ad130, e130, hx130_0, hx130_1⟩ := at_T28 HR1.out x5_2 p130 q130
                      have hw130_1 := hx130_1
                      have hw130_0 := hx130_0
                      obtain rfl : ad126 = ad130 := (by injection e130)
                      replace hx130_0 := (HB.out.cell (World.block_lt_of_cell? w _ hx130_0)).trans hx130_0
                      replace hx130_1 := (HB.out.cell (World.block_lt_of_cell? w _ hx130_1)).trans hx130_1
                      replace p130 := eq_true p130
                      replace q130 := eq_true q130
                      have p131 : 0 ≤ (x5_2 : Int) := of_decide_eq_true (by first | (with_reducible assumption) | assumption)
                      have q131 : x5_2 < (l1.length : Int) := of_decide_eq_true (by first | (with_reducible assumption) | assumption)
                      obtain ⟨ad131, e131, hx131_0, hx131_1⟩ := at_T28 HR1.out x5_2 p131 q131
                      have hw131_1 := hx131_1
                      have hw131_0 := hx131_0
                      obtain rfl : ad126 = ad131 := (by injection e131)
                      replace hx131_0 := (HB.out.cell (World.block_lt_of_cell? w _ hx131_0)).trans hx131_0
                      replace hx131_1 := (HB.out.cell (World.block_lt_of_cell? w _ hx131_1)).trans hx131_1
                      replace p131 := eq_true p131
                      replace q131 := eq_true q131
                      refine start_ (n := 19) (S := fun w' => w'.cell? (ad126.add ((x5_2).toNat * 2)) = some (.bool ((rd_T28 l1 x5_2).f0)) ∧ w'.cell? ⟨(ad126.add ((x5_2).toNat * 2)).block, (ad126.add ((x5_2).toNat * 2)).off + 1, none⟩ = some (.int .i64 ((rd_T28 l1 x5_2).f1)) ∧ w'.cell? (ad126.add ((x5_2).toNat * 2)) = some (.bool ((rd_T28 l1 x5_2).f0)) ∧ w'.cell? ⟨(ad126.add ((x5_2).toNat * 2)).block, (ad126.add ((x5_2).toNat * 2)).off + 1, none⟩ = some (.int .i64 ((rd_T28 l1 x5_2).f1))) (ds := []) #[false, false, false, false, false, false, false, false, false, false, false, false, false, false, false, false, false, false, false] (by kernel_rfl) rfl rfl ⟨((HB.out.cell (World.block_lt_of_cell? w _ hw130_0)).trans hw130_0), ((HB.out.cell (World.block_lt_of_cell? w _ hw130_1)).trans hw130_1), ((HB.out.cell (World.block_lt_of_cell? w _ hw131_0)).trans hw131_0), ((HB.out.cell (World.block_lt_of_cell? w _ hw131_1)).trans hw131_1)⟩ (fun hHeld => ?_); refine with_tabW heraldlaw10_StateNexts.tab9 heraldlaw10_StateNexts.bits9 (fun HT_ HW_ => ?_)
                      generalize w51.drew = w52 at HB hx130_0 hx130_1 hx131_0 hx131_1 hHeld ⊢
                      refine pure_ (i := 0) (N := some 39) (v := ?_) (a' := ?_) #[true, false, false, false, false, false, false, false, false, false, false, false, false, false, false, false, false, false, false] rfl rfl (any_of HT_.out (by kernel_rfl)) (fun _ _ _ h => h) (Or.inl ⟨by rfl, ?_⟩) ?_ ?_
                      rotate_left
                      · intro w'
                        go_simp
                        with_reducible rfl
                      rotate_left
                      · simp only [Act.put, List.setIfInBounds_toArray, List.set_cons_zero, List.set_cons_succ, i64_w, i32_w]
                        rfl
                      refine pure_ (i := 1) (N := some 40) (v := ?_) (a' := ?_) #[true, true, false, false, false, false, false, false, false, false, false, false, false, false, false, false, false, false, false] rfl rfl (any_of HT_.out (by kernel_rfl)) (fun _ _ _ h => h) (Or.inl ⟨by rfl, ?_⟩) ?_ ?_
                      rotate_left
                      · intro w'
                        go_simp
                        with_reducible rfl
                      rotate_left
                      · simp only [Act.put, List.setIfInBounds_toArray, List.set_cons_zero, List.set_cons_succ, i64_w, i32_w]
                        rfl
                      refine pure_ (i := 2) (N := some 41) (v := ?_) (a' := ?_) #[true, true, true, false, false, false, false, false, false, false, false, false, false, false, false, false, false, false, false] rfl rfl (any_of HT_.out (by kernel_rfl)) (fun _ _ _ h => h) (Or.inl ⟨by rfl, ?_⟩) ?_ ?_
                      rotate_left
                      · intro w'
                        go_simp
                        with_reducible rfl
                      rotate_left
                      · simp only [Act.put, List.setIfInBounds_toArray, List.set_cons_zero, List.set_cons_succ, i64_w, i32_w]
                        rfl
                      refine pure_ (i := 3) (N := some 42) (v := ?_) (a' := ?_) #[true, true, true, true, false, false, false, false, false, false, false, false, false, false, false, false, false, false, false] rfl rfl (any_of HT_.out (by kernel_rfl)) (fun _ _ _ h => h) (Or.inl ⟨by rfl, ?_⟩) ?_ ?_
                      rotate_left
                      · intro w'
                        go_simp
                        with_reducible rfl
                      rotate_left
                      · simp only [Act.put, List.setIfInBounds_toArray, List.set_cons_zero, List.set_cons_succ, i64_w, i32_w]
                        rfl
                      refine pure_ (i := 4) (N := some 43) (v := ?_) (a' := ?_) #[true, true, true, true, true, false, false, false, false, false, false, false, false, false, false, false, false, false, false] rfl rfl (any_of HT_.out (by kernel_rfl)) (fun _ _ _ h => h) (Or.inl ⟨by rfl, ?_⟩) ?_ ?_
                      rotate_left
                      · intro w'
                        go_simp
                        with_reducible rfl
                      rotate_left
                      · simp only [Act.put, List.setIfInBounds_toArray, List.set_cons_zero, List.set_cons_succ, i64_w, i32_w]
                        rfl
                      refine pure_ (i := 6) (N := some 45) (v := ?_) (a' := ?_) #[true, true, true, true, true, false, true, false, false, false, false, false, false, false, false, false, false, false, false] rfl rfl (any_of HT_.out (by kernel_rfl)) (fun _ _ _ h => h) (Or.inl ⟨by rfl, ?_⟩) ?_ ?_
                      rotate_left
                      · intro w'
                        go_simp
                        with_reducible rfl
                      rotate_left
                      · simp only [Act.put, List.setIfInBounds_toArray, List.set_cons_zero, List.set_cons_succ, i64_w, i32_w]
                        rfl
                      refine pure_ (i := 7) (N := some 46) (v := ?_) (a' := ?_) #[true, true, true, true, true, false, true, true, false, false, false, false, false, false, false, false, false, false, false] rfl rfl (any_of HT_.out (by kernel_rfl)) (fun _ _ _ h => h) (Or.inl ⟨by rfl, ?_⟩) ?_ ?_
                      rotate_left
                      · intro w'
                        go_simp
                        with_reducible rfl
                      rotate_left
                      · simp only [Act.put, List.setIfInBounds_toArray, List.set_cons_zero, List.set_cons_succ, i64_w, i32_w]
                        rfl
                      refine pure_ (i := 8) (N := some 47) (v := ?_) (a' := ?_) #[true, true, true, true, true, false, true, true, true, false, false, false, false, false, false, false, false, false, false] rfl rfl (any_of HT_.out (by kernel_rfl)) (fun _ _ _ h => h) (Or.inl ⟨by rfl, ?_⟩) ?_ ?_
                      rotate_left
                      · intro w'
                        go_simp
                        with_reducible rfl
                      rotate_left
                      · simp only [Act.put, List.setIfInBounds_toArray, List.set_cons_zero, List.set_cons_succ, i64_w, i32_w]
                        rfl
                      refine pure_ (i := 9) (N := some 48) (v := ?_) (a' := ?_) #[true, true, true, true, true, false, true, true, true, true, false, false, false, false, false, false, false, false, false] rfl rfl (any_of HT_.out (by kernel_rfl)) (fun _ _ _ h => h) (Or.inl ⟨by rfl, ?_⟩) ?_ ?_
                      rotate_left
                      · intro w'
                        go_simp
                        with_reducible rfl
                      rotate_left
                      · simp only [Act.put, List.setIfInBounds_toArray, List.set_cons_zero, List.set_cons_succ, i64_w, i32_w]
                        rfl
                      refine take_ (i := 5) (N := some 44) (v := ?_) (a' := ?_) #[true, true, true, true, true, true, true, true, true, true, false, false, false, false, false, false, false, false, false] rfl rfl (take_ofW HT_.out HW_.out (by kernel_rfl)) (fun _ _ _ h => h) (Or.inl ⟨by rfl, ?_⟩) hHeld ?_ ?_
                      rotate_left
                      · rintro w' ⟨s0, s1, s2, s3⟩
                        go_simp
                        with_reducible rfl
                      rotate_left
                      · simp only [Act.put, List.setIfInBounds_toArray, List.set_cons_zero, List.set_cons_succ, i64_w, i32_w]
                        rfl
                      refine take_ (i := 10) (N := some 49) (v := ?_) (a' := ?_) #[true, true, true, true, true, true, true, true, true, true, true, false, false, false, false, false, false, false, false] rfl rfl (take_ofW HT_.out HW_.out (by kernel_rfl)) (fun _ _ _ h => h) (Or.inl ⟨by rfl, ?_⟩) hHeld ?_ ?_
                      rotate_left
                      · rintro w' ⟨s0, s1, s2, s3⟩
                        go_simp
                        with_reducible rfl
                      rotate_left
                      · simp only [Act.put, List.setIfInBounds_toArray, List.set_cons_zero, List.set_cons_succ, i64_w, i32_w]
                        rfl
                      refine pure_ (i := 11) (N := some 50) (v := ?_) (a' := ?_) #[true, true, true, true, true, true, true, true, true, true, true, true, false, false, false, false, false, false, false] rfl rfl (any_of HT_.out (by kernel_rfl)) (fun _ _ _ h => h) (Or.inl ⟨by rfl, ?_⟩) ?_ ?_
                      rotate_left
                      · intro w'
                        go_simp
                        with_reducible rfl
                      rotate_left
                      · simp only [Act.put, List.setIfInBounds_toArray, List.set_cons_zero, List.set_cons_succ, i64_w, i32_w]
                        rfl
                      refine join_ (σ := Nat) 2 #[true, true, true, true, true, true, true, true, true, true, true, true, true, true, true, true, true, false, false] (fun s_ => [(51, .tuple #[.int .i64 t132, .agg #[.int .i64 t133, .int .i64 t134]]), (10, .pointer (some ⟨s_, 0, none⟩)), (38, .tuple #[.int .i64 t132, .agg #[.int .i64 t133, .int .i64 t134]]), (52, .int .i64 t132), (53, .agg #[.int .i64 t133, .int .i64 t134])]) (fun s_ w' => (w'.cell? (ad126.add ((x5_2).toNat * 2)) = some (.bool ((rd_T28 l1 x5_2).f0)) ∧ w'.cell? ⟨(ad126.add ((x5_2).toNat * 2)).block, (ad126.add ((x5_2).toNat * 2)).off + 1, none⟩ = some (.int .i64 ((rd_T28 l1 x5_2).f1)) ∧ w'.cell? (ad126.add ((x5_2).toNat * 2)) = some (.bool ((rd_T28 l1 x5_2).f0)) ∧ w'.cell? ⟨(ad126.add ((x5_2).toNat * 2)).block, (ad126.add ((x5_2).toNat * 2)).off + 1, none⟩ = some (.int .i64 ((rd_T28 l1 x5_2).f1))) ∧ (w'.heap[s_]? = some (.cells #[.int .i64 0, .int .i64 0] 30 (0, 0))) ∧ (w.heap.size ≤ s_) ∧ (w.heap.size ≤ s_) ∧ (Below w.heap.size w w')) ?_ ?_
                      rotate_left
                      · intro hCont
                        refine two_ (i := 12) (j := 16) (Ni := some 51) (Nj := some 10) #[true, true, true, true, true, true, true, true, true, true, true, true, true, false, false, false, false, false, false] #[true, true, true, true, true, true, true, true, true, true, true, true, false, false, false, false, true, false, false] rfl rfl rfl rfl (two_of HT_.out (by kernel_rfl)) (by decide) (by decide) (fun K hK => ?_) (fun K hK => ?_)
                        · skip
                          refine goes_ Tryd.func13 (by kernel_rfl) rfl #[.int .i64 x0_2, .agg #[.bool ((rd_T28 l1 x5_2).f0), .int .i64 ((rd_T28 l1 x5_2).f1)]] (by rfl) rfl rfl (by (try simp only [List.map_toArray, List.map_cons, List.map_nil]); first | done | rfl | (simp only [List.length_drop, List.length_take]; rfl)) ?_
                          with_reducible refine (heraldref10_Next.calls x0_2 ((rd_T28 l1 x5_2).f0) ((rd_T28 l1 x5_2).f1) t132 t133 t134 _ A18.out).mono ?_
                          rintro e w53 ⟨rfl, hb⟩
                          refine ⟨_, rfl, ?_⟩
                          have n0_ := Aside0.mk (below_step (by repeat (first | (with_reducible first | exact HB.out | apply below_alloc | apply pw_below_drewN | apply below_drew1) | exact HB.out)) hb)
                          clear HB
                          have HB := n0_
                          clear n0_
                          (try clear hb)
                          (try clear hb2)
                          (try clear hk)
                          (try clear hi)
                          refine hK.out _ _ ⟨((HB.out.cell (World.block_lt_of_cell? w _ hw130_0)).trans hw130_0), ((HB.out.cell (World.block_lt_of_cell? w _ hw130_1)).trans hw130_1), ((HB.out.cell (World.block_lt_of_cell? w _ hw131_0)).trans hw131_0), ((HB.out.cell (World.block_lt_of_cell? w _ hw131_1)).trans hw131_1)⟩ (fun hHeld => ?_)
                          clear hK K
                          refine norm_ (a' := ?_) ?_ ?_
                          rotate_left
                          · show Act.put _ (some 51) _ = _
                            simp only [Act.put, List.setIfInBounds_toArray, List.set_cons_zero, List.set_cons_succ, i64_w, i32_w]
                            rfl
                          refine pure_ (i := 13) (N := some 38) (v := ?_) (a' := ?_) #[true, true, true, true, true, true, true, true, true, true, true, true, true, true, false, false, false, false, false] rfl rfl (any_of HT_.out (by kernel_rfl)) (fun _ _ _ h => h) (Or.inl ⟨by rfl, ?_⟩) ?_ ?_
                          rotate_left
                          · intro w'
                            go_simp
                            with_reducible rfl
                          rotate_left
                          · simp only [Act.put, List.setIfInBounds_toArray, List.set_cons_zero, List.set_cons_succ, i64_w, i32_w]
                            rfl
                          refine pure_ (i := 14) (N := some 52) (v := ?_) (a' := ?_) #[true, true, true, true, true, true, true, true, true, true, true, true, true, true, true, false, false, false, false] rfl rfl (any_of HT_.out (by kernel_rfl)) (fun _ _ _ h => h) (Or.inl ⟨by rfl, ?_⟩) ?_ ?_
                          rotate_left
                          · intro w'
                            go_simp
                            with_reducible rfl
                          rotate_left
                          · simp only [Act.put, List.setIfInBounds_toArray, List.set_cons_zero, List.set_cons_succ, i64_w, i32_w]
                            rfl
                          refine pure_ (i := 15) (N := some 53) (v := ?_) (a' := ?_) #[true, true, true, true, true, true, true, true, true, true, true, true, true, true, true, true, false, false, false] rfl rfl (any_of HT_.out (by kernel_rfl)) (fun _ _ _ h => h) (Or.inl ⟨by rfl, ?_⟩) ?_ ?_
                          rotate_left
                          · intro w'
                            go_simp
                            with_reducible rfl
                          rotate_left
                          · simp only [Act.put, List.setIfInBounds_toArray, List.set_cons_zero, List.set_cons_succ, i64_w, i32_w]
                            rfl
                          refine one_ (i := 16) (N := some 10) #[true, true, true, true, true, true, true, true, true, true, true, true, true, true, true, true, true, false, false] rfl rfl (one_of HT_.out (by kernel_rfl)) (by decide) (fun K hK => ?_)
                          refine box_step ?hg (N := 10) ?hd (cs := #[.int .i64 0, .int .i64 0]) (t := 30) ?hr ?_; (case hd => rfl); (case hg => rfl); (case hr => first | (go_simp; done) | (go_simp; rfl))
                          intro gb135 hg w54 hbox hb
                          have n0_ := Aside0.mk (below_step (by repeat (first | (with_reducible first | exact HB.out | apply below_alloc | apply pw_below_drewN | apply below_drew1) | exact HB.out)) hb)
                          have n1_ := Aside0.mk (hbox)
                          have n2_ := Aside0.mk ((by rw [hg]; exact (below_size (by repeat (first | (with_reducible first | exact HB.out | apply below_alloc | apply pw_below_drewN | apply below_drew1) | exact HB.out))) : w.heap.size ≤ gb135))
                          have n3_ := Aside0.mk ((by rw [hg]; exact (below_size (by repeat (first | (with_reducible first | exact HB.out | apply below_alloc | apply pw_below_drewN | apply below_drew1) | exact HB.out))) : w.heap.size ≤ gb135))
                          clear HB
                          have HB := n0_
                          have BK135 := n1_
                          have GW135 := n2_
                          have GE135 := n3_
                          clear n0_ n1_ n2_ n3_
                          clear hb hbox hg
                          refine hK.out _ _ ⟨((HB.out.cell (World.block_lt_of_cell? w _ hw130_0)).trans hw130_0), ((HB.out.cell (World.block_lt_of_cell? w _ hw130_1)).trans hw130_1), ((HB.out.cell (World.block_lt_of_cell? w _ hw131_0)).trans hw131_0), ((HB.out.cell (World.block_lt_of_cell? w _ hw131_1)).trans hw131_1)⟩ (fun hHeld => ?_)
                          clear hK K
                          refine norm_ (a' := ?_) ?_ ?_
                          rotate_left
                          · show Act.put _ (some 10) _ = _
                            simp only [Act.put, List.setIfInBounds_toArray, List.set_cons_zero, List.set_cons_succ, i64_w, i32_w]
                            rfl
                          exact norm_ (by simp only [putAll, Act.put, List.setIfInBounds_toArray, List.set_cons_zero, List.set_cons_succ]) (hCont (gb135) _ ⟨hHeld, (by (with_reducible repeat (first | refine blk_drewN ?_ _ | refine blk_drew ?_ | refine blk_alloc ?_ _)); exact BK135.out), GW135.out, GE135.out, (by repeat (first | (with_reducible first | exact HB.out | apply below_alloc | apply pw_below_drewN | apply below_drew1 | refine below_set ?_ GE135.out) | exact HB.out))⟩)
                        · skip
                          refine box_step ?hg (N := 10) ?hd (cs := #[.int .i64 0, .int .i64 0]) (t := 30) ?hr ?_; (case hd => rfl); (case hg => rfl); (case hr => first | (go_simp; done) | (go_simp; rfl))
                          intro gb135 hg w53 hbox hb
                          have n0_ := Aside0.mk (below_step (by repeat (first | (with_reducible first | exact HB.out | apply below_alloc | apply pw_below_drewN | apply below_drew1) | exact HB.out)) hb)
                          have n1_ := Aside0.mk (hbox)
                          have n2_ := Aside0.mk ((by rw [hg]; exact (below_size (by repeat (first | (with_reducible first | exact HB.out | apply below_alloc | apply pw_below_drewN | apply below_drew1) | exact HB.out))) : w.heap.size ≤ gb135))
                          have n3_ := Aside0.mk ((by rw [hg]; exact (below_size (by repeat (first | (with_reducible first | exact HB.out | apply below_alloc | apply pw_below_drewN | apply below_drew1) | exact HB.out))) : w.heap.size ≤ gb135))
                          clear HB
                          have HB := n0_
                          have BK135 := n1_
                          have GW135 := n2_
                          have GE135 := n3_
                          clear n0_ n1_ n2_ n3_
                          clear hb hbox hg
                          refine hK.out _ _ ⟨((HB.out.cell (World.block_lt_of_cell? w _ hw130_0)).trans hw130_0), ((HB.out.cell (World.block_lt_of_cell? w _ hw130_1)).trans hw130_1), ((HB.out.cell (World.block_lt_of_cell? w _ hw131_0)).trans hw131_0), ((HB.out.cell (World.block_lt_of_cell? w _ hw131_1)).trans hw131_1)⟩ (fun hHeld => ?_)
                          clear hK K
                          refine norm_ (a' := ?_) ?_ ?_
                          rotate_left
                          · show Act.put _ (some 10) _ = _
                            simp only [Act.put, List.setIfInBounds_toArray, List.set_cons_zero, List.set_cons_succ, i64_w, i32_w]
                            rfl
                          refine one_ (i := 12) (N := some 51) #[true, true, true, true, true, true, true, true, true, true, true, true, true, false, false, false, true, false, false] rfl rfl (one_of HT_.out (by kernel_rfl)) (by decide) (fun K hK => ?_)
                          refine goes_ Tryd.func13 (by kernel_rfl) rfl #[.int .i64 x0_2, .agg #[.bool ((rd_T28 l1 x5_2).f0), .int .i64 ((rd_T28 l1 x5_2).f1)]] (by rfl) rfl rfl (by (try simp only [List.map_toArray, List.map_cons, List.map_nil]); first | done | rfl | (simp only [List.length_drop, List.length_take]; rfl)) ?_
                          with_reducible refine (heraldref10_Next.calls x0_2 ((rd_T28 l1 x5_2).f0) ((rd_T28 l1 x5_2).f1) t132 t133 t134 _ A18.out).mono ?_
                          rintro e w54 ⟨rfl, hb⟩
                          refine ⟨_, rfl, ?_⟩
                          have n0_ := Aside0.mk (blk_below (g := gb135) (o := .cells #[.int .i64 0, .int .i64 0] 30 (0, 0)) (by (with_reducible repeat (first | refine blk_drewN ?_ _ | refine blk_drew ?_ | refine blk_alloc ?_ _)); exact BK135.out) hb)
                          have n1_ := Aside0.mk (below_step (by repeat (first | (with_reducible first | exact HB.out | apply below_alloc | apply pw_below_drewN | apply below_drew1 | refine below_set ?_ GE135.out) | exact HB.out)) hb)
                          clear BK135
                          clear HB
                          have BK135 := n0_
                          have HB := n1_
                          clear n0_ n1_
                          (try clear hb)
                          (try clear hb2)
                          (try clear hk)
                          (try clear hi)
                          refine hK.out _ _ ⟨((HB.out.cell (World.block_lt_of_cell? w _ hw130_0)).trans hw130_0), ((HB.out.cell (World.block_lt_of_cell? w _ hw130_1)).trans hw130_1), ((HB.out.cell (World.block_lt_of_cell? w _ hw131_0)).trans hw131_0), ((HB.out.cell (World.block_lt_of_cell? w _ hw131_1)).trans hw131_1)⟩ (fun hHeld => ?_)
                          clear hK K
                          refine norm_ (a' := ?_) ?_ ?_
                          rotate_left
                          · show Act.put _ (some 51) _ = _
                            simp only [Act.put, List.setIfInBounds_toArray, List.set_cons_zero, List.set_cons_succ, i64_w, i32_w]
                            rfl
                          refine pure_ (i := 13) (N := some 38) (v := ?_) (a' := ?_) #[true, true, true, true, true, true, true, true, true, true, true, true, true, true, false, false, true, false, false] rfl rfl (any_of HT_.out (by kernel_rfl)) (fun _ _ _ h => h) (Or.inl ⟨by rfl, ?_⟩) ?_ ?_
                          rotate_left
                          · intro w'
                            go_simp
                            with_reducible rfl
                          rotate_left
                          · simp only [Act.put, List.setIfInBounds_toArray, List.set_cons_zero, List.set_cons_succ, i64_w, i32_w]
                            rfl
                          refine pure_ (i := 14) (N := some 52) (v := ?_) (a' := ?_) #[true, true, true, true, true, true, true, true, true, true, true, true, true, true, true, false, true, false, false] rfl rfl (any_of HT_.out (by kernel_rfl)) (fun _ _ _ h => h) (Or.inl ⟨by rfl, ?_⟩) ?_ ?_
                          rotate_left
                          · intro w'
                            go_simp
                            with_reducible rfl
                          rotate_left
                          · simp only [Act.put, List.setIfInBounds_toArray, List.set_cons_zero, List.set_cons_succ, i64_w, i32_w]
                            rfl
                          refine pure_ (i := 15) (N := some 53) (v := ?_) (a' := ?_) #[true, true, true, true, true, true, true, true, true, true, true, true, true, true, true, true, true, false, false] rfl rfl (any_of HT_.out (by kernel_rfl)) (fun _ _ _ h => h) (Or.inl ⟨by rfl, ?_⟩) ?_ ?_
                          rotate_left
                          · intro w'
                            go_simp
                            with_reducible rfl
                          rotate_left
                          · simp only [Act.put, List.setIfInBounds_toArray, List.set_cons_zero, List.set_cons_succ, i64_w, i32_w]
                            rfl
                          exact norm_ (by simp only [putAll, Act.put, List.setIfInBounds_toArray, List.set_cons_zero, List.set_cons_succ]) (hCont (gb135) _ ⟨hHeld, (by (with_reducible repeat (first | refine blk_drewN ?_ _ | refine blk_drew ?_ | refine blk_alloc ?_ _)); exact BK135.out), GW135.out, GE135.out, (by repeat (first | (with_reducible first | exact HB.out | apply below_alloc | apply pw_below_drewN | apply below_drew1 | refine below_set ?_ GE135.out) | exact HB.out))⟩)
                      rintro gb135 w55 ⟨hS_, h0_, h1_, h2_, h3_⟩
                      have n0_ : Aside0 (w55.heap[gb135]? = some (.cells #[.int .i64 0, .int .i64 0] 30 (0, 0))) := ⟨h0_⟩
                      have n1_ : Aside0 (w.heap.size ≤ gb135) := ⟨h1_⟩
                      have n2_ : Aside0 (w.heap.size ≤ gb135) := ⟨h2_⟩
                      have n3_ : Aside0 (Below w.heap.size w w55) := ⟨h3_⟩
                      clear HB
                      clear h0_ h1_ h2_ h3_
                      have BK135 := n0_
                      have GW135 := n1_
                      have GE135 := n2_
                      have HB := n3_
                      clear n0_ n1_ n2_ n3_
                      have hHeld : w55.cell? (ad126.add ((x5_2).toNat * 2)) = some (.bool ((rd_T28 l1 x5_2).f0)) ∧ w55.cell? ⟨(ad126.add ((x5_2).toNat * 2)).block, (ad126.add ((x5_2).toNat * 2)).off + 1, none⟩ = some (.int .i64 ((rd_T28 l1 x5_2).f1)) ∧ w55.cell? (ad126.add ((x5_2).toNat * 2)) = some (.bool ((rd_T28 l1 x5_2).f0)) ∧ w55.cell? ⟨(ad126.add ((x5_2).toNat * 2)).block, (ad126.add ((x5_2).toNat * 2)).off + 1, none⟩ = some (.int .i64 ((rd_T28 l1 x5_2).f1)) := hS_
                      refine norm_ (a' := ?_) ?_ ?_
                      rotate_left
                      · simp only [putAll, Act.put, List.setIfInBounds_toArray, List.set_cons_zero, List.set_cons_succ]
                        rfl
                      refine pure_ (i := 17) (N := some 9) (v := ?_) (a' := ?_) #[true, true, true, true, true, true, true, true, true, true, true, true, true, true, true, true, true, true, false] rfl rfl (any_of HT_.out (by kernel_rfl)) (fun _ _ _ h => h) (Or.inl ⟨by rfl, ?_⟩) ?_ ?_
                      rotate_left
                      · intro w'
                        go_simp
                        with_reducible rfl
                      rotate_left
                      · simp only [Act.put, List.setIfInBounds_toArray, List.set_cons_zero, List.set_cons_succ, i64_w, i32_w]
                        rfl
                      refine one_ (i := 18) (N := none) #[true, true, true, true, true, true, true, true, true, true, true, true, true, true, true, true, true, true, true] rfl rfl (one_of HT_.out (by kernel_rfl)) (by decide) (fun K hK => ?_)
                      have hs56 : w55.cell? ⟨gb135, 0, none⟩ = some (.int .i64 0) := (blk_cell BK135.out 0).trans rfl
                      have hfs56 := blk_frozen BK135.out 0
                      have hs57 : w55.cell? ⟨gb135, 1, none⟩ = some (.int .i64 0) := (blk_cell BK135.out 1).trans rfl
                      have hfs57 := blk_frozen BK135.out 1
                      refine skip_ (w1 := ?_) (by rfl) rfl ?_ ?_
                      rotate_left
                      · go_simp
                        rfl
                      refine hK.out _ _ ⟨((cell_far (p := ⟨gb135, _, none⟩) (by first | exact Nat.ne_of_lt (Nat.lt_of_lt_of_le (by have := World.block_lt_of_cell? _ _ hw130_0; first | rwa [add_block] at this | exact this) GW135.out) | (rw [add_block]; exact Nat.ne_of_lt (Nat.lt_of_lt_of_le (by have := World.block_lt_of_cell? _ _ hw130_0; first | rwa [add_block] at this | exact this) GW135.out)) | (show (Addr.add _ _).block ≠ _; rw [add_block]; exact Nat.ne_of_lt (Nat.lt_of_lt_of_le (by have := World.block_lt_of_cell? _ _ hw130_0; first | rwa [add_block] at this | exact this) GW135.out)) | (dsimp only; exact Nat.ne_of_lt (Nat.lt_of_lt_of_le (by have := World.block_lt_of_cell? _ _ hw130_0; first | rwa [add_block] at this | exact this) GW135.out))) _).trans (((cell_far (p := ⟨gb135, _, none⟩) (by first | exact Nat.ne_of_lt (Nat.lt_of_lt_of_le (by have := World.block_lt_of_cell? _ _ hw130_0; first | rwa [add_block] at this | exact this) GW135.out) | (rw [add_block]; exact Nat.ne_of_lt (Nat.lt_of_lt_of_le (by have := World.block_lt_of_cell? _ _ hw130_0; first | rwa [add_block] at this | exact this) GW135.out)) | (show (Addr.add _ _).block ≠ _; rw [add_block]; exact Nat.ne_of_lt (Nat.lt_of_lt_of_le (by have := World.block_lt_of_cell? _ _ hw130_0; first | rwa [add_block] at this | exact this) GW135.out)) | (dsimp only; exact Nat.ne_of_lt (Nat.lt_of_lt_of_le (by have := World.block_lt_of_cell? _ _ hw130_0; first | rwa [add_block] at this | exact this) GW135.out))) _).trans (hHeld.1)))), ((cell_far (p := ⟨gb135, _, none⟩) (by first | exact Nat.ne_of_lt (Nat.lt_of_lt_of_le (by have := World.block_lt_of_cell? _ _ hw130_1; first | rwa [add_block] at this | exact this) GW135.out) | (rw [add_block]; exact Nat.ne_of_lt (Nat.lt_of_lt_of_le (by have := World.block_lt_of_cell? _ _ hw130_1; first | rwa [add_block] at this | exact this) GW135.out)) | (show (Addr.add _ _).block ≠ _; rw [add_block]; exact Nat.ne_of_lt (Nat.lt_of_lt_of_le (by have := World.block_lt_of_cell? _ _ hw130_1; first | rwa [add_block] at this | exact this) GW135.out)) | (dsimp only; exact Nat.ne_of_lt (Nat.lt_of_lt_of_le (by have := World.block_lt_of_cell? _ _ hw130_1; first | rwa [add_block] at this | exact this) GW135.out))) _).trans (((cell_far (p := ⟨gb135, _, none⟩) (by first | exact Nat.ne_of_lt (Nat.lt_of_lt_of_le (by have := World.block_lt_of_cell? _ _ hw130_1; first | rwa [add_block] at this | exact this) GW135.out) | (rw [add_block]; exact Nat.ne_of_lt (Nat.lt_of_lt_of_le (by have := World.block_lt_of_cell? _ _ hw130_1; first | rwa [add_block] at this | exact this) GW135.out)) | (show (Addr.add _ _).block ≠ _; rw [add_block]; exact Nat.ne_of_lt (Nat.lt_of_lt_of_le (by have := World.block_lt_of_cell? _ _ hw130_1; first | rwa [add_block] at this | exact this) GW135.out)) | (dsimp only; exact Nat.ne_of_lt (Nat.lt_of_lt_of_le (by have := World.block_lt_of_cell? _ _ hw130_1; first | rwa [add_block] at this | exact this) GW135.out))) _).trans (hHeld.2.1)))), ((cell_far (p := ⟨gb135, _, none⟩) (by first | exact Nat.ne_of_lt (Nat.lt_of_lt_of_le (by have := World.block_lt_of_cell? _ _ hw131_0; first | rwa [add_block] at this | exact this) GW135.out) | (rw [add_block]; exact Nat.ne_of_lt (Nat.lt_of_lt_of_le (by have := World.block_lt_of_cell? _ _ hw131_0; first | rwa [add_block] at this | exact this) GW135.out)) | (show (Addr.add _ _).block ≠ _; rw [add_block]; exact Nat.ne_of_lt (Nat.lt_of_lt_of_le (by have := World.block_lt_of_cell? _ _ hw131_0; first | rwa [add_block] at this | exact this) GW135.out)) | (dsimp only; exact Nat.ne_of_lt (Nat.lt_of_lt_of_le (by have := World.block_lt_of_cell? _ _ hw131_0; first | rwa [add_block] at this | exact this) GW135.out))) _).trans (((cell_far (p := ⟨gb135, _, none⟩) (by first | exact Nat.ne_of_lt (Nat.lt_of_lt_of_le (by have := World.block_lt_of_cell? _ _ hw131_0; first | rwa [add_block] at this | exact this) GW135.out) | (rw [add_block]; exact Nat.ne_of_lt (Nat.lt_of_lt_of_le (by have := World.block_lt_of_cell? _ _ hw131_0; first | rwa [add_block] at this | exact this) GW135.out)) | (show (Addr.add _ _).block ≠ _; rw [add_block]; exact Nat.ne_of_lt (Nat.lt_of_lt_of_le (by have := World.block_lt_of_cell? _ _ hw131_0; first | rwa [add_block] at this | exact this) GW135.out)) | (dsimp only; exact Nat.ne_of_lt (Nat.lt_of_lt_of_le (by have := World.block_lt_of_cell? _ _ hw131_0; first | rwa [add_block] at this | exact this) GW135.out))) _).trans (hHeld.2.2.1)))), ((cell_far (p := ⟨gb135, _, none⟩) (by first | exact Nat.ne_of_lt (Nat.lt_of_lt_of_le (by have := World.block_lt_of_cell? _ _ hw131_1; first | rwa [add_block] at this | exact this) GW135.out) | (rw [add_block]; exact Nat.ne_of_lt (Nat.lt_of_lt_of_le (by have := World.block_lt_of_cell? _ _ hw131_1; first | rwa [add_block] at this | exact this) GW135.out)) | (show (Addr.add _ _).block ≠ _; rw [add_block]; exact Nat.ne_of_lt (Nat.lt_of_lt_of_le (by have := World.block_lt_of_cell? _ _ hw131_1; first | rwa [add_block] at this | exact this) GW135.out)) | (dsimp only; exact Nat.ne_of_lt (Nat.lt_of_lt_of_le (by have := World.block_lt_of_cell? _ _ hw131_1; first | rwa [add_block] at this | exact this) GW135.out))) _).trans (((cell_far (p := ⟨gb135, _, none⟩) (by first | exact Nat.ne_of_lt (Nat.lt_of_lt_of_le (by have := World.block_lt_of_cell? _ _ hw131_1; first | rwa [add_block] at this | exact this) GW135.out) | (rw [add_block]; exact Nat.ne_of_lt (Nat.lt_of_lt_of_le (by have := World.block_lt_of_cell? _ _ hw131_1; first | rwa [add_block] at this | exact this) GW135.out)) | (show (Addr.add _ _).block ≠ _; rw [add_block]; exact Nat.ne_of_lt (Nat.lt_of_lt_of_le (by have := World.block_lt_of_cell? _ _ hw131_1; first | rwa [add_block] at this | exact this) GW135.out)) | (dsimp only; exact Nat.ne_of_lt (Nat.lt_of_lt_of_le (by have := World.block_lt_of_cell? _ _ hw131_1; first | rwa [add_block] at this | exact this) GW135.out))) _).trans (hHeld.2.2.2))))⟩ (fun hHeld => ?_)
                      clear hK K
                      refine done_ (done_of HT_.out (by kernel_rfl)) ?_
                      have hcz58_0 : w55.cell? ⟨gb135, 0, none⟩ = some (.int .i64 0) := (blk_cell BK135.out 0).trans rfl
                      have hcz58_1 : w55.cell? ⟨gb135, 1, none⟩ = some (.int .i64 0) := (blk_cell BK135.out 1).trans rfl
                      have hfz58_0 := blk_frozen BK135.out 0
                      have hfz58_1 := blk_frozen BK135.out 1
                      try go_wp2
                      go_ret
                      exact ⟨by first | rfl | (simp [errW_none, errW_some] <;> rfl) | (simp [*, errW_none, errW_some] <;> rfl), by repeat (first | (with_reducible first | exact HB.out | apply below_alloc | apply pw_below_drewN | apply below_drew1 | refine below_set ?_ GE135.out) | exact HB.out)⟩
                  · rw [if_neg c19] at H
                    have c19b0 : (t127 == t132) = false := beq_eq_false_iff_ne.mpr c19
                    have c19b1 : (t127 != t132) = true := bne_iff_ne.mpr c19
                    obtain rfl := Option.some.inj H
                    have p126 : 0 ≤ (x5_2 : Int) := of_decide_eq_true (by first | (with_reducible assumption) | assumption)
                    have q126 : x5_2 < (l1.length : Int) := of_decide_eq_true (by first | (with_reducible assumption) | assumption)
                    obtain ⟨ad126, e126, hx126_0, hx126_1⟩ := at_T28 HR1.out x5_2 p126 q126
                    cases e126
                    replace hx126_0 := (HB.out.cell (World.block_lt_of_cell? w _ hx126_0)).trans hx126_0
                    replace hx126_1 := (HB.out.cell (World.block_lt_of_cell? w _ hx126_1)).trans hx126_1
                    replace p126 := eq_true p126
                    replace q126 := eq_true q126
                    try go_wp2_with (first | ((with_reducible refine gate_callee (f := 12) rfl ?_); refine goesL_ (some 34) rfl rfl Tryd.func12 (by kernel_rfl) rfl #[.int .i64 x0_2, .agg #[.bool ((rd_T28 l1 x5_2).f0), .int .i64 ((rd_T28 l1 x5_2).f1)]] rfl (by (try simp only [List.map_toArray, List.map_cons, List.map_nil]); first | done | rfl | (simp only [List.length_drop, List.length_take]; rfl)) ?_; (with_reducible refine (heraldlaw10_next.calls x0_2 ((rd_T28 l1 x5_2).f0) ((rd_T28 l1 x5_2).f1) t127 t128 t129 _ ?side1 A17.out).mono ?_); (case side1 => exact GL.below HG.out (by repeat (first | (with_reducible first | exact HB.out | apply below_alloc | apply pw_below_drewN | apply below_drew1) | exact HB.out))); rintro e w59 ⟨rfl, hb⟩; refine ⟨_, rfl, ?_⟩; have n0_ := Aside0.mk (below_step (by repeat (first | (with_reducible first | exact HB.out | apply below_alloc | apply pw_below_drewN | apply below_drew1) | exact HB.out)) hb); clear HB; have HB := n0_; clear n0_; (try clear hb); (try clear hb2); (try clear hk); (try clear hi)))
                    have n0_ := Aside0.mk (below_drew1 HB.out)
                    clear HB
                    have HB := n0_
                    clear n0_
                    have p130 : 0 ≤ (x5_2 : Int) := of_decide_eq_true (by first | (with_reducible assumption) | assumption)
                    have q130 : x5_2 < (l1.length : Int) := of_decide_eq_true (by first | (with_reducible assumption) | assumption)
                    obtain ⟨ad130, e130, hx130_0, hx130_1⟩ := at_T28 HR1.out x5_2 p130 q130
                    have hw130_1 := hx130_1
                    have hw130_0 := hx130_0
                    obtain rfl : ad126 = ad130 := (by injection e130)
                    replace hx130_0 := (HB.out.cell (World.block_lt_of_cell? w _ hx130_0)).trans hx130_0
                    replace hx130_1 := (HB.out.cell (World.block_lt_of_cell? w _ hx130_1)).trans hx130_1
                    replace p130 := eq_true p130
                    replace q130 := eq_true q130
                    have p131 : 0 ≤ (x5_2 : Int) := of_decide_eq_true (by first | (with_reducible assumption) | assumption)
                    have q131 : x5_2 < (l1.length : Int) := of_decide_eq_true (by first | (with_reducible assumption) | assumption)
                    obtain ⟨ad131, e131, hx131_0, hx131_1⟩ := at_T28 HR1.out x5_2 p131 q131
                    have hw131_1 := hx131_1
                    have hw131_0 := hx131_0
                    obtain rfl : ad126 = ad131 := (by injection e131)
                    replace hx131_0 := (HB.out.cell (World.block_lt_of_cell? w _ hx131_0)).trans hx131_0
                    replace hx131_1 := (HB.out.cell (World.block_lt_of_cell? w _ hx131_1)).trans hx131_1
                    replace p131 := eq_true p131
                    replace q131 := eq_true q131
                    refine start_ (n := 19) (S := fun w' => w'.cell? (ad126.add ((x5_2).toNat * 2)) = some (.bool ((rd_T28 l1 x5_2).f0)) ∧ w'.cell? ⟨(ad126.add ((x5_2).toNat * 2)).block, (ad126.add ((x5_2).toNat * 2)).off + 1, none⟩ = some (.int .i64 ((rd_T28 l1 x5_2).f1)) ∧ w'.cell? (ad126.add ((x5_2).toNat * 2)) = some (.bool ((rd_T28 l1 x5_2).f0)) ∧ w'.cell? ⟨(ad126.add ((x5_2).toNat * 2)).block, (ad126.add ((x5_2).toNat * 2)).off + 1, none⟩ = some (.int .i64 ((rd_T28 l1 x5_2).f1))) (ds := []) #[false, false, false, false, false, false, false, false, false, false, false, false, false, false, false, false, false, false, false] (by kernel_rfl) rfl rfl ⟨((HB.out.cell (World.block_lt_of_cell? w _ hw130_0)).trans hw130_0), ((HB.out.cell (World.block_lt_of_cell? w _ hw130_1)).trans hw130_1), ((HB.out.cell (World.block_lt_of_cell? w _ hw131_0)).trans hw131_0), ((HB.out.cell (World.block_lt_of_cell? w _ hw131_1)).trans hw131_1)⟩ (fun hHeld => ?_); refine with_tabW heraldlaw10_StateNexts.tab9 heraldlaw10_StateNexts.bits9 (fun HT_ HW_ => ?_)
                    generalize w59.drew = w60 at HB hx130_0 hx130_1 hx131_0 hx131_1 hHeld ⊢
                    refine pure_ (i := 0) (N := some 39) (v := ?_) (a' := ?_) #[true, false, false, false, false, false, false, false, false, false, false, false, false, false, false, false, false, false, false] rfl rfl (any_of HT_.out (by kernel_rfl)) (fun _ _ _ h => h) (Or.inl ⟨by rfl, ?_⟩) ?_ ?_
                    rotate_left
                    · intro w'
                      go_simp
                      with_reducible rfl
                    rotate_left
                    · simp only [Act.put, List.setIfInBounds_toArray, List.set_cons_zero, List.set_cons_succ, i64_w, i32_w]
                      rfl
                    refine pure_ (i := 1) (N := some 40) (v := ?_) (a' := ?_) #[true, true, false, false, false, false, false, false, false, false, false, false, false, false, false, false, false, false, false] rfl rfl (any_of HT_.out (by kernel_rfl)) (fun _ _ _ h => h) (Or.inl ⟨by rfl, ?_⟩) ?_ ?_
                    rotate_left
                    · intro w'
                      go_simp
                      with_reducible rfl
                    rotate_left
                    · simp only [Act.put, List.setIfInBounds_toArray, List.set_cons_zero, List.set_cons_succ, i64_w, i32_w]
                      rfl
                    refine pure_ (i := 2) (N := some 41) (v := ?_) (a' := ?_) #[true, true, true, false, false, false, false, false, false, false, false, false, false, false, false, false, false, false, false] rfl rfl (any_of HT_.out (by kernel_rfl)) (fun _ _ _ h => h) (Or.inl ⟨by rfl, ?_⟩) ?_ ?_
                    rotate_left
                    · intro w'
                      go_simp
                      with_reducible rfl
                    rotate_left
                    · simp only [Act.put, List.setIfInBounds_toArray, List.set_cons_zero, List.set_cons_succ, i64_w, i32_w]
                      rfl
                    refine pure_ (i := 3) (N := some 42) (v := ?_) (a' := ?_) #[true, true, true, true, false, false, false, false, false, false, false, false, false, false, false, false, false, false, false] rfl rfl (any_of HT_.out (by kernel_rfl)) (fun _ _ _ h => h) (Or.inl ⟨by rfl, ?_⟩) ?_ ?_
                    rotate_left
                    · intro w'
                      go_simp
                      with_reducible rfl
                    rotate_left
                    · simp only [Act.put, List.setIfInBounds_toArray, List.set_cons_zero, List.set_cons_succ, i64_w, i32_w]
                      rfl
                    refine pure_ (i := 4) (N := some 43) (v := ?_) (a' := ?_) #[true, true, true, true, true, false, false, false, false, false, false, false, false, false, false, false, false, false, false] rfl rfl (any_of HT_.out (by kernel_rfl)) (fun _ _ _ h => h) (Or.inl ⟨by rfl, ?_⟩) ?_ ?_
                    rotate_left
                    · intro w'
                      go_simp
                      with_reducible rfl
                    rotate_left
                    · simp only [Act.put, List.setIfInBounds_toArray, List.set_cons_zero, List.set_cons_succ, i64_w, i32_w]
                      rfl
                    refine pure_ (i := 6) (N := some 45) (v := ?_) (a' := ?_) #[true, true, true, true, true, false, true, false, false, false, false, false, false, false, false, false, false, false, false] rfl rfl (any_of HT_.out (by kernel_rfl)) (fun _ _ _ h => h) (Or.inl ⟨by rfl, ?_⟩) ?_ ?_
                    rotate_left
                    · intro w'
                      go_simp
                      with_reducible rfl
                    rotate_left
                    · simp only [Act.put, List.setIfInBounds_toArray, List.set_cons_zero, List.set_cons_succ, i64_w, i32_w]
                      rfl
                    refine pure_ (i := 7) (N := some 46) (v := ?_) (a' := ?_) #[true, true, true, true, true, false, true, true, false, false, false, false, false, false, false, false, false, false, false] rfl rfl (any_of HT_.out (by kernel_rfl)) (fun _ _ _ h => h) (Or.inl ⟨by rfl, ?_⟩) ?_ ?_
                    rotate_left
                    · intro w'
                      go_simp
                      with_reducible rfl
                    rotate_left
                    · simp only [Act.put, List.setIfInBounds_toArray, List.set_cons_zero, List.set_cons_succ, i64_w, i32_w]
                      rfl
                    refine pure_ (i := 8) (N := some 47) (v := ?_) (a' := ?_) #[true, true, true, true, true, false, true, true, true, false, false, false, false, false, false, false, false, false, false] rfl rfl (any_of HT_.out (by kernel_rfl)) (fun _ _ _ h => h) (Or.inl ⟨by rfl, ?_⟩) ?_ ?_
                    rotate_left
                    · intro w'
                      go_simp
                      with_reducible rfl
                    rotate_left
                    · simp only [Act.put, List.setIfInBounds_toArray, List.set_cons_zero, List.set_cons_succ, i64_w, i32_w]
                      rfl
                    refine pure_ (i := 9) (N := some 48) (v := ?_) (a' := ?_) #[true, true, true, true, true, false, true, true, true, true, false, false, false, false, false, false, false, false, false] rfl rfl (any_of HT_.out (by kernel_rfl)) (fun _ _ _ h => h) (Or.inl ⟨by rfl, ?_⟩) ?_ ?_
                    rotate_left
                    · intro w'
                      go_simp
                      with_reducible rfl
                    rotate_left
                    · simp only [Act.put, List.setIfInBounds_toArray, List.set_cons_zero, List.set_cons_succ, i64_w, i32_w]
                      rfl
                    refine take_ (i := 5) (N := some 44) (v := ?_) (a' := ?_) #[true, true, true, true, true, true, true, true, true, true, false, false, false, false, false, false, false, false, false] rfl rfl (take_ofW HT_.out HW_.out (by kernel_rfl)) (fun _ _ _ h => h) (Or.inl ⟨by rfl, ?_⟩) hHeld ?_ ?_
                    rotate_left
                    · rintro w' ⟨s0, s1, s2, s3⟩
                      go_simp
                      with_reducible rfl
                    rotate_left
                    · simp only [Act.put, List.setIfInBounds_toArray, List.set_cons_zero, List.set_cons_succ, i64_w, i32_w]
                      rfl
                    refine take_ (i := 10) (N := some 49) (v := ?_) (a' := ?_) #[true, true, true, true, true, true, true, true, true, true, true, false, false, false, false, false, false, false, false] rfl rfl (take_ofW HT_.out HW_.out (by kernel_rfl)) (fun _ _ _ h => h) (Or.inl ⟨by rfl, ?_⟩) hHeld ?_ ?_
                    rotate_left
                    · rintro w' ⟨s0, s1, s2, s3⟩
                      go_simp
                      with_reducible rfl
                    rotate_left
                    · simp only [Act.put, List.setIfInBounds_toArray, List.set_cons_zero, List.set_cons_succ, i64_w, i32_w]
                      rfl
                    refine pure_ (i := 11) (N := some 50) (v := ?_) (a' := ?_) #[true, true, true, true, true, true, true, true, true, true, true, true, false, false, false, false, false, false, false] rfl rfl (any_of HT_.out (by kernel_rfl)) (fun _ _ _ h => h) (Or.inl ⟨by rfl, ?_⟩) ?_ ?_
                    rotate_left
                    · intro w'
                      go_simp
                      with_reducible rfl
                    rotate_left
                    · simp only [Act.put, List.setIfInBounds_toArray, List.set_cons_zero, List.set_cons_succ, i64_w, i32_w]
                      rfl
                    refine join_ (σ := Nat) 2 #[true, true, true, true, true, true, true, true, true, true, true, true, true, true, true, true, true, false, false] (fun s_ => [(51, .tuple #[.int .i64 t132, .agg #[.int .i64 t133, .int .i64 t134]]), (10, .pointer (some ⟨s_, 0, none⟩)), (38, .tuple #[.int .i64 t132, .agg #[.int .i64 t133, .int .i64 t134]]), (52, .int .i64 t132), (53, .agg #[.int .i64 t133, .int .i64 t134])]) (fun s_ w' => (w'.cell? (ad126.add ((x5_2).toNat * 2)) = some (.bool ((rd_T28 l1 x5_2).f0)) ∧ w'.cell? ⟨(ad126.add ((x5_2).toNat * 2)).block, (ad126.add ((x5_2).toNat * 2)).off + 1, none⟩ = some (.int .i64 ((rd_T28 l1 x5_2).f1)) ∧ w'.cell? (ad126.add ((x5_2).toNat * 2)) = some (.bool ((rd_T28 l1 x5_2).f0)) ∧ w'.cell? ⟨(ad126.add ((x5_2).toNat * 2)).block, (ad126.add ((x5_2).toNat * 2)).off + 1, none⟩ = some (.int .i64 ((rd_T28 l1 x5_2).f1))) ∧ (w'.heap[s_]? = some (.cells #[.int .i64 0, .int .i64 0] 30 (0, 0))) ∧ (w.heap.size ≤ s_) ∧ (w.heap.size ≤ s_) ∧ (Below w.heap.size w w')) ?_ ?_
                    rotate_left
                    · intro hCont
                      refine two_ (i := 12) (j := 16) (Ni := some 51) (Nj := some 10) #[true, true, true, true, true, true, true, true, true, true, true, true, true, false, false, false, false, false, false] #[true, true, true, true, true, true, true, true, true, true, true, true, false, false, false, false, true, false, false] rfl rfl rfl rfl (two_of HT_.out (by kernel_rfl)) (by decide) (by decide) (fun K hK => ?_) (fun K hK => ?_)
                      · skip
                        refine goes_ Tryd.func13 (by kernel_rfl) rfl #[.int .i64 x0_2, .agg #[.bool ((rd_T28 l1 x5_2).f0), .int .i64 ((rd_T28 l1 x5_2).f1)]] (by rfl) rfl rfl (by (try simp only [List.map_toArray, List.map_cons, List.map_nil]); first | done | rfl | (simp only [List.length_drop, List.length_take]; rfl)) ?_
                        with_reducible refine (heraldref10_Next.calls x0_2 ((rd_T28 l1 x5_2).f0) ((rd_T28 l1 x5_2).f1) t132 t133 t134 _ A18.out).mono ?_
                        rintro e w61 ⟨rfl, hb⟩
                        refine ⟨_, rfl, ?_⟩
                        have n0_ := Aside0.mk (below_step (by repeat (first | (with_reducible first | exact HB.out | apply below_alloc | apply pw_below_drewN | apply below_drew1) | exact HB.out)) hb)
                        clear HB
                        have HB := n0_
                        clear n0_
                        (try clear hb)
                        (try clear hb2)
                        (try clear hk)
                        (try clear hi)
                        refine hK.out _ _ ⟨((HB.out.cell (World.block_lt_of_cell? w _ hw130_0)).trans hw130_0), ((HB.out.cell (World.block_lt_of_cell? w _ hw130_1)).trans hw130_1), ((HB.out.cell (World.block_lt_of_cell? w _ hw131_0)).trans hw131_0), ((HB.out.cell (World.block_lt_of_cell? w _ hw131_1)).trans hw131_1)⟩ (fun hHeld => ?_)
                        clear hK K
                        refine norm_ (a' := ?_) ?_ ?_
                        rotate_left
                        · show Act.put _ (some 51) _ = _
                          simp only [Act.put, List.setIfInBounds_toArray, List.set_cons_zero, List.set_cons_succ, i64_w, i32_w]
                          rfl
                        refine pure_ (i := 13) (N := some 38) (v := ?_) (a' := ?_) #[true, true, true, true, true, true, true, true, true, true, true, true, true, true, false, false, false, false, false] rfl rfl (any_of HT_.out (by kernel_rfl)) (fun _ _ _ h => h) (Or.inl ⟨by rfl, ?_⟩) ?_ ?_
                        rotate_left
                        · intro w'
                          go_simp
                          with_reducible rfl
                        rotate_left
                        · simp only [Act.put, List.setIfInBounds_toArray, List.set_cons_zero, List.set_cons_succ, i64_w, i32_w]
                          rfl
                        refine pure_ (i := 14) (N := some 52) (v := ?_) (a' := ?_) #[true, true, true, true, true, true, true, true, true, true, true, true, true, true, true, false, false, false, false] rfl rfl (any_of HT_.out (by kernel_rfl)) (fun _ _ _ h => h) (Or.inl ⟨by rfl, ?_⟩) ?_ ?_
                        rotate_left
                        · intro w'
                          go_simp
                          with_reducible rfl
                        rotate_left
                        · simp only [Act.put, List.setIfInBounds_toArray, List.set_cons_zero, List.set_cons_succ, i64_w, i32_w]
                          rfl
                        refine pure_ (i := 15) (N := some 53) (v := ?_) (a' := ?_) #[true, true, true, true, true, true, true, true, true, true, true, true, true, true, true, true, false, false, false] rfl rfl (any_of HT_.out (by kernel_rfl)) (fun _ _ _ h => h) (Or.inl ⟨by rfl, ?_⟩) ?_ ?_
                        rotate_left
                        · intro w'
                          go_simp
                          with_reducible rfl
                        rotate_left
                        · simp only [Act.put, List.setIfInBounds_toArray, List.set_cons_zero, List.set_cons_succ, i64_w, i32_w]
                          rfl
                        refine one_ (i := 16) (N := some 10) #[true, true, true, true, true, true, true, true, true, true, true, true, true, true, true, true, true, false, false] rfl rfl (one_of HT_.out (by kernel_rfl)) (by decide) (fun K hK => ?_)
                        refine box_step ?hg (N := 10) ?hd (cs := #[.int .i64 0, .int .i64 0]) (t := 30) ?hr ?_; (case hd => rfl); (case hg => rfl); (case hr => first | (go_simp; done) | (go_simp; rfl))
                        intro gb135 hg w62 hbox hb
                        have n0_ := Aside0.mk (below_step (by repeat (first | (with_reducible first | exact HB.out | apply below_alloc | apply pw_below_drewN | apply below_drew1) | exact HB.out)) hb)
                        have n1_ := Aside0.mk (hbox)
                        have n2_ := Aside0.mk ((by rw [hg]; exact (below_size (by repeat (first | (with_reducible first | exact HB.out | apply below_alloc | apply pw_below_drewN | apply below_drew1) | exact HB.out))) : w.heap.size ≤ gb135))
                        have n3_ := Aside0.mk ((by rw [hg]; exact (below_size (by repeat (first | (with_reducible first | exact HB.out | apply below_alloc | apply pw_below_drewN | apply below_drew1) | exact HB.out))) : w.heap.size ≤ gb135))
                        clear HB
                        have HB := n0_
                        have BK135 := n1_
                        have GW135 := n2_
                        have GE135 := n3_
                        clear n0_ n1_ n2_ n3_
                        clear hb hbox hg
                        refine hK.out _ _ ⟨((HB.out.cell (World.block_lt_of_cell? w _ hw130_0)).trans hw130_0), ((HB.out.cell (World.block_lt_of_cell? w _ hw130_1)).trans hw130_1), ((HB.out.cell (World.block_lt_of_cell? w _ hw131_0)).trans hw131_0), ((HB.out.cell (World.block_lt_of_cell? w _ hw131_1)).trans hw131_1)⟩ (fun hHeld => ?_)
                        clear hK K
                        refine norm_ (a' := ?_) ?_ ?_
                        rotate_left
                        · show Act.put _ (some 10) _ = _
                          simp only [Act.put, List.setIfInBounds_toArray, List.set_cons_zero, List.set_cons_succ, i64_w, i32_w]
                          rfl
                        exact norm_ (by simp only [putAll, Act.put, List.setIfInBounds_toArray, List.set_cons_zero, List.set_cons_succ]) (hCont (gb135) _ ⟨hHeld, (by (with_reducible repeat (first | refine blk_drewN ?_ _ | refine blk_drew ?_ | refine blk_alloc ?_ _)); exact BK135.out), GW135.out, GE135.out, (by repeat (first | (with_reducible first | exact HB.out | apply below_alloc | apply pw_below_drewN | apply below_drew1 | refine below_set ?_ GE135.out) | exact HB.out))⟩)
                      · skip
                        refine box_step ?hg (N := 10) ?hd (cs := #[.int .i64 0, .int .i64 0]) (t := 30) ?hr ?_; (case hd => rfl); (case hg => rfl); (case hr => first | (go_simp; done) | (go_simp; rfl))
                        intro gb135 hg w61 hbox hb
                        have n0_ := Aside0.mk (below_step (by repeat (first | (with_reducible first | exact HB.out | apply below_alloc | apply pw_below_drewN | apply below_drew1) | exact HB.out)) hb)
                        have n1_ := Aside0.mk (hbox)
                        have n2_ := Aside0.mk ((by rw [hg]; exact (below_size (by repeat (first | (with_reducible first | exact HB.out | apply below_alloc | apply pw_below_drewN | apply below_drew1) | exact HB.out))) : w.heap.size ≤ gb135))
                        have n3_ := Aside0.mk ((by rw [hg]; exact (below_size (by repeat (first | (with_reducible first | exact HB.out | apply below_alloc | apply pw_below_drewN | apply below_drew1) | exact HB.out))) : w.heap.size ≤ gb135))
                        clear HB
                        have HB := n0_
                        have BK135 := n1_
                        have GW135 := n2_
                        have GE135 := n3_
                        clear n0_ n1_ n2_ n3_
                        clear hb hbox hg
                        refine hK.out _ _ ⟨((HB.out.cell (World.block_lt_of_cell? w _ hw130_0)).trans hw130_0), ((HB.out.cell (World.block_lt_of_cell? w _ hw130_1)).trans hw130_1), ((HB.out.cell (World.block_lt_of_cell? w _ hw131_0)).trans hw131_0), ((HB.out.cell (World.block_lt_of_cell? w _ hw131_1)).trans hw131_1)⟩ (fun hHeld => ?_)
                        clear hK K
                        refine norm_ (a' := ?_) ?_ ?_
                        rotate_left
                        · show Act.put _ (some 10) _ = _
                          simp only [Act.put, List.setIfInBounds_toArray, List.set_cons_zero, List.set_cons_succ, i64_w, i32_w]
                          rfl
                        refine one_ (i := 12) (N := some 51) #[true, true, true, true, true, true, true, true, true, true, true, true, true, false, false, false, true, false, false] rfl rfl (one_of HT_.out (by kernel_rfl)) (by decide) (fun K hK => ?_)
                        refine goes_ Tryd.func13 (by kernel_rfl) rfl #[.int .i64 x0_2, .agg #[.bool ((rd_T28 l1 x5_2).f0), .int .i64 ((rd_T28 l1 x5_2).f1)]] (by rfl) rfl rfl (by (try simp only [List.map_toArray, List.map_cons, List.map_nil]); first | done | rfl | (simp only [List.length_drop, List.length_take]; rfl)) ?_
                        with_reducible refine (heraldref10_Next.calls x0_2 ((rd_T28 l1 x5_2).f0) ((rd_T28 l1 x5_2).f1) t132 t133 t134 _ A18.out).mono ?_
                        rintro e w62 ⟨rfl, hb⟩
                        refine ⟨_, rfl, ?_⟩
                        have n0_ := Aside0.mk (blk_below (g := gb135) (o := .cells #[.int .i64 0, .int .i64 0] 30 (0, 0)) (by (with_reducible repeat (first | refine blk_drewN ?_ _ | refine blk_drew ?_ | refine blk_alloc ?_ _)); exact BK135.out) hb)
                        have n1_ := Aside0.mk (below_step (by repeat (first | (with_reducible first | exact HB.out | apply below_alloc | apply pw_below_drewN | apply below_drew1 | refine below_set ?_ GE135.out) | exact HB.out)) hb)
                        clear BK135
                        clear HB
                        have BK135 := n0_
                        have HB := n1_
                        clear n0_ n1_
                        (try clear hb)
                        (try clear hb2)
                        (try clear hk)
                        (try clear hi)
                        refine hK.out _ _ ⟨((HB.out.cell (World.block_lt_of_cell? w _ hw130_0)).trans hw130_0), ((HB.out.cell (World.block_lt_of_cell? w _ hw130_1)).trans hw130_1), ((HB.out.cell (World.block_lt_of_cell? w _ hw131_0)).trans hw131_0), ((HB.out.cell (World.block_lt_of_cell? w _ hw131_1)).trans hw131_1)⟩ (fun hHeld => ?_)
                        clear hK K
                        refine norm_ (a' := ?_) ?_ ?_
                        rotate_left
                        · show Act.put _ (some 51) _ = _
                          simp only [Act.put, List.setIfInBounds_toArray, List.set_cons_zero, List.set_cons_succ, i64_w, i32_w]
                          rfl
                        refine pure_ (i := 13) (N := some 38) (v := ?_) (a' := ?_) #[true, true, true, true, true, true, true, true, true, true, true, true, true, true, false, false, true, false, false] rfl rfl (any_of HT_.out (by kernel_rfl)) (fun _ _ _ h => h) (Or.inl ⟨by rfl, ?_⟩) ?_ ?_
                        rotate_left
                        · intro w'
                          go_simp
                          with_reducible rfl
                        rotate_left
                        · simp only [Act.put, List.setIfInBounds_toArray, List.set_cons_zero, List.set_cons_succ, i64_w, i32_w]
                          rfl
                        refine pure_ (i := 14) (N := some 52) (v := ?_) (a' := ?_) #[true, true, true, true, true, true, true, true, true, true, true, true, true, true, true, false, true, false, false] rfl rfl (any_of HT_.out (by kernel_rfl)) (fun _ _ _ h => h) (Or.inl ⟨by rfl, ?_⟩) ?_ ?_
                        rotate_left
                        · intro w'
                          go_simp
                          with_reducible rfl
                        rotate_left
                        · simp only [Act.put, List.setIfInBounds_toArray, List.set_cons_zero, List.set_cons_succ, i64_w, i32_w]
                          rfl
                        refine pure_ (i := 15) (N := some 53) (v := ?_) (a' := ?_) #[true, true, true, true, true, true, true, true, true, true, true, true, true, true, true, true, true, false, false] rfl rfl (any_of HT_.out (by kernel_rfl)) (fun _ _ _ h => h) (Or.inl ⟨by rfl, ?_⟩) ?_ ?_
                        rotate_left
                        · intro w'
                          go_simp
                          with_reducible rfl
                        rotate_left
                        · simp only [Act.put, List.setIfInBounds_toArray, List.set_cons_zero, List.set_cons_succ, i64_w, i32_w]
                          rfl
                        exact norm_ (by simp only [putAll, Act.put, List.setIfInBounds_toArray, List.set_cons_zero, List.set_cons_succ]) (hCont (gb135) _ ⟨hHeld, (by (with_reducible repeat (first | refine blk_drewN ?_ _ | refine blk_drew ?_ | refine blk_alloc ?_ _)); exact BK135.out), GW135.out, GE135.out, (by repeat (first | (with_reducible first | exact HB.out | apply below_alloc | apply pw_below_drewN | apply below_drew1 | refine below_set ?_ GE135.out) | exact HB.out))⟩)
                    rintro gb135 w63 ⟨hS_, h0_, h1_, h2_, h3_⟩
                    have n0_ : Aside0 (w63.heap[gb135]? = some (.cells #[.int .i64 0, .int .i64 0] 30 (0, 0))) := ⟨h0_⟩
                    have n1_ : Aside0 (w.heap.size ≤ gb135) := ⟨h1_⟩
                    have n2_ : Aside0 (w.heap.size ≤ gb135) := ⟨h2_⟩
                    have n3_ : Aside0 (Below w.heap.size w w63) := ⟨h3_⟩
                    clear HB
                    clear h0_ h1_ h2_ h3_
                    have BK135 := n0_
                    have GW135 := n1_
                    have GE135 := n2_
                    have HB := n3_
                    clear n0_ n1_ n2_ n3_
                    have hHeld : w63.cell? (ad126.add ((x5_2).toNat * 2)) = some (.bool ((rd_T28 l1 x5_2).f0)) ∧ w63.cell? ⟨(ad126.add ((x5_2).toNat * 2)).block, (ad126.add ((x5_2).toNat * 2)).off + 1, none⟩ = some (.int .i64 ((rd_T28 l1 x5_2).f1)) ∧ w63.cell? (ad126.add ((x5_2).toNat * 2)) = some (.bool ((rd_T28 l1 x5_2).f0)) ∧ w63.cell? ⟨(ad126.add ((x5_2).toNat * 2)).block, (ad126.add ((x5_2).toNat * 2)).off + 1, none⟩ = some (.int .i64 ((rd_T28 l1 x5_2).f1)) := hS_
                    refine norm_ (a' := ?_) ?_ ?_
                    rotate_left
                    · simp only [putAll, Act.put, List.setIfInBounds_toArray, List.set_cons_zero, List.set_cons_succ]
                      rfl
                    refine pure_ (i := 17) (N := some 9) (v := ?_) (a' := ?_) #[true, true, true, true, true, true, true, true, true, true, true, true, true, true, true, true, true, true, false] rfl rfl (any_of HT_.out (by kernel_rfl)) (fun _ _ _ h => h) (Or.inl ⟨by rfl, ?_⟩) ?_ ?_
                    rotate_left
                    · intro w'
                      go_simp
                      with_reducible rfl
                    rotate_left
                    · simp only [Act.put, List.setIfInBounds_toArray, List.set_cons_zero, List.set_cons_succ, i64_w, i32_w]
                      rfl
                    refine one_ (i := 18) (N := none) #[true, true, true, true, true, true, true, true, true, true, true, true, true, true, true, true, true, true, true] rfl rfl (one_of HT_.out (by kernel_rfl)) (by decide) (fun K hK => ?_)
                    have hs64 : w63.cell? ⟨gb135, 0, none⟩ = some (.int .i64 0) := (blk_cell BK135.out 0).trans rfl
                    have hfs64 := blk_frozen BK135.out 0
                    have hs65 : w63.cell? ⟨gb135, 1, none⟩ = some (.int .i64 0) := (blk_cell BK135.out 1).trans rfl
                    have hfs65 := blk_frozen BK135.out 1
                    refine skip_ (w1 := ?_) (by rfl) rfl ?_ ?_
                    rotate_left
                    · go_simp
                      rfl
                    refine hK.out _ _ ⟨((cell_far (p := ⟨gb135, _, none⟩) (by first | exact Nat.ne_of_lt (Nat.lt_of_lt_of_le (by have := World.block_lt_of_cell? _ _ hw130_0; first | rwa [add_block] at this | exact this) GW135.out) | (rw [add_block]; exact Nat.ne_of_lt (Nat.lt_of_lt_of_le (by have := World.block_lt_of_cell? _ _ hw130_0; first | rwa [add_block] at this | exact this) GW135.out)) | (show (Addr.add _ _).block ≠ _; rw [add_block]; exact Nat.ne_of_lt (Nat.lt_of_lt_of_le (by have := World.block_lt_of_cell? _ _ hw130_0; first | rwa [add_block] at this | exact this) GW135.out)) | (dsimp only; exact Nat.ne_of_lt (Nat.lt_of_lt_of_le (by have := World.block_lt_of_cell? _ _ hw130_0; first | rwa [add_block] at this | exact this) GW135.out))) _).trans (((cell_far (p := ⟨gb135, _, none⟩) (by first | exact Nat.ne_of_lt (Nat.lt_of_lt_of_le (by have := World.block_lt_of_cell? _ _ hw130_0; first | rwa [add_block] at this | exact this) GW135.out) | (rw [add_block]; exact Nat.ne_of_lt (Nat.lt_of_lt_of_le (by have := World.block_lt_of_cell? _ _ hw130_0; first | rwa [add_block] at this | exact this) GW135.out)) | (show (Addr.add _ _).block ≠ _; rw [add_block]; exact Nat.ne_of_lt (Nat.lt_of_lt_of_le (by have := World.block_lt_of_cell? _ _ hw130_0; first | rwa [add_block] at this | exact this) GW135.out)) | (dsimp only; exact Nat.ne_of_lt (Nat.lt_of_lt_of_le (by have := World.block_lt_of_cell? _ _ hw130_0; first | rwa [add_block] at this | exact this) GW135.out))) _).trans (hHeld.1)))), ((cell_far (p := ⟨gb135, _, none⟩) (by first | exact Nat.ne_of_lt (Nat.lt_of_lt_of_le (by have := World.block_lt_of_cell? _ _ hw130_1; first | rwa [add_block] at this | exact this) GW135.out) | (rw [add_block]; exact Nat.ne_of_lt (Nat.lt_of_lt_of_le (by have := World.block_lt_of_cell? _ _ hw130_1; first | rwa [add_block] at this | exact this) GW135.out)) | (show (Addr.add _ _).block ≠ _; rw [add_block]; exact Nat.ne_of_lt (Nat.lt_of_lt_of_le (by have := World.block_lt_of_cell? _ _ hw130_1; first | rwa [add_block] at this | exact this) GW135.out)) | (dsimp only; exact Nat.ne_of_lt (Nat.lt_of_lt_of_le (by have := World.block_lt_of_cell? _ _ hw130_1; first | rwa [add_block] at this | exact this) GW135.out))) _).trans (((cell_far (p := ⟨gb135, _, none⟩) (by first | exact Nat.ne_of_lt (Nat.lt_of_lt_of_le (by have := World.block_lt_of_cell? _ _ hw130_1; first | rwa [add_block] at this | exact this) GW135.out) | (rw [add_block]; exact Nat.ne_of_lt (Nat.lt_of_lt_of_le (by have := World.block_lt_of_cell? _ _ hw130_1; first | rwa [add_block] at this | exact this) GW135.out)) | (show (Addr.add _ _).block ≠ _; rw [add_block]; exact Nat.ne_of_lt (Nat.lt_of_lt_of_le (by have := World.block_lt_of_cell? _ _ hw130_1; first | rwa [add_block] at this | exact this) GW135.out)) | (dsimp only; exact Nat.ne_of_lt (Nat.lt_of_lt_of_le (by have := World.block_lt_of_cell? _ _ hw130_1; first | rwa [add_block] at this | exact this) GW135.out))) _).trans (hHeld.2.1)))), ((cell_far (p := ⟨gb135, _, none⟩) (by first | exact Nat.ne_of_lt (Nat.lt_of_lt_of_le (by have := World.block_lt_of_cell? _ _ hw131_0; first | rwa [add_block] at this | exact this) GW135.out) | (rw [add_block]; exact Nat.ne_of_lt (Nat.lt_of_lt_of_le (by have := World.block_lt_of_cell? _ _ hw131_0; first | rwa [add_block] at this | exact this) GW135.out)) | (show (Addr.add _ _).block ≠ _; rw [add_block]; exact Nat.ne_of_lt (Nat.lt_of_lt_of_le (by have := World.block_lt_of_cell? _ _ hw131_0; first | rwa [add_block] at this | exact this) GW135.out)) | (dsimp only; exact Nat.ne_of_lt (Nat.lt_of_lt_of_le (by have := World.block_lt_of_cell? _ _ hw131_0; first | rwa [add_block] at this | exact this) GW135.out))) _).trans (((cell_far (p := ⟨gb135, _, none⟩) (by first | exact Nat.ne_of_lt (Nat.lt_of_lt_of_le (by have := World.block_lt_of_cell? _ _ hw131_0; first | rwa [add_block] at this | exact this) GW135.out) | (rw [add_block]; exact Nat.ne_of_lt (Nat.lt_of_lt_of_le (by have := World.block_lt_of_cell? _ _ hw131_0; first | rwa [add_block] at this | exact this) GW135.out)) | (show (Addr.add _ _).block ≠ _; rw [add_block]; exact Nat.ne_of_lt (Nat.lt_of_lt_of_le (by have := World.block_lt_of_cell? _ _ hw131_0; first | rwa [add_block] at this | exact this) GW135.out)) | (dsimp only; exact Nat.ne_of_lt (Nat.lt_of_lt_of_le (by have := World.block_lt_of_cell? _ _ hw131_0; first | rwa [add_block] at this | exact this) GW135.out))) _).trans (hHeld.2.2.1)))), ((cell_far (p := ⟨gb135, _, none⟩) (by first | exact Nat.ne_of_lt (Nat.lt_of_lt_of_le (by have := World.block_lt_of_cell? _ _ hw131_1; first | rwa [add_block] at this | exact this) GW135.out) | (rw [add_block]; exact Nat.ne_of_lt (Nat.lt_of_lt_of_le (by have := World.block_lt_of_cell? _ _ hw131_1; first | rwa [add_block] at this | exact this) GW135.out)) | (show (Addr.add _ _).block ≠ _; rw [add_block]; exact Nat.ne_of_lt (Nat.lt_of_lt_of_le (by have := World.block_lt_of_cell? _ _ hw131_1; first | rwa [add_block] at this | exact this) GW135.out)) | (dsimp only; exact Nat.ne_of_lt (Nat.lt_of_lt_of_le (by have := World.block_lt_of_cell? _ _ hw131_1; first | rwa [add_block] at this | exact this) GW135.out))) _).trans (((cell_far (p := ⟨gb135, _, none⟩) (by first | exact Nat.ne_of_lt (Nat.lt_of_lt_of_le (by have := World.block_lt_of_cell? _ _ hw131_1; first | rwa [add_block] at this | exact this) GW135.out) | (rw [add_block]; exact Nat.ne_of_lt (Nat.lt_of_lt_of_le (by have := World.block_lt_of_cell? _ _ hw131_1; first | rwa [add_block] at this | exact this) GW135.out)) | (show (Addr.add _ _).block ≠ _; rw [add_block]; exact Nat.ne_of_lt (Nat.lt_of_lt_of_le (by have := World.block_lt_of_cell? _ _ hw131_1; first | rwa [add_block] at this | exact this) GW135.out)) | (dsimp only; exact Nat.ne_of_lt (Nat.lt_of_lt_of_le (by have := World.block_lt_of_cell? _ _ hw131_1; first | rwa [add_block] at this | exact this) GW135.out))) _).trans (hHeld.2.2.2))))⟩ (fun hHeld => ?_)
                    clear hK K
                    refine done_ (done_of HT_.out (by kernel_rfl)) ?_
                    try go_wp2
                    go_ret
                    exact ⟨by first | rfl | (simp [errW_none, errW_some] <;> rfl) | (simp [*, errW_none, errW_some] <;> rfl), by repeat (first | (with_reducible first | exact HB.out | apply below_alloc | apply pw_below_drewN | apply below_drew1 | refine below_set ?_ GE135.out) | exact HB.out)⟩
                · rw [if_neg c16] at H
                  exact absurd H (by simp)
              · rw [if_neg c15] at H
                have c15b0 : decide (x5_2 < (l1.length : Int)) = false := decide_eq_false c15
                clear c15
                obtain rfl := Option.some.inj H
                go_wp2
                go_ret
                exact ⟨by first | rfl | (simp [errW_none, errW_some] <;> rfl) | (simp [*, errW_none, errW_some] <;> rfl), by repeat (first | (with_reducible first | exact HB.out | apply below_alloc | apply pw_below_drewN | apply below_drew1) | exact HB.out)⟩

end Go.Proofs.YtndhaakknkkpfaaDoor.QAll
