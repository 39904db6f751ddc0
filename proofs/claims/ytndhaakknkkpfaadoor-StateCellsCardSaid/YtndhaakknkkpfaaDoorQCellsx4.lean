/- Written by a program of this session (a changed run of the kit's printer): what the Go functions of one call tree answer, as plain functions, and that the machine's calls answer so; no condition but those in each statement. -/
import Derived.Test.YtndhaakknkkpfaaDoorQCellsx0
import Derived.Test.YtndhaakknkkpfaaDoorQCellsx2
import Derived.Test.YtndhaakknkkpfaaDoorQCellsx3
import Derived.Test.YtndhaakknkkpfaaDoorMState
namespace Go.Proofs.YtndhaakknkkpfaaDoor.QCells
open Go.RowKit Go.Proofs.YtndhaakknkkpfaaDoor.QAll Go.Proofs.YtndhaakknkkpfaaDoorW.PrintWords Go.Proofs.YtndhaakknkkpfaaDoorW.PrintLast Go.Proofs.YtndhaakknkkpfaaDoorW.PrintMore
attribute [local go_sem] max2_int min2_int max_two min_two max_three min_three max_four min_four   -- for this text's walks alone
set_option linter.unusedVariables false
set_option linter.unusedSimpArgs false

/-! ### heraldlaw10_StateCells: function 4 -/
mutual
def heraldlaw10_StateCells.l0 : Nat → Int → Int → Int → Option (Bool)
  | 0, _, _, _ => none
  | k + 1, x0, x1, x5 => if x5 < 8 then (if x5 = 7 then (heraldlaw10_StateCells.j1 k x0 x1 x5 x0) else (heraldlaw10_StateCells.j1 k x0 x1 x5 x5)) else (some true)
def heraldlaw10_StateCells.j1 : Nat → Int → Int → Int → Int → Option (Bool)
  | 0, _, _, _, _ => none
  | k + 1, x0, x1, x5, x6 => heraldlaw10_StateCells.l1 k x0 x1 x5 x6 0
def heraldlaw10_StateCells.l1 : Nat → Int → Int → Int → Int → Int → Option (Bool)
  | 0, _, _, _, _, _ => none
  | k + 1, x0, x1, x5, x6, x7 => if x7 ≤ 10 then (if x7 = 10 then (heraldlaw10_StateCells.j3 k x0 x1 x5 x6 x7 false x1) else (heraldlaw10_StateCells.j3 k x0 x1 x5 x6 x7 false x7)) else (heraldlaw10_StateCells.l0 k x0 x1 (wrap64 (x5 + 1)))
def heraldlaw10_StateCells.j3 : Nat → Int → Int → Int → Int → Int → Bool → Int → Option (Bool)
  | 0, _, _, _, _, _, _, _ => none
  | k + 1, x0, x1, x5, x6, x7, x124000, x124001 => (heraldlaw10_next.f x6 x124000 x124001).bind fun bt124 => ((heraldref10_Next.f x6 false x124001).bind fun bt127 => ((heraldlaw10_next.f x6 true x124001).bind fun bt131 => ((heraldref10_Next.f x6 true x124001).bind fun bt134 => (if bt124.1 = bt127.1 then (if bt124.2.1 = bt127.2.1 then (if bt124.2.2 = bt127.2.2 then (if bt131.1 = bt134.1 then (if bt131.2.1 = bt134.2.1 then (heraldlaw10_StateCells.j4 k x0 x1 x5 x6 x7 bt124.1 bt124.2.1 bt131.1 bt131.2.1 (bt131.2.2 != bt134.2.2) true x124001) else (heraldlaw10_StateCells.j4 k x0 x1 x5 x6 x7 bt124.1 bt124.2.1 bt131.1 bt131.2.1 true true x124001)) else (heraldlaw10_StateCells.j4 k x0 x1 x5 x6 x7 bt124.1 bt124.2.1 bt131.1 bt131.2.1 true true x124001)) else (heraldlaw10_StateCells.j4 k x0 x1 x5 x6 x7 bt124.1 bt124.2.1 bt131.1 bt131.2.1 true true x124001)) else (heraldlaw10_StateCells.j4 k x0 x1 x5 x6 x7 bt124.1 bt124.2.1 bt131.1 bt131.2.1 true true x124001)) else (heraldlaw10_StateCells.j4 k x0 x1 x5 x6 x7 bt124.1 bt124.2.1 bt131.1 bt131.2.1 true true x124001)))))
def heraldlaw10_StateCells.j4 : Nat → Int → Int → Int → Int → Int → Int → Int → Int → Int → Bool → Bool → Int → Option (Bool)
  | 0, _, _, _, _, _, _, _, _, _, _, _, _ => none
  | k + 1, x0, x1, x5, x6, x7, x9, x10, x14, x15, x102, x124000, x124001 => if x102 = true then (some false) else (if x6 ≥ 0 then (if x6 ≤ 6 then (if x124001 ≥ 1 then (heraldlaw10_StateCells.j5 k x0 x1 x5 x6 x7 x9 x10 x14 x15 (decide (x124001 ≤ 8))) else (heraldlaw10_StateCells.j5 k x0 x1 x5 x6 x7 x9 x10 x14 x15 false)) else (heraldlaw10_StateCells.j5 k x0 x1 x5 x6 x7 x9 x10 x14 x15 false)) else (heraldlaw10_StateCells.j5 k x0 x1 x5 x6 x7 x9 x10 x14 x15 false))
def heraldlaw10_StateCells.j5 : Nat → Int → Int → Int → Int → Int → Int → Int → Int → Int → Bool → Option (Bool)
  | 0, _, _, _, _, _, _, _, _, _, _ => none
  | k + 1, x0, x1, x5, x6, x7, x9, x10, x14, x15, x19 => if x10 = 0 then (if x15 = 0 then (if x19 = true then (if x15 = 4 then (heraldlaw10_StateCells.j6 k x0 x1 x5 x6 x7 true) else (heraldlaw10_StateCells.j6 k x0 x1 x5 x6 x7 false)) else (if x10 = 4 then (heraldlaw10_StateCells.j6 k x0 x1 x5 x6 x7 (x15 != 4)) else (heraldlaw10_StateCells.j6 k x0 x1 x5 x6 x7 true))) else (if x14 = x6 then (if x19 = true then (if x15 = 4 then (heraldlaw10_StateCells.j6 k x0 x1 x5 x6 x7 true) else (heraldlaw10_StateCells.j6 k x0 x1 x5 x6 x7 false)) else (if x10 = 4 then (heraldlaw10_StateCells.j6 k x0 x1 x5 x6 x7 (x15 != 4)) else (heraldlaw10_StateCells.j6 k x0 x1 x5 x6 x7 true))) else (heraldlaw10_StateCells.j6 k x0 x1 x5 x6 x7 true))) else (if x9 = x6 then (if x15 = 0 then (if x10 = 4 then (if x19 = true then (if x15 = 4 then (heraldlaw10_StateCells.j6 k x0 x1 x5 x6 x7 true) else (heraldlaw10_StateCells.j6 k x0 x1 x5 x6 x7 false)) else (heraldlaw10_StateCells.j6 k x0 x1 x5 x6 x7 (x15 != 4))) else (heraldlaw10_StateCells.j6 k x0 x1 x5 x6 x7 true)) else (if x14 = x6 then (if x10 = 4 then (if x19 = true then (if x15 = 4 then (heraldlaw10_StateCells.j6 k x0 x1 x5 x6 x7 true) else (heraldlaw10_StateCells.j6 k x0 x1 x5 x6 x7 false)) else (heraldlaw10_StateCells.j6 k x0 x1 x5 x6 x7 (x15 != 4))) else (heraldlaw10_StateCells.j6 k x0 x1 x5 x6 x7 true)) else (heraldlaw10_StateCells.j6 k x0 x1 x5 x6 x7 true))) else (heraldlaw10_StateCells.j6 k x0 x1 x5 x6 x7 true))
def heraldlaw10_StateCells.j6 : Nat → Int → Int → Int → Int → Int → Bool → Option (Bool)
  | 0, _, _, _, _, _, _ => none
  | k + 1, x0, x1, x5, x6, x7, x161 => if x161 = true then (some false) else (heraldlaw10_StateCells.l1 k x0 x1 x5 x6 (wrap64 (x7 + 1)))
end
def heraldlaw10_StateCells.f (k : Nat) (a0 : Int) (a1 : Int) : Option (Bool) := (heraldlaw10_head.f k).bind fun t122 => (if t122 = true then (heraldlaw10_StateCells.l0 k a0 a1 0) else (some false))
theorem heraldlaw10_StateCells.mono_l : ∀ k, (∀ y0 y1 y2, LeO (heraldlaw10_StateCells.l0 k y0 y1 y2) (heraldlaw10_StateCells.l0 (k + 1) y0 y1 y2)) ∧ (∀ y0 y1 y2 y3, LeO (heraldlaw10_StateCells.j1 k y0 y1 y2 y3) (heraldlaw10_StateCells.j1 (k + 1) y0 y1 y2 y3)) ∧ (∀ y0 y1 y2 y3 y4, LeO (heraldlaw10_StateCells.l1 k y0 y1 y2 y3 y4) (heraldlaw10_StateCells.l1 (k + 1) y0 y1 y2 y3 y4)) ∧ (∀ y0 y1 y2 y3 y4 y5 y6, LeO (heraldlaw10_StateCells.j3 k y0 y1 y2 y3 y4 y5 y6) (heraldlaw10_StateCells.j3 (k + 1) y0 y1 y2 y3 y4 y5 y6)) ∧ (∀ y0 y1 y2 y3 y4 y5 y6 y7 y8 y9 y10 y11, LeO (heraldlaw10_StateCells.j4 k y0 y1 y2 y3 y4 y5 y6 y7 y8 y9 y10 y11) (heraldlaw10_StateCells.j4 (k + 1) y0 y1 y2 y3 y4 y5 y6 y7 y8 y9 y10 y11)) ∧ (∀ y0 y1 y2 y3 y4 y5 y6 y7 y8 y9, LeO (heraldlaw10_StateCells.j5 k y0 y1 y2 y3 y4 y5 y6 y7 y8 y9) (heraldlaw10_StateCells.j5 (k + 1) y0 y1 y2 y3 y4 y5 y6 y7 y8 y9)) ∧ (∀ y0 y1 y2 y3 y4 y5, LeO (heraldlaw10_StateCells.j6 k y0 y1 y2 y3 y4 y5) (heraldlaw10_StateCells.j6 (k + 1) y0 y1 y2 y3 y4 y5))
  | 0 => ⟨fun _ _ _ r h => by simp [heraldlaw10_StateCells.l0] at h, fun _ _ _ _ r h => by simp [heraldlaw10_StateCells.j1] at h, fun _ _ _ _ _ r h => by simp [heraldlaw10_StateCells.l1] at h, fun _ _ _ _ _ _ _ r h => by simp [heraldlaw10_StateCells.j3] at h, fun _ _ _ _ _ _ _ _ _ _ _ _ r h => by simp [heraldlaw10_StateCells.j4] at h, fun _ _ _ _ _ _ _ _ _ _ r h => by simp [heraldlaw10_StateCells.j5] at h, fun _ _ _ _ _ _ r h => by simp [heraldlaw10_StateCells.j6] at h⟩
  | k + 1 => by
    obtain ⟨ih0, ih1, ih2, ih3, ih4, ih5, ih6⟩ := heraldlaw10_StateCells.mono_l k
    refine ⟨?_, ?_, ?_, ?_, ?_, ?_, ?_⟩
    · intro y0 y1 y2
      unfold heraldlaw10_StateCells.l0
      repeat' first
      | (with_reducible exact ih0 _ _ _)
      | (with_reducible exact ih1 _ _ _ _)
      | (with_reducible exact ih2 _ _ _ _ _)
      | (with_reducible exact ih3 _ _ _ _ _ _ _)
      | (with_reducible exact ih4 _ _ _ _ _ _ _ _ _ _ _ _)
      | (with_reducible exact ih5 _ _ _ _ _ _ _ _ _ _)
      | (with_reducible exact ih6 _ _ _ _ _ _)
      | (with_reducible exact heraldlaw10_head.mono _)
      | (with_reducible exact LeO.refl _)
      | (with_reducible exact LeO.none _)
      | (with_reducible refine LeO.ite ?_ ?_)
      | (with_reducible refine LeO.bind ?_ (fun _ => ?_))
      | exact ih0 _ _ _
      | exact ih1 _ _ _ _
      | exact ih2 _ _ _ _ _
      | exact ih3 _ _ _ _ _ _ _
      | exact ih4 _ _ _ _ _ _ _ _ _ _ _ _
      | exact ih5 _ _ _ _ _ _ _ _ _ _
      | exact ih6 _ _ _ _ _ _
      | exact heraldlaw10_head.mono _
      | exact LeO.none _
      | refine LeO.ite ?_ ?_
      | refine LeO.bind ?_ (fun _ => ?_)
    · intro y0 y1 y2 y3
      unfold heraldlaw10_StateCells.j1
      repeat' first
      | (with_reducible exact ih0 _ _ _)
      | (with_reducible exact ih1 _ _ _ _)
      | (with_reducible exact ih2 _ _ _ _ _)
      | (with_reducible exact ih3 _ _ _ _ _ _ _)
      | (with_reducible exact ih4 _ _ _ _ _ _ _ _ _ _ _ _)
      | (with_reducible exact ih5 _ _ _ _ _ _ _ _ _ _)
      | (with_reducible exact ih6 _ _ _ _ _ _)
      | (with_reducible exact heraldlaw10_head.mono _)
      | (with_reducible exact LeO.refl _)
      | (with_reducible exact LeO.none _)
      | (with_reducible refine LeO.ite ?_ ?_)
      | (with_reducible refine LeO.bind ?_ (fun _ => ?_))
      | exact ih0 _ _ _
      | exact ih1 _ _ _ _
      | exact ih2 _ _ _ _ _
      | exact ih3 _ _ _ _ _ _ _
      | exact ih4 _ _ _ _ _ _ _ _ _ _ _ _
      | exact ih5 _ _ _ _ _ _ _ _ _ _
      | exact ih6 _ _ _ _ _ _
      | exact heraldlaw10_head.mono _
      | exact LeO.none _
      | refine LeO.ite ?_ ?_
      | refine LeO.bind ?_ (fun _ => ?_)
    · intro y0 y1 y2 y3 y4
      unfold heraldlaw10_StateCells.l1
      repeat' first
      | (with_reducible exact ih0 _ _ _)
      | (with_reducible exact ih1 _ _ _ _)
      | (with_reducible exact ih2 _ _ _ _ _)
      | (with_reducible exact ih3 _ _ _ _ _ _ _)
      | (with_reducible exact ih4 _ _ _ _ _ _ _ _ _ _ _ _)
      | (with_reducible exact ih5 _ _ _ _ _ _ _ _ _ _)
      | (with_reducible exact ih6 _ _ _ _ _ _)
      | (with_reducible exact heraldlaw10_head.mono _)
      | (with_reducible exact LeO.refl _)
      | (with_reducible exact LeO.none _)
      | (with_reducible refine LeO.ite ?_ ?_)
      | (with_reducible refine LeO.bind ?_ (fun _ => ?_))
      | exact ih0 _ _ _
      | exact ih1 _ _ _ _
      | exact ih2 _ _ _ _ _
      | exact ih3 _ _ _ _ _ _ _
      | exact ih4 _ _ _ _ _ _ _ _ _ _ _ _
      | exact ih5 _ _ _ _ _ _ _ _ _ _
      | exact ih6 _ _ _ _ _ _
      | exact heraldlaw10_head.mono _
      | exact LeO.none _
      | refine LeO.ite ?_ ?_
      | refine LeO.bind ?_ (fun _ => ?_)
    · intro y0 y1 y2 y3 y4 y5 y6
      unfold heraldlaw10_StateCells.j3
      repeat' first
      | (with_reducible exact ih0 _ _ _)
      | (with_reducible exact ih1 _ _ _ _)
      | (with_reducible exact ih2 _ _ _ _ _)
      | (with_reducible exact ih3 _ _ _ _ _ _ _)
      | (with_reducible exact ih4 _ _ _ _ _ _ _ _ _ _ _ _)
      | (with_reducible exact ih5 _ _ _ _ _ _ _ _ _ _)
      | (with_reducible exact ih6 _ _ _ _ _ _)
      | (with_reducible exact heraldlaw10_head.mono _)
      | (with_reducible exact LeO.refl _)
      | (with_reducible exact LeO.none _)
      | (with_reducible refine LeO.ite ?_ ?_)
      | (with_reducible refine LeO.bind ?_ (fun _ => ?_))
      | exact ih0 _ _ _
      | exact ih1 _ _ _ _
      | exact ih2 _ _ _ _ _
      | exact ih3 _ _ _ _ _ _ _
      | exact ih4 _ _ _ _ _ _ _ _ _ _ _ _
      | exact ih5 _ _ _ _ _ _ _ _ _ _
      | exact ih6 _ _ _ _ _ _
      | exact heraldlaw10_head.mono _
      | exact LeO.none _
      | refine LeO.ite ?_ ?_
      | refine LeO.bind ?_ (fun _ => ?_)
    · intro y0 y1 y2 y3 y4 y5 y6 y7 y8 y9 y10 y11
      unfold heraldlaw10_StateCells.j4
      repeat' first
      | (with_reducible exact ih0 _ _ _)
      | (with_reducible exact ih1 _ _ _ _)
      | (with_reducible exact ih2 _ _ _ _ _)
      | (with_reducible exact ih3 _ _ _ _ _ _ _)
      | (with_reducible exact ih4 _ _ _ _ _ _ _ _ _ _ _ _)
      | (with_reducible exact ih5 _ _ _ _ _ _ _ _ _ _)
      | (with_reducible exact ih6 _ _ _ _ _ _)
      | (with_reducible exact heraldlaw10_head.mono _)
      | (with_reducible exact LeO.refl _)
      | (with_reducible exact LeO.none _)
      | (with_reducible refine LeO.ite ?_ ?_)
      | (with_reducible refine LeO.bind ?_ (fun _ => ?_))
      | exact ih0 _ _ _
      | exact ih1 _ _ _ _
      | exact ih2 _ _ _ _ _
      | exact ih3 _ _ _ _ _ _ _
      | exact ih4 _ _ _ _ _ _ _ _ _ _ _ _
      | exact ih5 _ _ _ _ _ _ _ _ _ _
      | exact ih6 _ _ _ _ _ _
      | exact heraldlaw10_head.mono _
      | exact LeO.none _
      | refine LeO.ite ?_ ?_
      | refine LeO.bind ?_ (fun _ => ?_)
    · intro y0 y1 y2 y3 y4 y5 y6 y7 y8 y9
      unfold heraldlaw10_StateCells.j5
      repeat' first
      | (with_reducible exact ih0 _ _ _)
      | (with_reducible exact ih1 _ _ _ _)
      | (with_reducible exact ih2 _ _ _ _ _)
      | (with_reducible exact ih3 _ _ _ _ _ _ _)
      | (with_reducible exact ih4 _ _ _ _ _ _ _ _ _ _ _ _)
      | (with_reducible exact ih5 _ _ _ _ _ _ _ _ _ _)
      | (with_reducible exact ih6 _ _ _ _ _ _)
      | (with_reducible exact heraldlaw10_head.mono _)
      | (with_reducible exact LeO.refl _)
      | (with_reducible exact LeO.none _)
      | (with_reducible refine LeO.ite ?_ ?_)
      | (with_reducible refine LeO.bind ?_ (fun _ => ?_))
      | exact ih0 _ _ _
      | exact ih1 _ _ _ _
      | exact ih2 _ _ _ _ _
      | exact ih3 _ _ _ _ _ _ _
      | exact ih4 _ _ _ _ _ _ _ _ _ _ _ _
      | exact ih5 _ _ _ _ _ _ _ _ _ _
      | exact ih6 _ _ _ _ _ _
      | exact heraldlaw10_head.mono _
      | exact LeO.none _
      | refine LeO.ite ?_ ?_
      | refine LeO.bind ?_ (fun _ => ?_)
    · intro y0 y1 y2 y3 y4 y5
      unfold heraldlaw10_StateCells.j6
      repeat' first
      | (with_reducible exact ih0 _ _ _)
      | (with_reducible exact ih1 _ _ _ _)
      | (with_reducible exact ih2 _ _ _ _ _)
      | (with_reducible exact ih3 _ _ _ _ _ _ _)
      | (with_reducible exact ih4 _ _ _ _ _ _ _ _ _ _ _ _)
      | (with_reducible exact ih5 _ _ _ _ _ _ _ _ _ _)
      | (with_reducible exact ih6 _ _ _ _ _ _)
      | (with_reducible exact heraldlaw10_head.mono _)
      | (with_reducible exact LeO.refl _)
      | (with_reducible exact LeO.none _)
      | (with_reducible refine LeO.ite ?_ ?_)
      | (with_reducible refine LeO.bind ?_ (fun _ => ?_))
      | exact ih0 _ _ _
      | exact ih1 _ _ _ _
      | exact ih2 _ _ _ _ _
      | exact ih3 _ _ _ _ _ _ _
      | exact ih4 _ _ _ _ _ _ _ _ _ _ _ _
      | exact ih5 _ _ _ _ _ _ _ _ _ _
      | exact ih6 _ _ _ _ _ _
      | exact heraldlaw10_head.mono _
      | exact LeO.none _
      | refine LeO.ite ?_ ?_
      | refine LeO.bind ?_ (fun _ => ?_)
theorem heraldlaw10_StateCells.mono : ∀ a0 a1 k, LeO (heraldlaw10_StateCells.f k a0 a1) (heraldlaw10_StateCells.f (k + 1) a0 a1) := by
  intro a0 a1 k
  obtain ⟨ih0, ih1, ih2, ih3, ih4, ih5, ih6⟩ := heraldlaw10_StateCells.mono_l k
  unfold heraldlaw10_StateCells.f
  repeat' first
      | (with_reducible exact ih0 _ _ _)
      | (with_reducible exact ih1 _ _ _ _)
      | (with_reducible exact ih2 _ _ _ _ _)
      | (with_reducible exact ih3 _ _ _ _ _ _ _)
      | (with_reducible exact ih4 _ _ _ _ _ _ _ _ _ _ _ _)
      | (with_reducible exact ih5 _ _ _ _ _ _ _ _ _ _)
      | (with_reducible exact ih6 _ _ _ _ _ _)
      | (with_reducible exact heraldlaw10_head.mono _)
      | (with_reducible exact LeO.refl _)
      | (with_reducible exact LeO.none _)
      | (with_reducible refine LeO.ite ?_ ?_)
      | (with_reducible refine LeO.bind ?_ (fun _ => ?_))
      | exact ih0 _ _ _
      | exact ih1 _ _ _ _
      | exact ih2 _ _ _ _ _
      | exact ih3 _ _ _ _ _ _ _
      | exact ih4 _ _ _ _ _ _ _ _ _ _ _ _
      | exact ih5 _ _ _ _ _ _ _ _ _ _
      | exact ih6 _ _ _ _ _ _
      | exact heraldlaw10_head.mono _
      | exact LeO.none _
      | refine LeO.ite ?_ ?_
      | refine LeO.bind ?_ (fun _ => ?_)
set_option maxHeartbeats 8000000 in
set_option maxRecDepth 100000 in
theorem heraldlaw10_StateCells.calls (k : Nat) (a0 : Int) (a1 : Int) (r : Bool) (w : World) (hG : GL w) (h : heraldlaw10_StateCells.f k a0 a1 = some r) :
    Calls Tryd.prog 4 #[.int .i64 a0, .int .i64 a1] w fun e w' => e = .returned (.bool r) ∧ Below w.heap.size w w' := by
  have hu28 := Tryd.underlying28
  have hu33 := Tryd.underlying33
  have hu30 := Tryd.underlying30
  have HG := Aside0.mk hG
  clear hG
  have HB := Aside0.mk (Below.refl w.heap.size w)
  have H : ((heraldlaw10_head.f k).bind fun t122 => (if t122 = true then (heraldlaw10_StateCells.l0 k a0 a1 0) else (some false))) = some r := h
  clear h
  replace H := Option.bind_eq_some_iff.mp H
  obtain ⟨t122, A30, H⟩ := H
  replace H : (if t122 = true then (heraldlaw10_StateCells.l0 k a0 a1 0) else (some false)) = some r := H
  have A3 := Aside0.mk A30
  clear A30
  by_cases c4 : t122 = true
  · subst c4
    have H1 : (heraldlaw10_StateCells.l0 k a0 a1 0) = some r := by rw [if_pos rfl] at H; exact H
    clear H
    have H := H1
    clear H1
    have H' := Aside0.mk H
    clear H
    go_enter Tryd.func4, Tryd.ntmps4
    go_wp2_with (first | ((with_reducible refine gate_callee (f := 8) rfl ?_); refine goesL_ (some 20) rfl rfl Tryd.func8 (by kernel_rfl) rfl #[] rfl (by (try simp only [List.map_toArray, List.map_cons, List.map_nil]); first | done | rfl | (simp only [List.length_drop, List.length_take]; rfl)) ?_; (with_reducible refine (heraldlaw10_head.calls k  true _ ?side1 A3.out).mono ?_); (case side1 => exact GL.below HG.out (by repeat (first | (with_reducible first | exact HB.out | apply below_alloc | apply pw_below_drewN | apply below_drew1) | exact HB.out))); rintro e w5 ⟨rfl, hb⟩; refine ⟨_, rfl, ?_⟩; have n0_ := Aside0.mk (below_step (by repeat (first | (with_reducible first | exact HB.out | apply below_alloc | apply pw_below_drewN | apply below_drew1) | exact HB.out)) hb); clear HB; have HB := n0_; clear n0_; (try clear hb); (try clear hb2); (try clear hk); (try clear hi)))
    go_loopg [5] k (fun kq v5 w' => ∃ (x5_1 : Int), v5 = .int .i64 x5_1 ∧ Aside0 (heraldlaw10_StateCells.l0 kq a0 a1 x5_1 = some r) ∧ Aside0 (kq ≤ k) ∧ Aside0 (Below w.heap.size w w'))
    case atStart => exact ⟨(0), (by first | rfl | (simp; done) | (simp [*]; done)), H', ⟨Nat.le_refl _⟩, ⟨by repeat (first | (with_reducible first | exact HB.out | apply below_alloc | apply pw_below_drewN | apply below_drew1) | exact HB.out)⟩⟩
    case round =>
      clear H'
      try clear p2
      try clear c4
      obtain ⟨x5_1, rfl, HA, HK1, HB⟩ := hrel
      cases gk with
      | zero => exact absurd HA.out (by simp [heraldlaw10_StateCells.l0])
      | succ k1 =>
        have H := HA.out
        clear HA
        simp only [heraldlaw10_StateCells.l0] at H
        by_cases c6 : x5_1 < 8
        · rw [if_pos c6] at H
          have c6b0 : decide (x5_1 < 8) = true := decide_eq_true c6
          clear c6
          have HC7 := Aside0.mk H
          clear H
          go_upto_if 28 with (fail)
          go_cut [6] (fun v6 wc => ∃ (kq : Nat) (x6_6 : Int), v6 = .int .i64 x6_6 ∧ Aside0 (heraldlaw10_StateCells.j1 kq a0 a1 x5_1 x6_6 = some r) ∧ Aside0 (kq ≤ k1) ∧ Aside0 (Below w.heap.size w wc))
          case first =>
            have H := HC7.out
            clear HC7
            by_cases c8 : x5_1 = 7
            · rw [if_pos c8] at H
              have c8b0 : (x5_1 == 7) = true := beq_iff_eq.mpr c8
              have c8b1 : (x5_1 != 7) = false := bne_eq_false_iff_eq.mpr c8
              clear c8
              (first | rw [c8b0] | (simp only [i64_w, i32_w]; rw [c8b0]) | skip)
              as_aux_lemma =>
                have H' := Aside0.mk H
                clear H
                go_wp2
                go_meet
                case rel => exact ⟨_, (a0), (by first | rfl | (simp; done) | (simp [*]; done)), H', ⟨by have := HK1.out; first | omega | exact Nat.le_refl _⟩, ⟨by repeat (first | (with_reducible first | exact HB.out | apply below_alloc | apply pw_below_drewN | apply below_drew1) | exact HB.out)⟩⟩
            · rw [if_neg c8] at H
              have c8b0 : (x5_1 == 7) = false := beq_eq_false_iff_ne.mpr c8
              have c8b1 : (x5_1 != 7) = true := bne_iff_ne.mpr c8
              (first | rw [c8b0] | (simp only [i64_w, i32_w]; rw [c8b0]) | skip)
              as_aux_lemma =>
                have H' := Aside0.mk H
                clear H
                go_wp2
                go_meet
                case rel => exact ⟨_, (x5_1), (by first | rfl | (simp; done) | (simp [*]; done)), H', ⟨by have := HK1.out; first | omega | exact Nat.le_refl _⟩, ⟨by repeat (first | (with_reducible first | exact HB.out | apply below_alloc | apply pw_below_drewN | apply below_drew1) | exact HB.out)⟩⟩
          case rest =>
            clear HC7
            try clear p2
            try clear c4
            try clear c6
            try clear c6b0
            try clear c8
            try clear c8b0
            try clear c8b1
            try clear p2
            obtain ⟨kq, x6_6, rfl, HA, HJ6, HB⟩ := hcut
            cases kq with
            | zero => exact absurd HA.out (by simp [heraldlaw10_StateCells.j1])
            | succ kj6 =>
              have H := HA.out
              clear HA
              simp only [heraldlaw10_StateCells.j1] at H
              have H' := Aside0.mk H
              clear H
              go_wp2
              go_loopg [7] kj6 (fun kq v7 w' => ∃ (x7_3 : Int), v7 = .int .i64 x7_3 ∧ Aside0 (heraldlaw10_StateCells.l1 kq a0 a1 x5_1 x6_6 x7_3 = some r) ∧ Aside0 (kq ≤ kj6) ∧ Aside0 (Below w.heap.size w w'))
              case atStart => exact ⟨(0), (by first | rfl | (simp; done) | (simp [*]; done)), H', ⟨Nat.le_refl _⟩, ⟨by repeat (first | (with_reducible first | exact HB.out | apply below_alloc | apply pw_below_drewN | apply below_drew1) | exact HB.out)⟩⟩
              case round =>
                clear H'
                try clear p2
                try clear c4
                try clear c6
                try clear c6b0
                try clear c8
                try clear c8b0
                try clear c8b1
                try clear p2
                obtain ⟨x7_3, rfl, HA, HK3, HB⟩ := hrel
                cases gk with
                | zero => exact absurd HA.out (by simp [heraldlaw10_StateCells.l1])
                | succ k3 =>
                  have H := HA.out
                  clear HA
                  simp only [heraldlaw10_StateCells.l1] at H
                  by_cases c9 : x7_3 ≤ 10
                  · rw [if_pos c9] at H
                    have c9b0 : decide (x7_3 ≤ 10) = true := decide_eq_true c9
                    clear c9
                    have HC10 := Aside0.mk H
                    clear H
                    go_upto_if 37 with (first | ((with_reducible refine gate_dst (N := 8) rfl ?_); refine box_event ?hg (N := 8) ?hd (cs := #[.bool false, .int .i64 0]) (t := 28) ?hr ?_; (case hd => rfl); (case hg => rfl); (case hr => first | (go_simp; done) | (go_simp; rfl)); intro gb123 hg w11 hbox hb; have n0_ := Aside0.mk (below_step (by repeat (first | (with_reducible first | exact HB.out | apply below_alloc | apply pw_below_drewN | apply below_drew1) | exact HB.out)) hb); have n1_ := Aside0.mk (hbox); have n2_ := Aside0.mk ((by rw [hg]; exact (below_size (by repeat (first | (with_reducible first | exact HB.out | apply below_alloc | apply pw_below_drewN | apply below_drew1) | exact HB.out))) : w.heap.size ≤ gb123)); have n3_ := Aside0.mk ((by rw [hg]; exact (below_size (by repeat (first | (with_reducible first | exact HB.out | apply below_alloc | apply pw_below_drewN | apply below_drew1) | exact HB.out))) : w.heap.size ≤ gb123)); clear HB; have HB := n0_; have BK123 := n1_; have GW123 := n2_; have GE123 := n3_; clear n0_ n1_ n2_ n3_; clear hb hbox hg; have hcz12_0 : w11.cell? ⟨gb123, 0, none⟩ = some (.bool false) := (blk_cell BK123.out 0).trans rfl; have hcz12_1 : w11.cell? ⟨gb123, 1, none⟩ = some (.int .i64 0) := (blk_cell BK123.out 1).trans rfl; have hfz12_0 := blk_frozen BK123.out 0; have hfz12_1 := blk_frozen BK123.out 1))
                    (try simp only [Act.put, List.setIfInBounds_toArray, List.set_cons_zero, List.set_cons_succ])
                    go_cut [] (fun wc => ∃ (kq : Nat) (x124001_9 : Int), Aside0 (heraldlaw10_StateCells.j3 kq a0 a1 x5_1 x6_6 x7_3 false x124001_9 = some r) ∧ Aside0 (kq ≤ k3) ∧ Aside0 (wc.heap[gb123]? = some (.cells #[.bool false, .int .i64 x124001_9] 28 (0, 0))) ∧ Aside0 (Below w.heap.size w wc))
                    case first =>
                      have H := HC10.out
                      clear HC10
                      by_cases c13 : x7_3 = 10
                      · rw [if_pos c13] at H
                        have c13b0 : (x7_3 == 10) = true := beq_iff_eq.mpr c13
                        have c13b1 : (x7_3 != 10) = false := bne_eq_false_iff_eq.mpr c13
                        clear c13
                        (first | rw [c13b0] | (simp only [i64_w, i32_w]; rw [c13b0]) | skip)
                        as_aux_lemma =>
                          have H' := Aside0.mk H
                          clear H
                          have hcz14_0 : w11.cell? ⟨gb123, 0, none⟩ = some (.bool false) := (blk_cell BK123.out 0).trans rfl
                          have hcz14_1 : w11.cell? ⟨gb123, 1, none⟩ = some (.int .i64 0) := (blk_cell BK123.out 1).trans rfl
                          have hfz14_0 := blk_frozen BK123.out 0
                          have hfz14_1 := blk_frozen BK123.out 1
                          go_wp2
                          go_meet
                          case rel => exact ⟨_, (a1), H', ⟨by have := HK1.out; have := HJ6.out; have := HK3.out; first | omega | exact Nat.le_refl _⟩, ⟨by (with_reducible repeat (first | refine blk_drewN ?_ _ | refine blk_drew ?_ | refine blk_alloc ?_ _)); refine blk_put (cs := #[.bool false, .int .i64 x7_3]) ?_ 1 _ rfl; (with_reducible repeat (first | refine blk_drewN ?_ _ | refine blk_drew ?_ | refine blk_alloc ?_ _)); refine blk_put (cs := #[.bool false, .int .i64 0]) ?_ 1 _ rfl; (with_reducible repeat (first | refine blk_drewN ?_ _ | refine blk_drew ?_ | refine blk_alloc ?_ _)); refine blk_put (cs := #[.bool false, .int .i64 0]) ?_ 0 _ rfl; (with_reducible repeat (first | refine blk_drewN ?_ _ | refine blk_drew ?_ | refine blk_alloc ?_ _)); exact BK123.out⟩, ⟨by repeat (first | (with_reducible first | exact HB.out | apply below_alloc | apply pw_below_drewN | apply below_drew1 | refine below_set ?_ GE123.out) | exact HB.out)⟩⟩
                      · rw [if_neg c13] at H
                        have c13b0 : (x7_3 == 10) = false := beq_eq_false_iff_ne.mpr c13
                        have c13b1 : (x7_3 != 10) = true := bne_iff_ne.mpr c13
                        (first | rw [c13b0] | (simp only [i64_w, i32_w]; rw [c13b0]) | skip)
                        as_aux_lemma =>
                          have H' := Aside0.mk H
                          clear H
                          go_wp2
                          go_meet
                          case rel => exact ⟨_, (x7_3), H', ⟨by have := HK1.out; have := HJ6.out; have := HK3.out; first | omega | exact Nat.le_refl _⟩, ⟨by (with_reducible repeat (first | refine blk_drewN ?_ _ | refine blk_drew ?_ | refine blk_alloc ?_ _)); refine blk_put (cs := #[.bool false, .int .i64 0]) ?_ 1 _ rfl; (with_reducible repeat (first | refine blk_drewN ?_ _ | refine blk_drew ?_ | refine blk_alloc ?_ _)); refine blk_put (cs := #[.bool false, .int .i64 0]) ?_ 0 _ rfl; (with_reducible repeat (first | refine blk_drewN ?_ _ | refine blk_drew ?_ | refine blk_alloc ?_ _)); exact BK123.out⟩, ⟨by repeat (first | (with_reducible first | exact HB.out | apply below_alloc | apply pw_below_drewN | apply below_drew1 | refine below_set ?_ GE123.out) | exact HB.out)⟩⟩
                    case rest =>
                      clear HC10
                      try clear c1
                      try clear p2
                      try clear c4
                      try clear c6
                      try clear c6b0
                      try clear c8
                      try clear c8b0
                      try clear c8b1
                      try clear c9
                      try clear c9b0
                      try clear c13
                      try clear c13b0
                      try clear c13b1
                      try clear hcz12_0
                      try clear hcz12_1
                      try clear hcz14_0
                      try clear hcz14_1
                      try clear hfz12_0
                      try clear hfz12_1
                      try clear hfz14_0
                      try clear hfz14_1
                      try clear p2
                      obtain ⟨kq, x124001_9, HA, HJ9, BK123, HB⟩ := hcut
                      cases kq with
                      | zero => exact absurd HA.out (by simp [heraldlaw10_StateCells.j3])
                      | succ kj9 =>
                        have H := HA.out
                        clear HA
                        simp only [heraldlaw10_StateCells.j3] at H
                        replace H := Option.bind_eq_some_iff.mp H
                        obtain ⟨⟨t124, t125, t126⟩, A150, H⟩ := H
                        replace H : ((heraldref10_Next.f x6_6 false x124001_9).bind fun bt127 => ((heraldlaw10_next.f x6_6 true x124001_9).bind fun bt131 => ((heraldref10_Next.f x6_6 true x124001_9).bind fun bt134 => (if t124 = bt127.1 then (if t125 = bt127.2.1 then (if t126 = bt127.2.2 then (if bt131.1 = bt134.1 then (if bt131.2.1 = bt134.2.1 then (heraldlaw10_StateCells.j4 kj9 a0 a1 x5_1 x6_6 x7_3 t124 t125 bt131.1 bt131.2.1 (bt131.2.2 != bt134.2.2) true x124001_9) else (heraldlaw10_StateCells.j4 kj9 a0 a1 x5_1 x6_6 x7_3 t124 t125 bt131.1 bt131.2.1 true true x124001_9)) else (heraldlaw10_StateCells.j4 kj9 a0 a1 x5_1 x6_6 x7_3 t124 t125 bt131.1 bt131.2.1 true true x124001_9)) else (heraldlaw10_StateCells.j4 kj9 a0 a1 x5_1 x6_6 x7_3 t124 t125 bt131.1 bt131.2.1 true true x124001_9)) else (heraldlaw10_StateCells.j4 kj9 a0 a1 x5_1 x6_6 x7_3 t124 t125 bt131.1 bt131.2.1 true true x124001_9)) else (heraldlaw10_StateCells.j4 kj9 a0 a1 x5_1 x6_6 x7_3 t124 t125 bt131.1 bt131.2.1 true true x124001_9))))) = some r := H
                        have A15 := Aside0.mk A150
                        clear A150
                        replace H := Option.bind_eq_some_iff.mp H
                        obtain ⟨⟨t127, t128, t129⟩, A160, H⟩ := H
                        replace H : ((heraldlaw10_next.f x6_6 true x124001_9).bind fun bt131 => ((heraldref10_Next.f x6_6 true x124001_9).bind fun bt134 => (if t124 = t127 then (if t125 = t128 then (if t126 = t129 then (if bt131.1 = bt134.1 then (if bt131.2.1 = bt134.2.1 then (heraldlaw10_StateCells.j4 kj9 a0 a1 x5_1 x6_6 x7_3 t124 t125 bt131.1 bt131.2.1 (bt131.2.2 != bt134.2.2) true x124001_9) else (heraldlaw10_StateCells.j4 kj9 a0 a1 x5_1 x6_6 x7_3 t124 t125 bt131.1 bt131.2.1 true true x124001_9)) else (heraldlaw10_StateCells.j4 kj9 a0 a1 x5_1 x6_6 x7_3 t124 t125 bt131.1 bt131.2.1 true true x124001_9)) else (heraldlaw10_StateCells.j4 kj9 a0 a1 x5_1 x6_6 x7_3 t124 t125 bt131.1 bt131.2.1 true true x124001_9)) else (heraldlaw10_StateCells.j4 kj9 a0 a1 x5_1 x6_6 x7_3 t124 t125 bt131.1 bt131.2.1 true true x124001_9)) else (heraldlaw10_StateCells.j4 kj9 a0 a1 x5_1 x6_6 x7_3 t124 t125 bt131.1 bt131.2.1 true true x124001_9)))) = some r := H
                        have A16 := Aside0.mk A160
                        clear A160
                        replace H := Option.bind_eq_some_iff.mp H
                        obtain ⟨⟨t131, t132, t133⟩, A170, H⟩ := H
                        replace H : ((heraldref10_Next.f x6_6 true x124001_9).bind fun bt134 => (if t124 = t127 then (if t125 = t128 then (if t126 = t129 then (if t131 = bt134.1 then (if t132 = bt134.2.1 then (heraldlaw10_StateCells.j4 kj9 a0 a1 x5_1 x6_6 x7_3 t124 t125 t131 t132 (t133 != bt134.2.2) true x124001_9) else (heraldlaw10_StateCells.j4 kj9 a0 a1 x5_1 x6_6 x7_3 t124 t125 t131 t132 true true x124001_9)) else (heraldlaw10_StateCells.j4 kj9 a0 a1 x5_1 x6_6 x7_3 t124 t125 t131 t132 true true x124001_9)) else (heraldlaw10_StateCells.j4 kj9 a0 a1 x5_1 x6_6 x7_3 t124 t125 t131 t132 true true x124001_9)) else (heraldlaw10_StateCells.j4 kj9 a0 a1 x5_1 x6_6 x7_3 t124 t125 t131 t132 true true x124001_9)) else (heraldlaw10_StateCells.j4 kj9 a0 a1 x5_1 x6_6 x7_3 t124 t125 t131 t132 true true x124001_9))) = some r := H
                        have A17 := Aside0.mk A170
                        clear A170
                        replace H := Option.bind_eq_some_iff.mp H
                        obtain ⟨⟨t134, t135, t136⟩, A180, H⟩ := H
                        replace H : (if t124 = t127 then (if t125 = t128 then (if t126 = t129 then (if t131 = t134 then (if t132 = t135 then (heraldlaw10_StateCells.j4 kj9 a0 a1 x5_1 x6_6 x7_3 t124 t125 t131 t132 (t133 != t136) true x124001_9) else (heraldlaw10_StateCells.j4 kj9 a0 a1 x5_1 x6_6 x7_3 t124 t125 t131 t132 true true x124001_9)) else (heraldlaw10_StateCells.j4 kj9 a0 a1 x5_1 x6_6 x7_3 t124 t125 t131 t132 true true x124001_9)) else (heraldlaw10_StateCells.j4 kj9 a0 a1 x5_1 x6_6 x7_3 t124 t125 t131 t132 true true x124001_9)) else (heraldlaw10_StateCells.j4 kj9 a0 a1 x5_1 x6_6 x7_3 t124 t125 t131 t132 true true x124001_9)) else (heraldlaw10_StateCells.j4 kj9 a0 a1 x5_1 x6_6 x7_3 t124 t125 t131 t132 true true x124001_9)) = some r := H
                        have A18 := Aside0.mk A180
                        clear A180
                        have HC19 := Aside0.mk H
                        clear H
                        have hcz20_0 : wc.cell? ⟨gb123, 0, none⟩ = some (.bool false) := (blk_cell BK123.out 0).trans rfl
                        have hcz20_1 : wc.cell? ⟨gb123, 1, none⟩ = some (.int .i64 x124001_9) := (blk_cell BK123.out 1).trans rfl
                        have hfz20_0 := blk_frozen BK123.out 0
                        have hfz20_1 := blk_frozen BK123.out 1
                        go_upto_region 20 with (first | ((with_reducible refine gate_callee (f := 12) rfl ?_); refine goesL_ (some 43) rfl rfl Tryd.func12 (by kernel_rfl) rfl #[.int .i64 x6_6, .agg #[.bool false, .int .i64 x124001_9]] rfl (by (try simp only [List.map_toArray, List.map_cons, List.map_nil]); first | done | rfl | (simp only [List.length_drop, List.length_take]; rfl)) ?_; (with_reducible refine (heraldlaw10_next.calls x6_6 false x124001_9 t124 t125 t126 _ ?side1 A15.out).mono ?_); (case side1 => exact GL.below HG.out (by repeat (first | (with_reducible first | exact HB.out | apply below_alloc | apply pw_below_drewN | apply below_drew1 | refine below_set ?_ GE123.out) | exact HB.out))); rintro e w21 ⟨rfl, hb⟩; refine ⟨_, rfl, ?_⟩; have n0_ := Aside0.mk (blk_below (g := gb123) (o := .cells #[.bool false, .int .i64 x124001_9] 28 (0, 0)) (by (with_reducible repeat (first | refine blk_drewN ?_ _ | refine blk_drew ?_ | refine blk_alloc ?_ _)); exact BK123.out) hb); have n1_ := Aside0.mk (below_step (by repeat (first | (with_reducible first | exact HB.out | apply below_alloc | apply pw_below_drewN | apply below_drew1 | refine below_set ?_ GE123.out) | exact HB.out)) hb); clear BK123; clear HB; have BK123 := n0_; have HB := n1_; clear n0_ n1_; (try clear hb); (try clear hb2); (try clear hk); (try clear hi); have hcz22_0 : w21.cell? ⟨gb123, 0, none⟩ = some (.bool false) := (blk_cell BK123.out 0).trans rfl; have hcz22_1 : w21.cell? ⟨gb123, 1, none⟩ = some (.int .i64 x124001_9) := (blk_cell BK123.out 1).trans rfl; have hfz22_0 := blk_frozen BK123.out 0; have hfz22_1 := blk_frozen BK123.out 1) | ((with_reducible refine gate_callee (f := 13) rfl ?_); refine goesL_ (some 52) rfl rfl Tryd.func13 (by kernel_rfl) rfl #[.int .i64 x6_6, .agg #[.bool false, .int .i64 x124001_9]] rfl (by (try simp only [List.map_toArray, List.map_cons, List.map_nil]); first | done | rfl | (simp only [List.length_drop, List.length_take]; rfl)) ?_; (with_reducible refine (heraldref10_Next.calls x6_6 false x124001_9 t127 t128 t129 _ A16.out).mono ?_); rintro e w23 ⟨rfl, hb⟩; refine ⟨_, rfl, ?_⟩; have n0_ := Aside0.mk (blk_below (g := gb123) (o := .cells #[.bool false, .int .i64 x124001_9] 28 (0, 0)) (by (with_reducible repeat (first | refine blk_drewN ?_ _ | refine blk_drew ?_ | refine blk_alloc ?_ _)); exact BK123.out) hb); have n1_ := Aside0.mk (below_step (by repeat (first | (with_reducible first | exact HB.out | apply below_alloc | apply pw_below_drewN | apply below_drew1 | refine below_set ?_ GE123.out) | exact HB.out)) hb); clear BK123; clear HB; have BK123 := n0_; have HB := n1_; clear n0_ n1_; (try clear hb); (try clear hb2); (try clear hk); (try clear hi)) | ((with_reducible refine gate_dst (N := 13) rfl ?_); refine box_event ?hg (N := 13) ?hd (cs := #[.int .i64 0, .int .i64 0]) (t := 30) ?hr ?_; (case hd => rfl); (case hg => rfl); (case hr => first | (go_simp; done) | (go_simp; rfl)); intro gb130 hg w24 hbox hb; have n0_ := Aside0.mk (blk_below (g := gb123) (o := .cells #[.bool false, .int .i64 x124001_9] 28 (0, 0)) (by (with_reducible repeat (first | refine blk_drewN ?_ _ | refine blk_drew ?_ | refine blk_alloc ?_ _)); exact BK123.out) hb); have n1_ := Aside0.mk (below_step (by repeat (first | (with_reducible first | exact HB.out | apply below_alloc | apply pw_below_drewN | apply below_drew1 | refine below_set ?_ GE123.out) | exact HB.out)) hb); have n2_ := Aside0.mk (hbox); have n3_ := Aside0.mk ((by rw [hg]; exact (below_size (by repeat (first | (with_reducible first | exact HB.out | apply below_alloc | apply pw_below_drewN | apply below_drew1 | refine below_set ?_ GE123.out) | exact HB.out))) : w.heap.size ≤ gb130)); have n4_ := Aside0.mk ((by rw [hg]; exact (below_size (by repeat (first | (with_reducible first | exact HB.out | apply below_alloc | apply pw_below_drewN | apply below_drew1 | refine below_set ?_ GE123.out) | exact HB.out))) : w.heap.size ≤ gb130)); have n5_ := Aside0.mk ((by rw [hg]; exact Nat.ne_of_lt (blk_lt (g := gb123) (o := .cells #[.bool false, .int .i64 x124001_9] 28 (0, 0)) (by (with_reducible repeat (first | refine blk_drewN ?_ _ | refine blk_drew ?_ | refine blk_alloc ?_ _)); exact BK123.out)) : gb123 ≠ gb130)); have n6_ := Aside0.mk ((by rw [hg]; exact Nat.ne_of_gt (blk_lt (g := gb123) (o := .cells #[.bool false, .int .i64 x124001_9] 28 (0, 0)) (by (with_reducible repeat (first | refine blk_drewN ?_ _ | refine blk_drew ?_ | refine blk_alloc ?_ _)); exact BK123.out)) : gb130 ≠ gb123)); clear BK123; clear HB; have BK123 := n0_; have HB := n1_; have BK130 := n2_; have GW130 := n3_; have GE130 := n4_; have NB123_130 := n5_; have NB130_123 := n6_; clear n0_ n1_ n2_ n3_ n4_ n5_ n6_; clear hb hbox hg; have hnb25 := NB130_123.out; have hnc25 := NB123_130.out; have hcz26_0 : w24.cell? ⟨gb130, 0, none⟩ = some (.int .i64 0) := (blk_cell BK130.out 0).trans rfl; have hcz26_1 : w24.cell? ⟨gb130, 1, none⟩ = some (.int .i64 0) := (blk_cell BK130.out 1).trans rfl; have hfz26_0 := blk_frozen BK130.out 0; have hfz26_1 := blk_frozen BK130.out 1; have hcz27_0 : w24.cell? ⟨gb123, 0, none⟩ = some (.bool false) := (blk_cell BK123.out 0).trans rfl; have hcz27_1 : w24.cell? ⟨gb123, 1, none⟩ = some (.int .i64 x124001_9) := (blk_cell BK123.out 1).trans rfl; have hfz27_0 := blk_frozen BK123.out 0; have hfz27_1 := blk_frozen BK123.out 1) | ((with_reducible refine gate_callee (f := 12) rfl ?_); refine goesL_ (some 59) rfl rfl Tryd.func12 (by kernel_rfl) rfl #[.int .i64 x6_6, .agg #[.bool true, .int .i64 x124001_9]] rfl (by (try simp only [List.map_toArray, List.map_cons, List.map_nil]); first | done | rfl | (simp only [List.length_drop, List.length_take]; rfl)) ?_; (with_reducible refine (heraldlaw10_next.calls x6_6 true x124001_9 t131 t132 t133 _ ?side1 A17.out).mono ?_); (case side1 => exact GL.below HG.out (by repeat (first | (with_reducible first | exact HB.out | apply below_alloc | apply pw_below_drewN | apply below_drew1 | refine below_set ?_ GE123.out | refine below_set ?_ GE130.out) | exact HB.out))); rintro e w28 ⟨rfl, hb⟩; refine ⟨_, rfl, ?_⟩; have n0_ := Aside0.mk (blk_below (g := gb123) (o := .cells #[.bool true, .int .i64 x124001_9] 28 (0, 0)) (by (with_reducible repeat (first | refine blk_drewN ?_ _ | refine blk_drew ?_ | refine blk_alloc ?_ _)); refine blk_put (cs := #[.bool false, .int .i64 x124001_9]) ?_ 0 _ rfl; (with_reducible repeat (first | refine blk_drewN ?_ _ | refine blk_drew ?_ | refine blk_alloc ?_ _)); refine blk_far ?_ NB123_130.out _; (with_reducible repeat (first | refine blk_drewN ?_ _ | refine blk_drew ?_ | refine blk_alloc ?_ _)); refine blk_far ?_ NB123_130.out _; (with_reducible repeat (first | refine blk_drewN ?_ _ | refine blk_drew ?_ | refine blk_alloc ?_ _)); exact BK123.out) hb); have n1_ := Aside0.mk (blk_below (g := gb130) (o := .cells #[.int .i64 t128, .int .i64 t129] 30 (0, 0)) (by (with_reducible repeat (first | refine blk_drewN ?_ _ | refine blk_drew ?_ | refine blk_alloc ?_ _)); refine blk_far ?_ NB130_123.out _; (with_reducible repeat (first | refine blk_drewN ?_ _ | refine blk_drew ?_ | refine blk_alloc ?_ _)); refine blk_put (cs := #[.int .i64 t128, .int .i64 0]) ?_ 1 _ rfl; (with_reducible repeat (first | refine blk_drewN ?_ _ | refine blk_drew ?_ | refine blk_alloc ?_ _)); refine blk_put (cs := #[.int .i64 0, .int .i64 0]) ?_ 0 _ rfl; (with_reducible repeat (first | refine blk_drewN ?_ _ | refine blk_drew ?_ | refine blk_alloc ?_ _)); exact BK130.out) hb); have n2_ := Aside0.mk (below_step (by repeat (first | (with_reducible first | exact HB.out | apply below_alloc | apply pw_below_drewN | apply below_drew1 | refine below_set ?_ GE123.out | refine below_set ?_ GE130.out) | exact HB.out)) hb); clear BK123; clear BK130; clear HB; have BK123 := n0_; have BK130 := n1_; have HB := n2_; clear n0_ n1_ n2_; (try clear hb); (try clear hb2); (try clear hk); (try clear hi); have hcz29_0 : w28.cell? ⟨gb123, 0, none⟩ = some (.bool true) := (blk_cell BK123.out 0).trans rfl; have hcz29_1 : w28.cell? ⟨gb123, 1, none⟩ = some (.int .i64 x124001_9) := (blk_cell BK123.out 1).trans rfl; have hfz29_0 := blk_frozen BK123.out 0; have hfz29_1 := blk_frozen BK123.out 1) | ((with_reducible refine gate_callee (f := 13) rfl ?_); refine goesL_ (some 68) rfl rfl Tryd.func13 (by kernel_rfl) rfl #[.int .i64 x6_6, .agg #[.bool true, .int .i64 x124001_9]] rfl (by (try simp only [List.map_toArray, List.map_cons, List.map_nil]); first | done | rfl | (simp only [List.length_drop, List.length_take]; rfl)) ?_; (with_reducible refine (heraldref10_Next.calls x6_6 true x124001_9 t134 t135 t136 _ A18.out).mono ?_); rintro e w30 ⟨rfl, hb⟩; refine ⟨_, rfl, ?_⟩; have n0_ := Aside0.mk (blk_below (g := gb123) (o := .cells #[.bool true, .int .i64 x124001_9] 28 (0, 0)) (by (with_reducible repeat (first | refine blk_drewN ?_ _ | refine blk_drew ?_ | refine blk_alloc ?_ _)); exact BK123.out) hb); have n1_ := Aside0.mk (blk_below (g := gb130) (o := .cells #[.int .i64 t128, .int .i64 t129] 30 (0, 0)) (by (with_reducible repeat (first | refine blk_drewN ?_ _ | refine blk_drew ?_ | refine blk_alloc ?_ _)); exact BK130.out) hb); have n2_ := Aside0.mk (below_step (by repeat (first | (with_reducible first | exact HB.out | apply below_alloc | apply pw_below_drewN | apply below_drew1 | refine below_set ?_ GE123.out | refine below_set ?_ GE130.out) | exact HB.out)) hb); clear BK123; clear BK130; clear HB; have BK123 := n0_; have BK130 := n1_; have HB := n2_; clear n0_ n1_ n2_; (try clear hb); (try clear hb2); (try clear hk); (try clear hi)) | ((with_reducible refine gate_dst (N := 18) rfl ?_); refine box_event ?hg (N := 18) ?hd (cs := #[.int .i64 0, .int .i64 0]) (t := 30) ?hr ?_; (case hd => rfl); (case hg => rfl); (case hr => first | (go_simp; done) | (go_simp; rfl)); intro gb137 hg w31 hbox hb; have n0_ := Aside0.mk (blk_below (g := gb123) (o := .cells #[.bool true, .int .i64 x124001_9] 28 (0, 0)) (by (with_reducible repeat (first | refine blk_drewN ?_ _ | refine blk_drew ?_ | refine blk_alloc ?_ _)); exact BK123.out) hb); have n1_ := Aside0.mk (blk_below (g := gb130) (o := .cells #[.int .i64 t128, .int .i64 t129] 30 (0, 0)) (by (with_reducible repeat (first | refine blk_drewN ?_ _ | refine blk_drew ?_ | refine blk_alloc ?_ _)); exact BK130.out) hb); have n2_ := Aside0.mk (below_step (by repeat (first | (with_reducible first | exact HB.out | apply below_alloc | apply pw_below_drewN | apply below_drew1 | refine below_set ?_ GE123.out | refine below_set ?_ GE130.out) | exact HB.out)) hb); have n3_ := Aside0.mk (hbox); have n4_ := Aside0.mk ((by rw [hg]; exact (below_size (by repeat (first | (with_reducible first | exact HB.out | apply below_alloc | apply pw_below_drewN | apply below_drew1 | refine below_set ?_ GE123.out | refine below_set ?_ GE130.out) | exact HB.out))) : w.heap.size ≤ gb137)); have n5_ := Aside0.mk ((by rw [hg]; exact (below_size (by repeat (first | (with_reducible first | exact HB.out | apply below_alloc | apply pw_below_drewN | apply below_drew1 | refine below_set ?_ GE123.out | refine below_set ?_ GE130.out) | exact HB.out))) : w.heap.size ≤ gb137)); have n6_ := Aside0.mk ((by rw [hg]; exact Nat.ne_of_lt (blk_lt (g := gb123) (o := .cells #[.bool true, .int .i64 x124001_9] 28 (0, 0)) (by (with_reducible repeat (first | refine blk_drewN ?_ _ | refine blk_drew ?_ | refine blk_alloc ?_ _)); exact BK123.out)) : gb123 ≠ gb137)); have n7_ := Aside0.mk ((by rw [hg]; exact Nat.ne_of_gt (blk_lt (g := gb123) (o := .cells #[.bool true, .int .i64 x124001_9] 28 (0, 0)) (by (with_reducible repeat (first | refine blk_drewN ?_ _ | refine blk_drew ?_ | refine blk_alloc ?_ _)); exact BK123.out)) : gb137 ≠ gb123)); have n8_ := Aside0.mk ((by rw [hg]; exact Nat.ne_of_lt (blk_lt (g := gb130) (o := .cells #[.int .i64 t128, .int .i64 t129] 30 (0, 0)) (by (with_reducible repeat (first | refine blk_drewN ?_ _ | refine blk_drew ?_ | refine blk_alloc ?_ _)); exact BK130.out)) : gb130 ≠ gb137)); have n9_ := Aside0.mk ((by rw [hg]; exact Nat.ne_of_gt (blk_lt (g := gb130) (o := .cells #[.int .i64 t128, .int .i64 t129] 30 (0, 0)) (by (with_reducible repeat (first | refine blk_drewN ?_ _ | refine blk_drew ?_ | refine blk_alloc ?_ _)); exact BK130.out)) : gb137 ≠ gb130)); clear BK123; clear BK130; clear HB; have BK123 := n0_; have BK130 := n1_; have HB := n2_; have BK137 := n3_; have GW137 := n4_; have GE137 := n5_; have NB123_137 := n6_; have NB137_123 := n7_; have NB130_137 := n8_; have NB137_130 := n9_; clear n0_ n1_ n2_ n3_ n4_ n5_ n6_ n7_ n8_ n9_; clear hb hbox hg; have hnb32 := NB137_123.out; have hnc32 := NB123_137.out; have hnb33 := NB137_130.out; have hnc33 := NB130_137.out; have hcz34_0 : w31.cell? ⟨gb137, 0, none⟩ = some (.int .i64 0) := (blk_cell BK137.out 0).trans rfl; have hcz34_1 : w31.cell? ⟨gb137, 1, none⟩ = some (.int .i64 0) := (blk_cell BK137.out 1).trans rfl; have hfz34_0 := blk_frozen BK137.out 0; have hfz34_1 := blk_frozen BK137.out 1))
                        (try simp only [Act.put, List.setIfInBounds_toArray, List.set_cons_zero, List.set_cons_succ])
                        go_cut [102] (fun v102 wc => ∃ (kq : Nat) (x102_18 : Bool), v102 = .bool x102_18 ∧ Aside0 (heraldlaw10_StateCells.j4 kq a0 a1 x5_1 x6_6 x7_3 t124 t125 t131 t132 x102_18 true x124001_9 = some r) ∧ Aside0 (kq ≤ kj9) ∧ Aside0 (wc.heap[gb123]? = some (.cells #[.bool true, .int .i64 x124001_9] 28 (0, 0))) ∧ Aside0 (wc.heap[gb130]? = some (.cells #[.int .i64 t128, .int .i64 t129] 30 (0, 0))) ∧ Aside0 (wc.heap[gb137]? = some (.cells #[.int .i64 t135, .int .i64 t136] 30 (0, 0))) ∧ Aside0 (Below w.heap.size w wc))
                        case first =>
                          have H := HC19.out
                          clear HC19
                          by_cases c35 : t124 = t127
                          · rw [if_pos c35] at H
                            have c35b0 : (t124 == t127) = true := beq_iff_eq.mpr c35
                            have c35b1 : (t124 != t127) = false := bne_eq_false_iff_eq.mpr c35
                            clear c35
                            (first | rw [c35b0] | (simp only [i64_w, i32_w]; rw [c35b0]) | skip)
                            by_cases c36 : t125 = t128
                            · rw [if_pos c36] at H
                              have c36b0 : (t125 == t128) = true := beq_iff_eq.mpr c36
                              have c36b1 : (t125 != t128) = false := bne_eq_false_iff_eq.mpr c36
                              clear c36
                              by_cases c37 : t126 = t129
                              · rw [if_pos c37] at H
                                have c37b0 : (t126 == t129) = true := beq_iff_eq.mpr c37
                                have c37b1 : (t126 != t129) = false := bne_eq_false_iff_eq.mpr c37
                                clear c37
                                by_cases c38 : t131 = t134
                                · rw [if_pos c38] at H
                                  have c38b0 : (t131 == t134) = true := beq_iff_eq.mpr c38
                                  have c38b1 : (t131 != t134) = false := bne_eq_false_iff_eq.mpr c38
                                  clear c38
                                  by_cases c39 : t132 = t135
                                  · rw [if_pos c39] at H
                                    have c39b0 : (t132 == t135) = true := beq_iff_eq.mpr c39
                                    have c39b1 : (t132 != t135) = false := bne_eq_false_iff_eq.mpr c39
                                    clear c39
                                    as_aux_lemma =>
                                      have H' := Aside0.mk H
                                      clear H
                                      have hnb40 := NB130_123.out
                                      have hnc40 := NB123_130.out
                                      have hnb41 := NB130_137.out
                                      have hnc41 := NB137_130.out
                                      have hcz42_0 : w31.cell? ⟨gb130, 0, none⟩ = some (.int .i64 t128) := (blk_cell BK130.out 0).trans rfl
                                      have hcz42_1 : w31.cell? ⟨gb130, 1, none⟩ = some (.int .i64 t129) := (blk_cell BK130.out 1).trans rfl
                                      have hfz42_0 := blk_frozen BK130.out 0
                                      have hfz42_1 := blk_frozen BK130.out 1
                                      have hnb43 := NB137_123.out
                                      have hnc43 := NB123_137.out
                                      have hcz44_0 : w31.cell? ⟨gb137, 0, none⟩ = some (.int .i64 0) := (blk_cell BK137.out 0).trans rfl
                                      have hcz44_1 : w31.cell? ⟨gb137, 1, none⟩ = some (.int .i64 0) := (blk_cell BK137.out 1).trans rfl
                                      have hfz44_0 := blk_frozen BK137.out 0
                                      have hfz44_1 := blk_frozen BK137.out 1
                                      go_wp2
                                      go_meet
                                      case rel => exact ⟨_, ((t133 != t136)), (by first | rfl | (simp; done) | (simp [*]; done)), H', ⟨by have := HK1.out; have := HJ6.out; have := HK3.out; have := HJ9.out; first | omega | exact Nat.le_refl _⟩, ⟨by (with_reducible repeat (first | refine blk_drewN ?_ _ | refine blk_drew ?_ | refine blk_alloc ?_ _)); refine blk_far ?_ NB123_137.out _; (with_reducible repeat (first | refine blk_drewN ?_ _ | refine blk_drew ?_ | refine blk_alloc ?_ _)); refine blk_far ?_ NB123_137.out _; (with_reducible repeat (first | refine blk_drewN ?_ _ | refine blk_drew ?_ | refine blk_alloc ?_ _)); exact BK123.out⟩, ⟨by (with_reducible repeat (first | refine blk_drewN ?_ _ | refine blk_drew ?_ | refine blk_alloc ?_ _)); refine blk_far ?_ NB130_137.out _; (with_reducible repeat (first | refine blk_drewN ?_ _ | refine blk_drew ?_ | refine blk_alloc ?_ _)); refine blk_far ?_ NB130_137.out _; (with_reducible repeat (first | refine blk_drewN ?_ _ | refine blk_drew ?_ | refine blk_alloc ?_ _)); exact BK130.out⟩, ⟨by (with_reducible repeat (first | refine blk_drewN ?_ _ | refine blk_drew ?_ | refine blk_alloc ?_ _)); refine blk_put (cs := #[.int .i64 t135, .int .i64 0]) ?_ 1 _ rfl; (with_reducible repeat (first | refine blk_drewN ?_ _ | refine blk_drew ?_ | refine blk_alloc ?_ _)); refine blk_put (cs := #[.int .i64 0, .int .i64 0]) ?_ 0 _ rfl; (with_reducible repeat (first | refine blk_drewN ?_ _ | refine blk_drew ?_ | refine blk_alloc ?_ _)); exact BK137.out⟩, ⟨by repeat (first | (with_reducible first | exact HB.out | apply below_alloc | apply pw_below_drewN | apply below_drew1 | refine below_set ?_ GE123.out | refine below_set ?_ GE130.out | refine below_set ?_ GE137.out) | exact HB.out)⟩⟩
                                  · rw [if_neg c39] at H
                                    have c39b0 : (t132 == t135) = false := beq_eq_false_iff_ne.mpr c39
                                    have c39b1 : (t132 != t135) = true := bne_iff_ne.mpr c39
                                    as_aux_lemma =>
                                      have H' := Aside0.mk H
                                      clear H
                                      have hnb45 := NB130_123.out
                                      have hnc45 := NB123_130.out
                                      have hnb46 := NB130_137.out
                                      have hnc46 := NB137_130.out
                                      have hcz47_0 : w31.cell? ⟨gb130, 0, none⟩ = some (.int .i64 t128) := (blk_cell BK130.out 0).trans rfl
                                      have hcz47_1 : w31.cell? ⟨gb130, 1, none⟩ = some (.int .i64 t129) := (blk_cell BK130.out 1).trans rfl
                                      have hfz47_0 := blk_frozen BK130.out 0
                                      have hfz47_1 := blk_frozen BK130.out 1
                                      have hnb48 := NB137_123.out
                                      have hnc48 := NB123_137.out
                                      have hcz49_0 : w31.cell? ⟨gb137, 0, none⟩ = some (.int .i64 0) := (blk_cell BK137.out 0).trans rfl
                                      have hcz49_1 : w31.cell? ⟨gb137, 1, none⟩ = some (.int .i64 0) := (blk_cell BK137.out 1).trans rfl
                                      have hfz49_0 := blk_frozen BK137.out 0
                                      have hfz49_1 := blk_frozen BK137.out 1
                                      go_wp2
                                      go_meet
                                      case rel => exact ⟨_, (true), (by first | rfl | (simp; done) | (simp [*]; done)), H', ⟨by have := HK1.out; have := HJ6.out; have := HK3.out; have := HJ9.out; first | omega | exact Nat.le_refl _⟩, ⟨by (with_reducible repeat (first | refine blk_drewN ?_ _ | refine blk_drew ?_ | refine blk_alloc ?_ _)); refine blk_far ?_ NB123_137.out _; (with_reducible repeat (first | refine blk_drewN ?_ _ | refine blk_drew ?_ | refine blk_alloc ?_ _)); refine blk_far ?_ NB123_137.out _; (with_reducible repeat (first | refine blk_drewN ?_ _ | refine blk_drew ?_ | refine blk_alloc ?_ _)); exact BK123.out⟩, ⟨by (with_reducible repeat (first | refine blk_drewN ?_ _ | refine blk_drew ?_ | refine blk_alloc ?_ _)); refine blk_far ?_ NB130_137.out _; (with_reducible repeat (first | refine blk_drewN ?_ _ | refine blk_drew ?_ | refine blk_alloc ?_ _)); refine blk_far ?_ NB130_137.out _; (with_reducible repeat (first | refine blk_drewN ?_ _ | refine blk_drew ?_ | refine blk_alloc ?_ _)); exact BK130.out⟩, ⟨by (with_reducible repeat (first | refine blk_drewN ?_ _ | refine blk_drew ?_ | refine blk_alloc ?_ _)); refine blk_put (cs := #[.int .i64 t135, .int .i64 0]) ?_ 1 _ rfl; (with_reducible repeat (first | refine blk_drewN ?_ _ | refine blk_drew ?_ | refine blk_alloc ?_ _)); refine blk_put (cs := #[.int .i64 0, .int .i64 0]) ?_ 0 _ rfl; (with_reducible repeat (first | refine blk_drewN ?_ _ | refine blk_drew ?_ | refine blk_alloc ?_ _)); exact BK137.out⟩, ⟨by repeat (first | (with_reducible first | exact HB.out | apply below_alloc | apply pw_below_drewN | apply below_drew1 | refine below_set ?_ GE123.out | refine below_set ?_ GE130.out | refine below_set ?_ GE137.out) | exact HB.out)⟩⟩
                                · rw [if_neg c38] at H
                                  have c38b0 : (t131 == t134) = false := beq_eq_false_iff_ne.mpr c38
                                  have c38b1 : (t131 != t134) = true := bne_iff_ne.mpr c38
                                  as_aux_lemma =>
                                    have H' := Aside0.mk H
                                    clear H
                                    have hnb50 := NB130_123.out
                                    have hnc50 := NB123_130.out
                                    have hnb51 := NB130_137.out
                                    have hnc51 := NB137_130.out
                                    have hcz52_0 : w31.cell? ⟨gb130, 0, none⟩ = some (.int .i64 t128) := (blk_cell BK130.out 0).trans rfl
                                    have hcz52_1 : w31.cell? ⟨gb130, 1, none⟩ = some (.int .i64 t129) := (blk_cell BK130.out 1).trans rfl
                                    have hfz52_0 := blk_frozen BK130.out 0
                                    have hfz52_1 := blk_frozen BK130.out 1
                                    go_wp2
                                    go_meet
                                    case rel => exact ⟨_, (true), (by first | rfl | (simp; done) | (simp [*]; done)), H', ⟨by have := HK1.out; have := HJ6.out; have := HK3.out; have := HJ9.out; first | omega | exact Nat.le_refl _⟩, ⟨by (with_reducible repeat (first | refine blk_drewN ?_ _ | refine blk_drew ?_ | refine blk_alloc ?_ _)); refine blk_far ?_ NB123_137.out _; (with_reducible repeat (first | refine blk_drewN ?_ _ | refine blk_drew ?_ | refine blk_alloc ?_ _)); refine blk_far ?_ NB123_137.out _; (with_reducible repeat (first | refine blk_drewN ?_ _ | refine blk_drew ?_ | refine blk_alloc ?_ _)); exact BK123.out⟩, ⟨by (with_reducible repeat (first | refine blk_drewN ?_ _ | refine blk_drew ?_ | refine blk_alloc ?_ _)); refine blk_far ?_ NB130_137.out _; (with_reducible repeat (first | refine blk_drewN ?_ _ | refine blk_drew ?_ | refine blk_alloc ?_ _)); refine blk_far ?_ NB130_137.out _; (with_reducible repeat (first | refine blk_drewN ?_ _ | refine blk_drew ?_ | refine blk_alloc ?_ _)); exact BK130.out⟩, ⟨by (with_reducible repeat (first | refine blk_drewN ?_ _ | refine blk_drew ?_ | refine blk_alloc ?_ _)); refine blk_put (cs := #[.int .i64 t135, .int .i64 0]) ?_ 1 _ rfl; (with_reducible repeat (first | refine blk_drewN ?_ _ | refine blk_drew ?_ | refine blk_alloc ?_ _)); refine blk_put (cs := #[.int .i64 0, .int .i64 0]) ?_ 0 _ rfl; (with_reducible repeat (first | refine blk_drewN ?_ _ | refine blk_drew ?_ | refine blk_alloc ?_ _)); exact BK137.out⟩, ⟨by repeat (first | (with_reducible first | exact HB.out | apply below_alloc | apply pw_below_drewN | apply below_drew1 | refine below_set ?_ GE123.out | refine below_set ?_ GE130.out | refine below_set ?_ GE137.out) | exact HB.out)⟩⟩
                              · rw [if_neg c37] at H
                                have c37b0 : (t126 == t129) = false := beq_eq_false_iff_ne.mpr c37
                                have c37b1 : (t126 != t129) = true := bne_iff_ne.mpr c37
                                as_aux_lemma =>
                                  have H' := Aside0.mk H
                                  clear H
                                  have hnb53 := NB130_123.out
                                  have hnc53 := NB123_130.out
                                  have hnb54 := NB130_137.out
                                  have hnc54 := NB137_130.out
                                  have hcz55_0 : w31.cell? ⟨gb130, 0, none⟩ = some (.int .i64 t128) := (blk_cell BK130.out 0).trans rfl
                                  have hcz55_1 : w31.cell? ⟨gb130, 1, none⟩ = some (.int .i64 t129) := (blk_cell BK130.out 1).trans rfl
                                  have hfz55_0 := blk_frozen BK130.out 0
                                  have hfz55_1 := blk_frozen BK130.out 1
                                  go_wp2
                                  go_meet
                                  case rel => exact ⟨_, (true), (by first | rfl | (simp; done) | (simp [*]; done)), H', ⟨by have := HK1.out; have := HJ6.out; have := HK3.out; have := HJ9.out; first | omega | exact Nat.le_refl _⟩, ⟨by (with_reducible repeat (first | refine blk_drewN ?_ _ | refine blk_drew ?_ | refine blk_alloc ?_ _)); refine blk_far ?_ NB123_137.out _; (with_reducible repeat (first | refine blk_drewN ?_ _ | refine blk_drew ?_ | refine blk_alloc ?_ _)); refine blk_far ?_ NB123_137.out _; (with_reducible repeat (first | refine blk_drewN ?_ _ | refine blk_drew ?_ | refine blk_alloc ?_ _)); exact BK123.out⟩, ⟨by (with_reducible repeat (first | refine blk_drewN ?_ _ | refine blk_drew ?_ | refine blk_alloc ?_ _)); refine blk_far ?_ NB130_137.out _; (with_reducible repeat (first | refine blk_drewN ?_ _ | refine blk_drew ?_ | refine blk_alloc ?_ _)); refine blk_far ?_ NB130_137.out _; (with_reducible repeat (first | refine blk_drewN ?_ _ | refine blk_drew ?_ | refine blk_alloc ?_ _)); exact BK130.out⟩, ⟨by (with_reducible repeat (first | refine blk_drewN ?_ _ | refine blk_drew ?_ | refine blk_alloc ?_ _)); refine blk_put (cs := #[.int .i64 t135, .int .i64 0]) ?_ 1 _ rfl; (with_reducible repeat (first | refine blk_drewN ?_ _ | refine blk_drew ?_ | refine blk_alloc ?_ _)); refine blk_put (cs := #[.int .i64 0, .int .i64 0]) ?_ 0 _ rfl; (with_reducible repeat (first | refine blk_drewN ?_ _ | refine blk_drew ?_ | refine blk_alloc ?_ _)); exact BK137.out⟩, ⟨by repeat (first | (with_reducible first | exact HB.out | apply below_alloc | apply pw_below_drewN | apply below_drew1 | refine below_set ?_ GE123.out | refine below_set ?_ GE130.out | refine below_set ?_ GE137.out) | exact HB.out)⟩⟩
                            · rw [if_neg c36] at H
                              have c36b0 : (t125 == t128) = false := beq_eq_false_iff_ne.mpr c36
                              have c36b1 : (t125 != t128) = true := bne_iff_ne.mpr c36
                              as_aux_lemma =>
                                have H' := Aside0.mk H
                                clear H
                                have hnb56 := NB130_123.out
                                have hnc56 := NB123_130.out
                                have hnb57 := NB130_137.out
                                have hnc57 := NB137_130.out
                                have hcz58_0 : w31.cell? ⟨gb130, 0, none⟩ = some (.int .i64 t128) := (blk_cell BK130.out 0).trans rfl
                                have hcz58_1 : w31.cell? ⟨gb130, 1, none⟩ = some (.int .i64 t129) := (blk_cell BK130.out 1).trans rfl
                                have hfz58_0 := blk_frozen BK130.out 0
                                have hfz58_1 := blk_frozen BK130.out 1
                                go_wp2
                                go_meet
                                case rel => exact ⟨_, (true), (by first | rfl | (simp; done) | (simp [*]; done)), H', ⟨by have := HK1.out; have := HJ6.out; have := HK3.out; have := HJ9.out; first | omega | exact Nat.le_refl _⟩, ⟨by (with_reducible repeat (first | refine blk_drewN ?_ _ | refine blk_drew ?_ | refine blk_alloc ?_ _)); refine blk_far ?_ NB123_137.out _; (with_reducible repeat (first | refine blk_drewN ?_ _ | refine blk_drew ?_ | refine blk_alloc ?_ _)); refine blk_far ?_ NB123_137.out _; (with_reducible repeat (first | refine blk_drewN ?_ _ | refine blk_drew ?_ | refine blk_alloc ?_ _)); exact BK123.out⟩, ⟨by (with_reducible repeat (first | refine blk_drewN ?_ _ | refine blk_drew ?_ | refine blk_alloc ?_ _)); refine blk_far ?_ NB130_137.out _; (with_reducible repeat (first | refine blk_drewN ?_ _ | refine blk_drew ?_ | refine blk_alloc ?_ _)); refine blk_far ?_ NB130_137.out _; (with_reducible repeat (first | refine blk_drewN ?_ _ | refine blk_drew ?_ | refine blk_alloc ?_ _)); exact BK130.out⟩, ⟨by (with_reducible repeat (first | refine blk_drewN ?_ _ | refine blk_drew ?_ | refine blk_alloc ?_ _)); refine blk_put (cs := #[.int .i64 t135, .int .i64 0]) ?_ 1 _ rfl; (with_reducible repeat (first | refine blk_drewN ?_ _ | refine blk_drew ?_ | refine blk_alloc ?_ _)); refine blk_put (cs := #[.int .i64 0, .int .i64 0]) ?_ 0 _ rfl; (with_reducible repeat (first | refine blk_drewN ?_ _ | refine blk_drew ?_ | refine blk_alloc ?_ _)); exact BK137.out⟩, ⟨by repeat (first | (with_reducible first | exact HB.out | apply below_alloc | apply pw_below_drewN | apply below_drew1 | refine below_set ?_ GE123.out | refine below_set ?_ GE130.out | refine below_set ?_ GE137.out) | exact HB.out)⟩⟩
                          · rw [if_neg c35] at H
                            have c35b0 : (t124 == t127) = false := beq_eq_false_iff_ne.mpr c35
                            have c35b1 : (t124 != t127) = true := bne_iff_ne.mpr c35
                            (first | rw [c35b0] | (simp only [i64_w, i32_w]; rw [c35b0]) | skip)
                            as_aux_lemma =>
                              have H' := Aside0.mk H
                              clear H
                              go_wp2
                              go_meet
                              case rel => exact ⟨_, (true), (by first | rfl | (simp; done) | (simp [*]; done)), H', ⟨by have := HK1.out; have := HJ6.out; have := HK3.out; have := HJ9.out; first | omega | exact Nat.le_refl _⟩, ⟨by (with_reducible repeat (first | refine blk_drewN ?_ _ | refine blk_drew ?_ | refine blk_alloc ?_ _)); refine blk_far ?_ NB123_137.out _; (with_reducible repeat (first | refine blk_drewN ?_ _ | refine blk_drew ?_ | refine blk_alloc ?_ _)); refine blk_far ?_ NB123_137.out _; (with_reducible repeat (first | refine blk_drewN ?_ _ | refine blk_drew ?_ | refine blk_alloc ?_ _)); exact BK123.out⟩, ⟨by (with_reducible repeat (first | refine blk_drewN ?_ _ | refine blk_drew ?_ | refine blk_alloc ?_ _)); refine blk_far ?_ NB130_137.out _; (with_reducible repeat (first | refine blk_drewN ?_ _ | refine blk_drew ?_ | refine blk_alloc ?_ _)); refine blk_far ?_ NB130_137.out _; (with_reducible repeat (first | refine blk_drewN ?_ _ | refine blk_drew ?_ | refine blk_alloc ?_ _)); exact BK130.out⟩, ⟨by (with_reducible repeat (first | refine blk_drewN ?_ _ | refine blk_drew ?_ | refine blk_alloc ?_ _)); refine blk_put (cs := #[.int .i64 t135, .int .i64 0]) ?_ 1 _ rfl; (with_reducible repeat (first | refine blk_drewN ?_ _ | refine blk_drew ?_ | refine blk_alloc ?_ _)); refine blk_put (cs := #[.int .i64 0, .int .i64 0]) ?_ 0 _ rfl; (with_reducible repeat (first | refine blk_drewN ?_ _ | refine blk_drew ?_ | refine blk_alloc ?_ _)); exact BK137.out⟩, ⟨by repeat (first | (with_reducible first | exact HB.out | apply below_alloc | apply pw_below_drewN | apply below_drew1 | refine below_set ?_ GE123.out | refine below_set ?_ GE130.out | refine below_set ?_ GE137.out) | exact HB.out)⟩⟩
                        case rest =>
                          clear HC19
                          try clear c1
                          try clear c2
                          try clear p2
                          try clear c3
                          try clear c4
                          try clear c5
                          try clear c6
                          try clear c6b0
                          try clear c8
                          try clear c8b0
                          try clear c8b1
                          try clear c9
                          try clear c9b0
                          try clear c12
                          try clear c13
                          try clear c13b0
                          try clear c13b1
                          try clear c25
                          try clear c32
                          try clear c33
                          try clear c35
                          try clear c35b0
                          try clear c35b1
                          try clear c36
                          try clear c36b0
                          try clear c36b1
                          try clear c37
                          try clear c37b0
                          try clear c37b1
                          try clear c38
                          try clear c38b0
                          try clear c38b1
                          try clear c39
                          try clear c39b0
                          try clear c39b1
                          try clear c40
                          try clear c41
                          try clear c43
                          try clear c45
                          try clear c46
                          try clear c48
                          try clear c50
                          try clear c51
                          try clear c53
                          try clear c54
                          try clear c56
                          try clear c57
                          try clear hcz12_0
                          try clear hcz12_1
                          try clear hcz14_0
                          try clear hcz14_1
                          try clear hcz20_0
                          try clear hcz20_1
                          try clear hcz22_0
                          try clear hcz22_1
                          try clear hcz26_0
                          try clear hcz26_1
                          try clear hcz27_0
                          try clear hcz27_1
                          try clear hcz29_0
                          try clear hcz29_1
                          try clear hcz34_0
                          try clear hcz34_1
                          try clear hcz42_0
                          try clear hcz42_1
                          try clear hcz44_0
                          try clear hcz44_1
                          try clear hcz47_0
                          try clear hcz47_1
                          try clear hcz49_0
                          try clear hcz49_1
                          try clear hcz52_0
                          try clear hcz52_1
                          try clear hcz55_0
                          try clear hcz55_1
                          try clear hcz58_0
                          try clear hcz58_1
                          try clear hfz12_0
                          try clear hfz12_1
                          try clear hfz14_0
                          try clear hfz14_1
                          try clear hfz20_0
                          try clear hfz20_1
                          try clear hfz22_0
                          try clear hfz22_1
                          try clear hfz26_0
                          try clear hfz26_1
                          try clear hfz27_0
                          try clear hfz27_1
                          try clear hfz29_0
                          try clear hfz29_1
                          try clear hfz34_0
                          try clear hfz34_1
                          try clear hfz42_0
                          try clear hfz42_1
                          try clear hfz44_0
                          try clear hfz44_1
                          try clear hfz47_0
                          try clear hfz47_1
                          try clear hfz49_0
                          try clear hfz49_1
                          try clear hfz52_0
                          try clear hfz52_1
                          try clear hfz55_0
                          try clear hfz55_1
                          try clear hfz58_0
                          try clear hfz58_1
                          try clear p2
                          obtain ⟨kq, x102_18, rfl, HA, HJ18, BK123, BK130, BK137, HB⟩ := hcut
                          cases kq with
                          | zero => exact absurd HA.out (by simp [heraldlaw10_StateCells.j4])
                          | succ kj18 =>
                            have H := HA.out
                            clear HA
                            simp only [heraldlaw10_StateCells.j4] at H
                            by_cases c59 : x102_18 = true
                            · subst c59
                              have H1 : (some false) = some r := by rw [if_pos rfl] at H; exact H
                              clear H
                              have H := H1
                              clear H1
                              as_aux_lemma =>
                                obtain rfl := Option.some.inj H
                                go_wp2
                                go_ret
                                exact ⟨by first | rfl | (simp [errW_none, errW_some] <;> rfl) | (simp [*, errW_none, errW_some] <;> rfl), by repeat (first | (with_reducible first | exact HB.out | apply below_alloc | apply pw_below_drewN | apply below_drew1 | refine below_set ?_ GE123.out | refine below_set ?_ GE130.out | refine below_set ?_ GE137.out) | exact HB.out)⟩
                            · replace c59 := Bool.eq_false_iff.mpr c59
                              subst c59
                              have H1 : (if x6_6 ≥ 0 then (if x6_6 ≤ 6 then (if x124001_9 ≥ 1 then (heraldlaw10_StateCells.j5 kj18 a0 a1 x5_1 x6_6 x7_3 t124 t125 t131 t132 (decide (x124001_9 ≤ 8))) else (heraldlaw10_StateCells.j5 kj18 a0 a1 x5_1 x6_6 x7_3 t124 t125 t131 t132 false)) else (heraldlaw10_StateCells.j5 kj18 a0 a1 x5_1 x6_6 x7_3 t124 t125 t131 t132 false)) else (heraldlaw10_StateCells.j5 kj18 a0 a1 x5_1 x6_6 x7_3 t124 t125 t131 t132 false)) = some r := by rw [if_neg (show ¬ (false = true) by decide)] at H; exact H
                              clear H
                              have H := H1
                              clear H1
                              have HC60 := Aside0.mk H
                              clear H
                              go_upto_region 22 with (fail)
                              go_cut [19] (fun v19 wc => ∃ (kq : Nat) (x19_59 : Bool), v19 = .bool x19_59 ∧ Aside0 (heraldlaw10_StateCells.j5 kq a0 a1 x5_1 x6_6 x7_3 t124 t125 t131 t132 x19_59 = some r) ∧ Aside0 (kq ≤ kj18) ∧ Aside0 (wc.heap[gb123]? = some (.cells #[.bool true, .int .i64 x124001_9] 28 (0, 0))) ∧ Aside0 (wc.heap[gb130]? = some (.cells #[.int .i64 t128, .int .i64 t129] 30 (0, 0))) ∧ Aside0 (wc.heap[gb137]? = some (.cells #[.int .i64 t135, .int .i64 t136] 30 (0, 0))) ∧ Aside0 (Below w.heap.size w wc))
                              case first =>
                                have H := HC60.out
                                clear HC60
                                by_cases c61 : x6_6 ≥ 0
                                · rw [if_pos c61] at H
                                  have c61b0 : decide (0 ≤ x6_6) = true := decide_eq_true c61
                                  clear c61
                                  (first | rw [c61b0] | (simp only [i64_w, i32_w]; rw [c61b0]) | skip)
                                  by_cases c62 : x6_6 ≤ 6
                                  · rw [if_pos c62] at H
                                    have c62b0 : decide (x6_6 ≤ 6) = true := decide_eq_true c62
                                    clear c62
                                    by_cases c63 : x124001_9 ≥ 1
                                    · rw [if_pos c63] at H
                                      have c63b0 : decide (1 ≤ x124001_9) = true := decide_eq_true c63
                                      clear c63
                                      as_aux_lemma =>
                                        have H' := Aside0.mk H
                                        clear H
                                        have hnb64 := NB123_130.out
                                        have hnc64 := NB130_123.out
                                        have hnb65 := NB123_137.out
                                        have hnc65 := NB137_123.out
                                        have hcz66_0 : wc.cell? ⟨gb123, 0, none⟩ = some (.bool true) := (blk_cell BK123.out 0).trans rfl
                                        have hcz66_1 : wc.cell? ⟨gb123, 1, none⟩ = some (.int .i64 x124001_9) := (blk_cell BK123.out 1).trans rfl
                                        have hfz66_0 := blk_frozen BK123.out 0
                                        have hfz66_1 := blk_frozen BK123.out 1
                                        go_wp2
                                        go_meet
                                        case rel => exact ⟨_, (decide (x124001_9 ≤ 8)), (by first | rfl | (simp; done) | (simp [*]; done)), H', ⟨by have := HK1.out; have := HJ6.out; have := HK3.out; have := HJ9.out; have := HJ18.out; first | omega | exact Nat.le_refl _⟩, ⟨by (with_reducible repeat (first | refine blk_drewN ?_ _ | refine blk_drew ?_ | refine blk_alloc ?_ _)); exact BK123.out⟩, ⟨by (with_reducible repeat (first | refine blk_drewN ?_ _ | refine blk_drew ?_ | refine blk_alloc ?_ _)); exact BK130.out⟩, ⟨by (with_reducible repeat (first | refine blk_drewN ?_ _ | refine blk_drew ?_ | refine blk_alloc ?_ _)); exact BK137.out⟩, ⟨by repeat (first | (with_reducible first | exact HB.out | apply below_alloc | apply pw_below_drewN | apply below_drew1 | refine below_set ?_ GE123.out | refine below_set ?_ GE130.out | refine below_set ?_ GE137.out) | exact HB.out)⟩⟩
                                    · rw [if_neg c63] at H
                                      have c63b0 : decide (1 ≤ x124001_9) = false := decide_eq_false c63
                                      clear c63
                                      as_aux_lemma =>
                                        have H' := Aside0.mk H
                                        clear H
                                        have hnb67 := NB123_130.out
                                        have hnc67 := NB130_123.out
                                        have hnb68 := NB123_137.out
                                        have hnc68 := NB137_123.out
                                        have hcz69_0 : wc.cell? ⟨gb123, 0, none⟩ = some (.bool true) := (blk_cell BK123.out 0).trans rfl
                                        have hcz69_1 : wc.cell? ⟨gb123, 1, none⟩ = some (.int .i64 x124001_9) := (blk_cell BK123.out 1).trans rfl
                                        have hfz69_0 := blk_frozen BK123.out 0
                                        have hfz69_1 := blk_frozen BK123.out 1
                                        go_wp2
                                        go_meet
                                        case rel => exact ⟨_, (false), (by first | rfl | (simp; done) | (simp [*]; done)), H', ⟨by have := HK1.out; have := HJ6.out; have := HK3.out; have := HJ9.out; have := HJ18.out; first | omega | exact Nat.le_refl _⟩, ⟨by (with_reducible repeat (first | refine blk_drewN ?_ _ | refine blk_drew ?_ | refine blk_alloc ?_ _)); exact BK123.out⟩, ⟨by (with_reducible repeat (first | refine blk_drewN ?_ _ | refine blk_drew ?_ | refine blk_alloc ?_ _)); exact BK130.out⟩, ⟨by (with_reducible repeat (first | refine blk_drewN ?_ _ | refine blk_drew ?_ | refine blk_alloc ?_ _)); exact BK137.out⟩, ⟨by repeat (first | (with_reducible first | exact HB.out | apply below_alloc | apply pw_below_drewN | apply below_drew1 | refine below_set ?_ GE123.out | refine below_set ?_ GE130.out | refine below_set ?_ GE137.out) | exact HB.out)⟩⟩
                                  · rw [if_neg c62] at H
                                    have c62b0 : decide (x6_6 ≤ 6) = false := decide_eq_false c62
                                    clear c62
                                    as_aux_lemma =>
                                      have H' := Aside0.mk H
                                      clear H
                                      go_wp2
                                      go_meet
                                      case rel => exact ⟨_, (false), (by first | rfl | (simp; done) | (simp [*]; done)), H', ⟨by have := HK1.out; have := HJ6.out; have := HK3.out; have := HJ9.out; have := HJ18.out; first | omega | exact Nat.le_refl _⟩, ⟨by (with_reducible repeat (first | refine blk_drewN ?_ _ | refine blk_drew ?_ | refine blk_alloc ?_ _)); exact BK123.out⟩, ⟨by (with_reducible repeat (first | refine blk_drewN ?_ _ | refine blk_drew ?_ | refine blk_alloc ?_ _)); exact BK130.out⟩, ⟨by (with_reducible repeat (first | refine blk_drewN ?_ _ | refine blk_drew ?_ | refine blk_alloc ?_ _)); exact BK137.out⟩, ⟨by repeat (first | (with_reducible first | exact HB.out | apply below_alloc | apply pw_below_drewN | apply below_drew1 | refine below_set ?_ GE123.out | refine below_set ?_ GE130.out | refine below_set ?_ GE137.out) | exact HB.out)⟩⟩
                                · rw [if_neg c61] at H
                                  have c61b0 : decide (0 ≤ x6_6) = false := decide_eq_false c61
                                  clear c61
                                  (first | rw [c61b0] | (simp only [i64_w, i32_w]; rw [c61b0]) | skip)
                                  as_aux_lemma =>
                                    have H' := Aside0.mk H
                                    clear H
                                    go_wp2
                                    go_meet
                                    case rel => exact ⟨_, (false), (by first | rfl | (simp; done) | (simp [*]; done)), H', ⟨by have := HK1.out; have := HJ6.out; have := HK3.out; have := HJ9.out; have := HJ18.out; first | omega | exact Nat.le_refl _⟩, ⟨by (with_reducible repeat (first | refine blk_drewN ?_ _ | refine blk_drew ?_ | refine blk_alloc ?_ _)); exact BK123.out⟩, ⟨by (with_reducible repeat (first | refine blk_drewN ?_ _ | refine blk_drew ?_ | refine blk_alloc ?_ _)); exact BK130.out⟩, ⟨by (with_reducible repeat (first | refine blk_drewN ?_ _ | refine blk_drew ?_ | refine blk_alloc ?_ _)); exact BK137.out⟩, ⟨by repeat (first | (with_reducible first | exact HB.out | apply below_alloc | apply pw_below_drewN | apply below_drew1 | refine below_set ?_ GE123.out | refine below_set ?_ GE130.out | refine below_set ?_ GE137.out) | exact HB.out)⟩⟩
                              case rest =>
                                clear HC60
                                try clear c1
                                try clear c2
                                try clear p2
                                try clear c3
                                try clear c4
                                try clear c5
                                try clear c6
                                try clear c6b0
                                try clear c8
                                try clear c8b0
                                try clear c8b1
                                try clear c9
                                try clear c9b0
                                try clear c12
                                try clear c13
                                try clear c13b0
                                try clear c13b1
                                try clear c25
                                try clear c32
                                try clear c33
                                try clear c35
                                try clear c35b0
                                try clear c35b1
                                try clear c36
                                try clear c36b0
                                try clear c36b1
                                try clear c37
                                try clear c37b0
                                try clear c37b1
                                try clear c38
                                try clear c38b0
                                try clear c38b1
                                try clear c39
                                try clear c39b0
                                try clear c39b1
                                try clear c40
                                try clear c41
                                try clear c43
                                try clear c45
                                try clear c46
                                try clear c48
                                try clear c50
                                try clear c51
                                try clear c53
                                try clear c54
                                try clear c56
                                try clear c57
                                try clear c59
                                try clear c61
                                try clear c61b0
                                try clear c62
                                try clear c62b0
                                try clear c63
                                try clear c63b0
                                try clear c64
                                try clear c65
                                try clear c67
                                try clear c68
                                try clear hcz12_0
                                try clear hcz12_1
                                try clear hcz14_0
                                try clear hcz14_1
                                try clear hcz20_0
                                try clear hcz20_1
                                try clear hcz22_0
                                try clear hcz22_1
                                try clear hcz26_0
                                try clear hcz26_1
                                try clear hcz27_0
                                try clear hcz27_1
                                try clear hcz29_0
                                try clear hcz29_1
                                try clear hcz34_0
                                try clear hcz34_1
                                try clear hcz42_0
                                try clear hcz42_1
                                try clear hcz44_0
                                try clear hcz44_1
                                try clear hcz47_0
                                try clear hcz47_1
                                try clear hcz49_0
                                try clear hcz49_1
                                try clear hcz52_0
                                try clear hcz52_1
                                try clear hcz55_0
                                try clear hcz55_1
                                try clear hcz58_0
                                try clear hcz58_1
                                try clear hcz66_0
                                try clear hcz66_1
                                try clear hcz69_0
                                try clear hcz69_1
                                try clear hfz12_0
                                try clear hfz12_1
                                try clear hfz14_0
                                try clear hfz14_1
                                try clear hfz20_0
                                try clear hfz20_1
                                try clear hfz22_0
                                try clear hfz22_1
                                try clear hfz26_0
                                try clear hfz26_1
                                try clear hfz27_0
                                try clear hfz27_1
                                try clear hfz29_0
                                try clear hfz29_1
                                try clear hfz34_0
                                try clear hfz34_1
                                try clear hfz42_0
                                try clear hfz42_1
                                try clear hfz44_0
                                try clear hfz44_1
                                try clear hfz47_0
                                try clear hfz47_1
                                try clear hfz49_0
                                try clear hfz49_1
                                try clear hfz52_0
                                try clear hfz52_1
                                try clear hfz55_0
                                try clear hfz55_1
                                try clear hfz58_0
                                try clear hfz58_1
                                try clear hfz66_0
                                try clear hfz66_1
                                try clear hfz69_0
                                try clear hfz69_1
                                try clear p2
                                obtain ⟨kq, x19_59, rfl, HA, HJ59, BK123, BK130, BK137, HB⟩ := hcut
                                cases kq with
                                | zero => exact absurd HA.out (by simp [heraldlaw10_StateCells.j5])
                                | succ kj59 =>
                                  have H := HA.out
                                  clear HA
                                  simp only [heraldlaw10_StateCells.j5] at H
                                  have HC70 := Aside0.mk H
                                  clear H
                                  go_upto_region 23 with (fail)
                                  go_cut [161] (fun v161 wc => ∃ (kq : Nat) (x161_69 : Bool), v161 = .bool x161_69 ∧ Aside0 (heraldlaw10_StateCells.j6 kq a0 a1 x5_1 x6_6 x7_3 x161_69 = some r) ∧ Aside0 (kq ≤ kj59) ∧ Aside0 (wc.heap[gb123]? = some (.cells #[.bool true, .int .i64 x124001_9] 28 (0, 0))) ∧ Aside0 (wc.heap[gb130]? = some (.cells #[.int .i64 t128, .int .i64 t129] 30 (0, 0))) ∧ Aside0 (wc.heap[gb137]? = some (.cells #[.int .i64 t135, .int .i64 t136] 30 (0, 0))) ∧ Aside0 (Below w.heap.size w wc))
                                  case first =>
                                    have H := HC70.out
                                    clear HC70
                                    by_cases c71 : t125 = 0
                                    · rw [if_pos c71] at H
                                      have c71b0 : (t125 == 0) = true := beq_iff_eq.mpr c71
                                      have c71b1 : (t125 != 0) = false := bne_eq_false_iff_eq.mpr c71
                                      clear c71
                                      (first | rw [c71b0] | (simp only [i64_w, i32_w]; rw [c71b0]) | skip)
                                      by_cases c72 : t132 = 0
                                      · rw [if_pos c72] at H
                                        have c72b0 : (t132 == 0) = true := beq_iff_eq.mpr c72
                                        have c72b1 : (t132 != 0) = false := bne_eq_false_iff_eq.mpr c72
                                        clear c72
                                        by_cases c73 : x19_59 = true
                                        · subst c73
                                          have H1 : (if t132 = 4 then (heraldlaw10_StateCells.j6 kj59 a0 a1 x5_1 x6_6 x7_3 true) else (heraldlaw10_StateCells.j6 kj59 a0 a1 x5_1 x6_6 x7_3 false)) = some r := by rw [if_pos rfl] at H; exact H
                                          clear H
                                          have H := H1
                                          clear H1
                                          by_cases c74 : t132 = 4
                                          · rw [if_pos c74] at H
                                            have c74b0 : (t132 == 4) = true := beq_iff_eq.mpr c74
                                            have c74b1 : (t132 != 4) = false := bne_eq_false_iff_eq.mpr c74
                                            clear c74
                                            as_aux_lemma =>
                                              have H' := Aside0.mk H
                                              clear H
                                              go_wp2
                                              go_meet
                                              case rel => exact ⟨_, (true), (by first | rfl | (simp; done) | (simp [*]; done)), H', ⟨by have := HK1.out; have := HJ6.out; have := HK3.out; have := HJ9.out; have := HJ18.out; have := HJ59.out; first | omega | exact Nat.le_refl _⟩, ⟨by (with_reducible repeat (first | refine blk_drewN ?_ _ | refine blk_drew ?_ | refine blk_alloc ?_ _)); exact BK123.out⟩, ⟨by (with_reducible repeat (first | refine blk_drewN ?_ _ | refine blk_drew ?_ | refine blk_alloc ?_ _)); exact BK130.out⟩, ⟨by (with_reducible repeat (first | refine blk_drewN ?_ _ | refine blk_drew ?_ | refine blk_alloc ?_ _)); exact BK137.out⟩, ⟨by repeat (first | (with_reducible first | exact HB.out | apply below_alloc | apply pw_below_drewN | apply below_drew1 | refine below_set ?_ GE123.out | refine below_set ?_ GE130.out | refine below_set ?_ GE137.out) | exact HB.out)⟩⟩
                                          · rw [if_neg c74] at H
                                            have c74b0 : (t132 == 4) = false := beq_eq_false_iff_ne.mpr c74
                                            have c74b1 : (t132 != 4) = true := bne_iff_ne.mpr c74
                                            as_aux_lemma =>
                                              have H' := Aside0.mk H
                                              clear H
                                              go_wp2
                                              go_meet
                                              case rel => exact ⟨_, (false), (by first | rfl | (simp; done) | (simp [*]; done)), H', ⟨by have := HK1.out; have := HJ6.out; have := HK3.out; have := HJ9.out; have := HJ18.out; have := HJ59.out; first | omega | exact Nat.le_refl _⟩, ⟨by (with_reducible repeat (first | refine blk_drewN ?_ _ | refine blk_drew ?_ | refine blk_alloc ?_ _)); exact BK123.out⟩, ⟨by (with_reducible repeat (first | refine blk_drewN ?_ _ | refine blk_drew ?_ | refine blk_alloc ?_ _)); exact BK130.out⟩, ⟨by (with_reducible repeat (first | refine blk_drewN ?_ _ | refine blk_drew ?_ | refine blk_alloc ?_ _)); exact BK137.out⟩, ⟨by repeat (first | (with_reducible first | exact HB.out | apply below_alloc | apply pw_below_drewN | apply below_drew1 | refine below_set ?_ GE123.out | refine below_set ?_ GE130.out | refine below_set ?_ GE137.out) | exact HB.out)⟩⟩
                                        · replace c73 := Bool.eq_false_iff.mpr c73
                                          subst c73
                                          have H1 : (if t125 = 4 then (heraldlaw10_StateCells.j6 kj59 a0 a1 x5_1 x6_6 x7_3 (t132 != 4)) else (heraldlaw10_StateCells.j6 kj59 a0 a1 x5_1 x6_6 x7_3 true)) = some r := by rw [if_neg (show ¬ (false = true) by decide)] at H; exact H
                                          clear H
                                          have H := H1
                                          clear H1
                                          by_cases c75 : t125 = 4
                                          · rw [if_pos c75] at H
                                            have c75b0 : (t125 == 4) = true := beq_iff_eq.mpr c75
                                            have c75b1 : (t125 != 4) = false := bne_eq_false_iff_eq.mpr c75
                                            clear c75
                                            as_aux_lemma =>
                                              have H' := Aside0.mk H
                                              clear H
                                              go_wp2
                                              go_meet
                                              case rel => exact ⟨_, ((t132 != 4)), (by first | rfl | (simp; done) | (simp [*]; done)), H', ⟨by have := HK1.out; have := HJ6.out; have := HK3.out; have := HJ9.out; have := HJ18.out; have := HJ59.out; first | omega | exact Nat.le_refl _⟩, ⟨by (with_reducible repeat (first | refine blk_drewN ?_ _ | refine blk_drew ?_ | refine blk_alloc ?_ _)); exact BK123.out⟩, ⟨by (with_reducible repeat (first | refine blk_drewN ?_ _ | refine blk_drew ?_ | refine blk_alloc ?_ _)); exact BK130.out⟩, ⟨by (with_reducible repeat (first | refine blk_drewN ?_ _ | refine blk_drew ?_ | refine blk_alloc ?_ _)); exact BK137.out⟩, ⟨by repeat (first | (with_reducible first | exact HB.out | apply below_alloc | apply pw_below_drewN | apply below_drew1 | refine below_set ?_ GE123.out | refine below_set ?_ GE130.out | refine below_set ?_ GE137.out) | exact HB.out)⟩⟩
                                          · rw [if_neg c75] at H
                                            have c75b0 : (t125 == 4) = false := beq_eq_false_iff_ne.mpr c75
                                            have c75b1 : (t125 != 4) = true := bne_iff_ne.mpr c75
                                            as_aux_lemma =>
                                              have H' := Aside0.mk H
                                              clear H
                                              go_wp2
                                              go_meet
                                              case rel => exact ⟨_, (true), (by first | rfl | (simp; done) | (simp [*]; done)), H', ⟨by have := HK1.out; have := HJ6.out; have := HK3.out; have := HJ9.out; have := HJ18.out; have := HJ59.out; first | omega | exact Nat.le_refl _⟩, ⟨by (with_reducible repeat (first | refine blk_drewN ?_ _ | refine blk_drew ?_ | refine blk_alloc ?_ _)); exact BK123.out⟩, ⟨by (with_reducible repeat (first | refine blk_drewN ?_ _ | refine blk_drew ?_ | refine blk_alloc ?_ _)); exact BK130.out⟩, ⟨by (with_reducible repeat (first | refine blk_drewN ?_ _ | refine blk_drew ?_ | refine blk_alloc ?_ _)); exact BK137.out⟩, ⟨by repeat (first | (with_reducible first | exact HB.out | apply below_alloc | apply pw_below_drewN | apply below_drew1 | refine below_set ?_ GE123.out | refine below_set ?_ GE130.out | refine below_set ?_ GE137.out) | exact HB.out)⟩⟩
                                      · rw [if_neg c72] at H
                                        have c72b0 : (t132 == 0) = false := beq_eq_false_iff_ne.mpr c72
                                        have c72b1 : (t132 != 0) = true := bne_iff_ne.mpr c72
                                        by_cases c76 : t131 = x6_6
                                        · rw [if_pos c76] at H
                                          have c76b0 : (t131 == x6_6) = true := beq_iff_eq.mpr c76
                                          have c76b1 : (t131 != x6_6) = false := bne_eq_false_iff_eq.mpr c76
                                          clear c76
                                          by_cases c77 : x19_59 = true
                                          · subst c77
                                            have H1 : (if t132 = 4 then (heraldlaw10_StateCells.j6 kj59 a0 a1 x5_1 x6_6 x7_3 true) else (heraldlaw10_StateCells.j6 kj59 a0 a1 x5_1 x6_6 x7_3 false)) = some r := by rw [if_pos rfl] at H; exact H
                                            clear H
                                            have H := H1
                                            clear H1
                                            by_cases c78 : t132 = 4
                                            · rw [if_pos c78] at H
                                              have c78b0 : (t132 == 4) = true := beq_iff_eq.mpr c78
                                              have c78b1 : (t132 != 4) = false := bne_eq_false_iff_eq.mpr c78
                                              clear c78
                                              as_aux_lemma =>
                                                have H' := Aside0.mk H
                                                clear H
                                                go_wp2
                                                go_meet
                                                case rel => exact ⟨_, (true), (by first | rfl | (simp; done) | (simp [*]; done)), H', ⟨by have := HK1.out; have := HJ6.out; have := HK3.out; have := HJ9.out; have := HJ18.out; have := HJ59.out; first | omega | exact Nat.le_refl _⟩, ⟨by (with_reducible repeat (first | refine blk_drewN ?_ _ | refine blk_drew ?_ | refine blk_alloc ?_ _)); exact BK123.out⟩, ⟨by (with_reducible repeat (first | refine blk_drewN ?_ _ | refine blk_drew ?_ | refine blk_alloc ?_ _)); exact BK130.out⟩, ⟨by (with_reducible repeat (first | refine blk_drewN ?_ _ | refine blk_drew ?_ | refine blk_alloc ?_ _)); exact BK137.out⟩, ⟨by repeat (first | (with_reducible first | exact HB.out | apply below_alloc | apply pw_below_drewN | apply below_drew1 | refine below_set ?_ GE123.out | refine below_set ?_ GE130.out | refine below_set ?_ GE137.out) | exact HB.out)⟩⟩
                                            · rw [if_neg c78] at H
                                              have c78b0 : (t132 == 4) = false := beq_eq_false_iff_ne.mpr c78
                                              have c78b1 : (t132 != 4) = true := bne_iff_ne.mpr c78
                                              as_aux_lemma =>
                                                have H' := Aside0.mk H
                                                clear H
                                                go_wp2
                                                go_meet
                                                case rel => exact ⟨_, (false), (by first | rfl | (simp; done) | (simp [*]; done)), H', ⟨by have := HK1.out; have := HJ6.out; have := HK3.out; have := HJ9.out; have := HJ18.out; have := HJ59.out; first | omega | exact Nat.le_refl _⟩, ⟨by (with_reducible repeat (first | refine blk_drewN ?_ _ | refine blk_drew ?_ | refine blk_alloc ?_ _)); exact BK123.out⟩, ⟨by (with_reducible repeat (first | refine blk_drewN ?_ _ | refine blk_drew ?_ | refine blk_alloc ?_ _)); exact BK130.out⟩, ⟨by (with_reducible repeat (first | refine blk_drewN ?_ _ | refine blk_drew ?_ | refine blk_alloc ?_ _)); exact BK137.out⟩, ⟨by repeat (first | (with_reducible first | exact HB.out | apply below_alloc | apply pw_below_drewN | apply below_drew1 | refine below_set ?_ GE123.out | refine below_set ?_ GE130.out | refine below_set ?_ GE137.out) | exact HB.out)⟩⟩
                                          · replace c77 := Bool.eq_false_iff.mpr c77
                                            subst c77
                                            have H1 : (if t125 = 4 then (heraldlaw10_StateCells.j6 kj59 a0 a1 x5_1 x6_6 x7_3 (t132 != 4)) else (heraldlaw10_StateCells.j6 kj59 a0 a1 x5_1 x6_6 x7_3 true)) = some r := by rw [if_neg (show ¬ (false = true) by decide)] at H; exact H
                                            clear H
                                            have H := H1
                                            clear H1
                                            by_cases c79 : t125 = 4
                                            · rw [if_pos c79] at H
                                              have c79b0 : (t125 == 4) = true := beq_iff_eq.mpr c79
                                              have c79b1 : (t125 != 4) = false := bne_eq_false_iff_eq.mpr c79
                                              clear c79
                                              as_aux_lemma =>
                                                have H' := Aside0.mk H
                                                clear H
                                                go_wp2
                                                go_meet
                                                case rel => exact ⟨_, ((t132 != 4)), (by first | rfl | (simp; done) | (simp [*]; done)), H', ⟨by have := HK1.out; have := HJ6.out; have := HK3.out; have := HJ9.out; have := HJ18.out; have := HJ59.out; first | omega | exact Nat.le_refl _⟩, ⟨by (with_reducible repeat (first | refine blk_drewN ?_ _ | refine blk_drew ?_ | refine blk_alloc ?_ _)); exact BK123.out⟩, ⟨by (with_reducible repeat (first | refine blk_drewN ?_ _ | refine blk_drew ?_ | refine blk_alloc ?_ _)); exact BK130.out⟩, ⟨by (with_reducible repeat (first | refine blk_drewN ?_ _ | refine blk_drew ?_ | refine blk_alloc ?_ _)); exact BK137.out⟩, ⟨by repeat (first | (with_reducible first | exact HB.out | apply below_alloc | apply pw_below_drewN | apply below_drew1 | refine below_set ?_ GE123.out | refine below_set ?_ GE130.out | refine below_set ?_ GE137.out) | exact HB.out)⟩⟩
                                            · rw [if_neg c79] at H
                                              have c79b0 : (t125 == 4) = false := beq_eq_false_iff_ne.mpr c79
                                              have c79b1 : (t125 != 4) = true := bne_iff_ne.mpr c79
                                              as_aux_lemma =>
                                                have H' := Aside0.mk H
                                                clear H
                                                go_wp2
                                                go_meet
                                                case rel => exact ⟨_, (true), (by first | rfl | (simp; done) | (simp [*]; done)), H', ⟨by have := HK1.out; have := HJ6.out; have := HK3.out; have := HJ9.out; have := HJ18.out; have := HJ59.out; first | omega | exact Nat.le_refl _⟩, ⟨by (with_reducible repeat (first | refine blk_drewN ?_ _ | refine blk_drew ?_ | refine blk_alloc ?_ _)); exact BK123.out⟩, ⟨by (with_reducible repeat (first | refine blk_drewN ?_ _ | refine blk_drew ?_ | refine blk_alloc ?_ _)); exact BK130.out⟩, ⟨by (with_reducible repeat (first | refine blk_drewN ?_ _ | refine blk_drew ?_ | refine blk_alloc ?_ _)); exact BK137.out⟩, ⟨by repeat (first | (with_reducible first | exact HB.out | apply below_alloc | apply pw_below_drewN | apply below_drew1 | refine below_set ?_ GE123.out | refine below_set ?_ GE130.out | refine below_set ?_ GE137.out) | exact HB.out)⟩⟩
                                        · rw [if_neg c76] at H
                                          have c76b0 : (t131 == x6_6) = false := beq_eq_false_iff_ne.mpr c76
                                          have c76b1 : (t131 != x6_6) = true := bne_iff_ne.mpr c76
                                          as_aux_lemma =>
                                            have H' := Aside0.mk H
                                            clear H
                                            go_wp2
                                            go_meet
                                            case rel => exact ⟨_, (true), (by first | rfl | (simp; done) | (simp [*]; done)), H', ⟨by have := HK1.out; have := HJ6.out; have := HK3.out; have := HJ9.out; have := HJ18.out; have := HJ59.out; first | omega | exact Nat.le_refl _⟩, ⟨by (with_reducible repeat (first | refine blk_drewN ?_ _ | refine blk_drew ?_ | refine blk_alloc ?_ _)); exact BK123.out⟩, ⟨by (with_reducible repeat (first | refine blk_drewN ?_ _ | refine blk_drew ?_ | refine blk_alloc ?_ _)); exact BK130.out⟩, ⟨by (with_reducible repeat (first | refine blk_drewN ?_ _ | refine blk_drew ?_ | refine blk_alloc ?_ _)); exact BK137.out⟩, ⟨by repeat (first | (with_reducible first | exact HB.out | apply below_alloc | apply pw_below_drewN | apply below_drew1 | refine below_set ?_ GE123.out | refine below_set ?_ GE130.out | refine below_set ?_ GE137.out) | exact HB.out)⟩⟩
                                    · rw [if_neg c71] at H
                                      have c71b0 : (t125 == 0) = false := beq_eq_false_iff_ne.mpr c71
                                      have c71b1 : (t125 != 0) = true := bne_iff_ne.mpr c71
                                      (first | rw [c71b0] | (simp only [i64_w, i32_w]; rw [c71b0]) | skip)
                                      by_cases c80 : t124 = x6_6
                                      · rw [if_pos c80] at H
                                        have c80b0 : (t124 == x6_6) = true := beq_iff_eq.mpr c80
                                        have c80b1 : (t124 != x6_6) = false := bne_eq_false_iff_eq.mpr c80
                                        clear c80
                                        by_cases c81 : t132 = 0
                                        · rw [if_pos c81] at H
                                          have c81b0 : (t132 == 0) = true := beq_iff_eq.mpr c81
                                          have c81b1 : (t132 != 0) = false := bne_eq_false_iff_eq.mpr c81
                                          clear c81
                                          by_cases c82 : t125 = 4
                                          · rw [if_pos c82] at H
                                            have c82b0 : (t125 == 4) = true := beq_iff_eq.mpr c82
                                            have c82b1 : (t125 != 4) = false := bne_eq_false_iff_eq.mpr c82
                                            clear c82
                                            by_cases c83 : x19_59 = true
                                            · subst c83
                                              have H1 : (if t132 = 4 then (heraldlaw10_StateCells.j6 kj59 a0 a1 x5_1 x6_6 x7_3 true) else (heraldlaw10_StateCells.j6 kj59 a0 a1 x5_1 x6_6 x7_3 false)) = some r := by rw [if_pos rfl] at H; exact H
                                              clear H
                                              have H := H1
                                              clear H1
                                              by_cases c84 : t132 = 4
                                              · rw [if_pos c84] at H
                                                have c84b0 : (t132 == 4) = true := beq_iff_eq.mpr c84
                                                have c84b1 : (t132 != 4) = false := bne_eq_false_iff_eq.mpr c84
                                                clear c84
                                                as_aux_lemma =>
                                                  have H' := Aside0.mk H
                                                  clear H
                                                  go_wp2
                                                  go_meet
                                                  case rel => exact ⟨_, (true), (by first | rfl | (simp; done) | (simp [*]; done)), H', ⟨by have := HK1.out; have := HJ6.out; have := HK3.out; have := HJ9.out; have := HJ18.out; have := HJ59.out; first | omega | exact Nat.le_refl _⟩, ⟨by (with_reducible repeat (first | refine blk_drewN ?_ _ | refine blk_drew ?_ | refine blk_alloc ?_ _)); exact BK123.out⟩, ⟨by (with_reducible repeat (first | refine blk_drewN ?_ _ | refine blk_drew ?_ | refine blk_alloc ?_ _)); exact BK130.out⟩, ⟨by (with_reducible repeat (first | refine blk_drewN ?_ _ | refine blk_drew ?_ | refine blk_alloc ?_ _)); exact BK137.out⟩, ⟨by repeat (first | (with_reducible first | exact HB.out | apply below_alloc | apply pw_below_drewN | apply below_drew1 | refine below_set ?_ GE123.out | refine below_set ?_ GE130.out | refine below_set ?_ GE137.out) | exact HB.out)⟩⟩
                                              · rw [if_neg c84] at H
                                                have c84b0 : (t132 == 4) = false := beq_eq_false_iff_ne.mpr c84
                                                have c84b1 : (t132 != 4) = true := bne_iff_ne.mpr c84
                                                as_aux_lemma =>
                                                  have H' := Aside0.mk H
                                                  clear H
                                                  go_wp2
                                                  go_meet
                                                  case rel => exact ⟨_, (false), (by first | rfl | (simp; done) | (simp [*]; done)), H', ⟨by have := HK1.out; have := HJ6.out; have := HK3.out; have := HJ9.out; have := HJ18.out; have := HJ59.out; first | omega | exact Nat.le_refl _⟩, ⟨by (with_reducible repeat (first | refine blk_drewN ?_ _ | refine blk_drew ?_ | refine blk_alloc ?_ _)); exact BK123.out⟩, ⟨by (with_reducible repeat (first | refine blk_drewN ?_ _ | refine blk_drew ?_ | refine blk_alloc ?_ _)); exact BK130.out⟩, ⟨by (with_reducible repeat (first | refine blk_drewN ?_ _ | refine blk_drew ?_ | refine blk_alloc ?_ _)); exact BK137.out⟩, ⟨by repeat (first | (with_reducible first | exact HB.out | apply below_alloc | apply pw_below_drewN | apply below_drew1 | refine below_set ?_ GE123.out | refine below_set ?_ GE130.out | refine below_set ?_ GE137.out) | exact HB.out)⟩⟩
                                            · replace c83 := Bool.eq_false_iff.mpr c83
                                              subst c83
                                              have H1 : (heraldlaw10_StateCells.j6 kj59 a0 a1 x5_1 x6_6 x7_3 (t132 != 4)) = some r := by rw [if_neg (show ¬ (false = true) by decide)] at H; exact H
                                              clear H
                                              have H := H1
                                              clear H1
                                              as_aux_lemma =>
                                                have H' := Aside0.mk H
                                                clear H
                                                go_wp2
                                                go_meet
                                                case rel => exact ⟨_, ((t132 != 4)), (by first | rfl | (simp; done) | (simp [*]; done)), H', ⟨by have := HK1.out; have := HJ6.out; have := HK3.out; have := HJ9.out; have := HJ18.out; have := HJ59.out; first | omega | exact Nat.le_refl _⟩, ⟨by (with_reducible repeat (first | refine blk_drewN ?_ _ | refine blk_drew ?_ | refine blk_alloc ?_ _)); exact BK123.out⟩, ⟨by (with_reducible repeat (first | refine blk_drewN ?_ _ | refine blk_drew ?_ | refine blk_alloc ?_ _)); exact BK130.out⟩, ⟨by (with_reducible repeat (first | refine blk_drewN ?_ _ | refine blk_drew ?_ | refine blk_alloc ?_ _)); exact BK137.out⟩, ⟨by repeat (first | (with_reducible first | exact HB.out | apply below_alloc | apply pw_below_drewN | apply below_drew1 | refine below_set ?_ GE123.out | refine below_set ?_ GE130.out | refine below_set ?_ GE137.out) | exact HB.out)⟩⟩
                                          · rw [if_neg c82] at H
                                            have c82b0 : (t125 == 4) = false := beq_eq_false_iff_ne.mpr c82
                                            have c82b1 : (t125 != 4) = true := bne_iff_ne.mpr c82
                                            as_aux_lemma =>
                                              have H' := Aside0.mk H
                                              clear H
                                              go_wp2
                                              go_meet
                                              case rel => exact ⟨_, (true), (by first | rfl | (simp; done) | (simp [*]; done)), H', ⟨by have := HK1.out; have := HJ6.out; have := HK3.out; have := HJ9.out; have := HJ18.out; have := HJ59.out; first | omega | exact Nat.le_refl _⟩, ⟨by (with_reducible repeat (first | refine blk_drewN ?_ _ | refine blk_drew ?_ | refine blk_alloc ?_ _)); exact BK123.out⟩, ⟨by (with_reducible repeat (first | refine blk_drewN ?_ _ | refine blk_drew ?_ | refine blk_alloc ?_ _)); exact BK130.out⟩, ⟨by (with_reducible repeat (first | refine blk_drewN ?_ _ | refine blk_drew ?_ | refine blk_alloc ?_ _)); exact BK137.out⟩, ⟨by repeat (first | (with_reducible first | exact HB.out | apply below_alloc | apply pw_below_drewN | apply below_drew1 | refine below_set ?_ GE123.out | refine below_set ?_ GE130.out | refine below_set ?_ GE137.out) | exact HB.out)⟩⟩
                                        · rw [if_neg c81] at H
                                          have c81b0 : (t132 == 0) = false := beq_eq_false_iff_ne.mpr c81
                                          have c81b1 : (t132 != 0) = true := bne_iff_ne.mpr c81
                                          by_cases c85 : t131 = x6_6
                                          · rw [if_pos c85] at H
                                            have c85b0 : (t131 == x6_6) = true := beq_iff_eq.mpr c85
                                            have c85b1 : (t131 != x6_6) = false := bne_eq_false_iff_eq.mpr c85
                                            clear c85
                                            by_cases c86 : t125 = 4
                                            · rw [if_pos c86] at H
                                              have c86b0 : (t125 == 4) = true := beq_iff_eq.mpr c86
                                              have c86b1 : (t125 != 4) = false := bne_eq_false_iff_eq.mpr c86
                                              clear c86
                                              by_cases c87 : x19_59 = true
                                              · subst c87
                                                have H1 : (if t132 = 4 then (heraldlaw10_StateCells.j6 kj59 a0 a1 x5_1 x6_6 x7_3 true) else (heraldlaw10_StateCells.j6 kj59 a0 a1 x5_1 x6_6 x7_3 false)) = some r := by rw [if_pos rfl] at H; exact H
                                                clear H
                                                have H := H1
                                                clear H1
                                                by_cases c88 : t132 = 4
                                                · rw [if_pos c88] at H
                                                  have c88b0 : (t132 == 4) = true := beq_iff_eq.mpr c88
                                                  have c88b1 : (t132 != 4) = false := bne_eq_false_iff_eq.mpr c88
                                                  clear c88
                                                  as_aux_lemma =>
                                                    have H' := Aside0.mk H
                                                    clear H
                                                    go_wp2
                                                    go_meet
                                                    case rel => exact ⟨_, (true), (by first | rfl | (simp; done) | (simp [*]; done)), H', ⟨by have := HK1.out; have := HJ6.out; have := HK3.out; have := HJ9.out; have := HJ18.out; have := HJ59.out; first | omega | exact Nat.le_refl _⟩, ⟨by (with_reducible repeat (first | refine blk_drewN ?_ _ | refine blk_drew ?_ | refine blk_alloc ?_ _)); exact BK123.out⟩, ⟨by (with_reducible repeat (first | refine blk_drewN ?_ _ | refine blk_drew ?_ | refine blk_alloc ?_ _)); exact BK130.out⟩, ⟨by (with_reducible repeat (first | refine blk_drewN ?_ _ | refine blk_drew ?_ | refine blk_alloc ?_ _)); exact BK137.out⟩, ⟨by repeat (first | (with_reducible first | exact HB.out | apply below_alloc | apply pw_below_drewN | apply below_drew1 | refine below_set ?_ GE123.out | refine below_set ?_ GE130.out | refine below_set ?_ GE137.out) | exact HB.out)⟩⟩
                                                · rw [if_neg c88] at H
                                                  have c88b0 : (t132 == 4) = false := beq_eq_false_iff_ne.mpr c88
                                                  have c88b1 : (t132 != 4) = true := bne_iff_ne.mpr c88
                                                  as_aux_lemma =>
                                                    have H' := Aside0.mk H
                                                    clear H
                                                    go_wp2
                                                    go_meet
                                                    case rel => exact ⟨_, (false), (by first | rfl | (simp; done) | (simp [*]; done)), H', ⟨by have := HK1.out; have := HJ6.out; have := HK3.out; have := HJ9.out; have := HJ18.out; have := HJ59.out; first | omega | exact Nat.le_refl _⟩, ⟨by (with_reducible repeat (first | refine blk_drewN ?_ _ | refine blk_drew ?_ | refine blk_alloc ?_ _)); exact BK123.out⟩, ⟨by (with_reducible repeat (first | refine blk_drewN ?_ _ | refine blk_drew ?_ | refine blk_alloc ?_ _)); exact BK130.out⟩, ⟨by (with_reducible repeat (first | refine blk_drewN ?_ _ | refine blk_drew ?_ | refine blk_alloc ?_ _)); exact BK137.out⟩, ⟨by repeat (first | (with_reducible first | exact HB.out | apply below_alloc | apply pw_below_drewN | apply below_drew1 | refine below_set ?_ GE123.out | refine below_set ?_ GE130.out | refine below_set ?_ GE137.out) | exact HB.out)⟩⟩
                                              · replace c87 := Bool.eq_false_iff.mpr c87
                                                subst c87
                                                have H1 : (heraldlaw10_StateCells.j6 kj59 a0 a1 x5_1 x6_6 x7_3 (t132 != 4)) = some r := by rw [if_neg (show ¬ (false = true) by decide)] at H; exact H
                                                clear H
                                                have H := H1
                                                clear H1
                                                as_aux_lemma =>
                                                  have H' := Aside0.mk H
                                                  clear H
                                                  go_wp2
                                                  go_meet
                                                  case rel => exact ⟨_, ((t132 != 4)), (by first | rfl | (simp; done) | (simp [*]; done)), H', ⟨by have := HK1.out; have := HJ6.out; have := HK3.out; have := HJ9.out; have := HJ18.out; have := HJ59.out; first | omega | exact Nat.le_refl _⟩, ⟨by (with_reducible repeat (first | refine blk_drewN ?_ _ | refine blk_drew ?_ | refine blk_alloc ?_ _)); exact BK123.out⟩, ⟨by (with_reducible repeat (first | refine blk_drewN ?_ _ | refine blk_drew ?_ | refine blk_alloc ?_ _)); exact BK130.out⟩, ⟨by (with_reducible repeat (first | refine blk_drewN ?_ _ | refine blk_drew ?_ | refine blk_alloc ?_ _)); exact BK137.out⟩, ⟨by repeat (first | (with_reducible first | exact HB.out | apply below_alloc | apply pw_below_drewN | apply below_drew1 | refine below_set ?_ GE123.out | refine below_set ?_ GE130.out | refine below_set ?_ GE137.out) | exact HB.out)⟩⟩
                                            · rw [if_neg c86] at H
                                              have c86b0 : (t125 == 4) = false := beq_eq_false_iff_ne.mpr c86
                                              have c86b1 : (t125 != 4) = true := bne_iff_ne.mpr c86
                                              as_aux_lemma =>
                                                have H' := Aside0.mk H
                                                clear H
                                                go_wp2
                                                go_meet
                                                case rel => exact ⟨_, (true), (by first | rfl | (simp; done) | (simp [*]; done)), H', ⟨by have := HK1.out; have := HJ6.out; have := HK3.out; have := HJ9.out; have := HJ18.out; have := HJ59.out; first | omega | exact Nat.le_refl _⟩, ⟨by (with_reducible repeat (first | refine blk_drewN ?_ _ | refine blk_drew ?_ | refine blk_alloc ?_ _)); exact BK123.out⟩, ⟨by (with_reducible repeat (first | refine blk_drewN ?_ _ | refine blk_drew ?_ | refine blk_alloc ?_ _)); exact BK130.out⟩, ⟨by (with_reducible repeat (first | refine blk_drewN ?_ _ | refine blk_drew ?_ | refine blk_alloc ?_ _)); exact BK137.out⟩, ⟨by repeat (first | (with_reducible first | exact HB.out | apply below_alloc | apply pw_below_drewN | apply below_drew1 | refine below_set ?_ GE123.out | refine below_set ?_ GE130.out | refine below_set ?_ GE137.out) | exact HB.out)⟩⟩
                                          · rw [if_neg c85] at H
                                            have c85b0 : (t131 == x6_6) = false := beq_eq_false_iff_ne.mpr c85
                                            have c85b1 : (t131 != x6_6) = true := bne_iff_ne.mpr c85
                                            as_aux_lemma =>
                                              have H' := Aside0.mk H
                                              clear H
                                              go_wp2
                                              go_meet
                                              case rel => exact ⟨_, (true), (by first | rfl | (simp; done) | (simp [*]; done)), H', ⟨by have := HK1.out; have := HJ6.out; have := HK3.out; have := HJ9.out; have := HJ18.out; have := HJ59.out; first | omega | exact Nat.le_refl _⟩, ⟨by (with_reducible repeat (first | refine blk_drewN ?_ _ | refine blk_drew ?_ | refine blk_alloc ?_ _)); exact BK123.out⟩, ⟨by (with_reducible repeat (first | refine blk_drewN ?_ _ | refine blk_drew ?_ | refine blk_alloc ?_ _)); exact BK130.out⟩, ⟨by (with_reducible repeat (first | refine blk_drewN ?_ _ | refine blk_drew ?_ | refine blk_alloc ?_ _)); exact BK137.out⟩, ⟨by repeat (first | (with_reducible first | exact HB.out | apply below_alloc | apply pw_below_drewN | apply below_drew1 | refine below_set ?_ GE123.out | refine below_set ?_ GE130.out | refine below_set ?_ GE137.out) | exact HB.out)⟩⟩
                                      · rw [if_neg c80] at H
                                        have c80b0 : (t124 == x6_6) = false := beq_eq_false_iff_ne.mpr c80
                                        have c80b1 : (t124 != x6_6) = true := bne_iff_ne.mpr c80
                                        as_aux_lemma =>
                                          have H' := Aside0.mk H
                                          clear H
                                          go_wp2
                                          go_meet
                                          case rel => exact ⟨_, (true), (by first | rfl | (simp; done) | (simp [*]; done)), H', ⟨by have := HK1.out; have := HJ6.out; have := HK3.out; have := HJ9.out; have := HJ18.out; have := HJ59.out; first | omega | exact Nat.le_refl _⟩, ⟨by (with_reducible repeat (first | refine blk_drewN ?_ _ | refine blk_drew ?_ | refine blk_alloc ?_ _)); exact BK123.out⟩, ⟨by (with_reducible repeat (first | refine blk_drewN ?_ _ | refine blk_drew ?_ | refine blk_alloc ?_ _)); exact BK130.out⟩, ⟨by (with_reducible repeat (first | refine blk_drewN ?_ _ | refine blk_drew ?_ | refine blk_alloc ?_ _)); exact BK137.out⟩, ⟨by repeat (first | (with_reducible first | exact HB.out | apply below_alloc | apply pw_below_drewN | apply below_drew1 | refine below_set ?_ GE123.out | refine below_set ?_ GE130.out | refine below_set ?_ GE137.out) | exact HB.out)⟩⟩
                                  case rest =>
                                    clear HC70
                                    try clear c1
                                    try clear c2
                                    try clear p2
                                    try clear c3
                                    try clear c4
                                    try clear c5
                                    try clear c6
                                    try clear c6b0
                                    try clear c7
                                    try clear c8
                                    try clear c8b0
                                    try clear c8b1
                                    try clear c9
                                    try clear c9b0
                                    try clear c12
                                    try clear c13
                                    try clear c13b0
                                    try clear c13b1
                                    try clear c25
                                    try clear c32
                                    try clear c33
                                    try clear c35
                                    try clear c35b0
                                    try clear c35b1
                                    try clear c36
                                    try clear c36b0
                                    try clear c36b1
                                    try clear c37
                                    try clear c37b0
                                    try clear c37b1
                                    try clear c38
                                    try clear c38b0
                                    try clear c38b1
                                    try clear c39
                                    try clear c39b0
                                    try clear c39b1
                                    try clear c40
                                    try clear c41
                                    try clear c43
                                    try clear c45
                                    try clear c46
                                    try clear c48
                                    try clear c50
                                    try clear c51
                                    try clear c53
                                    try clear c54
                                    try clear c56
                                    try clear c57
                                    try clear c59
                                    try clear c61
                                    try clear c61b0
                                    try clear c62
                                    try clear c62b0
                                    try clear c63
                                    try clear c63b0
                                    try clear c64
                                    try clear c65
                                    try clear c67
                                    try clear c68
                                    try clear c71
                                    try clear c71b0
                                    try clear c71b1
                                    try clear c72
                                    try clear c72b0
                                    try clear c72b1
                                    try clear c73
                                    try clear c74
                                    try clear c74b0
                                    try clear c74b1
                                    try clear c75
                                    try clear c75b0
                                    try clear c75b1
                                    try clear c76
                                    try clear c76b0
                                    try clear c76b1
                                    try clear c77
                                    try clear c78
                                    try clear c78b0
                                    try clear c78b1
                                    try clear c79
                                    try clear c79b0
                                    try clear c79b1
                                    try clear c80
                                    try clear c80b0
                                    try clear c80b1
                                    try clear c81
                                    try clear c81b0
                                    try clear c81b1
                                    try clear c82
                                    try clear c82b0
                                    try clear c82b1
                                    try clear c83
                                    try clear c84
                                    try clear c84b0
                                    try clear c84b1
                                    try clear c85
                                    try clear c85b0
                                    try clear c85b1
                                    try clear c86
                                    try clear c86b0
                                    try clear c86b1
                                    try clear c87
                                    try clear c88
                                    try clear c88b0
                                    try clear c88b1
                                    try clear hcz12_0
                                    try clear hcz12_1
                                    try clear hcz14_0
                                    try clear hcz14_1
                                    try clear hcz20_0
                                    try clear hcz20_1
                                    try clear hcz22_0
                                    try clear hcz22_1
                                    try clear hcz26_0
                                    try clear hcz26_1
                                    try clear hcz27_0
                                    try clear hcz27_1
                                    try clear hcz29_0
                                    try clear hcz29_1
                                    try clear hcz34_0
                                    try clear hcz34_1
                                    try clear hcz42_0
                                    try clear hcz42_1
                                    try clear hcz44_0
                                    try clear hcz44_1
                                    try clear hcz47_0
                                    try clear hcz47_1
                                    try clear hcz49_0
                                    try clear hcz49_1
                                    try clear hcz52_0
                                    try clear hcz52_1
                                    try clear hcz55_0
                                    try clear hcz55_1
                                    try clear hcz58_0
                                    try clear hcz58_1
                                    try clear hcz66_0
                                    try clear hcz66_1
                                    try clear hcz69_0
                                    try clear hcz69_1
                                    try clear hfz12_0
                                    try clear hfz12_1
                                    try clear hfz14_0
                                    try clear hfz14_1
                                    try clear hfz20_0
                                    try clear hfz20_1
                                    try clear hfz22_0
                                    try clear hfz22_1
                                    try clear hfz26_0
                                    try clear hfz26_1
                                    try clear hfz27_0
                                    try clear hfz27_1
                                    try clear hfz29_0
                                    try clear hfz29_1
                                    try clear hfz34_0
                                    try clear hfz34_1
                                    try clear hfz42_0
                                    try clear hfz42_1
                                    try clear hfz44_0
                                    try clear hfz44_1
                                    try clear hfz47_0
                                    try clear hfz47_1
                                    try clear hfz49_0
                                    try clear hfz49_1
                                    try clear hfz52_0
                                    try clear hfz52_1
                                    try clear hfz55_0
                                    try clear hfz55_1
                                    try clear hfz58_0
                                    try clear hfz58_1
                                    try clear hfz66_0
                                    try clear hfz66_1
                                    try clear hfz69_0
                                    try clear hfz69_1
                                    try clear p2
                                    obtain ⟨kq, x161_69, rfl, HA, HJ69, BK123, BK130, BK137, HB⟩ := hcut
                                    cases kq with
                                    | zero => exact absurd HA.out (by simp [heraldlaw10_StateCells.j6])
                                    | succ kj69 =>
                                      have H := HA.out
                                      clear HA
                                      simp only [heraldlaw10_StateCells.j6] at H
                                      by_cases c89 : x161_69 = true
                                      · subst c89
                                        have H1 : (some false) = some r := by rw [if_pos rfl] at H; exact H
                                        clear H
                                        have H := H1
                                        clear H1
                                        as_aux_lemma =>
                                          obtain rfl := Option.some.inj H
                                          go_wp2
                                          go_ret
                                          exact ⟨by first | rfl | (simp [errW_none, errW_some] <;> rfl) | (simp [*, errW_none, errW_some] <;> rfl), by repeat (first | (with_reducible first | exact HB.out | apply below_alloc | apply pw_below_drewN | apply below_drew1 | refine below_set ?_ GE123.out | refine below_set ?_ GE130.out | refine below_set ?_ GE137.out) | exact HB.out)⟩
                                      · replace c89 := Bool.eq_false_iff.mpr c89
                                        subst c89
                                        have H1 : (heraldlaw10_StateCells.l1 kj69 a0 a1 x5_1 x6_6 (wrap64 (x7_3 + 1))) = some r := by rw [if_neg (show ¬ (false = true) by decide)] at H; exact H
                                        clear H
                                        have H := H1
                                        clear H1
                                        as_aux_lemma =>
                                          have H' := Aside0.mk H
                                          clear H
                                          go_wp2
                                          go_roundg kj69
                                          case measure => have := HK1.out; have := HJ6.out; have := HK3.out; have := HJ9.out; have := HJ18.out; have := HJ59.out; have := HJ69.out; omega
                                          case rel => exact ⟨(wrap64 (x7_3 + 1)), (by first | rfl | (simp; done) | (simp [*]; done)), H', ⟨by have := HK1.out; have := HJ6.out; have := HK3.out; have := HJ9.out; have := HJ18.out; have := HJ59.out; have := HJ69.out; omega⟩, ⟨by repeat (first | (with_reducible first | exact HB.out | apply below_alloc | apply pw_below_drewN | apply below_drew1 | refine below_set ?_ GE123.out | refine below_set ?_ GE130.out | refine below_set ?_ GE137.out) | exact HB.out)⟩⟩
                  · rw [if_neg c9] at H
                    have c9b0 : decide (x7_3 ≤ 10) = false := decide_eq_false c9
                    clear c9
                    as_aux_lemma =>
                      have H' := Aside0.mk H
                      clear H
                      go_wp2
                      go_roundg k3
                      case measure => have := HK1.out; have := HJ6.out; have := HK3.out; omega
                      case rel => exact ⟨(wrap64 (x5_1 + 1)), (by first | rfl | (simp; done) | (simp [*]; done)), H', ⟨by have := HK1.out; have := HJ6.out; have := HK3.out; omega⟩, ⟨by repeat (first | (with_reducible first | exact HB.out | apply below_alloc | apply pw_below_drewN | apply below_drew1) | exact HB.out)⟩⟩
        · rw [if_neg c6] at H
          have c6b0 : decide (x5_1 < 8) = false := decide_eq_false c6
          clear c6
          as_aux_lemma =>
            obtain rfl := Option.some.inj H
            go_wp2
            go_ret
            exact ⟨by first | rfl | (simp [errW_none, errW_some] <;> rfl) | (simp [*, errW_none, errW_some] <;> rfl), by repeat (first | (with_reducible first | exact HB.out | apply below_alloc | apply pw_below_drewN | apply below_drew1) | exact HB.out)⟩
  · replace c4 := Bool.eq_false_iff.mpr c4
    subst c4
    have H1 : (some false) = some r := by rw [if_neg (show ¬ (false = true) by decide)] at H; exact H
    clear H
    have H := H1
    clear H1
    as_aux_lemma =>
      obtain rfl := Option.some.inj H
      go_enter Tryd.func4, Tryd.ntmps4
      go_wp2_with (first | ((with_reducible refine gate_callee (f := 8) rfl ?_); refine goesL_ (some 20) rfl rfl Tryd.func8 (by kernel_rfl) rfl #[] rfl (by (try simp only [List.map_toArray, List.map_cons, List.map_nil]); first | done | rfl | (simp only [List.length_drop, List.length_take]; rfl)) ?_; (with_reducible refine (heraldlaw10_head.calls k  false _ ?side1 A3.out).mono ?_); (case side1 => exact GL.below HG.out (by repeat (first | (with_reducible first | exact HB.out | apply below_alloc | apply pw_below_drewN | apply below_drew1) | exact HB.out))); rintro e w90 ⟨rfl, hb⟩; refine ⟨_, rfl, ?_⟩; have n0_ := Aside0.mk (below_step (by repeat (first | (with_reducible first | exact HB.out | apply below_alloc | apply pw_below_drewN | apply below_drew1) | exact HB.out)) hb); clear HB; have HB := n0_; clear n0_; (try clear hb); (try clear hb2); (try clear hk); (try clear hi)))
      go_ret
      exact ⟨by first | rfl | (simp [errW_none, errW_some] <;> rfl) | (simp [*, errW_none, errW_some] <;> rfl), by repeat (first | (with_reducible first | exact HB.out | apply below_alloc | apply pw_below_drewN | apply below_drew1) | exact HB.out)⟩

end Go.Proofs.YtndhaakknkkpfaaDoor.QCells
