/- Written by a program of this session (a changed run of the kit's printer): what the Go functions of one call tree answer, as plain functions, and that the machine's calls answer so; no condition but those in each statement. -/
import Derived.Test.YtndhaakknkkpfaaDoorQEndsx0
import Derived.Test.YtndhaakknkkpfaaDoorQEndsx2
import Derived.Test.YtndhaakknkkpfaaDoorQEndsx3
namespace Go.Proofs.YtndhaakknkkpfaaDoor.QEnds
open Go.RowKit Go.Proofs.YtndhaakknkkpfaaDoor.QAll Go.Proofs.YtndhaakknkkpfaaDoorW.PrintWords Go.Proofs.YtndhaakknkkpfaaDoorW.PrintLast Go.Proofs.YtndhaakknkkpfaaDoorW.PrintMore
attribute [local go_sem] max2_int min2_int max_two min_two max_three min_three max_four min_four   -- for this text's walks alone
set_option linter.unusedVariables false
set_option linter.unusedSimpArgs false

/-! ### heraldlaw10_StateEnds: function 7 -/
mutual
def heraldlaw10_StateEnds.j0 : Nat → Int → List (S28) → Bool → Option (Bool)
  | 0, _, _, _ => none
  | k + 1, x0, x1, x20 => if x20 = true then (heraldlaw10_StateEnds.j1 k 0 x1) else (heraldlaw10_StateEnds.j1 k x0 x1)
def heraldlaw10_StateEnds.j1 : Nat → Int → List (S28) → Option (Bool)
  | 0, _, _ => none
  | k + 1, x0, x1 => heraldlaw10_StateEnds.l0 k x0 x1 false false 0
def heraldlaw10_StateEnds.l0 : Nat → Int → List (S28) → Bool → Bool → Int → Option (Bool)
  | 0, _, _, _, _, _ => none
  | k + 1, x0, x1, x5, x6, x7 => if x7 < (x1.length : Int) then (if 0 ≤ x7 then ((heraldlaw10_next.f x0 ((rd_T28 x1 x7).f0) ((rd_T28 x1 x7).f1)).bind fun bt125 => (if ((rd_T28 x1 x7).f1) ≥ 1 then (heraldlaw10_StateEnds.j3 k x0 x1 x5 x6 x7 bt125.1 bt125.2.1 (decide (((rd_T28 x1 x7).f1) ≤ 4)) ((rd_T28 x1 x7).f0) ((rd_T28 x1 x7).f1)) else (heraldlaw10_StateEnds.j3 k x0 x1 x5 x6 x7 bt125.1 bt125.2.1 false ((rd_T28 x1 x7).f0) ((rd_T28 x1 x7).f1)))) else (none)) else (some true)
def heraldlaw10_StateEnds.j3 : Nat → Int → List (S28) → Bool → Bool → Int → Int → Int → Bool → Bool → Int → Option (Bool)
  | 0, _, _, _, _, _, _, _, _, _, _ => none
  | k + 1, x0, x1, x5, x6, x7, x9, x10, x12, x125000, x125001 => if x12 = true then (if x10 = 0 then (if x125000 = true then (if x6 = true then (heraldlaw10_StateEnds.j4 k x1 x5 x6 x7 x9 x10 true x125000 x125001) else (if x0 = 6 then (heraldlaw10_StateEnds.j4 k x1 x5 x6 x7 x9 x10 (x9 != 6) x125000 x125001) else (heraldlaw10_StateEnds.j4 k x1 x5 x6 x7 x9 x10 false x125000 x125001))) else (if x5 = true then (heraldlaw10_StateEnds.j4 k x1 x5 x6 x7 x9 x10 true x125000 x125001) else (if x0 = 6 then (heraldlaw10_StateEnds.j4 k x1 x5 x6 x7 x9 x10 (x9 != 6) x125000 x125001) else (heraldlaw10_StateEnds.j4 k x1 x5 x6 x7 x9 x10 false x125000 x125001)))) else (if x0 = 6 then (heraldlaw10_StateEnds.j4 k x1 x5 x6 x7 x9 x10 (x9 != 6) x125000 x125001) else (heraldlaw10_StateEnds.j4 k x1 x5 x6 x7 x9 x10 false x125000 x125001))) else (if x0 = 6 then (heraldlaw10_StateEnds.j4 k x1 x5 x6 x7 x9 x10 (x9 != 6) x125000 x125001) else (heraldlaw10_StateEnds.j4 k x1 x5 x6 x7 x9 x10 false x125000 x125001))
def heraldlaw10_StateEnds.j4 : Nat → List (S28) → Bool → Bool → Int → Int → Int → Bool → Bool → Int → Option (Bool)
  | 0, _, _, _, _, _, _, _, _, _ => none
  | k + 1, x1, x5, x6, x7, x9, x10, x73, x125000, x125001 => if x73 = true then (some false) else (if x10 = 0 then (if x125001 = 2 then (heraldlaw10_StateEnds.j5 k x1 x5 x6 x7 x9 x10 true x125000 x125001) else (heraldlaw10_StateEnds.j5 k x1 x5 x6 x7 x9 x10 (x125001 == 4) x125000 x125001)) else (heraldlaw10_StateEnds.j5 k x1 x5 x6 x7 x9 x10 false x125000 x125001))
def heraldlaw10_StateEnds.j5 : Nat → List (S28) → Bool → Bool → Int → Int → Int → Bool → Bool → Int → Option (Bool)
  | 0, _, _, _, _, _, _, _, _, _ => none
  | k + 1, x1, x5, x6, x7, x9, x10, x85, x125000, x125001 => if x85 = true then (if x5 = true then (if x6 = true then (heraldlaw10_StateEnds.j6 k x1 true true x7 x9 x10 x125000 x125001) else (heraldlaw10_StateEnds.j6 k x1 true x125000 x7 x9 x10 x125000 x125001)) else (if x6 = true then (heraldlaw10_StateEnds.j6 k x1 (!x125000) true x7 x9 x10 x125000 x125001) else (heraldlaw10_StateEnds.j6 k x1 (!x125000) x125000 x7 x9 x10 x125000 x125001))) else (heraldlaw10_StateEnds.j6 k x1 x5 x6 x7 x9 x10 x125000 x125001)
def heraldlaw10_StateEnds.j6 : Nat → List (S28) → Bool → Bool → Int → Int → Int → Bool → Int → Option (Bool)
  | 0, _, _, _, _, _, _, _, _ => none
  | k + 1, x1, x5, x6, x7, x9, x10, x125000, x125001 => if x5 = true then (if x6 = true then (if x9 = 6 then (if x10 = 0 then (if x125001 = 6 then (heraldlaw10_StateEnds.j7 k x1 x5 x6 x7 x9 (x9 != 6)) else (heraldlaw10_StateEnds.j7 k x1 x5 x6 x7 x9 false)) else (heraldlaw10_StateEnds.j7 k x1 x5 x6 x7 x9 false)) else (heraldlaw10_StateEnds.j7 k x1 x5 x6 x7 x9 true)) else (if x10 = 0 then (if x125001 = 6 then (heraldlaw10_StateEnds.j7 k x1 x5 x6 x7 x9 (x9 != 6)) else (heraldlaw10_StateEnds.j7 k x1 x5 x6 x7 x9 false)) else (heraldlaw10_StateEnds.j7 k x1 x5 x6 x7 x9 false))) else (if x10 = 0 then (if x125001 = 6 then (heraldlaw10_StateEnds.j7 k x1 x5 x6 x7 x9 (x9 != 6)) else (heraldlaw10_StateEnds.j7 k x1 x5 x6 x7 x9 false)) else (heraldlaw10_StateEnds.j7 k x1 x5 x6 x7 x9 false))
def heraldlaw10_StateEnds.j7 : Nat → List (S28) → Bool → Bool → Int → Int → Bool → Option (Bool)
  | 0, _, _, _, _, _, _ => none
  | k + 1, x1, x5, x6, x7, x9, x117 => if x117 = true then (some false) else (heraldlaw10_StateEnds.l0 k x9 x1 x5 x6 (wrap64 (x7 + 1)))
end
def heraldlaw10_StateEnds.f (k : Nat) (a0 : Int) (l1 : List (S28)) : Option (Bool) := (heraldlaw10_head.f k).bind fun t122 => (if t122 = true then (if a0 < 0 then (heraldlaw10_StateEnds.j0 k a0 l1 true) else (heraldlaw10_StateEnds.j0 k a0 l1 (decide (a0 > 6)))) else (some false))
theorem heraldlaw10_StateEnds.mono_l : ∀ k, (∀ y0 y1 y2, LeO (heraldlaw10_StateEnds.j0 k y0 y1 y2) (heraldlaw10_StateEnds.j0 (k + 1) y0 y1 y2)) ∧ (∀ y0 y1, LeO (heraldlaw10_StateEnds.j1 k y0 y1) (heraldlaw10_StateEnds.j1 (k + 1) y0 y1)) ∧ (∀ y0 y1 y2 y3 y4, LeO (heraldlaw10_StateEnds.l0 k y0 y1 y2 y3 y4) (heraldlaw10_StateEnds.l0 (k + 1) y0 y1 y2 y3 y4)) ∧ (∀ y0 y1 y2 y3 y4 y5 y6 y7 y8 y9, LeO (heraldlaw10_StateEnds.j3 k y0 y1 y2 y3 y4 y5 y6 y7 y8 y9) (heraldlaw10_StateEnds.j3 (k + 1) y0 y1 y2 y3 y4 y5 y6 y7 y8 y9)) ∧ (∀ y0 y1 y2 y3 y4 y5 y6 y7 y8, LeO (heraldlaw10_StateEnds.j4 k y0 y1 y2 y3 y4 y5 y6 y7 y8) (heraldlaw10_StateEnds.j4 (k + 1) y0 y1 y2 y3 y4 y5 y6 y7 y8)) ∧ (∀ y0 y1 y2 y3 y4 y5 y6 y7 y8, LeO (heraldlaw10_StateEnds.j5 k y0 y1 y2 y3 y4 y5 y6 y7 y8) (heraldlaw10_StateEnds.j5 (k + 1) y0 y1 y2 y3 y4 y5 y6 y7 y8)) ∧ (∀ y0 y1 y2 y3 y4 y5 y6 y7, LeO (heraldlaw10_StateEnds.j6 k y0 y1 y2 y3 y4 y5 y6 y7) (heraldlaw10_StateEnds.j6 (k + 1) y0 y1 y2 y3 y4 y5 y6 y7)) ∧ (∀ y0 y1 y2 y3 y4 y5, LeO (heraldlaw10_StateEnds.j7 k y0 y1 y2 y3 y4 y5) (heraldlaw10_StateEnds.j7 (k + 1) y0 y1 y2 y3 y4 y5))
  | 0 => ⟨fun _ _ _ r h => by simp [heraldlaw10_StateEnds.j0] at h, fun _ _ r h => by simp [heraldlaw10_StateEnds.j1] at h, fun _ _ _ _ _ r h => by simp [heraldlaw10_StateEnds.l0] at h, fun _ _ _ _ _ _ _ _ _ _ r h => by simp [heraldlaw10_StateEnds.j3] at h, fun _ _ _ _ _ _ _ _ _ r h => by simp [heraldlaw10_StateEnds.j4] at h, fun _ _ _ _ _ _ _ _ _ r h => by simp [heraldlaw10_StateEnds.j5] at h, fun _ _ _ _ _ _ _ _ r h => by simp [heraldlaw10_StateEnds.j6] at h, fun _ _ _ _ _ _ r h => by simp [heraldlaw10_StateEnds.j7] at h⟩
  | k + 1 => by
    obtain ⟨ih0, ih1, ih2, ih3, ih4, ih5, ih6, ih7⟩ := heraldlaw10_StateEnds.mono_l k
    refine ⟨?_, ?_, ?_, ?_, ?_, ?_, ?_, ?_⟩
    · intro y0 y1 y2
      unfold heraldlaw10_StateEnds.j0
      repeat' first
      | (with_reducible exact ih0 _ _ _)
      | (with_reducible exact ih1 _ _)
      | (with_reducible exact ih2 _ _ _ _ _)
      | (with_reducible exact ih3 _ _ _ _ _ _ _ _ _ _)
      | (with_reducible exact ih4 _ _ _ _ _ _ _ _ _)
      | (with_reducible exact ih5 _ _ _ _ _ _ _ _ _)
      | (with_reducible exact ih6 _ _ _ _ _ _ _ _)
      | (with_reducible exact ih7 _ _ _ _ _ _)
      | (with_reducible exact heraldlaw10_head.mono _)
      | (with_reducible exact LeO.refl _)
      | (with_reducible exact LeO.none _)
      | (with_reducible refine LeO.ite ?_ ?_)
      | (with_reducible refine LeO.bind ?_ (fun _ => ?_))
      | exact ih0 _ _ _
      | exact ih1 _ _
      | exact ih2 _ _ _ _ _
      | exact ih3 _ _ _ _ _ _ _ _ _ _
      | exact ih4 _ _ _ _ _ _ _ _ _
      | exact ih5 _ _ _ _ _ _ _ _ _
      | exact ih6 _ _ _ _ _ _ _ _
      | exact ih7 _ _ _ _ _ _
      | exact heraldlaw10_head.mono _
      | exact LeO.none _
      | refine LeO.ite ?_ ?_
      | refine LeO.bind ?_ (fun _ => ?_)
    · intro y0 y1
      unfold heraldlaw10_StateEnds.j1
      repeat' first
      | (with_reducible exact ih0 _ _ _)
      | (with_reducible exact ih1 _ _)
      | (with_reducible exact ih2 _ _ _ _ _)
      | (with_reducible exact ih3 _ _ _ _ _ _ _ _ _ _)
      | (with_reducible exact ih4 _ _ _ _ _ _ _ _ _)
      | (with_reducible exact ih5 _ _ _ _ _ _ _ _ _)
      | (with_reducible exact ih6 _ _ _ _ _ _ _ _)
      | (with_reducible exact ih7 _ _ _ _ _ _)
      | (with_reducible exact heraldlaw10_head.mono _)
      | (with_reducible exact LeO.refl _)
      | (with_reducible exact LeO.none _)
      | (with_reducible refine LeO.ite ?_ ?_)
      | (with_reducible refine LeO.bind ?_ (fun _ => ?_))
      | exact ih0 _ _ _
      | exact ih1 _ _
      | exact ih2 _ _ _ _ _
      | exact ih3 _ _ _ _ _ _ _ _ _ _
      | exact ih4 _ _ _ _ _ _ _ _ _
      | exact ih5 _ _ _ _ _ _ _ _ _
      | exact ih6 _ _ _ _ _ _ _ _
      | exact ih7 _ _ _ _ _ _
      | exact heraldlaw10_head.mono _
      | exact LeO.none _
      | refine LeO.ite ?_ ?_
      | refine LeO.bind ?_ (fun _ => ?_)
    · intro y0 y1 y2 y3 y4
      unfold heraldlaw10_StateEnds.l0
      repeat' first
      | (with_reducible exact ih0 _ _ _)
      | (with_reducible exact ih1 _ _)
      | (with_reducible exact ih2 _ _ _ _ _)
      | (with_reducible exact ih3 _ _ _ _ _ _ _ _ _ _)
      | (with_reducible exact ih4 _ _ _ _ _ _ _ _ _)
      | (with_reducible exact ih5 _ _ _ _ _ _ _ _ _)
      | (with_reducible exact ih6 _ _ _ _ _ _ _ _)
      | (with_reducible exact ih7 _ _ _ _ _ _)
      | (with_reducible exact heraldlaw10_head.mono _)
      | (with_reducible exact LeO.refl _)
      | (with_reducible exact LeO.none _)
      | (with_reducible refine LeO.ite ?_ ?_)
      | (with_reducible refine LeO.bind ?_ (fun _ => ?_))
      | exact ih0 _ _ _
      | exact ih1 _ _
      | exact ih2 _ _ _ _ _
      | exact ih3 _ _ _ _ _ _ _ _ _ _
      | exact ih4 _ _ _ _ _ _ _ _ _
      | exact ih5 _ _ _ _ _ _ _ _ _
      | exact ih6 _ _ _ _ _ _ _ _
      | exact ih7 _ _ _ _ _ _
      | exact heraldlaw10_head.mono _
      | exact LeO.none _
      | refine LeO.ite ?_ ?_
      | refine LeO.bind ?_ (fun _ => ?_)
    · intro y0 y1 y2 y3 y4 y5 y6 y7 y8 y9
      unfold heraldlaw10_StateEnds.j3
      repeat' first
      | (with_reducible exact ih0 _ _ _)
      | (with_reducible exact ih1 _ _)
      | (with_reducible exact ih2 _ _ _ _ _)
      | (with_reducible exact ih3 _ _ _ _ _ _ _ _ _ _)
      | (with_reducible exact ih4 _ _ _ _ _ _ _ _ _)
      | (with_reducible exact ih5 _ _ _ _ _ _ _ _ _)
      | (with_reducible exact ih6 _ _ _ _ _ _ _ _)
      | (with_reducible exact ih7 _ _ _ _ _ _)
      | (with_reducible exact heraldlaw10_head.mono _)
      | (with_reducible exact LeO.refl _)
      | (with_reducible exact LeO.none _)
      | (with_reducible refine LeO.ite ?_ ?_)
      | (with_reducible refine LeO.bind ?_ (fun _ => ?_))
      | exact ih0 _ _ _
      | exact ih1 _ _
      | exact ih2 _ _ _ _ _
      | exact ih3 _ _ _ _ _ _ _ _ _ _
      | exact ih4 _ _ _ _ _ _ _ _ _
      | exact ih5 _ _ _ _ _ _ _ _ _
      | exact ih6 _ _ _ _ _ _ _ _
      | exact ih7 _ _ _ _ _ _
      | exact heraldlaw10_head.mono _
      | exact LeO.none _
      | refine LeO.ite ?_ ?_
      | refine LeO.bind ?_ (fun _ => ?_)
    · intro y0 y1 y2 y3 y4 y5 y6 y7 y8
      unfold heraldlaw10_StateEnds.j4
      repeat' first
      | (with_reducible exact ih0 _ _ _)
      | (with_reducible exact ih1 _ _)
      | (with_reducible exact ih2 _ _ _ _ _)
      | (with_reducible exact ih3 _ _ _ _ _ _ _ _ _ _)
      | (with_reducible exact ih4 _ _ _ _ _ _ _ _ _)
      | (with_reducible exact ih5 _ _ _ _ _ _ _ _ _)
      | (with_reducible exact ih6 _ _ _ _ _ _ _ _)
      | (with_reducible exact ih7 _ _ _ _ _ _)
      | (with_reducible exact heraldlaw10_head.mono _)
      | (with_reducible exact LeO.refl _)
      | (with_reducible exact LeO.none _)
      | (with_reducible refine LeO.ite ?_ ?_)
      | (with_reducible refine LeO.bind ?_ (fun _ => ?_))
      | exact ih0 _ _ _
      | exact ih1 _ _
      | exact ih2 _ _ _ _ _
      | exact ih3 _ _ _ _ _ _ _ _ _ _
      | exact ih4 _ _ _ _ _ _ _ _ _
      | exact ih5 _ _ _ _ _ _ _ _ _
      | exact ih6 _ _ _ _ _ _ _ _
      | exact ih7 _ _ _ _ _ _
      | exact heraldlaw10_head.mono _
      | exact LeO.none _
      | refine LeO.ite ?_ ?_
      | refine LeO.bind ?_ (fun _ => ?_)
    · intro y0 y1 y2 y3 y4 y5 y6 y7 y8
      unfold heraldlaw10_StateEnds.j5
      repeat' first
      | (with_reducible exact ih0 _ _ _)
      | (with_reducible exact ih1 _ _)
      | (with_reducible exact ih2 _ _ _ _ _)
      | (with_reducible exact ih3 _ _ _ _ _ _ _ _ _ _)
      | (with_reducible exact ih4 _ _ _ _ _ _ _ _ _)
      | (with_reducible exact ih5 _ _ _ _ _ _ _ _ _)
      | (with_reducible exact ih6 _ _ _ _ _ _ _ _)
      | (with_reducible exact ih7 _ _ _ _ _ _)
      | (with_reducible exact heraldlaw10_head.mono _)
      | (with_reducible exact LeO.refl _)
      | (with_reducible exact LeO.none _)
      | (with_reducible refine LeO.ite ?_ ?_)
      | (with_reducible refine LeO.bind ?_ (fun _ => ?_))
      | exact ih0 _ _ _
      | exact ih1 _ _
      | exact ih2 _ _ _ _ _
      | exact ih3 _ _ _ _ _ _ _ _ _ _
      | exact ih4 _ _ _ _ _ _ _ _ _
      | exact ih5 _ _ _ _ _ _ _ _ _
      | exact ih6 _ _ _ _ _ _ _ _
      | exact ih7 _ _ _ _ _ _
      | exact heraldlaw10_head.mono _
      | exact LeO.none _
      | refine LeO.ite ?_ ?_
      | refine LeO.bind ?_ (fun _ => ?_)
    · intro y0 y1 y2 y3 y4 y5 y6 y7
      unfold heraldlaw10_StateEnds.j6
      repeat' first
      | (with_reducible exact ih0 _ _ _)
      | (with_reducible exact ih1 _ _)
      | (with_reducible exact ih2 _ _ _ _ _)
      | (with_reducible exact ih3 _ _ _ _ _ _ _ _ _ _)
      | (with_reducible exact ih4 _ _ _ _ _ _ _ _ _)
      | (with_reducible exact ih5 _ _ _ _ _ _ _ _ _)
      | (with_reducible exact ih6 _ _ _ _ _ _ _ _)
      | (with_reducible exact ih7 _ _ _ _ _ _)
      | (with_reducible exact heraldlaw10_head.mono _)
      | (with_reducible exact LeO.refl _)
      | (with_reducible exact LeO.none _)
      | (with_reducible refine LeO.ite ?_ ?_)
      | (with_reducible refine LeO.bind ?_ (fun _ => ?_))
      | exact ih0 _ _ _
      | exact ih1 _ _
      | exact ih2 _ _ _ _ _
      | exact ih3 _ _ _ _ _ _ _ _ _ _
      | exact ih4 _ _ _ _ _ _ _ _ _
      | exact ih5 _ _ _ _ _ _ _ _ _
      | exact ih6 _ _ _ _ _ _ _ _
      | exact ih7 _ _ _ _ _ _
      | exact heraldlaw10_head.mono _
      | exact LeO.none _
      | refine LeO.ite ?_ ?_
      | refine LeO.bind ?_ (fun _ => ?_)
    · intro y0 y1 y2 y3 y4 y5
      unfold heraldlaw10_StateEnds.j7
      repeat' first
      | (with_reducible exact ih0 _ _ _)
      | (with_reducible exact ih1 _ _)
      | (with_reducible exact ih2 _ _ _ _ _)
      | (with_reducible exact ih3 _ _ _ _ _ _ _ _ _ _)
      | (with_reducible exact ih4 _ _ _ _ _ _ _ _ _)
      | (with_reducible exact ih5 _ _ _ _ _ _ _ _ _)
      | (with_reducible exact ih6 _ _ _ _ _ _ _ _)
      | (with_reducible exact ih7 _ _ _ _ _ _)
      | (with_reducible exact heraldlaw10_head.mono _)
      | (with_reducible exact LeO.refl _)
      | (with_reducible exact LeO.none _)
      | (with_reducible refine LeO.ite ?_ ?_)
      | (with_reducible refine LeO.bind ?_ (fun _ => ?_))
      | exact ih0 _ _ _
      | exact ih1 _ _
      | exact ih2 _ _ _ _ _
      | exact ih3 _ _ _ _ _ _ _ _ _ _
      | exact ih4 _ _ _ _ _ _ _ _ _
      | exact ih5 _ _ _ _ _ _ _ _ _
      | exact ih6 _ _ _ _ _ _ _ _
      | exact ih7 _ _ _ _ _ _
      | exact heraldlaw10_head.mono _
      | exact LeO.none _
      | refine LeO.ite ?_ ?_
      | refine LeO.bind ?_ (fun _ => ?_)
theorem heraldlaw10_StateEnds.mono : ∀ a0 a1 k, LeO (heraldlaw10_StateEnds.f k a0 a1) (heraldlaw10_StateEnds.f (k + 1) a0 a1) := by
  intro a0 a1 k
  obtain ⟨ih0, ih1, ih2, ih3, ih4, ih5, ih6, ih7⟩ := heraldlaw10_StateEnds.mono_l k
  unfold heraldlaw10_StateEnds.f
  repeat' first
      | (with_reducible exact ih0 _ _ _)
      | (with_reducible exact ih1 _ _)
      | (with_reducible exact ih2 _ _ _ _ _)
      | (with_reducible exact ih3 _ _ _ _ _ _ _ _ _ _)
      | (with_reducible exact ih4 _ _ _ _ _ _ _ _ _)
      | (with_reducible exact ih5 _ _ _ _ _ _ _ _ _)
      | (with_reducible exact ih6 _ _ _ _ _ _ _ _)
      | (with_reducible exact ih7 _ _ _ _ _ _)
      | (with_reducible exact heraldlaw10_head.mono _)
      | (with_reducible exact LeO.refl _)
      | (with_reducible exact LeO.none _)
      | (with_reducible refine LeO.ite ?_ ?_)
      | (with_reducible refine LeO.bind ?_ (fun _ => ?_))
      | exact ih0 _ _ _
      | exact ih1 _ _
      | exact ih2 _ _ _ _ _
      | exact ih3 _ _ _ _ _ _ _ _ _ _
      | exact ih4 _ _ _ _ _ _ _ _ _
      | exact ih5 _ _ _ _ _ _ _ _ _
      | exact ih6 _ _ _ _ _ _ _ _
      | exact ih7 _ _ _ _ _ _
      | exact heraldlaw10_head.mono _
      | exact LeO.none _
      | refine LeO.ite ?_ ?_
      | refine LeO.bind ?_ (fun _ => ?_)
set_option maxHeartbeats 8000000 in
set_option maxRecDepth 100000 in
theorem heraldlaw10_StateEnds.calls (k : Nat) (a0 : Int) (A1 : Option Addr) (c1 : Nat) (l1 : List (S28)) (r : Bool) (w : World) (hG : GL w) (hr1 : Kd.C k28 w A1 l1.length l1) (hc1 : l1.length ≤ c1) (h : heraldlaw10_StateEnds.f k a0 l1 = some r) :
    Calls Tryd.prog 7 #[.int .i64 a0, .slice A1 l1.length c1] w fun e w' => e = .returned (.bool r) ∧ Below w.heap.size w w' := by
  have hu28 := Tryd.underlying28
  have HR1 := Aside0.mk hr1
  have HC1 := Aside0.mk hc1
  clear hr1 hc1
  have HG := Aside0.mk hG
  clear hG
  have HB := Aside0.mk (Below.refl w.heap.size w)
  have H : ((heraldlaw10_head.f k).bind fun t122 => (if t122 = true then (if a0 < 0 then (heraldlaw10_StateEnds.j0 k a0 l1 true) else (heraldlaw10_StateEnds.j0 k a0 l1 (decide (a0 > 6)))) else (some false))) = some r := h
  clear h
  replace H := Option.bind_eq_some_iff.mp H
  obtain ⟨t122, A30, H⟩ := H
  replace H : (if t122 = true then (if a0 < 0 then (heraldlaw10_StateEnds.j0 k a0 l1 true) else (heraldlaw10_StateEnds.j0 k a0 l1 (decide (a0 > 6)))) else (some false)) = some r := H
  have A3 := Aside0.mk A30
  clear A30
  by_cases c4 : t122 = true
  · subst c4
    have H1 : (if a0 < 0 then (heraldlaw10_StateEnds.j0 k a0 l1 true) else (heraldlaw10_StateEnds.j0 k a0 l1 (decide (a0 > 6)))) = some r := by rw [if_pos rfl] at H; exact H
    clear H
    have H := H1
    clear H1
    have HC5 := Aside0.mk H
    clear H
    go_enter Tryd.func7, Tryd.ntmps7
    go_upto_region 3 with (first | ((with_reducible refine gate_callee (f := 8) rfl ?_); refine goesL_ (some 13) rfl rfl Tryd.func8 (by kernel_rfl) rfl #[] rfl (by (try simp only [List.map_toArray, List.map_cons, List.map_nil]); first | done | rfl | (simp only [List.length_drop, List.length_take]; rfl)) ?_; (with_reducible refine (heraldlaw10_head.calls k  true _ ?side1 A3.out).mono ?_); (case side1 => exact GL.below HG.out (by repeat (first | (with_reducible first | exact HB.out | apply below_alloc | apply pw_below_drewN | apply below_drew1) | exact HB.out))); rintro e w6 ⟨rfl, hb⟩; refine ⟨_, rfl, ?_⟩; have n0_ := Aside0.mk (below_step (by repeat (first | (with_reducible first | exact HB.out | apply below_alloc | apply pw_below_drewN | apply below_drew1) | exact HB.out)) hb); clear HB; have HB := n0_; clear n0_; (try clear hb); (try clear hb2); (try clear hk); (try clear hi)))
    (try simp only [Act.put, List.setIfInBounds_toArray, List.set_cons_zero, List.set_cons_succ])
    go_cut [20] (fun v20 wc => ∃ (kq : Nat) (x20_4 : Bool), v20 = .bool x20_4 ∧ Aside0 (heraldlaw10_StateEnds.j0 kq a0 l1 x20_4 = some r) ∧ Aside0 (kq ≤ k) ∧ Aside0 (Below w.heap.size w wc))
    case first =>
      have H := HC5.out
      clear HC5
      by_cases c7 : a0 < 0
      · rw [if_pos c7] at H
        have c7b0 : decide (a0 < 0) = true := decide_eq_true c7
        clear c7
        (first | rw [c7b0] | (simp only [i64_w, i32_w]; rw [c7b0]) | skip)
        as_aux_lemma =>
          have H' := Aside0.mk H
          clear H
          go_wp2
          go_meet
          case rel => exact ⟨_, (true), (by first | rfl | (simp; done) | (simp [*]; done)), H', ⟨by first | omega | exact Nat.le_refl _⟩, ⟨by repeat (first | (with_reducible first | exact HB.out | apply below_alloc | apply pw_below_drewN | apply below_drew1) | exact HB.out)⟩⟩
      · rw [if_neg c7] at H
        have c7b0 : decide (a0 < 0) = false := decide_eq_false c7
        clear c7
        (first | rw [c7b0] | (simp only [i64_w, i32_w]; rw [c7b0]) | skip)
        as_aux_lemma =>
          have H' := Aside0.mk H
          clear H
          go_wp2
          go_meet
          case rel => exact ⟨_, (decide (a0 > 6)), (by first | rfl | (simp; done) | (simp [*]; done)), H', ⟨by first | omega | exact Nat.le_refl _⟩, ⟨by repeat (first | (with_reducible first | exact HB.out | apply below_alloc | apply pw_below_drewN | apply below_drew1) | exact HB.out)⟩⟩
    case rest =>
      clear HC5
      try clear c1
      try clear p2
      try clear c4
      try clear c7
      try clear c7b0
      obtain ⟨kq, x20_4, rfl, HA, HJ4, HB⟩ := hcut
      cases kq with
      | zero => exact absurd HA.out (by simp [heraldlaw10_StateEnds.j0])
      | succ kj4 =>
        have H := HA.out
        clear HA
        simp only [heraldlaw10_StateEnds.j0] at H
        have HC8 := Aside0.mk H
        clear H
        go_upto_if 20 with (fail)
        go_cut [0] (fun v0 wc => ∃ (kq : Nat) (x0_7 : Int), v0 = .int .i64 x0_7 ∧ Aside0 (heraldlaw10_StateEnds.j1 kq x0_7 l1 = some r) ∧ Aside0 (kq ≤ kj4) ∧ Aside0 (Below w.heap.size w wc))
        case first =>
          have H := HC8.out
          clear HC8
          by_cases c9 : x20_4 = true
          · subst c9
            have H1 : (heraldlaw10_StateEnds.j1 kj4 0 l1) = some r := by rw [if_pos rfl] at H; exact H
            clear H
            have H := H1
            clear H1
            as_aux_lemma =>
              have H' := Aside0.mk H
              clear H
              go_wp2
              go_meet
              case rel => exact ⟨_, (0), (by first | rfl | (simp; done) | (simp [*]; done)), H', ⟨by have := HJ4.out; first | omega | exact Nat.le_refl _⟩, ⟨by repeat (first | (with_reducible first | exact HB.out | apply below_alloc | apply pw_below_drewN | apply below_drew1) | exact HB.out)⟩⟩
          · replace c9 := Bool.eq_false_iff.mpr c9
            subst c9
            have H1 : (heraldlaw10_StateEnds.j1 kj4 a0 l1) = some r := by rw [if_neg (show ¬ (false = true) by decide)] at H; exact H
            clear H
            have H := H1
            clear H1
            as_aux_lemma =>
              have H' := Aside0.mk H
              clear H
              go_wp2
              go_meet
              case rel => exact ⟨_, (a0), (by first | rfl | (simp; done) | (simp [*]; done)), H', ⟨by have := HJ4.out; first | omega | exact Nat.le_refl _⟩, ⟨by repeat (first | (with_reducible first | exact HB.out | apply below_alloc | apply pw_below_drewN | apply below_drew1) | exact HB.out)⟩⟩
        case rest =>
          clear HC8
          try clear c1
          try clear p2
          try clear c4
          try clear c7
          try clear c7b0
          try clear c8
          try clear c9
          try clear p2
          obtain ⟨kq, x0_7, rfl, HA, HJ7, HB⟩ := hcut
          cases kq with
          | zero => exact absurd HA.out (by simp [heraldlaw10_StateEnds.j1])
          | succ kj7 =>
            have H := HA.out
            clear HA
            simp only [heraldlaw10_StateEnds.j1] at H
            have H' := Aside0.mk H
            clear H
            go_wp2
            go_loopg [0, 5, 6, 7] kj7 (fun kq v0 v5 v6 v7 w' => ∃ (x0_3 : Int) (x5_3 : Bool) (x6_3 : Bool) (x7_3 : Int), v0 = .int .i64 x0_3 ∧ v5 = .bool x5_3 ∧ v6 = .bool x6_3 ∧ v7 = .int .i64 x7_3 ∧ Aside0 (heraldlaw10_StateEnds.l0 kq x0_3 l1 x5_3 x6_3 x7_3 = some r) ∧ Aside0 (kq ≤ kj7) ∧ Aside0 (Below w.heap.size w w'))
            case atStart => exact ⟨(x0_7), (false), (false), (0), (by first | rfl | (simp; done) | (simp [*]; done)), (by first | rfl | (simp; done) | (simp [*]; done)), (by first | rfl | (simp; done) | (simp [*]; done)), (by first | rfl | (simp; done) | (simp [*]; done)), H', ⟨Nat.le_refl _⟩, ⟨by repeat (first | (with_reducible first | exact HB.out | apply below_alloc | apply pw_below_drewN | apply below_drew1) | exact HB.out)⟩⟩
            case round =>
              clear H'
              try clear c1
              try clear p2
              try clear c4
              try clear c7
              try clear c7b0
              try clear c8
              try clear c9
              try clear p2
              obtain ⟨x0_3, x5_3, x6_3, x7_3, rfl, rfl, rfl, rfl, HA, HK3, HB⟩ := hrel
              cases gk with
              | zero => exact absurd HA.out (by simp [heraldlaw10_StateEnds.l0])
              | succ k3 =>
                have H := HA.out
                clear HA
                simp only [heraldlaw10_StateEnds.l0] at H
                by_cases c10 : x7_3 < (l1.length : Int)
                · rw [if_pos c10] at H
                  have c10b0 : decide (x7_3 < (l1.length : Int)) = true := decide_eq_true c10
                  clear c10
                  by_cases c11 : 0 ≤ x7_3
                  · rw [if_pos c11] at H
                    have c11b0 : decide (0 ≤ x7_3) = true := decide_eq_true c11
                    clear c11
                    replace H := Option.bind_eq_some_iff.mp H
                    obtain ⟨⟨t125, t126, t127⟩, A120, H⟩ := H
                    replace H : (if ((rd_T28 l1 x7_3).f1) ≥ 1 then (heraldlaw10_StateEnds.j3 k3 x0_3 l1 x5_3 x6_3 x7_3 t125 t126 (decide (((rd_T28 l1 x7_3).f1) ≤ 4)) ((rd_T28 l1 x7_3).f0) ((rd_T28 l1 x7_3).f1)) else (heraldlaw10_StateEnds.j3 k3 x0_3 l1 x5_3 x6_3 x7_3 t125 t126 false ((rd_T28 l1 x7_3).f0) ((rd_T28 l1 x7_3).f1))) = some r := H
                    have A12 := Aside0.mk A120
                    clear A120
                    have HC13 := Aside0.mk H
                    clear H
                    have p123 : 0 ≤ (x7_3 : Int) := of_decide_eq_true (by first | (with_reducible assumption) | assumption)
                    have q123 : x7_3 < (l1.length : Int) := of_decide_eq_true (by first | (with_reducible assumption) | assumption)
                    obtain ⟨ad123, e123, hx123_0, hx123_1⟩ := at_T28 HR1.out x7_3 p123 q123
                    cases e123
                    replace hx123_0 := (HB.out.cell (World.block_lt_of_cell? w _ hx123_0)).trans hx123_0
                    replace hx123_1 := (HB.out.cell (World.block_lt_of_cell? w _ hx123_1)).trans hx123_1
                    replace p123 := eq_true p123
                    replace q123 := eq_true q123
                    go_upto_region 12 with (first | ((with_reducible refine gate_dst (N := 8) rfl ?_); refine box_event ?hg (N := 8) ?hd (cs := #[.bool false, .int .i64 0]) (t := 28) ?hr ?_; (case hd => rfl); (case hg => rfl); (case hr => first | (go_simp; done) | (go_simp; rfl)); intro gb124 hg w14 hbox hb; have n0_ := Aside0.mk (below_step (by repeat (first | (with_reducible first | exact HB.out | apply below_alloc | apply pw_below_drewN | apply below_drew1) | exact HB.out)) hb); have n1_ := Aside0.mk (hbox); have n2_ := Aside0.mk ((by rw [hg]; exact (below_size (by repeat (first | (with_reducible first | exact HB.out | apply below_alloc | apply pw_below_drewN | apply below_drew1) | exact HB.out))) : w.heap.size ≤ gb124)); have n3_ := Aside0.mk ((by rw [hg]; exact (below_size (by repeat (first | (with_reducible first | exact HB.out | apply below_alloc | apply pw_below_drewN | apply below_drew1) | exact HB.out))) : w.heap.size ≤ gb124)); clear HB; have HB := n0_; have BK124 := n1_; have GW124 := n2_; have GE124 := n3_; clear n0_ n1_ n2_ n3_; clear hb hbox hg; have hcz15_0 : w14.cell? ⟨gb124, 0, none⟩ = some (.bool false) := (blk_cell BK124.out 0).trans rfl; have hcz15_1 : w14.cell? ⟨gb124, 1, none⟩ = some (.int .i64 0) := (blk_cell BK124.out 1).trans rfl; have hfz15_0 := blk_frozen BK124.out 0; have hfz15_1 := blk_frozen BK124.out 1) | ((with_reducible refine gate_callee (f := 12) rfl ?_); refine goesL_ (some 34) rfl rfl Tryd.func12 (by kernel_rfl) rfl #[.int .i64 x0_3, .agg #[.bool ((rd_T28 l1 x7_3).f0), .int .i64 ((rd_T28 l1 x7_3).f1)]] rfl (by (try simp only [List.map_toArray, List.map_cons, List.map_nil]); first | done | rfl | (simp only [List.length_drop, List.length_take]; rfl)) ?_; (with_reducible refine (heraldlaw10_next.calls x0_3 ((rd_T28 l1 x7_3).f0) ((rd_T28 l1 x7_3).f1) t125 t126 t127 _ ?side1 A12.out).mono ?_); (case side1 => exact GL.below HG.out (by repeat (first | (with_reducible first | exact HB.out | apply below_alloc | apply pw_below_drewN | apply below_drew1 | refine below_set ?_ GE124.out) | exact HB.out))); rintro e w16 ⟨rfl, hb⟩; refine ⟨_, rfl, ?_⟩; have n0_ := Aside0.mk (blk_below (g := gb124) (o := .cells #[.bool ((rd_T28 l1 x7_3).f0), .int .i64 ((rd_T28 l1 x7_3).f1)] 28 (0, 0)) (by (with_reducible repeat (first | refine blk_drewN ?_ _ | refine blk_drew ?_ | refine blk_alloc ?_ _)); refine blk_put (cs := #[.bool ((rd_T28 l1 x7_3).f0), .int .i64 0]) ?_ 1 _ rfl; (with_reducible repeat (first | refine blk_drewN ?_ _ | refine blk_drew ?_ | refine blk_alloc ?_ _)); refine blk_put (cs := #[.bool false, .int .i64 0]) ?_ 0 _ rfl; (with_reducible repeat (first | refine blk_drewN ?_ _ | refine blk_drew ?_ | refine blk_alloc ?_ _)); exact BK124.out) hb); have n1_ := Aside0.mk (below_step (by repeat (first | (with_reducible first | exact HB.out | apply below_alloc | apply pw_below_drewN | apply below_drew1 | refine below_set ?_ GE124.out) | exact HB.out)) hb); clear BK124; clear HB; have BK124 := n0_; have HB := n1_; clear n0_ n1_; (try clear hb); (try clear hb2); (try clear hk); (try clear hi)))
                    (try simp only [Act.put, List.setIfInBounds_toArray, List.set_cons_zero, List.set_cons_succ])
                    go_cut [12] (fun v12 wc => ∃ (kq : Nat) (x12_12 : Bool), v12 = .bool x12_12 ∧ Aside0 (heraldlaw10_StateEnds.j3 kq x0_3 l1 x5_3 x6_3 x7_3 t125 t126 x12_12 ((rd_T28 l1 x7_3).f0) ((rd_T28 l1 x7_3).f1) = some r) ∧ Aside0 (kq ≤ k3) ∧ Aside0 (wc.heap[gb124]? = some (.cells #[.bool ((rd_T28 l1 x7_3).f0), .int .i64 ((rd_T28 l1 x7_3).f1)] 28 (0, 0))) ∧ Aside0 (Below w.heap.size w wc))
                    case first =>
                      have H := HC13.out
                      clear HC13
                      by_cases c17 : ((rd_T28 l1 x7_3).f1) ≥ 1
                      · rw [if_pos c17] at H
                        have c17b0 : decide (1 ≤ ((rd_T28 l1 x7_3).f1)) = true := decide_eq_true c17
                        clear c17
                        (first | rw [c17b0] | (simp only [i64_w, i32_w]; rw [c17b0]) | skip)
                        as_aux_lemma =>
                          have H' := Aside0.mk H
                          clear H
                          have hcz18_0 : w16.cell? ⟨gb124, 0, none⟩ = some (.bool ((rd_T28 l1 x7_3).f0)) := (blk_cell BK124.out 0).trans rfl
                          have hcz18_1 : w16.cell? ⟨gb124, 1, none⟩ = some (.int .i64 ((rd_T28 l1 x7_3).f1)) := (blk_cell BK124.out 1).trans rfl
                          have hfz18_0 := blk_frozen BK124.out 0
                          have hfz18_1 := blk_frozen BK124.out 1
                          go_wp2
                          go_meet
                          case rel => exact ⟨_, (decide (((rd_T28 l1 x7_3).f1) ≤ 4)), (by first | rfl | (simp; done) | (simp [*]; done)), H', ⟨by have := HJ4.out; have := HJ7.out; have := HK3.out; first | omega | exact Nat.le_refl _⟩, ⟨by (with_reducible repeat (first | refine blk_drewN ?_ _ | refine blk_drew ?_ | refine blk_alloc ?_ _)); exact BK124.out⟩, ⟨by repeat (first | (with_reducible first | exact HB.out | apply below_alloc | apply pw_below_drewN | apply below_drew1 | refine below_set ?_ GE124.out) | exact HB.out)⟩⟩
                      · rw [if_neg c17] at H
                        have c17b0 : decide (1 ≤ ((rd_T28 l1 x7_3).f1)) = false := decide_eq_false c17
                        clear c17
                        (first | rw [c17b0] | (simp only [i64_w, i32_w]; rw [c17b0]) | skip)
                        as_aux_lemma =>
                          have H' := Aside0.mk H
                          clear H
                          have hcz19_0 : w16.cell? ⟨gb124, 0, none⟩ = some (.bool ((rd_T28 l1 x7_3).f0)) := (blk_cell BK124.out 0).trans rfl
                          have hcz19_1 : w16.cell? ⟨gb124, 1, none⟩ = some (.int .i64 ((rd_T28 l1 x7_3).f1)) := (blk_cell BK124.out 1).trans rfl
                          have hfz19_0 := blk_frozen BK124.out 0
                          have hfz19_1 := blk_frozen BK124.out 1
                          go_wp2
                          go_meet
                          case rel => exact ⟨_, (false), (by first | rfl | (simp; done) | (simp [*]; done)), H', ⟨by have := HJ4.out; have := HJ7.out; have := HK3.out; first | omega | exact Nat.le_refl _⟩, ⟨by (with_reducible repeat (first | refine blk_drewN ?_ _ | refine blk_drew ?_ | refine blk_alloc ?_ _)); exact BK124.out⟩, ⟨by repeat (first | (with_reducible first | exact HB.out | apply below_alloc | apply pw_below_drewN | apply below_drew1 | refine below_set ?_ GE124.out) | exact HB.out)⟩⟩
                    case rest =>
                      clear HC13
                      try clear c1
                      try clear p1
                      try clear q1
                      try clear hx1
                      try clear p2
                      try clear c4
                      try clear c7
                      try clear c7b0
                      try clear c8
                      try clear c9
                      try clear c10
                      try clear c10b0
                      try clear c11
                      try clear c11b0
                      try clear c12
                      try clear p12
                      try clear q12
                      try clear hx12
                      try clear c17
                      try clear c17b0
                      try clear hcz15_0
                      try clear hcz15_1
                      try clear hcz18_0
                      try clear hcz18_1
                      try clear hcz19_0
                      try clear hcz19_1
                      try clear hfz15_0
                      try clear hfz15_1
                      try clear hfz18_0
                      try clear hfz18_1
                      try clear hfz19_0
                      try clear hfz19_1
                      try clear hx123_0
                      try clear hx123_1
                      try clear p123
                      try clear p2
                      try clear q123
                      obtain ⟨kq, x12_12, rfl, HA, HJ12, BK124, HB⟩ := hcut
                      cases kq with
                      | zero => exact absurd HA.out (by simp [heraldlaw10_StateEnds.j3])
                      | succ kj12 =>
                        have H := HA.out
                        clear HA
                        simp only [heraldlaw10_StateEnds.j3] at H
                        have HC20 := Aside0.mk H
                        clear H
                        go_upto_region 13 with (fail)
                        go_cut [73] (fun v73 wc => ∃ (kq : Nat) (x73_19 : Bool), v73 = .bool x73_19 ∧ Aside0 (heraldlaw10_StateEnds.j4 kq l1 x5_3 x6_3 x7_3 t125 t126 x73_19 ((rd_T28 l1 x7_3).f0) ((rd_T28 l1 x7_3).f1) = some r) ∧ Aside0 (kq ≤ kj12) ∧ Aside0 (wc.heap[gb124]? = some (.cells #[.bool ((rd_T28 l1 x7_3).f0), .int .i64 ((rd_T28 l1 x7_3).f1)] 28 (0, 0))) ∧ Aside0 (Below w.heap.size w wc))
                        case first =>
                          have H := HC20.out
                          clear HC20
                          by_cases c21 : x12_12 = true
                          · subst c21
                            have H1 : (if t126 = 0 then (if ((rd_T28 l1 x7_3).f0) = true then (if x6_3 = true then (heraldlaw10_StateEnds.j4 kj12 l1 x5_3 x6_3 x7_3 t125 t126 true ((rd_T28 l1 x7_3).f0) ((rd_T28 l1 x7_3).f1)) else (if x0_3 = 6 then (heraldlaw10_StateEnds.j4 kj12 l1 x5_3 x6_3 x7_3 t125 t126 (t125 != 6) ((rd_T28 l1 x7_3).f0) ((rd_T28 l1 x7_3).f1)) else (heraldlaw10_StateEnds.j4 kj12 l1 x5_3 x6_3 x7_3 t125 t126 false ((rd_T28 l1 x7_3).f0) ((rd_T28 l1 x7_3).f1)))) else (if x5_3 = true then (heraldlaw10_StateEnds.j4 kj12 l1 x5_3 x6_3 x7_3 t125 t126 true ((rd_T28 l1 x7_3).f0) ((rd_T28 l1 x7_3).f1)) else (if x0_3 = 6 then (heraldlaw10_StateEnds.j4 kj12 l1 x5_3 x6_3 x7_3 t125 t126 (t125 != 6) ((rd_T28 l1 x7_3).f0) ((rd_T28 l1 x7_3).f1)) else (heraldlaw10_StateEnds.j4 kj12 l1 x5_3 x6_3 x7_3 t125 t126 false ((rd_T28 l1 x7_3).f0) ((rd_T28 l1 x7_3).f1))))) else (if x0_3 = 6 then (heraldlaw10_StateEnds.j4 kj12 l1 x5_3 x6_3 x7_3 t125 t126 (t125 != 6) ((rd_T28 l1 x7_3).f0) ((rd_T28 l1 x7_3).f1)) else (heraldlaw10_StateEnds.j4 kj12 l1 x5_3 x6_3 x7_3 t125 t126 false ((rd_T28 l1 x7_3).f0) ((rd_T28 l1 x7_3).f1)))) = some r := by rw [if_pos rfl] at H; exact H
                            clear H
                            have H := H1
                            clear H1
                            by_cases c22 : t126 = 0
                            · rw [if_pos c22] at H
                              have c22b0 : (t126 == 0) = true := beq_iff_eq.mpr c22
                              have c22b1 : (t126 != 0) = false := bne_eq_false_iff_eq.mpr c22
                              clear c22
                              (first | rw [c22b0] | (simp only [i64_w, i32_w]; rw [c22b0]) | skip)
                              by_cases c23 : ((rd_T28 l1 x7_3).f0) = true
                              · rw [if_pos c23] at H
                                have c23b0 : ((rd_T28 l1 x7_3).f0) = true := c23
                                clear c23
                                by_cases c24 : x6_3 = true
                                · subst c24
                                  have H1 : (heraldlaw10_StateEnds.j4 kj12 l1 x5_3 true x7_3 t125 t126 true ((rd_T28 l1 x7_3).f0) ((rd_T28 l1 x7_3).f1)) = some r := by rw [if_pos rfl] at H; exact H
                                  clear H
                                  have H := H1
                                  clear H1
                                  as_aux_lemma =>
                                    have H' := Aside0.mk H
                                    clear H
                                    have hcz25_0 : wc.cell? ⟨gb124, 0, none⟩ = some (.bool ((rd_T28 l1 x7_3).f0)) := (blk_cell BK124.out 0).trans rfl
                                    have hcz25_1 : wc.cell? ⟨gb124, 1, none⟩ = some (.int .i64 ((rd_T28 l1 x7_3).f1)) := (blk_cell BK124.out 1).trans rfl
                                    have hfz25_0 := blk_frozen BK124.out 0
                                    have hfz25_1 := blk_frozen BK124.out 1
                                    go_wp2
                                    go_meet
                                    case rel => exact ⟨_, (true), (by first | rfl | (simp; done) | (simp [*]; done)), H', ⟨by have := HJ4.out; have := HJ7.out; have := HK3.out; have := HJ12.out; first | omega | exact Nat.le_refl _⟩, ⟨by (with_reducible repeat (first | refine blk_drewN ?_ _ | refine blk_drew ?_ | refine blk_alloc ?_ _)); exact BK124.out⟩, ⟨by repeat (first | (with_reducible first | exact HB.out | apply below_alloc | apply pw_below_drewN | apply below_drew1 | refine below_set ?_ GE124.out) | exact HB.out)⟩⟩
                                · replace c24 := Bool.eq_false_iff.mpr c24
                                  subst c24
                                  have H1 : (if x0_3 = 6 then (heraldlaw10_StateEnds.j4 kj12 l1 x5_3 false x7_3 t125 t126 (t125 != 6) ((rd_T28 l1 x7_3).f0) ((rd_T28 l1 x7_3).f1)) else (heraldlaw10_StateEnds.j4 kj12 l1 x5_3 false x7_3 t125 t126 false ((rd_T28 l1 x7_3).f0) ((rd_T28 l1 x7_3).f1))) = some r := by rw [if_neg (show ¬ (false = true) by decide)] at H; exact H
                                  clear H
                                  have H := H1
                                  clear H1
                                  by_cases c26 : x0_3 = 6
                                  · rw [if_pos c26] at H
                                    have c26b0 : (x0_3 == 6) = true := beq_iff_eq.mpr c26
                                    have c26b1 : (x0_3 != 6) = false := bne_eq_false_iff_eq.mpr c26
                                    clear c26
                                    as_aux_lemma =>
                                      have H' := Aside0.mk H
                                      clear H
                                      have hcz27_0 : wc.cell? ⟨gb124, 0, none⟩ = some (.bool ((rd_T28 l1 x7_3).f0)) := (blk_cell BK124.out 0).trans rfl
                                      have hcz27_1 : wc.cell? ⟨gb124, 1, none⟩ = some (.int .i64 ((rd_T28 l1 x7_3).f1)) := (blk_cell BK124.out 1).trans rfl
                                      have hfz27_0 := blk_frozen BK124.out 0
                                      have hfz27_1 := blk_frozen BK124.out 1
                                      go_wp2
                                      go_meet
                                      case rel => exact ⟨_, ((t125 != 6)), (by first | rfl | (simp; done) | (simp [*]; done)), H', ⟨by have := HJ4.out; have := HJ7.out; have := HK3.out; have := HJ12.out; first | omega | exact Nat.le_refl _⟩, ⟨by (with_reducible repeat (first | refine blk_drewN ?_ _ | refine blk_drew ?_ | refine blk_alloc ?_ _)); exact BK124.out⟩, ⟨by repeat (first | (with_reducible first | exact HB.out | apply below_alloc | apply pw_below_drewN | apply below_drew1 | refine below_set ?_ GE124.out) | exact HB.out)⟩⟩
                                  · rw [if_neg c26] at H
                                    have c26b0 : (x0_3 == 6) = false := beq_eq_false_iff_ne.mpr c26
                                    have c26b1 : (x0_3 != 6) = true := bne_iff_ne.mpr c26
                                    as_aux_lemma =>
                                      have H' := Aside0.mk H
                                      clear H
                                      have hcz28_0 : wc.cell? ⟨gb124, 0, none⟩ = some (.bool ((rd_T28 l1 x7_3).f0)) := (blk_cell BK124.out 0).trans rfl
                                      have hcz28_1 : wc.cell? ⟨gb124, 1, none⟩ = some (.int .i64 ((rd_T28 l1 x7_3).f1)) := (blk_cell BK124.out 1).trans rfl
                                      have hfz28_0 := blk_frozen BK124.out 0
                                      have hfz28_1 := blk_frozen BK124.out 1
                                      go_wp2
                                      go_meet
                                      case rel => exact ⟨_, (false), (by first | rfl | (simp; done) | (simp [*]; done)), H', ⟨by have := HJ4.out; have := HJ7.out; have := HK3.out; have := HJ12.out; first | omega | exact Nat.le_refl _⟩, ⟨by (with_reducible repeat (first | refine blk_drewN ?_ _ | refine blk_drew ?_ | refine blk_alloc ?_ _)); exact BK124.out⟩, ⟨by repeat (first | (with_reducible first | exact HB.out | apply below_alloc | apply pw_below_drewN | apply below_drew1 | refine below_set ?_ GE124.out) | exact HB.out)⟩⟩
                              · rw [if_neg c23] at H
                                have c23b0 : ((rd_T28 l1 x7_3).f0) = false := by simpa using c23
                                clear c23
                                by_cases c29 : x5_3 = true
                                · subst c29
                                  have H1 : (heraldlaw10_StateEnds.j4 kj12 l1 true x6_3 x7_3 t125 t126 true ((rd_T28 l1 x7_3).f0) ((rd_T28 l1 x7_3).f1)) = some r := by rw [if_pos rfl] at H; exact H
                                  clear H
                                  have H := H1
                                  clear H1
                                  as_aux_lemma =>
                                    have H' := Aside0.mk H
                                    clear H
                                    have hcz30_0 : wc.cell? ⟨gb124, 0, none⟩ = some (.bool ((rd_T28 l1 x7_3).f0)) := (blk_cell BK124.out 0).trans rfl
                                    have hcz30_1 : wc.cell? ⟨gb124, 1, none⟩ = some (.int .i64 ((rd_T28 l1 x7_3).f1)) := (blk_cell BK124.out 1).trans rfl
                                    have hfz30_0 := blk_frozen BK124.out 0
                                    have hfz30_1 := blk_frozen BK124.out 1
                                    go_wp2
                                    go_meet
                                    case rel => exact ⟨_, (true), (by first | rfl | (simp; done) | (simp [*]; done)), H', ⟨by have := HJ4.out; have := HJ7.out; have := HK3.out; have := HJ12.out; first | omega | exact Nat.le_refl _⟩, ⟨by (with_reducible repeat (first | refine blk_drewN ?_ _ | refine blk_drew ?_ | refine blk_alloc ?_ _)); exact BK124.out⟩, ⟨by repeat (first | (with_reducible first | exact HB.out | apply below_alloc | apply pw_below_drewN | apply below_drew1 | refine below_set ?_ GE124.out) | exact HB.out)⟩⟩
                                · replace c29 := Bool.eq_false_iff.mpr c29
                                  subst c29
                                  have H1 : (if x0_3 = 6 then (heraldlaw10_StateEnds.j4 kj12 l1 false x6_3 x7_3 t125 t126 (t125 != 6) ((rd_T28 l1 x7_3).f0) ((rd_T28 l1 x7_3).f1)) else (heraldlaw10_StateEnds.j4 kj12 l1 false x6_3 x7_3 t125 t126 false ((rd_T28 l1 x7_3).f0) ((rd_T28 l1 x7_3).f1))) = some r := by rw [if_neg (show ¬ (false = true) by decide)] at H; exact H
                                  clear H
                                  have H := H1
                                  clear H1
                                  by_cases c31 : x0_3 = 6
                                  · rw [if_pos c31] at H
                                    have c31b0 : (x0_3 == 6) = true := beq_iff_eq.mpr c31
                                    have c31b1 : (x0_3 != 6) = false := bne_eq_false_iff_eq.mpr c31
                                    clear c31
                                    as_aux_lemma =>
                                      have H' := Aside0.mk H
                                      clear H
                                      have hcz32_0 : wc.cell? ⟨gb124, 0, none⟩ = some (.bool ((rd_T28 l1 x7_3).f0)) := (blk_cell BK124.out 0).trans rfl
                                      have hcz32_1 : wc.cell? ⟨gb124, 1, none⟩ = some (.int .i64 ((rd_T28 l1 x7_3).f1)) := (blk_cell BK124.out 1).trans rfl
                                      have hfz32_0 := blk_frozen BK124.out 0
                                      have hfz32_1 := blk_frozen BK124.out 1
                                      go_wp2
                                      go_meet
                                      case rel => exact ⟨_, ((t125 != 6)), (by first | rfl | (simp; done) | (simp [*]; done)), H', ⟨by have := HJ4.out; have := HJ7.out; have := HK3.out; have := HJ12.out; first | omega | exact Nat.le_refl _⟩, ⟨by (with_reducible repeat (first | refine blk_drewN ?_ _ | refine blk_drew ?_ | refine blk_alloc ?_ _)); exact BK124.out⟩, ⟨by repeat (first | (with_reducible first | exact HB.out | apply below_alloc | apply pw_below_drewN | apply below_drew1 | refine below_set ?_ GE124.out) | exact HB.out)⟩⟩
                                  · rw [if_neg c31] at H
                                    have c31b0 : (x0_3 == 6) = false := beq_eq_false_iff_ne.mpr c31
                                    have c31b1 : (x0_3 != 6) = true := bne_iff_ne.mpr c31
                                    as_aux_lemma =>
                                      have H' := Aside0.mk H
                                      clear H
                                      have hcz33_0 : wc.cell? ⟨gb124, 0, none⟩ = some (.bool ((rd_T28 l1 x7_3).f0)) := (blk_cell BK124.out 0).trans rfl
                                      have hcz33_1 : wc.cell? ⟨gb124, 1, none⟩ = some (.int .i64 ((rd_T28 l1 x7_3).f1)) := (blk_cell BK124.out 1).trans rfl
                                      have hfz33_0 := blk_frozen BK124.out 0
                                      have hfz33_1 := blk_frozen BK124.out 1
                                      go_wp2
                                      go_meet
                                      case rel => exact ⟨_, (false), (by first | rfl | (simp; done) | (simp [*]; done)), H', ⟨by have := HJ4.out; have := HJ7.out; have := HK3.out; have := HJ12.out; first | omega | exact Nat.le_refl _⟩, ⟨by (with_reducible repeat (first | refine blk_drewN ?_ _ | refine blk_drew ?_ | refine blk_alloc ?_ _)); exact BK124.out⟩, ⟨by repeat (first | (with_reducible first | exact HB.out | apply below_alloc | apply pw_below_drewN | apply below_drew1 | refine below_set ?_ GE124.out) | exact HB.out)⟩⟩
                            · rw [if_neg c22] at H
                              have c22b0 : (t126 == 0) = false := beq_eq_false_iff_ne.mpr c22
                              have c22b1 : (t126 != 0) = true := bne_iff_ne.mpr c22
                              (first | rw [c22b0] | (simp only [i64_w, i32_w]; rw [c22b0]) | skip)
                              by_cases c34 : x0_3 = 6
                              · rw [if_pos c34] at H
                                have c34b0 : (x0_3 == 6) = true := beq_iff_eq.mpr c34
                                have c34b1 : (x0_3 != 6) = false := bne_eq_false_iff_eq.mpr c34
                                clear c34
                                as_aux_lemma =>
                                  have H' := Aside0.mk H
                                  clear H
                                  go_wp2
                                  go_meet
                                  case rel => exact ⟨_, ((t125 != 6)), (by first | rfl | (simp; done) | (simp [*]; done)), H', ⟨by have := HJ4.out; have := HJ7.out; have := HK3.out; have := HJ12.out; first | omega | exact Nat.le_refl _⟩, ⟨by (with_reducible repeat (first | refine blk_drewN ?_ _ | refine blk_drew ?_ | refine blk_alloc ?_ _)); exact BK124.out⟩, ⟨by repeat (first | (with_reducible first | exact HB.out | apply below_alloc | apply pw_below_drewN | apply below_drew1 | refine below_set ?_ GE124.out) | exact HB.out)⟩⟩
                              · rw [if_neg c34] at H
                                have c34b0 : (x0_3 == 6) = false := beq_eq_false_iff_ne.mpr c34
                                have c34b1 : (x0_3 != 6) = true := bne_iff_ne.mpr c34
                                as_aux_lemma =>
                                  have H' := Aside0.mk H
                                  clear H
                                  go_wp2
                                  go_meet
                                  case rel => exact ⟨_, (false), (by first | rfl | (simp; done) | (simp [*]; done)), H', ⟨by have := HJ4.out; have := HJ7.out; have := HK3.out; have := HJ12.out; first | omega | exact Nat.le_refl _⟩, ⟨by (with_reducible repeat (first | refine blk_drewN ?_ _ | refine blk_drew ?_ | refine blk_alloc ?_ _)); exact BK124.out⟩, ⟨by repeat (first | (with_reducible first | exact HB.out | apply below_alloc | apply pw_below_drewN | apply below_drew1 | refine below_set ?_ GE124.out) | exact HB.out)⟩⟩
                          · replace c21 := Bool.eq_false_iff.mpr c21
                            subst c21
                            have H1 : (if x0_3 = 6 then (heraldlaw10_StateEnds.j4 kj12 l1 x5_3 x6_3 x7_3 t125 t126 (t125 != 6) ((rd_T28 l1 x7_3).f0) ((rd_T28 l1 x7_3).f1)) else (heraldlaw10_StateEnds.j4 kj12 l1 x5_3 x6_3 x7_3 t125 t126 false ((rd_T28 l1 x7_3).f0) ((rd_T28 l1 x7_3).f1))) = some r := by rw [if_neg (show ¬ (false = true) by decide)] at H; exact H
                            clear H
                            have H := H1
                            clear H1
                            by_cases c35 : x0_3 = 6
                            · rw [if_pos c35] at H
                              have c35b0 : (x0_3 == 6) = true := beq_iff_eq.mpr c35
                              have c35b1 : (x0_3 != 6) = false := bne_eq_false_iff_eq.mpr c35
                              clear c35
                              as_aux_lemma =>
                                have H' := Aside0.mk H
                                clear H
                                go_wp2
                                go_meet
                                case rel => exact ⟨_, ((t125 != 6)), (by first | rfl | (simp; done) | (simp [*]; done)), H', ⟨by have := HJ4.out; have := HJ7.out; have := HK3.out; have := HJ12.out; first | omega | exact Nat.le_refl _⟩, ⟨by (with_reducible repeat (first | refine blk_drewN ?_ _ | refine blk_drew ?_ | refine blk_alloc ?_ _)); exact BK124.out⟩, ⟨by repeat (first | (with_reducible first | exact HB.out | apply below_alloc | apply pw_below_drewN | apply below_drew1 | refine below_set ?_ GE124.out) | exact HB.out)⟩⟩
                            · rw [if_neg c35] at H
                              have c35b0 : (x0_3 == 6) = false := beq_eq_false_iff_ne.mpr c35
                              have c35b1 : (x0_3 != 6) = true := bne_iff_ne.mpr c35
                              as_aux_lemma =>
                                have H' := Aside0.mk H
                                clear H
                                go_wp2
                                go_meet
                                case rel => exact ⟨_, (false), (by first | rfl | (simp; done) | (simp [*]; done)), H', ⟨by have := HJ4.out; have := HJ7.out; have := HK3.out; have := HJ12.out; first | omega | exact Nat.le_refl _⟩, ⟨by (with_reducible repeat (first | refine blk_drewN ?_ _ | refine blk_drew ?_ | refine blk_alloc ?_ _)); exact BK124.out⟩, ⟨by repeat (first | (with_reducible first | exact HB.out | apply below_alloc | apply pw_below_drewN | apply below_drew1 | refine below_set ?_ GE124.out) | exact HB.out)⟩⟩
                        case rest =>
                          clear HC20
                          try clear c1
                          try clear p1
                          try clear q1
                          try clear hx1
                          try clear c2
                          try clear p2
                          try clear c3
                          try clear c4
                          try clear c7
                          try clear c7b0
                          try clear c8
                          try clear c9
                          try clear c10
                          try clear c10b0
                          try clear c11
                          try clear c11b0
                          try clear c12
                          try clear p12
                          try clear q12
                          try clear hx12
                          try clear c17
                          try clear c17b0
                          try clear c21
                          try clear c22
                          try clear c22b0
                          try clear c22b1
                          try clear c23
                          try clear c23b0
                          try clear c24
                          try clear c26
                          try clear c26b0
                          try clear c26b1
                          try clear c29
                          try clear c31
                          try clear c31b0
                          try clear c31b1
                          try clear c34
                          try clear c34b0
                          try clear c34b1
                          try clear c35
                          try clear c35b0
                          try clear c35b1
                          try clear hcz15_0
                          try clear hcz15_1
                          try clear hcz18_0
                          try clear hcz18_1
                          try clear hcz19_0
                          try clear hcz19_1
                          try clear hcz25_0
                          try clear hcz25_1
                          try clear hcz27_0
                          try clear hcz27_1
                          try clear hcz28_0
                          try clear hcz28_1
                          try clear hcz30_0
                          try clear hcz30_1
                          try clear hcz32_0
                          try clear hcz32_1
                          try clear hcz33_0
                          try clear hcz33_1
                          try clear hfz15_0
                          try clear hfz15_1
                          try clear hfz18_0
                          try clear hfz18_1
                          try clear hfz19_0
                          try clear hfz19_1
                          try clear hfz25_0
                          try clear hfz25_1
                          try clear hfz27_0
                          try clear hfz27_1
                          try clear hfz28_0
                          try clear hfz28_1
                          try clear hfz30_0
                          try clear hfz30_1
                          try clear hfz32_0
                          try clear hfz32_1
                          try clear hfz33_0
                          try clear hfz33_1
                          try clear hx123_0
                          try clear hx123_1
                          try clear p1
                          try clear p12
                          try clear p123
                          try clear p2
                          try clear q1
                          try clear q12
                          try clear q123
                          obtain ⟨kq, x73_19, rfl, HA, HJ19, BK124, HB⟩ := hcut
                          cases kq with
                          | zero => exact absurd HA.out (by simp [heraldlaw10_StateEnds.j4])
                          | succ kj19 =>
                            have H := HA.out
                            clear HA
                            simp only [heraldlaw10_StateEnds.j4] at H
                            by_cases c36 : x73_19 = true
                            · subst c36
                              have H1 : (some false) = some r := by rw [if_pos rfl] at H; exact H
                              clear H
                              have H := H1
                              clear H1
                              as_aux_lemma =>
                                obtain rfl := Option.some.inj H
                                go_wp2
                                go_ret
                                exact ⟨by first | rfl | (simp [errW_none, errW_some] <;> rfl) | (simp [*, errW_none, errW_some] <;> rfl), by repeat (first | (with_reducible first | exact HB.out | apply below_alloc | apply pw_below_drewN | apply below_drew1 | refine below_set ?_ GE124.out) | exact HB.out)⟩
                            · replace c36 := Bool.eq_false_iff.mpr c36
                              subst c36
                              have H1 : (if t126 = 0 then (if ((rd_T28 l1 x7_3).f1) = 2 then (heraldlaw10_StateEnds.j5 kj19 l1 x5_3 x6_3 x7_3 t125 t126 true ((rd_T28 l1 x7_3).f0) ((rd_T28 l1 x7_3).f1)) else (heraldlaw10_StateEnds.j5 kj19 l1 x5_3 x6_3 x7_3 t125 t126 (((rd_T28 l1 x7_3).f1) == 4) ((rd_T28 l1 x7_3).f0) ((rd_T28 l1 x7_3).f1))) else (heraldlaw10_StateEnds.j5 kj19 l1 x5_3 x6_3 x7_3 t125 t126 false ((rd_T28 l1 x7_3).f0) ((rd_T28 l1 x7_3).f1))) = some r := by rw [if_neg (show ¬ (false = true) by decide)] at H; exact H
                              clear H
                              have H := H1
                              clear H1
                              have HC37 := Aside0.mk H
                              clear H
                              go_upto_region 15 with (fail)
                              go_cut [85] (fun v85 wc => ∃ (kq : Nat) (x85_36 : Bool), v85 = .bool x85_36 ∧ Aside0 (heraldlaw10_StateEnds.j5 kq l1 x5_3 x6_3 x7_3 t125 t126 x85_36 ((rd_T28 l1 x7_3).f0) ((rd_T28 l1 x7_3).f1) = some r) ∧ Aside0 (kq ≤ kj19) ∧ Aside0 (wc.heap[gb124]? = some (.cells #[.bool ((rd_T28 l1 x7_3).f0), .int .i64 ((rd_T28 l1 x7_3).f1)] 28 (0, 0))) ∧ Aside0 (Below w.heap.size w wc))
                              case first =>
                                have H := HC37.out
                                clear HC37
                                by_cases c38 : t126 = 0
                                · rw [if_pos c38] at H
                                  have c38b0 : (t126 == 0) = true := beq_iff_eq.mpr c38
                                  have c38b1 : (t126 != 0) = false := bne_eq_false_iff_eq.mpr c38
                                  clear c38
                                  (first | rw [c38b0] | (simp only [i64_w, i32_w]; rw [c38b0]) | skip)
                                  by_cases c39 : ((rd_T28 l1 x7_3).f1) = 2
                                  · rw [if_pos c39] at H
                                    have c39b0 : (((rd_T28 l1 x7_3).f1) == 2) = true := beq_iff_eq.mpr c39
                                    have c39b1 : (((rd_T28 l1 x7_3).f1) != 2) = false := bne_eq_false_iff_eq.mpr c39
                                    clear c39
                                    as_aux_lemma =>
                                      have H' := Aside0.mk H
                                      clear H
                                      have hcz40_0 : wc.cell? ⟨gb124, 0, none⟩ = some (.bool ((rd_T28 l1 x7_3).f0)) := (blk_cell BK124.out 0).trans rfl
                                      have hcz40_1 : wc.cell? ⟨gb124, 1, none⟩ = some (.int .i64 ((rd_T28 l1 x7_3).f1)) := (blk_cell BK124.out 1).trans rfl
                                      have hfz40_0 := blk_frozen BK124.out 0
                                      have hfz40_1 := blk_frozen BK124.out 1
                                      go_wp2
                                      go_meet
                                      case rel => exact ⟨_, (true), (by first | rfl | (simp; done) | (simp [*]; done)), H', ⟨by have := HJ4.out; have := HJ7.out; have := HK3.out; have := HJ12.out; have := HJ19.out; first | omega | exact Nat.le_refl _⟩, ⟨by (with_reducible repeat (first | refine blk_drewN ?_ _ | refine blk_drew ?_ | refine blk_alloc ?_ _)); exact BK124.out⟩, ⟨by repeat (first | (with_reducible first | exact HB.out | apply below_alloc | apply pw_below_drewN | apply below_drew1 | refine below_set ?_ GE124.out) | exact HB.out)⟩⟩
                                  · rw [if_neg c39] at H
                                    have c39b0 : (((rd_T28 l1 x7_3).f1) == 2) = false := beq_eq_false_iff_ne.mpr c39
                                    have c39b1 : (((rd_T28 l1 x7_3).f1) != 2) = true := bne_iff_ne.mpr c39
                                    as_aux_lemma =>
                                      have H' := Aside0.mk H
                                      clear H
                                      have hcz41_0 : wc.cell? ⟨gb124, 0, none⟩ = some (.bool ((rd_T28 l1 x7_3).f0)) := (blk_cell BK124.out 0).trans rfl
                                      have hcz41_1 : wc.cell? ⟨gb124, 1, none⟩ = some (.int .i64 ((rd_T28 l1 x7_3).f1)) := (blk_cell BK124.out 1).trans rfl
                                      have hfz41_0 := blk_frozen BK124.out 0
                                      have hfz41_1 := blk_frozen BK124.out 1
                                      go_wp2
                                      go_meet
                                      case rel => exact ⟨_, ((((rd_T28 l1 x7_3).f1) == 4)), (by first | rfl | (simp; done) | (simp [*]; done)), H', ⟨by have := HJ4.out; have := HJ7.out; have := HK3.out; have := HJ12.out; have := HJ19.out; first | omega | exact Nat.le_refl _⟩, ⟨by (with_reducible repeat (first | refine blk_drewN ?_ _ | refine blk_drew ?_ | refine blk_alloc ?_ _)); exact BK124.out⟩, ⟨by repeat (first | (with_reducible first | exact HB.out | apply below_alloc | apply pw_below_drewN | apply below_drew1 | refine below_set ?_ GE124.out) | exact HB.out)⟩⟩
                                · rw [if_neg c38] at H
                                  have c38b0 : (t126 == 0) = false := beq_eq_false_iff_ne.mpr c38
                                  have c38b1 : (t126 != 0) = true := bne_iff_ne.mpr c38
                                  (first | rw [c38b0] | (simp only [i64_w, i32_w]; rw [c38b0]) | skip)
                                  as_aux_lemma =>
                                    have H' := Aside0.mk H
                                    clear H
                                    go_wp2
                                    go_meet
                                    case rel => exact ⟨_, (false), (by first | rfl | (simp; done) | (simp [*]; done)), H', ⟨by have := HJ4.out; have := HJ7.out; have := HK3.out; have := HJ12.out; have := HJ19.out; first | omega | exact Nat.le_refl _⟩, ⟨by (with_reducible repeat (first | refine blk_drewN ?_ _ | refine blk_drew ?_ | refine blk_alloc ?_ _)); exact BK124.out⟩, ⟨by repeat (first | (with_reducible first | exact HB.out | apply below_alloc | apply pw_below_drewN | apply below_drew1 | refine below_set ?_ GE124.out) | exact HB.out)⟩⟩
                              case rest =>
                                clear HC37
                                try clear c1
                                try clear p1
                                try clear q1
                                try clear hx1
                                try clear c2
                                try clear p2
                                try clear c3
                                try clear c4
                                try clear c7
                                try clear c7b0
                                try clear c8
                                try clear c9
                                try clear c10
                                try clear c10b0
                                try clear c11
                                try clear c11b0
                                try clear c12
                                try clear p12
                                try clear q12
                                try clear hx12
                                try clear c17
                                try clear c17b0
                                try clear c21
                                try clear c22
                                try clear c22b0
                                try clear c22b1
                                try clear c23
                                try clear c23b0
                                try clear c24
                                try clear c26
                                try clear c26b0
                                try clear c26b1
                                try clear c29
                                try clear c31
                                try clear c31b0
                                try clear c31b1
                                try clear c34
                                try clear c34b0
                                try clear c34b1
                                try clear c35
                                try clear c35b0
                                try clear c35b1
                                try clear c36
                                try clear c38
                                try clear c38b0
                                try clear c38b1
                                try clear c39
                                try clear c39b0
                                try clear c39b1
                                try clear hcz15_0
                                try clear hcz15_1
                                try clear hcz18_0
                                try clear hcz18_1
                                try clear hcz19_0
                                try clear hcz19_1
                                try clear hcz25_0
                                try clear hcz25_1
                                try clear hcz27_0
                                try clear hcz27_1
                                try clear hcz28_0
                                try clear hcz28_1
                                try clear hcz30_0
                                try clear hcz30_1
                                try clear hcz32_0
                                try clear hcz32_1
                                try clear hcz33_0
                                try clear hcz33_1
                                try clear hcz40_0
                                try clear hcz40_1
                                try clear hcz41_0
                                try clear hcz41_1
                                try clear hfz15_0
                                try clear hfz15_1
                                try clear hfz18_0
                                try clear hfz18_1
                                try clear hfz19_0
                                try clear hfz19_1
                                try clear hfz25_0
                                try clear hfz25_1
                                try clear hfz27_0
                                try clear hfz27_1
                                try clear hfz28_0
                                try clear hfz28_1
                                try clear hfz30_0
                                try clear hfz30_1
                                try clear hfz32_0
                                try clear hfz32_1
                                try clear hfz33_0
                                try clear hfz33_1
                                try clear hfz40_0
                                try clear hfz40_1
                                try clear hfz41_0
                                try clear hfz41_1
                                try clear hx123_0
                                try clear hx123_1
                                try clear p1
                                try clear p12
                                try clear p123
                                try clear p2
                                try clear q1
                                try clear q12
                                try clear q123
                                obtain ⟨kq, x85_36, rfl, HA, HJ36, BK124, HB⟩ := hcut
                                cases kq with
                                | zero => exact absurd HA.out (by simp [heraldlaw10_StateEnds.j5])
                                | succ kj36 =>
                                  have H := HA.out
                                  clear HA
                                  simp only [heraldlaw10_StateEnds.j5] at H
                                  have HC42 := Aside0.mk H
                                  clear H
                                  go_upto_if 85 with (fail)
                                  go_cut [5, 6] (fun v5 v6 wc => ∃ (kq : Nat) (x5_41 : Bool) (x6_41 : Bool), v5 = .bool x5_41 ∧ v6 = .bool x6_41 ∧ Aside0 (heraldlaw10_StateEnds.j6 kq l1 x5_41 x6_41 x7_3 t125 t126 ((rd_T28 l1 x7_3).f0) ((rd_T28 l1 x7_3).f1) = some r) ∧ Aside0 (kq ≤ kj36) ∧ Aside0 (wc.heap[gb124]? = some (.cells #[.bool ((rd_T28 l1 x7_3).f0), .int .i64 ((rd_T28 l1 x7_3).f1)] 28 (0, 0))) ∧ Aside0 (Below w.heap.size w wc))
                                  case first =>
                                    have H := HC42.out
                                    clear HC42
                                    by_cases c43 : x85_36 = true
                                    · subst c43
                                      have H1 : (if x5_3 = true then (if x6_3 = true then (heraldlaw10_StateEnds.j6 kj36 l1 true true x7_3 t125 t126 ((rd_T28 l1 x7_3).f0) ((rd_T28 l1 x7_3).f1)) else (heraldlaw10_StateEnds.j6 kj36 l1 true ((rd_T28 l1 x7_3).f0) x7_3 t125 t126 ((rd_T28 l1 x7_3).f0) ((rd_T28 l1 x7_3).f1))) else (if x6_3 = true then (heraldlaw10_StateEnds.j6 kj36 l1 (!((rd_T28 l1 x7_3).f0)) true x7_3 t125 t126 ((rd_T28 l1 x7_3).f0) ((rd_T28 l1 x7_3).f1)) else (heraldlaw10_StateEnds.j6 kj36 l1 (!((rd_T28 l1 x7_3).f0)) ((rd_T28 l1 x7_3).f0) x7_3 t125 t126 ((rd_T28 l1 x7_3).f0) ((rd_T28 l1 x7_3).f1)))) = some r := by rw [if_pos rfl] at H; exact H
                                      clear H
                                      have H := H1
                                      clear H1
                                      by_cases c44 : x5_3 = true
                                      · subst c44
                                        have H1 : (if x6_3 = true then (heraldlaw10_StateEnds.j6 kj36 l1 true true x7_3 t125 t126 ((rd_T28 l1 x7_3).f0) ((rd_T28 l1 x7_3).f1)) else (heraldlaw10_StateEnds.j6 kj36 l1 true ((rd_T28 l1 x7_3).f0) x7_3 t125 t126 ((rd_T28 l1 x7_3).f0) ((rd_T28 l1 x7_3).f1))) = some r := by rw [if_pos rfl] at H; exact H
                                        clear H
                                        have H := H1
                                        clear H1
                                        by_cases c45 : x6_3 = true
                                        · subst c45
                                          have H1 : (heraldlaw10_StateEnds.j6 kj36 l1 true true x7_3 t125 t126 ((rd_T28 l1 x7_3).f0) ((rd_T28 l1 x7_3).f1)) = some r := by rw [if_pos rfl] at H; exact H
                                          clear H
                                          have H := H1
                                          clear H1
                                          as_aux_lemma =>
                                            have H' := Aside0.mk H
                                            clear H
                                            go_wp2
                                            go_meet
                                            case rel => exact ⟨_, (true), (true), (by first | rfl | (simp; done) | (simp [*]; done)), (by first | rfl | (simp; done) | (simp [*]; done)), H', ⟨by have := HJ4.out; have := HJ7.out; have := HK3.out; have := HJ12.out; have := HJ19.out; have := HJ36.out; first | omega | exact Nat.le_refl _⟩, ⟨by (with_reducible repeat (first | refine blk_drewN ?_ _ | refine blk_drew ?_ | refine blk_alloc ?_ _)); exact BK124.out⟩, ⟨by repeat (first | (with_reducible first | exact HB.out | apply below_alloc | apply pw_below_drewN | apply below_drew1 | refine below_set ?_ GE124.out) | exact HB.out)⟩⟩
                                        · replace c45 := Bool.eq_false_iff.mpr c45
                                          subst c45
                                          have H1 : (heraldlaw10_StateEnds.j6 kj36 l1 true ((rd_T28 l1 x7_3).f0) x7_3 t125 t126 ((rd_T28 l1 x7_3).f0) ((rd_T28 l1 x7_3).f1)) = some r := by rw [if_neg (show ¬ (false = true) by decide)] at H; exact H
                                          clear H
                                          have H := H1
                                          clear H1
                                          as_aux_lemma =>
                                            have H' := Aside0.mk H
                                            clear H
                                            have hcz46_0 : wc.cell? ⟨gb124, 0, none⟩ = some (.bool ((rd_T28 l1 x7_3).f0)) := (blk_cell BK124.out 0).trans rfl
                                            have hcz46_1 : wc.cell? ⟨gb124, 1, none⟩ = some (.int .i64 ((rd_T28 l1 x7_3).f1)) := (blk_cell BK124.out 1).trans rfl
                                            have hfz46_0 := blk_frozen BK124.out 0
                                            have hfz46_1 := blk_frozen BK124.out 1
                                            go_wp2
                                            go_meet
                                            case rel => exact ⟨_, (true), (((rd_T28 l1 x7_3).f0)), (by first | rfl | (simp; done) | (simp [*]; done)), (by first | rfl | (simp; done) | (simp [*]; done)), H', ⟨by have := HJ4.out; have := HJ7.out; have := HK3.out; have := HJ12.out; have := HJ19.out; have := HJ36.out; first | omega | exact Nat.le_refl _⟩, ⟨by (with_reducible repeat (first | refine blk_drewN ?_ _ | refine blk_drew ?_ | refine blk_alloc ?_ _)); exact BK124.out⟩, ⟨by repeat (first | (with_reducible first | exact HB.out | apply below_alloc | apply pw_below_drewN | apply below_drew1 | refine below_set ?_ GE124.out) | exact HB.out)⟩⟩
                                      · replace c44 := Bool.eq_false_iff.mpr c44
                                        subst c44
                                        have H1 : (if x6_3 = true then (heraldlaw10_StateEnds.j6 kj36 l1 (!((rd_T28 l1 x7_3).f0)) true x7_3 t125 t126 ((rd_T28 l1 x7_3).f0) ((rd_T28 l1 x7_3).f1)) else (heraldlaw10_StateEnds.j6 kj36 l1 (!((rd_T28 l1 x7_3).f0)) ((rd_T28 l1 x7_3).f0) x7_3 t125 t126 ((rd_T28 l1 x7_3).f0) ((rd_T28 l1 x7_3).f1))) = some r := by rw [if_neg (show ¬ (false = true) by decide)] at H; exact H
                                        clear H
                                        have H := H1
                                        clear H1
                                        by_cases c47 : x6_3 = true
                                        · subst c47
                                          have H1 : (heraldlaw10_StateEnds.j6 kj36 l1 (!((rd_T28 l1 x7_3).f0)) true x7_3 t125 t126 ((rd_T28 l1 x7_3).f0) ((rd_T28 l1 x7_3).f1)) = some r := by rw [if_pos rfl] at H; exact H
                                          clear H
                                          have H := H1
                                          clear H1
                                          as_aux_lemma =>
                                            have H' := Aside0.mk H
                                            clear H
                                            have hcz48_0 : wc.cell? ⟨gb124, 0, none⟩ = some (.bool ((rd_T28 l1 x7_3).f0)) := (blk_cell BK124.out 0).trans rfl
                                            have hcz48_1 : wc.cell? ⟨gb124, 1, none⟩ = some (.int .i64 ((rd_T28 l1 x7_3).f1)) := (blk_cell BK124.out 1).trans rfl
                                            have hfz48_0 := blk_frozen BK124.out 0
                                            have hfz48_1 := blk_frozen BK124.out 1
                                            go_wp2
                                            go_meet
                                            case rel => exact ⟨_, (!((rd_T28 l1 x7_3).f0)), (true), (by first | rfl | (simp; done) | (simp [*]; done)), (by first | rfl | (simp; done) | (simp [*]; done)), H', ⟨by have := HJ4.out; have := HJ7.out; have := HK3.out; have := HJ12.out; have := HJ19.out; have := HJ36.out; first | omega | exact Nat.le_refl _⟩, ⟨by (with_reducible repeat (first | refine blk_drewN ?_ _ | refine blk_drew ?_ | refine blk_alloc ?_ _)); exact BK124.out⟩, ⟨by repeat (first | (with_reducible first | exact HB.out | apply below_alloc | apply pw_below_drewN | apply below_drew1 | refine below_set ?_ GE124.out) | exact HB.out)⟩⟩
                                        · replace c47 := Bool.eq_false_iff.mpr c47
                                          subst c47
                                          have H1 : (heraldlaw10_StateEnds.j6 kj36 l1 (!((rd_T28 l1 x7_3).f0)) ((rd_T28 l1 x7_3).f0) x7_3 t125 t126 ((rd_T28 l1 x7_3).f0) ((rd_T28 l1 x7_3).f1)) = some r := by rw [if_neg (show ¬ (false = true) by decide)] at H; exact H
                                          clear H
                                          have H := H1
                                          clear H1
                                          as_aux_lemma =>
                                            have H' := Aside0.mk H
                                            clear H
                                            have hcz49_0 : wc.cell? ⟨gb124, 0, none⟩ = some (.bool ((rd_T28 l1 x7_3).f0)) := (blk_cell BK124.out 0).trans rfl
                                            have hcz49_1 : wc.cell? ⟨gb124, 1, none⟩ = some (.int .i64 ((rd_T28 l1 x7_3).f1)) := (blk_cell BK124.out 1).trans rfl
                                            have hfz49_0 := blk_frozen BK124.out 0
                                            have hfz49_1 := blk_frozen BK124.out 1
                                            go_wp2
                                            go_meet
                                            case rel => exact ⟨_, (!((rd_T28 l1 x7_3).f0)), (((rd_T28 l1 x7_3).f0)), (by first | rfl | (simp; done) | (simp [*]; done)), (by first | rfl | (simp; done) | (simp [*]; done)), H', ⟨by have := HJ4.out; have := HJ7.out; have := HK3.out; have := HJ12.out; have := HJ19.out; have := HJ36.out; first | omega | exact Nat.le_refl _⟩, ⟨by (with_reducible repeat (first | refine blk_drewN ?_ _ | refine blk_drew ?_ | refine blk_alloc ?_ _)); exact BK124.out⟩, ⟨by repeat (first | (with_reducible first | exact HB.out | apply below_alloc | apply pw_below_drewN | apply below_drew1 | refine below_set ?_ GE124.out) | exact HB.out)⟩⟩
                                    · replace c43 := Bool.eq_false_iff.mpr c43
                                      subst c43
                                      have H1 : (heraldlaw10_StateEnds.j6 kj36 l1 x5_3 x6_3 x7_3 t125 t126 ((rd_T28 l1 x7_3).f0) ((rd_T28 l1 x7_3).f1)) = some r := by rw [if_neg (show ¬ (false = true) by decide)] at H; exact H
                                      clear H
                                      have H := H1
                                      clear H1
                                      as_aux_lemma =>
                                        have H' := Aside0.mk H
                                        clear H
                                        go_wp2
                                        go_meet
                                        case rel => exact ⟨_, (x5_3), (x6_3), (by first | rfl | (simp; done) | (simp [*]; done)), (by first | rfl | (simp; done) | (simp [*]; done)), H', ⟨by have := HJ4.out; have := HJ7.out; have := HK3.out; have := HJ12.out; have := HJ19.out; have := HJ36.out; first | omega | exact Nat.le_refl _⟩, ⟨by (with_reducible repeat (first | refine blk_drewN ?_ _ | refine blk_drew ?_ | refine blk_alloc ?_ _)); exact BK124.out⟩, ⟨by repeat (first | (with_reducible first | exact HB.out | apply below_alloc | apply pw_below_drewN | apply below_drew1 | refine below_set ?_ GE124.out) | exact HB.out)⟩⟩
                                  case rest =>
                                    clear HC42
                                    try clear c1
                                    try clear p1
                                    try clear q1
                                    try clear hx1
                                    try clear c2
                                    try clear p2
                                    try clear c3
                                    try clear c4
                                    try clear c7
                                    try clear c7b0
                                    try clear c8
                                    try clear c9
                                    try clear c10
                                    try clear c10b0
                                    try clear c11
                                    try clear c11b0
                                    try clear c12
                                    try clear p12
                                    try clear q12
                                    try clear hx12
                                    try clear c17
                                    try clear c17b0
                                    try clear c21
                                    try clear c22
                                    try clear c22b0
                                    try clear c22b1
                                    try clear c23
                                    try clear c23b0
                                    try clear c24
                                    try clear c26
                                    try clear c26b0
                                    try clear c26b1
                                    try clear c29
                                    try clear c31
                                    try clear c31b0
                                    try clear c31b1
                                    try clear c34
                                    try clear c34b0
                                    try clear c34b1
                                    try clear c35
                                    try clear c35b0
                                    try clear c35b1
                                    try clear c36
                                    try clear c38
                                    try clear c38b0
                                    try clear c38b1
                                    try clear c39
                                    try clear c39b0
                                    try clear c39b1
                                    try clear c43
                                    try clear c44
                                    try clear c45
                                    try clear c47
                                    try clear hcz15_0
                                    try clear hcz15_1
                                    try clear hcz18_0
                                    try clear hcz18_1
                                    try clear hcz19_0
                                    try clear hcz19_1
                                    try clear hcz25_0
                                    try clear hcz25_1
                                    try clear hcz27_0
                                    try clear hcz27_1
                                    try clear hcz28_0
                                    try clear hcz28_1
                                    try clear hcz30_0
                                    try clear hcz30_1
                                    try clear hcz32_0
                                    try clear hcz32_1
                                    try clear hcz33_0
                                    try clear hcz33_1
                                    try clear hcz40_0
                                    try clear hcz40_1
                                    try clear hcz41_0
                                    try clear hcz41_1
                                    try clear hcz46_0
                                    try clear hcz46_1
                                    try clear hcz48_0
                                    try clear hcz48_1
                                    try clear hcz49_0
                                    try clear hcz49_1
                                    try clear hfz15_0
                                    try clear hfz15_1
                                    try clear hfz18_0
                                    try clear hfz18_1
                                    try clear hfz19_0
                                    try clear hfz19_1
                                    try clear hfz25_0
                                    try clear hfz25_1
                                    try clear hfz27_0
                                    try clear hfz27_1
                                    try clear hfz28_0
                                    try clear hfz28_1
                                    try clear hfz30_0
                                    try clear hfz30_1
                                    try clear hfz32_0
                                    try clear hfz32_1
                                    try clear hfz33_0
                                    try clear hfz33_1
                                    try clear hfz40_0
                                    try clear hfz40_1
                                    try clear hfz41_0
                                    try clear hfz41_1
                                    try clear hfz46_0
                                    try clear hfz46_1
                                    try clear hfz48_0
                                    try clear hfz48_1
                                    try clear hfz49_0
                                    try clear hfz49_1
                                    try clear hx123_0
                                    try clear hx123_1
                                    try clear p1
                                    try clear p12
                                    try clear p123
                                    try clear p2
                                    try clear q1
                                    try clear q12
                                    try clear q123
                                    obtain ⟨kq, x5_41, x6_41, rfl, rfl, HA, HJ41, BK124, HB⟩ := hcut
                                    cases kq with
                                    | zero => exact absurd HA.out (by simp [heraldlaw10_StateEnds.j6])
                                    | succ kj41 =>
                                      have H := HA.out
                                      clear HA
                                      simp only [heraldlaw10_StateEnds.j6] at H
                                      have HC50 := Aside0.mk H
                                      clear H
                                      go_upto_region 18 with (fail)
                                      go_cut [117] (fun v117 wc => ∃ (kq : Nat) (x117_49 : Bool), v117 = .bool x117_49 ∧ Aside0 (heraldlaw10_StateEnds.j7 kq l1 x5_41 x6_41 x7_3 t125 x117_49 = some r) ∧ Aside0 (kq ≤ kj41) ∧ Aside0 (wc.heap[gb124]? = some (.cells #[.bool ((rd_T28 l1 x7_3).f0), .int .i64 ((rd_T28 l1 x7_3).f1)] 28 (0, 0))) ∧ Aside0 (Below w.heap.size w wc))
                                      case first =>
                                        have H := HC50.out
                                        clear HC50
                                        by_cases c51 : x5_41 = true
                                        · subst c51
                                          have H1 : (if x6_41 = true then (if t125 = 6 then (if t126 = 0 then (if ((rd_T28 l1 x7_3).f1) = 6 then (heraldlaw10_StateEnds.j7 kj41 l1 true x6_41 x7_3 t125 (t125 != 6)) else (heraldlaw10_StateEnds.j7 kj41 l1 true x6_41 x7_3 t125 false)) else (heraldlaw10_StateEnds.j7 kj41 l1 true x6_41 x7_3 t125 false)) else (heraldlaw10_StateEnds.j7 kj41 l1 true x6_41 x7_3 t125 true)) else (if t126 = 0 then (if ((rd_T28 l1 x7_3).f1) = 6 then (heraldlaw10_StateEnds.j7 kj41 l1 true x6_41 x7_3 t125 (t125 != 6)) else (heraldlaw10_StateEnds.j7 kj41 l1 true x6_41 x7_3 t125 false)) else (heraldlaw10_StateEnds.j7 kj41 l1 true x6_41 x7_3 t125 false))) = some r := by rw [if_pos rfl] at H; exact H
                                          clear H
                                          have H := H1
                                          clear H1
                                          by_cases c52 : x6_41 = true
                                          · subst c52
                                            have H1 : (if t125 = 6 then (if t126 = 0 then (if ((rd_T28 l1 x7_3).f1) = 6 then (heraldlaw10_StateEnds.j7 kj41 l1 true true x7_3 t125 (t125 != 6)) else (heraldlaw10_StateEnds.j7 kj41 l1 true true x7_3 t125 false)) else (heraldlaw10_StateEnds.j7 kj41 l1 true true x7_3 t125 false)) else (heraldlaw10_StateEnds.j7 kj41 l1 true true x7_3 t125 true)) = some r := by rw [if_pos rfl] at H; exact H
                                            clear H
                                            have H := H1
                                            clear H1
                                            by_cases c53 : t125 = 6
                                            · rw [if_pos c53] at H
                                              have c53b0 : (t125 == 6) = true := beq_iff_eq.mpr c53
                                              have c53b1 : (t125 != 6) = false := bne_eq_false_iff_eq.mpr c53
                                              clear c53
                                              (first | rw [c53b0] | (simp only [i64_w, i32_w]; rw [c53b0]) | skip)
                                              by_cases c54 : t126 = 0
                                              · rw [if_pos c54] at H
                                                have c54b0 : (t126 == 0) = true := beq_iff_eq.mpr c54
                                                have c54b1 : (t126 != 0) = false := bne_eq_false_iff_eq.mpr c54
                                                clear c54
                                                by_cases c55 : ((rd_T28 l1 x7_3).f1) = 6
                                                · rw [if_pos c55] at H
                                                  have c55b0 : (((rd_T28 l1 x7_3).f1) == 6) = true := beq_iff_eq.mpr c55
                                                  have c55b1 : (((rd_T28 l1 x7_3).f1) != 6) = false := bne_eq_false_iff_eq.mpr c55
                                                  clear c55
                                                  as_aux_lemma =>
                                                    have H' := Aside0.mk H
                                                    clear H
                                                    have hcz56_0 : wc.cell? ⟨gb124, 0, none⟩ = some (.bool ((rd_T28 l1 x7_3).f0)) := (blk_cell BK124.out 0).trans rfl
                                                    have hcz56_1 : wc.cell? ⟨gb124, 1, none⟩ = some (.int .i64 ((rd_T28 l1 x7_3).f1)) := (blk_cell BK124.out 1).trans rfl
                                                    have hfz56_0 := blk_frozen BK124.out 0
                                                    have hfz56_1 := blk_frozen BK124.out 1
                                                    go_wp2
                                                    go_meet
                                                    case rel => exact ⟨_, ((t125 != 6)), (by first | rfl | (simp; done) | (simp [*]; done)), H', ⟨by have := HJ4.out; have := HJ7.out; have := HK3.out; have := HJ12.out; have := HJ19.out; have := HJ36.out; have := HJ41.out; first | omega | exact Nat.le_refl _⟩, ⟨by (with_reducible repeat (first | refine blk_drewN ?_ _ | refine blk_drew ?_ | refine blk_alloc ?_ _)); exact BK124.out⟩, ⟨by repeat (first | (with_reducible first | exact HB.out | apply below_alloc | apply pw_below_drewN | apply below_drew1 | refine below_set ?_ GE124.out) | exact HB.out)⟩⟩
                                                · rw [if_neg c55] at H
                                                  have c55b0 : (((rd_T28 l1 x7_3).f1) == 6) = false := beq_eq_false_iff_ne.mpr c55
                                                  have c55b1 : (((rd_T28 l1 x7_3).f1) != 6) = true := bne_iff_ne.mpr c55
                                                  as_aux_lemma =>
                                                    have H' := Aside0.mk H
                                                    clear H
                                                    have hcz57_0 : wc.cell? ⟨gb124, 0, none⟩ = some (.bool ((rd_T28 l1 x7_3).f0)) := (blk_cell BK124.out 0).trans rfl
                                                    have hcz57_1 : wc.cell? ⟨gb124, 1, none⟩ = some (.int .i64 ((rd_T28 l1 x7_3).f1)) := (blk_cell BK124.out 1).trans rfl
                                                    have hfz57_0 := blk_frozen BK124.out 0
                                                    have hfz57_1 := blk_frozen BK124.out 1
                                                    go_wp2
                                                    go_meet
                                                    case rel => exact ⟨_, (false), (by first | rfl | (simp; done) | (simp [*]; done)), H', ⟨by have := HJ4.out; have := HJ7.out; have := HK3.out; have := HJ12.out; have := HJ19.out; have := HJ36.out; have := HJ41.out; first | omega | exact Nat.le_refl _⟩, ⟨by (with_reducible repeat (first | refine blk_drewN ?_ _ | refine blk_drew ?_ | refine blk_alloc ?_ _)); exact BK124.out⟩, ⟨by repeat (first | (with_reducible first | exact HB.out | apply below_alloc | apply pw_below_drewN | apply below_drew1 | refine below_set ?_ GE124.out) | exact HB.out)⟩⟩
                                              · rw [if_neg c54] at H
                                                have c54b0 : (t126 == 0) = false := beq_eq_false_iff_ne.mpr c54
                                                have c54b1 : (t126 != 0) = true := bne_iff_ne.mpr c54
                                                as_aux_lemma =>
                                                  have H' := Aside0.mk H
                                                  clear H
                                                  go_wp2
                                                  go_meet
                                                  case rel => exact ⟨_, (false), (by first | rfl | (simp; done) | (simp [*]; done)), H', ⟨by have := HJ4.out; have := HJ7.out; have := HK3.out; have := HJ12.out; have := HJ19.out; have := HJ36.out; have := HJ41.out; first | omega | exact Nat.le_refl _⟩, ⟨by (with_reducible repeat (first | refine blk_drewN ?_ _ | refine blk_drew ?_ | refine blk_alloc ?_ _)); exact BK124.out⟩, ⟨by repeat (first | (with_reducible first | exact HB.out | apply below_alloc | apply pw_below_drewN | apply below_drew1 | refine below_set ?_ GE124.out) | exact HB.out)⟩⟩
                                            · rw [if_neg c53] at H
                                              have c53b0 : (t125 == 6) = false := beq_eq_false_iff_ne.mpr c53
                                              have c53b1 : (t125 != 6) = true := bne_iff_ne.mpr c53
                                              (first | rw [c53b0] | (simp only [i64_w, i32_w]; rw [c53b0]) | skip)
                                              as_aux_lemma =>
                                                have H' := Aside0.mk H
                                                clear H
                                                go_wp2
                                                go_meet
                                                case rel => exact ⟨_, (true), (by first | rfl | (simp; done) | (simp [*]; done)), H', ⟨by have := HJ4.out; have := HJ7.out; have := HK3.out; have := HJ12.out; have := HJ19.out; have := HJ36.out; have := HJ41.out; first | omega | exact Nat.le_refl _⟩, ⟨by (with_reducible repeat (first | refine blk_drewN ?_ _ | refine blk_drew ?_ | refine blk_alloc ?_ _)); exact BK124.out⟩, ⟨by repeat (first | (with_reducible first | exact HB.out | apply below_alloc | apply pw_below_drewN | apply below_drew1 | refine below_set ?_ GE124.out) | exact HB.out)⟩⟩
                                          · replace c52 := Bool.eq_false_iff.mpr c52
                                            subst c52
                                            have H1 : (if t126 = 0 then (if ((rd_T28 l1 x7_3).f1) = 6 then (heraldlaw10_StateEnds.j7 kj41 l1 true false x7_3 t125 (t125 != 6)) else (heraldlaw10_StateEnds.j7 kj41 l1 true false x7_3 t125 false)) else (heraldlaw10_StateEnds.j7 kj41 l1 true false x7_3 t125 false)) = some r := by rw [if_neg (show ¬ (false = true) by decide)] at H; exact H
                                            clear H
                                            have H := H1
                                            clear H1
                                            by_cases c58 : t126 = 0
                                            · rw [if_pos c58] at H
                                              have c58b0 : (t126 == 0) = true := beq_iff_eq.mpr c58
                                              have c58b1 : (t126 != 0) = false := bne_eq_false_iff_eq.mpr c58
                                              clear c58
                                              by_cases c59 : ((rd_T28 l1 x7_3).f1) = 6
                                              · rw [if_pos c59] at H
                                                have c59b0 : (((rd_T28 l1 x7_3).f1) == 6) = true := beq_iff_eq.mpr c59
                                                have c59b1 : (((rd_T28 l1 x7_3).f1) != 6) = false := bne_eq_false_iff_eq.mpr c59
                                                clear c59
                                                as_aux_lemma =>
                                                  have H' := Aside0.mk H
                                                  clear H
                                                  have hcz60_0 : wc.cell? ⟨gb124, 0, none⟩ = some (.bool ((rd_T28 l1 x7_3).f0)) := (blk_cell BK124.out 0).trans rfl
                                                  have hcz60_1 : wc.cell? ⟨gb124, 1, none⟩ = some (.int .i64 ((rd_T28 l1 x7_3).f1)) := (blk_cell BK124.out 1).trans rfl
                                                  have hfz60_0 := blk_frozen BK124.out 0
                                                  have hfz60_1 := blk_frozen BK124.out 1
                                                  go_wp2
                                                  go_meet
                                                  case rel => exact ⟨_, ((t125 != 6)), (by first | rfl | (simp; done) | (simp [*]; done)), H', ⟨by have := HJ4.out; have := HJ7.out; have := HK3.out; have := HJ12.out; have := HJ19.out; have := HJ36.out; have := HJ41.out; first | omega | exact Nat.le_refl _⟩, ⟨by (with_reducible repeat (first | refine blk_drewN ?_ _ | refine blk_drew ?_ | refine blk_alloc ?_ _)); exact BK124.out⟩, ⟨by repeat (first | (with_reducible first | exact HB.out | apply below_alloc | apply pw_below_drewN | apply below_drew1 | refine below_set ?_ GE124.out) | exact HB.out)⟩⟩
                                              · rw [if_neg c59] at H
                                                have c59b0 : (((rd_T28 l1 x7_3).f1) == 6) = false := beq_eq_false_iff_ne.mpr c59
                                                have c59b1 : (((rd_T28 l1 x7_3).f1) != 6) = true := bne_iff_ne.mpr c59
                                                as_aux_lemma =>
                                                  have H' := Aside0.mk H
                                                  clear H
                                                  have hcz61_0 : wc.cell? ⟨gb124, 0, none⟩ = some (.bool ((rd_T28 l1 x7_3).f0)) := (blk_cell BK124.out 0).trans rfl
                                                  have hcz61_1 : wc.cell? ⟨gb124, 1, none⟩ = some (.int .i64 ((rd_T28 l1 x7_3).f1)) := (blk_cell BK124.out 1).trans rfl
                                                  have hfz61_0 := blk_frozen BK124.out 0
                                                  have hfz61_1 := blk_frozen BK124.out 1
                                                  go_wp2
                                                  go_meet
                                                  case rel => exact ⟨_, (false), (by first | rfl | (simp; done) | (simp [*]; done)), H', ⟨by have := HJ4.out; have := HJ7.out; have := HK3.out; have := HJ12.out; have := HJ19.out; have := HJ36.out; have := HJ41.out; first | omega | exact Nat.le_refl _⟩, ⟨by (with_reducible repeat (first | refine blk_drewN ?_ _ | refine blk_drew ?_ | refine blk_alloc ?_ _)); exact BK124.out⟩, ⟨by repeat (first | (with_reducible first | exact HB.out | apply below_alloc | apply pw_below_drewN | apply below_drew1 | refine below_set ?_ GE124.out) | exact HB.out)⟩⟩
                                            · rw [if_neg c58] at H
                                              have c58b0 : (t126 == 0) = false := beq_eq_false_iff_ne.mpr c58
                                              have c58b1 : (t126 != 0) = true := bne_iff_ne.mpr c58
                                              as_aux_lemma =>
                                                have H' := Aside0.mk H
                                                clear H
                                                go_wp2
                                                go_meet
                                                case rel => exact ⟨_, (false), (by first | rfl | (simp; done) | (simp [*]; done)), H', ⟨by have := HJ4.out; have := HJ7.out; have := HK3.out; have := HJ12.out; have := HJ19.out; have := HJ36.out; have := HJ41.out; first | omega | exact Nat.le_refl _⟩, ⟨by (with_reducible repeat (first | refine blk_drewN ?_ _ | refine blk_drew ?_ | refine blk_alloc ?_ _)); exact BK124.out⟩, ⟨by repeat (first | (with_reducible first | exact HB.out | apply below_alloc | apply pw_below_drewN | apply below_drew1 | refine below_set ?_ GE124.out) | exact HB.out)⟩⟩
                                        · replace c51 := Bool.eq_false_iff.mpr c51
                                          subst c51
                                          have H1 : (if t126 = 0 then (if ((rd_T28 l1 x7_3).f1) = 6 then (heraldlaw10_StateEnds.j7 kj41 l1 false x6_41 x7_3 t125 (t125 != 6)) else (heraldlaw10_StateEnds.j7 kj41 l1 false x6_41 x7_3 t125 false)) else (heraldlaw10_StateEnds.j7 kj41 l1 false x6_41 x7_3 t125 false)) = some r := by rw [if_neg (show ¬ (false = true) by decide)] at H; exact H
                                          clear H
                                          have H := H1
                                          clear H1
                                          by_cases c62 : t126 = 0
                                          · rw [if_pos c62] at H
                                            have c62b0 : (t126 == 0) = true := beq_iff_eq.mpr c62
                                            have c62b1 : (t126 != 0) = false := bne_eq_false_iff_eq.mpr c62
                                            clear c62
                                            by_cases c63 : ((rd_T28 l1 x7_3).f1) = 6
                                            · rw [if_pos c63] at H
                                              have c63b0 : (((rd_T28 l1 x7_3).f1) == 6) = true := beq_iff_eq.mpr c63
                                              have c63b1 : (((rd_T28 l1 x7_3).f1) != 6) = false := bne_eq_false_iff_eq.mpr c63
                                              clear c63
                                              as_aux_lemma =>
                                                have H' := Aside0.mk H
                                                clear H
                                                have hcz64_0 : wc.cell? ⟨gb124, 0, none⟩ = some (.bool ((rd_T28 l1 x7_3).f0)) := (blk_cell BK124.out 0).trans rfl
                                                have hcz64_1 : wc.cell? ⟨gb124, 1, none⟩ = some (.int .i64 ((rd_T28 l1 x7_3).f1)) := (blk_cell BK124.out 1).trans rfl
                                                have hfz64_0 := blk_frozen BK124.out 0
                                                have hfz64_1 := blk_frozen BK124.out 1
                                                go_wp2
                                                go_meet
                                                case rel => exact ⟨_, ((t125 != 6)), (by first | rfl | (simp; done) | (simp [*]; done)), H', ⟨by have := HJ4.out; have := HJ7.out; have := HK3.out; have := HJ12.out; have := HJ19.out; have := HJ36.out; have := HJ41.out; first | omega | exact Nat.le_refl _⟩, ⟨by (with_reducible repeat (first | refine blk_drewN ?_ _ | refine blk_drew ?_ | refine blk_alloc ?_ _)); exact BK124.out⟩, ⟨by repeat (first | (with_reducible first | exact HB.out | apply below_alloc | apply pw_below_drewN | apply below_drew1 | refine below_set ?_ GE124.out) | exact HB.out)⟩⟩
                                            · rw [if_neg c63] at H
                                              have c63b0 : (((rd_T28 l1 x7_3).f1) == 6) = false := beq_eq_false_iff_ne.mpr c63
                                              have c63b1 : (((rd_T28 l1 x7_3).f1) != 6) = true := bne_iff_ne.mpr c63
                                              as_aux_lemma =>
                                                have H' := Aside0.mk H
                                                clear H
                                                have hcz65_0 : wc.cell? ⟨gb124, 0, none⟩ = some (.bool ((rd_T28 l1 x7_3).f0)) := (blk_cell BK124.out 0).trans rfl
                                                have hcz65_1 : wc.cell? ⟨gb124, 1, none⟩ = some (.int .i64 ((rd_T28 l1 x7_3).f1)) := (blk_cell BK124.out 1).trans rfl
                                                have hfz65_0 := blk_frozen BK124.out 0
                                                have hfz65_1 := blk_frozen BK124.out 1
                                                go_wp2
                                                go_meet
                                                case rel => exact ⟨_, (false), (by first | rfl | (simp; done) | (simp [*]; done)), H', ⟨by have := HJ4.out; have := HJ7.out; have := HK3.out; have := HJ12.out; have := HJ19.out; have := HJ36.out; have := HJ41.out; first | omega | exact Nat.le_refl _⟩, ⟨by (with_reducible repeat (first | refine blk_drewN ?_ _ | refine blk_drew ?_ | refine blk_alloc ?_ _)); exact BK124.out⟩, ⟨by repeat (first | (with_reducible first | exact HB.out | apply below_alloc | apply pw_below_drewN | apply below_drew1 | refine below_set ?_ GE124.out) | exact HB.out)⟩⟩
                                          · rw [if_neg c62] at H
                                            have c62b0 : (t126 == 0) = false := beq_eq_false_iff_ne.mpr c62
                                            have c62b1 : (t126 != 0) = true := bne_iff_ne.mpr c62
                                            as_aux_lemma =>
                                              have H' := Aside0.mk H
                                              clear H
                                              go_wp2
                                              go_meet
                                              case rel => exact ⟨_, (false), (by first | rfl | (simp; done) | (simp [*]; done)), H', ⟨by have := HJ4.out; have := HJ7.out; have := HK3.out; have := HJ12.out; have := HJ19.out; have := HJ36.out; have := HJ41.out; first | omega | exact Nat.le_refl _⟩, ⟨by (with_reducible repeat (first | refine blk_drewN ?_ _ | refine blk_drew ?_ | refine blk_alloc ?_ _)); exact BK124.out⟩, ⟨by repeat (first | (with_reducible first | exact HB.out | apply below_alloc | apply pw_below_drewN | apply below_drew1 | refine below_set ?_ GE124.out) | exact HB.out)⟩⟩
                                      case rest =>
                                        clear HC50
                                        try clear c1
                                        try clear p1
                                        try clear q1
                                        try clear hx1
                                        try clear c2
                                        try clear p2
                                        try clear c3
                                        try clear c4
                                        try clear c5
                                        try clear c6
                                        try clear c7
                                        try clear c7b0
                                        try clear c8
                                        try clear c9
                                        try clear c10
                                        try clear c10b0
                                        try clear c11
                                        try clear c11b0
                                        try clear c12
                                        try clear p12
                                        try clear q12
                                        try clear hx12
                                        try clear c17
                                        try clear c17b0
                                        try clear c21
                                        try clear c22
                                        try clear c22b0
                                        try clear c22b1
                                        try clear c23
                                        try clear c23b0
                                        try clear c24
                                        try clear c26
                                        try clear c26b0
                                        try clear c26b1
                                        try clear c29
                                        try clear c31
                                        try clear c31b0
                                        try clear c31b1
                                        try clear c34
                                        try clear c34b0
                                        try clear c34b1
                                        try clear c35
                                        try clear c35b0
                                        try clear c35b1
                                        try clear c36
                                        try clear c38
                                        try clear c38b0
                                        try clear c38b1
                                        try clear c39
                                        try clear c39b0
                                        try clear c39b1
                                        try clear c43
                                        try clear c44
                                        try clear c45
                                        try clear c47
                                        try clear c51
                                        try clear c52
                                        try clear c53
                                        try clear c53b0
                                        try clear c53b1
                                        try clear c54
                                        try clear c54b0
                                        try clear c54b1
                                        try clear c55
                                        try clear c55b0
                                        try clear c55b1
                                        try clear c58
                                        try clear c58b0
                                        try clear c58b1
                                        try clear c59
                                        try clear c59b0
                                        try clear c59b1
                                        try clear c62
                                        try clear c62b0
                                        try clear c62b1
                                        try clear c63
                                        try clear c63b0
                                        try clear c63b1
                                        try clear hcz15_0
                                        try clear hcz15_1
                                        try clear hcz18_0
                                        try clear hcz18_1
                                        try clear hcz19_0
                                        try clear hcz19_1
                                        try clear hcz25_0
                                        try clear hcz25_1
                                        try clear hcz27_0
                                        try clear hcz27_1
                                        try clear hcz28_0
                                        try clear hcz28_1
                                        try clear hcz30_0
                                        try clear hcz30_1
                                        try clear hcz32_0
                                        try clear hcz32_1
                                        try clear hcz33_0
                                        try clear hcz33_1
                                        try clear hcz40_0
                                        try clear hcz40_1
                                        try clear hcz41_0
                                        try clear hcz41_1
                                        try clear hcz46_0
                                        try clear hcz46_1
                                        try clear hcz48_0
                                        try clear hcz48_1
                                        try clear hcz49_0
                                        try clear hcz49_1
                                        try clear hcz56_0
                                        try clear hcz56_1
                                        try clear hcz57_0
                                        try clear hcz57_1
                                        try clear hcz60_0
                                        try clear hcz60_1
                                        try clear hcz61_0
                                        try clear hcz61_1
                                        try clear hcz64_0
                                        try clear hcz64_1
                                        try clear hcz65_0
                                        try clear hcz65_1
                                        try clear hfz15_0
                                        try clear hfz15_1
                                        try clear hfz18_0
                                        try clear hfz18_1
                                        try clear hfz19_0
                                        try clear hfz19_1
                                        try clear hfz25_0
                                        try clear hfz25_1
                                        try clear hfz27_0
                                        try clear hfz27_1
                                        try clear hfz28_0
                                        try clear hfz28_1
                                        try clear hfz30_0
                                        try clear hfz30_1
                                        try clear hfz32_0
                                        try clear hfz32_1
                                        try clear hfz33_0
                                        try clear hfz33_1
                                        try clear hfz40_0
                                        try clear hfz40_1
                                        try clear hfz41_0
                                        try clear hfz41_1
                                        try clear hfz46_0
                                        try clear hfz46_1
                                        try clear hfz48_0
                                        try clear hfz48_1
                                        try clear hfz49_0
                                        try clear hfz49_1
                                        try clear hfz56_0
                                        try clear hfz56_1
                                        try clear hfz57_0
                                        try clear hfz57_1
                                        try clear hfz60_0
                                        try clear hfz60_1
                                        try clear hfz61_0
                                        try clear hfz61_1
                                        try clear hfz64_0
                                        try clear hfz64_1
                                        try clear hfz65_0
                                        try clear hfz65_1
                                        try clear hx123_0
                                        try clear hx123_1
                                        try clear p1
                                        try clear p12
                                        try clear p123
                                        try clear p2
                                        try clear q1
                                        try clear q12
                                        try clear q123
                                        obtain ⟨kq, x117_49, rfl, HA, HJ49, BK124, HB⟩ := hcut
                                        cases kq with
                                        | zero => exact absurd HA.out (by simp [heraldlaw10_StateEnds.j7])
                                        | succ kj49 =>
                                          have H := HA.out
                                          clear HA
                                          simp only [heraldlaw10_StateEnds.j7] at H
                                          by_cases c66 : x117_49 = true
                                          · subst c66
                                            have H1 : (some false) = some r := by rw [if_pos rfl] at H; exact H
                                            clear H
                                            have H := H1
                                            clear H1
                                            as_aux_lemma =>
                                              obtain rfl := Option.some.inj H
                                              go_wp2
                                              go_ret
                                              exact ⟨by first | rfl | (simp [errW_none, errW_some] <;> rfl) | (simp [*, errW_none, errW_some] <;> rfl), by repeat (first | (with_reducible first | exact HB.out | apply below_alloc | apply pw_below_drewN | apply below_drew1 | refine below_set ?_ GE124.out) | exact HB.out)⟩
                                          · replace c66 := Bool.eq_false_iff.mpr c66
                                            subst c66
                                            have H1 : (heraldlaw10_StateEnds.l0 kj49 t125 l1 x5_41 x6_41 (wrap64 (x7_3 + 1))) = some r := by rw [if_neg (show ¬ (false = true) by decide)] at H; exact H
                                            clear H
                                            have H := H1
                                            clear H1
                                            as_aux_lemma =>
                                              have H' := Aside0.mk H
                                              clear H
                                              go_wp2
                                              go_roundg kj49
                                              case measure => have := HJ4.out; have := HJ7.out; have := HK3.out; have := HJ12.out; have := HJ19.out; have := HJ36.out; have := HJ41.out; have := HJ49.out; omega
                                              case rel => exact ⟨(t125), (x5_41), (x6_41), (wrap64 (x7_3 + 1)), (by first | rfl | (simp; done) | (simp [*]; done)), (by first | rfl | (simp; done) | (simp [*]; done)), (by first | rfl | (simp; done) | (simp [*]; done)), (by first | rfl | (simp; done) | (simp [*]; done)), H', ⟨by have := HJ4.out; have := HJ7.out; have := HK3.out; have := HJ12.out; have := HJ19.out; have := HJ36.out; have := HJ41.out; have := HJ49.out; omega⟩, ⟨by repeat (first | (with_reducible first | exact HB.out | apply below_alloc | apply pw_below_drewN | apply below_drew1 | refine below_set ?_ GE124.out) | exact HB.out)⟩⟩
                  · rw [if_neg c11] at H
                    exact absurd H (by simp)
                · rw [if_neg c10] at H
                  have c10b0 : decide (x7_3 < (l1.length : Int)) = false := decide_eq_false c10
                  clear c10
                  as_aux_lemma =>
                    obtain rfl := Option.some.inj H
                    go_wp2
                    go_ret
                    exact ⟨by first | rfl | (simp [errW_none, errW_some] <;> rfl) | (simp [*, errW_none, errW_some] <;> rfl), by repeat (first | (with_reducible first | exact HB.out | apply below_alloc | apply pw_below_drewN | apply below_drew1) | exact HB.out)⟩
  · replace c4 := Bool.eq_false_iff.mpr c4
    subst c4
    have H1 : (some false) = some r := by rw [if_neg (show ¬ (false = true) by decide)] at H; exact H
    clear H
    have H := H1
    clear H1
    as_aux_lemma =>
      obtain rfl := Option.some.inj H
      go_enter Tryd.func7, Tryd.ntmps7
      go_wp2_with (first | ((with_reducible refine gate_callee (f := 8) rfl ?_); refine goesL_ (some 13) rfl rfl Tryd.func8 (by kernel_rfl) rfl #[] rfl (by (try simp only [List.map_toArray, List.map_cons, List.map_nil]); first | done | rfl | (simp only [List.length_drop, List.length_take]; rfl)) ?_; (with_reducible refine (heraldlaw10_head.calls k  false _ ?side1 A3.out).mono ?_); (case side1 => exact GL.below HG.out (by repeat (first | (with_reducible first | exact HB.out | apply below_alloc | apply pw_below_drewN | apply below_drew1) | exact HB.out))); rintro e w67 ⟨rfl, hb⟩; refine ⟨_, rfl, ?_⟩; have n0_ := Aside0.mk (below_step (by repeat (first | (with_reducible first | exact HB.out | apply below_alloc | apply pw_below_drewN | apply below_drew1) | exact HB.out)) hb); clear HB; have HB := n0_; clear n0_; (try clear hb); (try clear hb2); (try clear hk); (try clear hi)))
      go_ret
      exact ⟨by first | rfl | (simp [errW_none, errW_some] <;> rfl) | (simp [*, errW_none, errW_some] <;> rfl), by repeat (first | (with_reducible first | exact HB.out | apply below_alloc | apply pw_below_drewN | apply below_drew1) | exact HB.out)⟩

end Go.Proofs.YtndhaakknkkpfaaDoor.QEnds
