/- Written by a program of this session (a changed run of the kit's printer): what the Go functions of one call tree answer, as plain functions, and that the machine's calls answer so; no condition but those in each statement. -/
import Derived.Test.YtoffhlbdfhhhjaaDoorQLx0
namespace Go.Proofs.YtoffhlbdfhhhjaaDoor.QL
open Go.RowKit Go.Proofs.YtoffhlbdfhhhjaaDoorW.PrintWords Go.Proofs.YtoffhlbdfhhhjaaDoorW.PrintLast Go.Proofs.YtoffhlbdfhhhjaaDoorW.PrintMore
attribute [local go_sem] max2_int min2_int max_two min_two max_three min_three max_four min_four   -- for this text's walks alone
set_option linter.unusedVariables false
set_option linter.unusedSimpArgs false

/-! ### frame_got: function 56 -/
def frame_got.l0 : Nat → ByteArray → Int → Int → Int → Option (Int)
  | 0, _, _, _, _ => none
  | k + 1, x0, x3, x6, x7 => if x7 < x6 then (if 0 ≤ x7 then (if x7 < (x0.size : Int) then (frame_got.l0 k x0 (Go.bits .or .i64 (wrap64 (x3 * 256)) (wrap64 (bt x0 x7))) x6 (wrap64 (x7 + 1))) else (none)) else (none)) else (some x3)
def frame_got.f (k : Nat) (a0 : ByteArray) : Option (Int) := frame_got.l0 k a0 0 (a0.size : Int) 0
theorem frame_got.mono_l : ∀ k, (∀ y0 y1 y2 y3, LeO (frame_got.l0 k y0 y1 y2 y3) (frame_got.l0 (k + 1) y0 y1 y2 y3))
  | 0 => fun _ _ _ _ r h => by simp [frame_got.l0] at h
  | k + 1 => by
    have ih0 := frame_got.mono_l k
    · intro y0 y1 y2 y3
      unfold frame_got.l0
      repeat' first
      | (with_reducible exact ih0 _ _ _ _)
      | (with_reducible exact LeO.refl _)
      | (with_reducible exact LeO.none _)
      | (with_reducible refine LeO.ite ?_ ?_)
      | (with_reducible refine LeO.bind ?_ (fun _ => ?_))
      | exact ih0 _ _ _ _
      | exact LeO.none _
      | refine LeO.ite ?_ ?_
      | refine LeO.bind ?_ (fun _ => ?_)
theorem frame_got.mono : ∀ a0 k, LeO (frame_got.f k a0) (frame_got.f (k + 1) a0) := by
  intro a0 k
  have ih0 := frame_got.mono_l k
  unfold frame_got.f
  repeat' first
      | (with_reducible exact ih0 _ _ _ _)
      | (with_reducible exact LeO.refl _)
      | (with_reducible exact LeO.none _)
      | (with_reducible refine LeO.ite ?_ ?_)
      | (with_reducible refine LeO.bind ?_ (fun _ => ?_))
      | exact ih0 _ _ _ _
      | exact LeO.none _
      | refine LeO.ite ?_ ?_
      | refine LeO.bind ?_ (fun _ => ?_)
set_option maxHeartbeats 8000000 in
set_option maxRecDepth 100000 in
theorem frame_got.calls (k : Nat) (a0 : ByteArray) (r : Int) (w : World) (h : frame_got.f k a0 = some r) :
    Calls Tryd.prog 56 #[.string a0] w fun e w' => e = .returned (.int .i64 r) ∧ Drawn0 w w' := by
  have H : (frame_got.l0 k a0 0 (a0.size : Int) 0) = some r := h
  clear h
  have H' := Aside0.mk H
  clear H
  go_enter Tryd.func56, Tryd.ntmps56
  go_wp2
  go_loopg [3, 7] k (fun kq v3 v7 w' => ∃ (x3_1 : Int) (x7_1 : Int), v3 = .int .i64 x3_1 ∧ v7 = .int .i64 x7_1 ∧ Aside0 (frame_got.l0 kq a0 x3_1 (a0.size : Int) x7_1 = some r) ∧ Aside0 (kq ≤ k) ∧ Drawn0 w w')
  case atStart => exact ⟨(0), (0), (by first | rfl | (simp; done) | (simp [*]; done)), (by first | rfl | (simp; done) | (simp [*]; done)), H', ⟨Nat.le_refl _⟩, by repeat (first | exact Drawn0.refl _ | apply Drawn0.step)⟩
  case round =>
    clear H'
    obtain ⟨x3_1, x7_1, rfl, rfl, HA, HK1, ⟨m1, rfl⟩⟩ := hrel
    cases gk with
    | zero => exact absurd HA.out (by simp [frame_got.l0])
    | succ k1 =>
      have H := HA.out
      clear HA
      simp only [frame_got.l0] at H
      by_cases c2 : x7_1 < (a0.size : Int)
      · rw [if_pos c2] at H
        have c2b0 : decide (x7_1 < (a0.size : Int)) = true := decide_eq_true c2
        clear c2
        by_cases c3 : 0 ≤ x7_1
        · rw [if_pos c3] at H
          have c3b0 : decide (0 ≤ x7_1) = true := decide_eq_true c3
          clear c3
          by_cases c4 : x7_1 < (a0.size : Int)
          · rw [if_pos c4] at H
            have c4b0 : decide (x7_1 < (a0.size : Int)) = true := decide_eq_true c4
            clear c4
            have H' := Aside0.mk H
            clear H
            have p5 : 0 ≤ (x7_1 : Int) := of_decide_eq_true (by first | (with_reducible assumption) | assumption)
            have q5 : x7_1 < (a0.size : Int) := of_decide_eq_true (by first | (with_reducible assumption) | assumption)
            have hx5 := bt_at a0 x7_1
            replace p5 := eq_true p5
            replace q5 := eq_true q5
            go_wp2
            go_roundg k1
            case measure => have := HK1.out; omega
            case rel => exact ⟨(Go.bits .or .i64 (wrap64 (x3_1 * 256)) (wrap64 (bt a0 x7_1))), (wrap64 (x7_1 + 1)), (by first | rfl | (simp; done) | (simp [*]; done)), (by first | rfl | (simp; done) | (simp [*]; done)), H', ⟨by have := HK1.out; omega⟩, by repeat (first | exact Drawn0.refl _ | apply Drawn0.step)⟩
          · rw [if_neg c4] at H
            exact absurd H (by simp)
        · rw [if_neg c3] at H
          exact absurd H (by simp)
      · rw [if_neg c2] at H
        have c2b0 : decide (x7_1 < (a0.size : Int)) = false := decide_eq_false c2
        clear c2
        obtain rfl := Option.some.inj H
        go_wp2
        go_ret
        exact ⟨by first | rfl | (simp; done) | (simp [*]; done), by repeat (first | exact Drawn0.refl _ | apply Drawn0.step)⟩

/-! ### frame_id: function 57 -/
def frame_id.f (k : Nat) (a0 : ByteArray) : Option (Int) := (frame_got.f k a0).bind fun t101 => (some (Go.bits .and .i64 t101 2147483647))
theorem frame_id.mono : ∀ a0 k, LeO (frame_id.f k a0) (frame_id.f (k + 1) a0) := by
  intro a0 k
  unfold frame_id.f
  repeat' first
      | (with_reducible exact frame_got.mono _ _)
      | (with_reducible exact LeO.refl _)
      | (with_reducible exact LeO.none _)
      | (with_reducible refine LeO.ite ?_ ?_)
      | (with_reducible refine LeO.bind ?_ (fun _ => ?_))
      | exact frame_got.mono _ _
      | exact LeO.none _
      | refine LeO.ite ?_ ?_
      | refine LeO.bind ?_ (fun _ => ?_)
set_option maxHeartbeats 8000000 in
set_option maxRecDepth 100000 in
theorem frame_id.calls (k : Nat) (a0 : ByteArray) (r : Int) (w : World) (h : frame_id.f k a0 = some r) :
    Calls Tryd.prog 57 #[.string a0] w fun e w' => e = .returned (.int .i64 r) ∧ Drawn0 w w' := by
  have H : ((frame_got.f k a0).bind fun t101 => (some (Go.bits .and .i64 t101 2147483647))) = some r := h
  clear h
  replace H := Option.bind_eq_some_iff.mp H
  obtain ⟨t101, A20, H⟩ := H
  replace H : (some (Go.bits .and .i64 t101 2147483647)) = some r := H
  have A2 := Aside0.mk A20
  clear A20
  obtain rfl := Option.some.inj H
  go_enter Tryd.func57, Tryd.ntmps57
  go_wp2_with (first | ((with_reducible refine gate_callee (f := 56) rfl ?_); refine goesL_ (some 4) rfl rfl Tryd.func56 (by kernel_rfl) rfl #[.string a0] rfl (by (try simp only [List.map_toArray, List.map_cons, List.map_nil]); first | done | rfl | (simp only [List.length_drop, List.length_take]; rfl)) ?_; (with_reducible refine (frame_got.calls k a0 t101 _ A2.out).mono ?_); rintro e w' ⟨rfl, ⟨nd, rfl⟩⟩; refine ⟨_, rfl, ?_⟩))
  go_ret
  exact ⟨by first | rfl | (simp; done) | (simp [*]; done), by repeat (first | exact Drawn0.refl _ | apply Drawn0.step)⟩

/-! ### frame_within: function 71 -/
def frame_within.f (a0 : Int) (a1 : Int) (a2 : Int) : Option (Bool) := if a0 ≥ a1 then (some (decide (a0 ≤ a2))) else (some false)
set_option maxHeartbeats 8000000 in
set_option maxRecDepth 100000 in
theorem frame_within.calls (a0 : Int) (a1 : Int) (a2 : Int) (r : Bool) (w : World) (h : frame_within.f a0 a1 a2 = some r) :
    Calls Tryd.prog 71 #[.int .i64 a0, .int .i64 a1, .int .i64 a2] w fun e w' => e = .returned (.bool r) ∧ Drawn0 w w' := by
  have H : (if a0 ≥ a1 then (some (decide (a0 ≤ a2))) else (some false)) = some r := h
  clear h
  by_cases c4 : a0 ≥ a1
  · rw [if_pos c4] at H
    have c4b0 : decide (a1 ≤ a0) = true := decide_eq_true c4
    clear c4
    obtain rfl := Option.some.inj H
    go_enter Tryd.func71, Tryd.ntmps71
    go_wp2
    go_ret
    exact ⟨by first | rfl | (simp; done) | (simp [*]; done), by repeat (first | exact Drawn0.refl _ | apply Drawn0.step)⟩
  · rw [if_neg c4] at H
    have c4b0 : decide (a1 ≤ a0) = false := decide_eq_false c4
    clear c4
    obtain rfl := Option.some.inj H
    go_enter Tryd.func71, Tryd.ntmps71
    go_wp2
    go_ret
    exact ⟨by first | rfl | (simp; done) | (simp [*]; done), by repeat (first | exact Drawn0.refl _ | apply Drawn0.step)⟩

/-! ### heraldref06_get: function 61 -/
def heraldref06_get.l0 : Nat → ByteArray → Int → Int → Option (Int)
  | 0, _, _, _ => none
  | k + 1, x0, x3, x4 => if x4 < (x0.size : Int) then (if 0 ≤ x4 then (heraldref06_get.l0 k x0 (wrap64 ((wrap64 (256 * x3)) + (wrap64 (bt x0 x4)))) (wrap64 (x4 + 1))) else (none)) else (some x3)
def heraldref06_get.f (k : Nat) (a0 : ByteArray) : Option (Int) := heraldref06_get.l0 k a0 0 0
theorem heraldref06_get.mono_l : ∀ k, (∀ y0 y1 y2, LeO (heraldref06_get.l0 k y0 y1 y2) (heraldref06_get.l0 (k + 1) y0 y1 y2))
  | 0 => fun _ _ _ r h => by simp [heraldref06_get.l0] at h
  | k + 1 => by
    have ih0 := heraldref06_get.mono_l k
    · intro y0 y1 y2
      unfold heraldref06_get.l0
      repeat' first
      | (with_reducible exact ih0 _ _ _)
      | (with_reducible exact LeO.refl _)
      | (with_reducible exact LeO.none _)
      | (with_reducible refine LeO.ite ?_ ?_)
      | (with_reducible refine LeO.bind ?_ (fun _ => ?_))
      | exact ih0 _ _ _
      | exact LeO.none _
      | refine LeO.ite ?_ ?_
      | refine LeO.bind ?_ (fun _ => ?_)
theorem heraldref06_get.mono : ∀ a0 k, LeO (heraldref06_get.f k a0) (heraldref06_get.f (k + 1) a0) := by
  intro a0 k
  have ih0 := heraldref06_get.mono_l k
  unfold heraldref06_get.f
  repeat' first
      | (with_reducible exact ih0 _ _ _)
      | (with_reducible exact LeO.refl _)
      | (with_reducible exact LeO.none _)
      | (with_reducible refine LeO.ite ?_ ?_)
      | (with_reducible refine LeO.bind ?_ (fun _ => ?_))
      | exact ih0 _ _ _
      | exact LeO.none _
      | refine LeO.ite ?_ ?_
      | refine LeO.bind ?_ (fun _ => ?_)
set_option maxHeartbeats 8000000 in
set_option maxRecDepth 100000 in
theorem heraldref06_get.calls (k : Nat) (a0 : ByteArray) (r : Int) (w : World) (h : heraldref06_get.f k a0 = some r) :
    Calls Tryd.prog 61 #[.string a0] w fun e w' => e = .returned (.int .i64 r) ∧ Drawn0 w w' := by
  have H : (heraldref06_get.l0 k a0 0 0) = some r := h
  clear h
  have H' := Aside0.mk H
  clear H
  go_enter Tryd.func61, Tryd.ntmps61
  go_wp2
  go_loopg [3, 4] k (fun kq v3 v4 w' => ∃ (x3_1 : Int) (x4_1 : Int), v3 = .int .i64 x3_1 ∧ v4 = .int .i64 x4_1 ∧ Aside0 (heraldref06_get.l0 kq a0 x3_1 x4_1 = some r) ∧ Aside0 (kq ≤ k) ∧ Drawn0 w w')
  case atStart => exact ⟨(0), (0), (by first | rfl | (simp; done) | (simp [*]; done)), (by first | rfl | (simp; done) | (simp [*]; done)), H', ⟨Nat.le_refl _⟩, by repeat (first | exact Drawn0.refl _ | apply Drawn0.step)⟩
  case round =>
    clear H'
    obtain ⟨x3_1, x4_1, rfl, rfl, HA, HK1, ⟨m1, rfl⟩⟩ := hrel
    cases gk with
    | zero => exact absurd HA.out (by simp [heraldref06_get.l0])
    | succ k1 =>
      have H := HA.out
      clear HA
      simp only [heraldref06_get.l0] at H
      by_cases c2 : x4_1 < (a0.size : Int)
      · rw [if_pos c2] at H
        have c2b0 : decide (x4_1 < (a0.size : Int)) = true := decide_eq_true c2
        clear c2
        by_cases c3 : 0 ≤ x4_1
        · rw [if_pos c3] at H
          have c3b0 : decide (0 ≤ x4_1) = true := decide_eq_true c3
          clear c3
          have H' := Aside0.mk H
          clear H
          have p4 : 0 ≤ (x4_1 : Int) := of_decide_eq_true (by first | (with_reducible assumption) | assumption)
          have q4 : x4_1 < (a0.size : Int) := of_decide_eq_true (by first | (with_reducible assumption) | assumption)
          have hx4 := bt_at a0 x4_1
          replace p4 := eq_true p4
          replace q4 := eq_true q4
          go_wp2
          go_roundg k1
          case measure => have := HK1.out; omega
          case rel => exact ⟨(wrap64 ((wrap64 (256 * x3_1)) + (wrap64 (bt a0 x4_1)))), (wrap64 (x4_1 + 1)), (by first | rfl | (simp; done) | (simp [*]; done)), (by first | rfl | (simp; done) | (simp [*]; done)), H', ⟨by have := HK1.out; omega⟩, by repeat (first | exact Drawn0.refl _ | apply Drawn0.step)⟩
        · rw [if_neg c3] at H
          exact absurd H (by simp)
      · rw [if_neg c2] at H
        have c2b0 : decide (x4_1 < (a0.size : Int)) = false := decide_eq_false c2
        clear c2
        obtain rfl := Option.some.inj H
        go_wp2
        go_ret
        exact ⟨by first | rfl | (simp; done) | (simp [*]; done), by repeat (first | exact Drawn0.refl _ | apply Drawn0.step)⟩

/-! ### heraldref06_id: function 62 -/
def heraldref06_id.f (k : Nat) (a0 : ByteArray) : Option (Int) := (heraldref06_get.f k a0).bind fun t102 => (some (Int.tmod t102 2147483648))
theorem heraldref06_id.mono : ∀ a0 k, LeO (heraldref06_id.f k a0) (heraldref06_id.f (k + 1) a0) := by
  intro a0 k
  unfold heraldref06_id.f
  repeat' first
      | (with_reducible exact heraldref06_get.mono _ _)
      | (with_reducible exact LeO.refl _)
      | (with_reducible exact LeO.none _)
      | (with_reducible refine LeO.ite ?_ ?_)
      | (with_reducible refine LeO.bind ?_ (fun _ => ?_))
      | exact heraldref06_get.mono _ _
      | exact LeO.none _
      | refine LeO.ite ?_ ?_
      | refine LeO.bind ?_ (fun _ => ?_)
set_option maxHeartbeats 8000000 in
set_option maxRecDepth 100000 in
theorem heraldref06_id.calls (k : Nat) (a0 : ByteArray) (r : Int) (w : World) (h : heraldref06_id.f k a0 = some r) :
    Calls Tryd.prog 62 #[.string a0] w fun e w' => e = .returned (.int .i64 r) ∧ Drawn0 w w' := by
  have H : ((heraldref06_get.f k a0).bind fun t102 => (some (Int.tmod t102 2147483648))) = some r := h
  clear h
  replace H := Option.bind_eq_some_iff.mp H
  obtain ⟨t102, A20, H⟩ := H
  replace H : (some (Int.tmod t102 2147483648)) = some r := H
  have A2 := Aside0.mk A20
  clear A20
  obtain rfl := Option.some.inj H
  go_enter Tryd.func62, Tryd.ntmps62
  go_wp2_with (first | ((with_reducible refine gate_callee (f := 61) rfl ?_); refine goesL_ (some 4) rfl rfl Tryd.func61 (by kernel_rfl) rfl #[.string a0] rfl (by (try simp only [List.map_toArray, List.map_cons, List.map_nil]); first | done | rfl | (simp only [List.length_drop, List.length_take]; rfl)) ?_; (with_reducible refine (heraldref06_get.calls k a0 t102 _ A2.out).mono ?_); rintro e w' ⟨rfl, ⟨nd, rfl⟩⟩; refine ⟨_, rfl, ?_⟩))
  go_ret
  exact ⟨by first | rfl | (simp; done) | (simp [*]; done), by repeat (first | exact Drawn0.refl _ | apply Drawn0.step)⟩

/-! ### heraldref06_within: function 94 -/
def heraldref06_within.f (a0 : Int) (a1 : Int) : Option (Bool) := if a0 ≥ 0 then (some (decide (a0 ≤ a1))) else (some false)
set_option maxHeartbeats 8000000 in
set_option maxRecDepth 100000 in
theorem heraldref06_within.calls (a0 : Int) (a1 : Int) (r : Bool) (w : World) (h : heraldref06_within.f a0 a1 = some r) :
    Calls Tryd.prog 94 #[.int .i64 a0, .int .i64 a1] w fun e w' => e = .returned (.bool r) ∧ Drawn0 w w' := by
  have H : (if a0 ≥ 0 then (some (decide (a0 ≤ a1))) else (some false)) = some r := h
  clear h
  by_cases c3 : a0 ≥ 0
  · rw [if_pos c3] at H
    have c3b0 : decide (0 ≤ a0) = true := decide_eq_true c3
    clear c3
    obtain rfl := Option.some.inj H
    go_enter Tryd.func94, Tryd.ntmps94
    go_wp2
    go_ret
    exact ⟨by first | rfl | (simp; done) | (simp [*]; done), by repeat (first | exact Drawn0.refl _ | apply Drawn0.step)⟩
  · rw [if_neg c3] at H
    have c3b0 : decide (0 ≤ a0) = false := decide_eq_false c3
    clear c3
    obtain rfl := Option.some.inj H
    go_enter Tryd.func94, Tryd.ntmps94
    go_wp2
    go_ret
    exact ⟨by first | rfl | (simp; done) | (simp [*]; done), by repeat (first | exact Drawn0.refl _ | apply Drawn0.step)⟩

/-! ### heraldref06_has: function 101 -/
def heraldref06_has.f (a0 : Int) (a1 : Int) : Option (Bool) := if a1 = 0 then (none) else (some ((Int.tmod (wrap64 (Int.tdiv a0 a1)) 2) == 1))
set_option maxHeartbeats 8000000 in
set_option maxRecDepth 100000 in
theorem heraldref06_has.calls (a0 : Int) (a1 : Int) (r : Bool) (w : World) (h : heraldref06_has.f a0 a1 = some r) :
    Calls Tryd.prog 101 #[.int .i64 a0, .int .i64 a1] w fun e w' => e = .returned (.bool r) ∧ Drawn0 w w' := by
  have H : (if a1 = 0 then (none) else (some ((Int.tmod (wrap64 (Int.tdiv a0 a1)) 2) == 1))) = some r := h
  clear h
  by_cases c3 : a1 = 0
  · rw [if_pos c3] at H
    exact absurd H (by simp)
  · rw [if_neg c3] at H
    have c3b0 : (a1 == 0) = false := beq_eq_false_iff_ne.mpr c3
    have c3b1 : (a1 != 0) = true := bne_iff_ne.mpr c3
    obtain rfl := Option.some.inj H
    go_enter Tryd.func101, Tryd.ntmps101
    go_wp2
    go_ret
    exact ⟨by first | rfl | (simp; done) | (simp [*]; done), by repeat (first | exact Drawn0.refl _ | apply Drawn0.step)⟩

/-! ### heraldref06_mayPad: function 95 -/
def heraldref06_mayPad.f (a0 : Int) (a1 : Int) : Option (Bool) := if a0 = 0 then ((heraldref06_has.f a1 8).bind fun t103 => (some t103)) else (if a0 = 1 then ((heraldref06_has.f a1 8).bind fun t104 => (some t104)) else (if a0 = 5 then ((heraldref06_has.f a1 8).bind fun t105 => (some t105)) else (some false)))
set_option maxHeartbeats 8000000 in
set_option maxRecDepth 100000 in
theorem heraldref06_mayPad.calls (a0 : Int) (a1 : Int) (r : Bool) (w : World) (h : heraldref06_mayPad.f a0 a1 = some r) :
    Calls Tryd.prog 95 #[.int .i64 a0, .int .i64 a1] w fun e w' => e = .returned (.bool r) ∧ Drawn0 w w' := by
  have H : (if a0 = 0 then ((heraldref06_has.f a1 8).bind fun t103 => (some t103)) else (if a0 = 1 then ((heraldref06_has.f a1 8).bind fun t104 => (some t104)) else (if a0 = 5 then ((heraldref06_has.f a1 8).bind fun t105 => (some t105)) else (some false)))) = some r := h
  clear h
  by_cases c3 : a0 = 0
  · rw [if_pos c3] at H
    have c3b0 : (a0 == 0) = true := beq_iff_eq.mpr c3
    have c3b1 : (a0 != 0) = false := bne_eq_false_iff_eq.mpr c3
    clear c3
    replace H := Option.bind_eq_some_iff.mp H
    obtain ⟨t103, A40, H⟩ := H
    replace H : (some t103) = some r := H
    have A4 := Aside0.mk A40
    clear A40
    obtain rfl := Option.some.inj H
    go_enter Tryd.func95, Tryd.ntmps95
    go_wp2_with (first | (go_at_call 101; (with_reducible refine (heraldref06_has.calls a1 8 t103 _ A4.out).mono ?_); rintro e w' ⟨rfl, ⟨nd, rfl⟩⟩))
    go_ret
    exact ⟨by first | rfl | (simp; done) | (simp [*]; done), by repeat (first | exact Drawn0.refl _ | apply Drawn0.step)⟩
  · rw [if_neg c3] at H
    have c3b0 : (a0 == 0) = false := beq_eq_false_iff_ne.mpr c3
    have c3b1 : (a0 != 0) = true := bne_iff_ne.mpr c3
    by_cases c5 : a0 = 1
    · rw [if_pos c5] at H
      have c5b0 : (a0 == 1) = true := beq_iff_eq.mpr c5
      have c5b1 : (a0 != 1) = false := bne_eq_false_iff_eq.mpr c5
      clear c5
      replace H := Option.bind_eq_some_iff.mp H
      obtain ⟨t104, A60, H⟩ := H
      replace H : (some t104) = some r := H
      have A6 := Aside0.mk A60
      clear A60
      obtain rfl := Option.some.inj H
      go_enter Tryd.func95, Tryd.ntmps95
      go_wp2_with (first | (go_at_call 101; (with_reducible refine (heraldref06_has.calls a1 8 t104 _ A6.out).mono ?_); rintro e w' ⟨rfl, ⟨nd, rfl⟩⟩))
      go_ret
      exact ⟨by first | rfl | (simp; done) | (simp [*]; done), by repeat (first | exact Drawn0.refl _ | apply Drawn0.step)⟩
    · rw [if_neg c5] at H
      have c5b0 : (a0 == 1) = false := beq_eq_false_iff_ne.mpr c5
      have c5b1 : (a0 != 1) = true := bne_iff_ne.mpr c5
      by_cases c7 : a0 = 5
      · rw [if_pos c7] at H
        have c7b0 : (a0 == 5) = true := beq_iff_eq.mpr c7
        have c7b1 : (a0 != 5) = false := bne_eq_false_iff_eq.mpr c7
        clear c7
        replace H := Option.bind_eq_some_iff.mp H
        obtain ⟨t105, A80, H⟩ := H
        replace H : (some t105) = some r := H
        have A8 := Aside0.mk A80
        clear A80
        obtain rfl := Option.some.inj H
        go_enter Tryd.func95, Tryd.ntmps95
        go_wp2_with (first | (go_at_call 101; (with_reducible refine (heraldref06_has.calls a1 8 t105 _ A8.out).mono ?_); rintro e w' ⟨rfl, ⟨nd, rfl⟩⟩))
        go_ret
        exact ⟨by first | rfl | (simp; done) | (simp [*]; done), by repeat (first | exact Drawn0.refl _ | apply Drawn0.step)⟩
      · rw [if_neg c7] at H
        have c7b0 : (a0 == 5) = false := beq_eq_false_iff_ne.mpr c7
        have c7b1 : (a0 != 5) = true := bne_iff_ne.mpr c7
        obtain rfl := Option.some.inj H
        go_enter Tryd.func95, Tryd.ntmps95
        go_wp2
        go_ret
        exact ⟨by first | rfl | (simp; done) | (simp [*]; done), by repeat (first | exact Drawn0.refl _ | apply Drawn0.step)⟩

/-! ### heraldref06_streamRight: function 64 -/
def heraldref06_streamRight.j0 : Nat → Int → Int → Bool → Option (Bool)
  | 0, _, _, _ => none
  | k + 1, x1, x5, x6 => if x6 = true then (some (x1 == 0)) else (if x5 = 0 then (some (x1 != 0)) else (if x5 = 1 then (some (x1 != 0)) else (if x5 = 2 then (some (x1 != 0)) else (if x5 = 3 then (some (x1 != 0)) else (if x5 = 5 then (some (x1 != 0)) else (if x5 = 9 then (some (x1 != 0)) else (some true)))))))
def heraldref06_streamRight.f (k : Nat) (a0 : Int) (a1 : Int) : Option (Bool) := if a0 = 4 then (heraldref06_streamRight.j0 k a1 a0 (a0 == 4)) else (if a0 = 6 then (heraldref06_streamRight.j0 k a1 a0 (a0 == 6)) else (heraldref06_streamRight.j0 k a1 a0 (a0 == 7)))
theorem heraldref06_streamRight.mono_l : ∀ k, (∀ y0 y1 y2, LeO (heraldref06_streamRight.j0 k y0 y1 y2) (heraldref06_streamRight.j0 (k + 1) y0 y1 y2))
  | 0 => fun _ _ _ r h => by simp [heraldref06_streamRight.j0] at h
  | k + 1 => by
    have ih0 := heraldref06_streamRight.mono_l k
    · intro y0 y1 y2
      unfold heraldref06_streamRight.j0
      repeat' first
      | (with_reducible exact ih0 _ _ _)
      | (with_reducible exact LeO.refl _)
      | (with_reducible exact LeO.none _)
      | (with_reducible refine LeO.ite ?_ ?_)
      | (with_reducible refine LeO.bind ?_ (fun _ => ?_))
      | exact ih0 _ _ _
      | exact LeO.none _
      | refine LeO.ite ?_ ?_
      | refine LeO.bind ?_ (fun _ => ?_)
theorem heraldref06_streamRight.mono : ∀ a0 a1 k, LeO (heraldref06_streamRight.f k a0 a1) (heraldref06_streamRight.f (k + 1) a0 a1) := by
  intro a0 a1 k
  have ih0 := heraldref06_streamRight.mono_l k
  unfold heraldref06_streamRight.f
  repeat' first
      | (with_reducible exact ih0 _ _ _)
      | (with_reducible exact LeO.refl _)
      | (with_reducible exact LeO.none _)
      | (with_reducible refine LeO.ite ?_ ?_)
      | (with_reducible refine LeO.bind ?_ (fun _ => ?_))
      | exact ih0 _ _ _
      | exact LeO.none _
      | refine LeO.ite ?_ ?_
      | refine LeO.bind ?_ (fun _ => ?_)
set_option maxHeartbeats 8000000 in
set_option maxRecDepth 100000 in
theorem heraldref06_streamRight.calls (k : Nat) (a0 : Int) (a1 : Int) (r : Bool) (w : World) (h : heraldref06_streamRight.f k a0 a1 = some r) :
    Calls Tryd.prog 64 #[.int .i64 a0, .int .i64 a1] w fun e w' => e = .returned (.bool r) ∧ Drawn0 w w' := by
  have H : (if a0 = 4 then (heraldref06_streamRight.j0 k a1 a0 (a0 == 4)) else (if a0 = 6 then (heraldref06_streamRight.j0 k a1 a0 (a0 == 6)) else (heraldref06_streamRight.j0 k a1 a0 (a0 == 7)))) = some r := h
  clear h
  have HC3 := Aside0.mk H
  clear H
  go_enter Tryd.func64, Tryd.ntmps64
  go_upto_if 6 with (fail)
  go_cut [6] (fun v6 wc => ∃ (kq : Nat) (x6_2 : Bool), v6 = .bool x6_2 ∧ Aside0 (heraldref06_streamRight.j0 kq a1 a0 x6_2 = some r) ∧ Aside0 (kq ≤ k) ∧ Drawn0 w wc)
  case first =>
    have H := HC3.out
    clear HC3
    by_cases c4 : a0 = 4
    · rw [if_pos c4] at H
      have c4b0 : (a0 == 4) = true := beq_iff_eq.mpr c4
      have c4b1 : (a0 != 4) = false := bne_eq_false_iff_eq.mpr c4
      clear c4
      (first | rw [c4b0] | (simp only [i64_w, i32_w]; rw [c4b0]) | skip)
      have H' := Aside0.mk H
      clear H
      go_wp2
      go_meet
      case rel => exact ⟨_, ((a0 == 4)), (by first | rfl | (simp; done) | (simp [*]; done)), H', ⟨by first | omega | exact Nat.le_refl _⟩, by repeat (first | exact Drawn0.refl _ | apply Drawn0.step)⟩
    · rw [if_neg c4] at H
      have c4b0 : (a0 == 4) = false := beq_eq_false_iff_ne.mpr c4
      have c4b1 : (a0 != 4) = true := bne_iff_ne.mpr c4
      (first | rw [c4b0] | (simp only [i64_w, i32_w]; rw [c4b0]) | skip)
      by_cases c5 : a0 = 6
      · rw [if_pos c5] at H
        have c5b0 : (a0 == 6) = true := beq_iff_eq.mpr c5
        have c5b1 : (a0 != 6) = false := bne_eq_false_iff_eq.mpr c5
        clear c5
        have H' := Aside0.mk H
        clear H
        go_wp2
        go_meet
        case rel => exact ⟨_, ((a0 == 6)), (by first | rfl | (simp; done) | (simp [*]; done)), H', ⟨by first | omega | exact Nat.le_refl _⟩, by repeat (first | exact Drawn0.refl _ | apply Drawn0.step)⟩
      · rw [if_neg c5] at H
        have c5b0 : (a0 == 6) = false := beq_eq_false_iff_ne.mpr c5
        have c5b1 : (a0 != 6) = true := bne_iff_ne.mpr c5
        have H' := Aside0.mk H
        clear H
        go_wp2
        go_meet
        case rel => exact ⟨_, ((a0 == 7)), (by first | rfl | (simp; done) | (simp [*]; done)), H', ⟨by first | omega | exact Nat.le_refl _⟩, by repeat (first | exact Drawn0.refl _ | apply Drawn0.step)⟩
  case rest =>
    clear HC3
    try clear p2
    try clear c4
    try clear c4b0
    try clear c4b1
    try clear c5
    try clear c5b0
    try clear c5b1
    obtain ⟨kq, x6_2, rfl, HA, HJ2, ⟨mc2, rfl⟩⟩ := hcut
    cases kq with
    | zero => exact absurd HA.out (by simp [heraldref06_streamRight.j0])
    | succ kj2 =>
      have H := HA.out
      clear HA
      simp only [heraldref06_streamRight.j0] at H
      by_cases c6 : x6_2 = true
      · subst c6
        have H1 : (some (a1 == 0)) = some r := by rw [if_pos rfl] at H; exact H
        clear H
        have H := H1
        clear H1
        obtain rfl := Option.some.inj H
        go_wp2
        go_ret
        exact ⟨by first | rfl | (simp; done) | (simp [*]; done), by repeat (first | exact Drawn0.refl _ | apply Drawn0.step)⟩
      · replace c6 := Bool.eq_false_iff.mpr c6
        subst c6
        have H1 : (if a0 = 0 then (some (a1 != 0)) else (if a0 = 1 then (some (a1 != 0)) else (if a0 = 2 then (some (a1 != 0)) else (if a0 = 3 then (some (a1 != 0)) else (if a0 = 5 then (some (a1 != 0)) else (if a0 = 9 then (some (a1 != 0)) else (some true))))))) = some r := by rw [if_neg (show ¬ (false = true) by decide)] at H; exact H
        clear H
        have H := H1
        clear H1
        by_cases c7 : a0 = 0
        · rw [if_pos c7] at H
          have c7b0 : (a0 == 0) = true := beq_iff_eq.mpr c7
          have c7b1 : (a0 != 0) = false := bne_eq_false_iff_eq.mpr c7
          clear c7
          obtain rfl := Option.some.inj H
          go_wp2
          go_ret
          exact ⟨by first | rfl | (simp; done) | (simp [*]; done), by repeat (first | exact Drawn0.refl _ | apply Drawn0.step)⟩
        · rw [if_neg c7] at H
          have c7b0 : (a0 == 0) = false := beq_eq_false_iff_ne.mpr c7
          have c7b1 : (a0 != 0) = true := bne_iff_ne.mpr c7
          by_cases c8 : a0 = 1
          · rw [if_pos c8] at H
            have c8b0 : (a0 == 1) = true := beq_iff_eq.mpr c8
            have c8b1 : (a0 != 1) = false := bne_eq_false_iff_eq.mpr c8
            clear c8
            obtain rfl := Option.some.inj H
            go_wp2
            go_ret
            exact ⟨by first | rfl | (simp; done) | (simp [*]; done), by repeat (first | exact Drawn0.refl _ | apply Drawn0.step)⟩
          · rw [if_neg c8] at H
            have c8b0 : (a0 == 1) = false := beq_eq_false_iff_ne.mpr c8
            have c8b1 : (a0 != 1) = true := bne_iff_ne.mpr c8
            by_cases c9 : a0 = 2
            · rw [if_pos c9] at H
              have c9b0 : (a0 == 2) = true := beq_iff_eq.mpr c9
              have c9b1 : (a0 != 2) = false := bne_eq_false_iff_eq.mpr c9
              clear c9
              obtain rfl := Option.some.inj H
              go_wp2
              go_ret
              exact ⟨by first | rfl | (simp; done) | (simp [*]; done), by repeat (first | exact Drawn0.refl _ | apply Drawn0.step)⟩
            · rw [if_neg c9] at H
              have c9b0 : (a0 == 2) = false := beq_eq_false_iff_ne.mpr c9
              have c9b1 : (a0 != 2) = true := bne_iff_ne.mpr c9
              by_cases c10 : a0 = 3
              · rw [if_pos c10] at H
                have c10b0 : (a0 == 3) = true := beq_iff_eq.mpr c10
                have c10b1 : (a0 != 3) = false := bne_eq_false_iff_eq.mpr c10
                clear c10
                obtain rfl := Option.some.inj H
                go_wp2
                go_ret
                exact ⟨by first | rfl | (simp; done) | (simp [*]; done), by repeat (first | exact Drawn0.refl _ | apply Drawn0.step)⟩
              · rw [if_neg c10] at H
                have c10b0 : (a0 == 3) = false := beq_eq_false_iff_ne.mpr c10
                have c10b1 : (a0 != 3) = true := bne_iff_ne.mpr c10
                by_cases c11 : a0 = 5
                · rw [if_pos c11] at H
                  have c11b0 : (a0 == 5) = true := beq_iff_eq.mpr c11
                  have c11b1 : (a0 != 5) = false := bne_eq_false_iff_eq.mpr c11
                  clear c11
                  obtain rfl := Option.some.inj H
                  go_wp2
                  go_ret
                  exact ⟨by first | rfl | (simp; done) | (simp [*]; done), by repeat (first | exact Drawn0.refl _ | apply Drawn0.step)⟩
                · rw [if_neg c11] at H
                  have c11b0 : (a0 == 5) = false := beq_eq_false_iff_ne.mpr c11
                  have c11b1 : (a0 != 5) = true := bne_iff_ne.mpr c11
                  by_cases c12 : a0 = 9
                  · rw [if_pos c12] at H
                    have c12b0 : (a0 == 9) = true := beq_iff_eq.mpr c12
                    have c12b1 : (a0 != 9) = false := bne_eq_false_iff_eq.mpr c12
                    clear c12
                    obtain rfl := Option.some.inj H
                    go_wp2
                    go_ret
                    exact ⟨by first | rfl | (simp; done) | (simp [*]; done), by repeat (first | exact Drawn0.refl _ | apply Drawn0.step)⟩
                  · rw [if_neg c12] at H
                    have c12b0 : (a0 == 9) = false := beq_eq_false_iff_ne.mpr c12
                    have c12b1 : (a0 != 9) = true := bne_iff_ne.mpr c12
                    obtain rfl := Option.some.inj H
                    go_wp2
                    go_ret
                    exact ⟨by first | rfl | (simp; done) | (simp [*]; done), by repeat (first | exact Drawn0.refl _ | apply Drawn0.step)⟩

/-! ### heraldref06_ahead: function 100 -/
mutual
def heraldref06_ahead.j0 : Nat → Int → Int → Int → Option (Int)
  | 0, _, _, _ => none
  | k + 1, x0, x1, x5 => if x0 = 1 then ((heraldref06_has.f x1 32).bind fun t107 => (heraldref06_ahead.j1 k x0 x5 t107)) else (heraldref06_ahead.j1 k x0 x5 false)
def heraldref06_ahead.j1 : Nat → Int → Int → Bool → Option (Int)
  | 0, _, _, _ => none
  | k + 1, x0, x5, x9 => if x9 = true then (some (wrap64 (x5 + 5))) else (if x0 = 5 then (some (wrap64 (x5 + 4))) else (some x5))
end
def heraldref06_ahead.f (k : Nat) (a0 : Int) (a1 : Int) : Option (Int) := (heraldref06_mayPad.f a0 a1).bind fun t106 => (if t106 = true then (heraldref06_ahead.j0 k a0 a1 1) else (heraldref06_ahead.j0 k a0 a1 0))
theorem heraldref06_ahead.mono_l : ∀ k, (∀ y0 y1 y2, LeO (heraldref06_ahead.j0 k y0 y1 y2) (heraldref06_ahead.j0 (k + 1) y0 y1 y2)) ∧ (∀ y0 y1 y2, LeO (heraldref06_ahead.j1 k y0 y1 y2) (heraldref06_ahead.j1 (k + 1) y0 y1 y2))
  | 0 => ⟨fun _ _ _ r h => by simp [heraldref06_ahead.j0] at h, fun _ _ _ r h => by simp [heraldref06_ahead.j1] at h⟩
  | k + 1 => by
    obtain ⟨ih0, ih1⟩ := heraldref06_ahead.mono_l k
    refine ⟨?_, ?_⟩
    · intro y0 y1 y2
      unfold heraldref06_ahead.j0
      repeat' first
      | (with_reducible exact ih0 _ _ _)
      | (with_reducible exact ih1 _ _ _)
      | (with_reducible exact LeO.refl _)
      | (with_reducible exact LeO.none _)
      | (with_reducible refine LeO.ite ?_ ?_)
      | (with_reducible refine LeO.bind ?_ (fun _ => ?_))
      | exact ih0 _ _ _
      | exact ih1 _ _ _
      | exact LeO.none _
      | refine LeO.ite ?_ ?_
      | refine LeO.bind ?_ (fun _ => ?_)
    · intro y0 y1 y2
      unfold heraldref06_ahead.j1
      repeat' first
      | (with_reducible exact ih0 _ _ _)
      | (with_reducible exact ih1 _ _ _)
      | (with_reducible exact LeO.refl _)
      | (with_reducible exact LeO.none _)
      | (with_reducible refine LeO.ite ?_ ?_)
      | (with_reducible refine LeO.bind ?_ (fun _ => ?_))
      | exact ih0 _ _ _
      | exact ih1 _ _ _
      | exact LeO.none _
      | refine LeO.ite ?_ ?_
      | refine LeO.bind ?_ (fun _ => ?_)
theorem heraldref06_ahead.mono : ∀ a0 a1 k, LeO (heraldref06_ahead.f k a0 a1) (heraldref06_ahead.f (k + 1) a0 a1) := by
  intro a0 a1 k
  obtain ⟨ih0, ih1⟩ := heraldref06_ahead.mono_l k
  unfold heraldref06_ahead.f
  repeat' first
      | (with_reducible exact ih0 _ _ _)
      | (with_reducible exact ih1 _ _ _)
      | (with_reducible exact LeO.refl _)
      | (with_reducible exact LeO.none _)
      | (with_reducible refine LeO.ite ?_ ?_)
      | (with_reducible refine LeO.bind ?_ (fun _ => ?_))
      | exact ih0 _ _ _
      | exact ih1 _ _ _
      | exact LeO.none _
      | refine LeO.ite ?_ ?_
      | refine LeO.bind ?_ (fun _ => ?_)
set_option maxHeartbeats 8000000 in
set_option maxRecDepth 100000 in
theorem heraldref06_ahead.calls (k : Nat) (a0 : Int) (a1 : Int) (r : Int) (w : World) (h : heraldref06_ahead.f k a0 a1 = some r) :
    Calls Tryd.prog 100 #[.int .i64 a0, .int .i64 a1] w fun e w' => e = .returned (.int .i64 r) ∧ Drawn0 w w' := by
  have H : ((heraldref06_mayPad.f a0 a1).bind fun t106 => (if t106 = true then (heraldref06_ahead.j0 k a0 a1 1) else (heraldref06_ahead.j0 k a0 a1 0))) = some r := h
  clear h
  replace H := Option.bind_eq_some_iff.mp H
  obtain ⟨t106, A30, H⟩ := H
  replace H : (if t106 = true then (heraldref06_ahead.j0 k a0 a1 1) else (heraldref06_ahead.j0 k a0 a1 0)) = some r := H
  have A3 := Aside0.mk A30
  clear A30
  have HC4 := Aside0.mk H
  clear H
  go_enter Tryd.func100, Tryd.ntmps100
  go_upto_if 8 with (first | ((with_reducible refine gate_callee (f := 95) rfl ?_); refine goesL_ (some 8) rfl rfl Tryd.func95 (by kernel_rfl) rfl #[.int .i64 a0, .int .i64 a1] rfl (by (try simp only [List.map_toArray, List.map_cons, List.map_nil]); first | done | rfl | (simp only [List.length_drop, List.length_take]; rfl)) ?_; (with_reducible refine (heraldref06_mayPad.calls a0 a1 t106 _ A3.out).mono ?_); rintro e w' ⟨rfl, ⟨nd, rfl⟩⟩; refine ⟨_, rfl, ?_⟩))
  (try simp only [Act.put, List.setIfInBounds_toArray, List.set_cons_zero, List.set_cons_succ])
  go_cut [5] (fun v5 wc => ∃ (kq : Nat) (x5_3 : Int), v5 = .int .i64 x5_3 ∧ Aside0 (heraldref06_ahead.j0 kq a0 a1 x5_3 = some r) ∧ Aside0 (kq ≤ k) ∧ Drawn0 w wc)
  case first =>
    have H := HC4.out
    clear HC4
    by_cases c5 : t106 = true
    · subst c5
      have H1 : (heraldref06_ahead.j0 k a0 a1 1) = some r := by rw [if_pos rfl] at H; exact H
      clear H
      have H := H1
      clear H1
      have H' := Aside0.mk H
      clear H
      go_wp2
      go_meet
      case rel => exact ⟨_, (1), (by first | rfl | (simp; done) | (simp [*]; done)), H', ⟨by first | omega | exact Nat.le_refl _⟩, by repeat (first | exact Drawn0.refl _ | apply Drawn0.step)⟩
    · replace c5 := Bool.eq_false_iff.mpr c5
      subst c5
      have H1 : (heraldref06_ahead.j0 k a0 a1 0) = some r := by rw [if_neg (show ¬ (false = true) by decide)] at H; exact H
      clear H
      have H := H1
      clear H1
      have H' := Aside0.mk H
      clear H
      go_wp2
      go_meet
      case rel => exact ⟨_, (0), (by first | rfl | (simp; done) | (simp [*]; done)), H', ⟨by first | omega | exact Nat.le_refl _⟩, by repeat (first | exact Drawn0.refl _ | apply Drawn0.step)⟩
  case rest =>
    clear HC4
    try clear c1
    try clear p2
    try clear c5
    obtain ⟨kq, x5_3, rfl, HA, HJ3, ⟨mc3, rfl⟩⟩ := hcut
    cases kq with
    | zero => exact absurd HA.out (by simp [heraldref06_ahead.j0])
    | succ kj3 =>
      have H := HA.out
      clear HA
      simp only [heraldref06_ahead.j0] at H
      have HC6 := Aside0.mk H
      clear H
      go_upto_region 4 with (fail)
      go_cut [9] (fun v9 wc => ∃ (kq : Nat) (x9_5 : Bool), v9 = .bool x9_5 ∧ Aside0 (heraldref06_ahead.j1 kq a0 x5_3 x9_5 = some r) ∧ Aside0 (kq ≤ kj3) ∧ Drawn0 w wc)
      case first =>
        have H := HC6.out
        clear HC6
        by_cases c7 : a0 = 1
        · rw [if_pos c7] at H
          have c7b0 : (a0 == 1) = true := beq_iff_eq.mpr c7
          have c7b1 : (a0 != 1) = false := bne_eq_false_iff_eq.mpr c7
          clear c7
          (first | rw [c7b0] | (simp only [i64_w, i32_w]; rw [c7b0]) | skip)
          replace H := Option.bind_eq_some_iff.mp H
          obtain ⟨t107, A80, H⟩ := H
          replace H : (heraldref06_ahead.j1 kj3 a0 x5_3 t107) = some r := H
          have A8 := Aside0.mk A80
          clear A80
          have H' := Aside0.mk H
          clear H
          go_wp2_with (first | (go_at_call 101; (with_reducible refine (heraldref06_has.calls a1 32 t107 _ A8.out).mono ?_); rintro e w' ⟨rfl, ⟨nd, rfl⟩⟩))
          go_meet
          case rel => exact ⟨_, (t107), (by first | rfl | (simp; done) | (simp [*]; done)), H', ⟨by have := HJ3.out; first | omega | exact Nat.le_refl _⟩, by repeat (first | exact Drawn0.refl _ | apply Drawn0.step)⟩
        · rw [if_neg c7] at H
          have c7b0 : (a0 == 1) = false := beq_eq_false_iff_ne.mpr c7
          have c7b1 : (a0 != 1) = true := bne_iff_ne.mpr c7
          (first | rw [c7b0] | (simp only [i64_w, i32_w]; rw [c7b0]) | skip)
          have H' := Aside0.mk H
          clear H
          go_wp2
          go_meet
          case rel => exact ⟨_, (false), (by first | rfl | (simp; done) | (simp [*]; done)), H', ⟨by have := HJ3.out; first | omega | exact Nat.le_refl _⟩, by repeat (first | exact Drawn0.refl _ | apply Drawn0.step)⟩
      case rest =>
        clear HC6
        try clear c1
        try clear p2
        try clear c3
        try clear c5
        try clear c7
        try clear c7b0
        try clear c7b1
        try clear p2
        obtain ⟨kq, x9_5, rfl, HA, HJ5, ⟨mc5, rfl⟩⟩ := hcut
        cases kq with
        | zero => exact absurd HA.out (by simp [heraldref06_ahead.j1])
        | succ kj5 =>
          have H := HA.out
          clear HA
          simp only [heraldref06_ahead.j1] at H
          by_cases c9 : x9_5 = true
          · subst c9
            have H1 : (some (wrap64 (x5_3 + 5))) = some r := by rw [if_pos rfl] at H; exact H
            clear H
            have H := H1
            clear H1
            obtain rfl := Option.some.inj H
            go_wp2
            go_ret
            exact ⟨by first | rfl | (simp; done) | (simp [*]; done), by repeat (first | exact Drawn0.refl _ | apply Drawn0.step)⟩
          · replace c9 := Bool.eq_false_iff.mpr c9
            subst c9
            have H1 : (if a0 = 5 then (some (wrap64 (x5_3 + 4))) else (some x5_3)) = some r := by rw [if_neg (show ¬ (false = true) by decide)] at H; exact H
            clear H
            have H := H1
            clear H1
            by_cases c10 : a0 = 5
            · rw [if_pos c10] at H
              have c10b0 : (a0 == 5) = true := beq_iff_eq.mpr c10
              have c10b1 : (a0 != 5) = false := bne_eq_false_iff_eq.mpr c10
              clear c10
              obtain rfl := Option.some.inj H
              go_wp2
              go_ret
              exact ⟨by first | rfl | (simp; done) | (simp [*]; done), by repeat (first | exact Drawn0.refl _ | apply Drawn0.step)⟩
            · rw [if_neg c10] at H
              have c10b0 : (a0 == 5) = false := beq_eq_false_iff_ne.mpr c10
              have c10b1 : (a0 != 5) = true := bne_iff_ne.mpr c10
              obtain rfl := Option.some.inj H
              go_wp2
              go_ret
              exact ⟨by first | rfl | (simp; done) | (simp [*]; done), by repeat (first | exact Drawn0.refl _ | apply Drawn0.step)⟩

end Go.Proofs.YtoffhlbdfhhhjaaDoor.QL
