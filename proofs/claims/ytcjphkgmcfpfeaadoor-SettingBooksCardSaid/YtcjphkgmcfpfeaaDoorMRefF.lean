/- The document's answer for settings, by hand: Fits, and that the package's Fits is the same. The package variables low and high hold what the program lays; no other condition. -/
import Derived.Test.YtcjphkgmcfpfeaaDoorMRefA
import Derived.BigQuiet
namespace Go.Proofs.YtcjphkgmcfpfeaaDoor.MS
open Go Go.RowKit Go.Proofs.YtcjphkgmcfpfeaaDoorW.PrintWords Go.Proofs.YtcjphkgmcfpfeaaDoorW.PrintLast Go.Proofs.YtcjphkgmcfpfeaaDoorW.PrintMore Go.Proofs.YtcjphkgmcfpfeaaDoor.QL
set_option linter.unusedSimpArgs false
set_option linter.unusedVariables false
set_option maxHeartbeats 8000000
set_option maxRecDepth 100000
/-- The document's variables low and high hold what the program lays. -/
def GLow (w : World) : Prop := w.cell? ⟨2, 0, none⟩ = some (.int .i64 0) ∧ w.cell? ⟨2, 1, none⟩ = some (.int .i64 0) ∧ w.cell? ⟨2, 2, none⟩ = some (.int .i64 0) ∧ w.cell? ⟨2, 3, none⟩ = some (.int .i64 0) ∧ w.cell? ⟨2, 4, none⟩ = some (.int .i64 16384) ∧ w.cell? ⟨2, 5, none⟩ = some (.int .i64 1024)
def GHigh (w : World) : Prop := w.cell? ⟨3, 0, none⟩ = some (.int .i64 65536) ∧ w.cell? ⟨3, 1, none⟩ = some (.int .i64 1) ∧ w.cell? ⟨3, 2, none⟩ = some (.int .i64 2147483647) ∧ w.cell? ⟨3, 3, none⟩ = some (.int .i64 2147483647) ∧ w.cell? ⟨3, 4, none⟩ = some (.int .i64 65536) ∧ w.cell? ⟨3, 5, none⟩ = some (.int .i64 2147483647)
theorem GLow.below {w w1 : World} (h : GLow w) (hb : Below w.heap.size w w1) : GLow w1 := by
  obtain ⟨h0, h1, h2, h3, h4, h5⟩ := h
  exact ⟨pw_cell_below hb h0, pw_cell_below hb h1, pw_cell_below hb h2, pw_cell_below hb h3, pw_cell_below hb h4, pw_cell_below hb h5⟩
theorem GHigh.below {w w1 : World} (h : GHigh w) (hb : Below w.heap.size w w1) : GHigh w1 := by
  obtain ⟨h0, h1, h2, h3, h4, h5⟩ := h
  exact ⟨pw_cell_below hb h0, pw_cell_below hb h1, pw_cell_below hb h2, pw_cell_below hb h3, pw_cell_below hb h4, pw_cell_below hb h5⟩
def lowv (n : Nat) : Int := ([0, 0, 0, 0, 16384, 1024] : List Int).getD n 0
def highv (n : Nat) : Int := ([65536, 1, 2147483647, 2147483647, 65536, 2147483647] : List Int).getD n 0
theorem GLow.at_ {w : World} (h : GLow w) (n : Nat) (hn : n < 6) : w.cell? ⟨2, n, none⟩ = some (.int .i64 (lowv n)) := by
  obtain ⟨h0, h1, h2, h3, h4, h5⟩ := h
  obtain rfl | rfl | rfl | rfl | rfl | rfl : n = 0 ∨ n = 1 ∨ n = 2 ∨ n = 3 ∨ n = 4 ∨ n = 5 := by omega
  all_goals assumption
theorem GHigh.at_ {w : World} (h : GHigh w) (n : Nat) (hn : n < 6) : w.cell? ⟨3, n, none⟩ = some (.int .i64 (highv n)) := by
  obtain ⟨h0, h1, h2, h3, h4, h5⟩ := h
  obtain rfl | rfl | rfl | rfl | rfl | rfl : n = 0 ∨ n = 1 ∨ n = 2 ∨ n = 3 ∨ n = 4 ∨ n = 5 := by omega
  all_goals assumption
/-- Does each field lie in the range that an end here may have? -/
def fitsB (s : St) : Bool := decide (0 ≤ s.a) && decide (s.a ≤ 65536) && (decide (0 ≤ s.b) && decide (s.b ≤ 1)) && (decide (0 ≤ s.c) && decide (s.c ≤ 2147483647)) && (decide (0 ≤ s.d) && decide (s.d ≤ 2147483647)) && (decide (16384 ≤ s.e) && decide (s.e ≤ 65536)) && (decide (1024 ≤ s.f) && decide (s.f ≤ 2147483647))
theorem fitsB_iff (s : St) : fitsB s = true ↔ ∀ n : Nat, n < 6 → lowv n ≤ s.get ((n : Int) + 1) ∧ s.get ((n : Int) + 1) ≤ highv n := by
  constructor
  · intro h n hn
    simp only [fitsB, Bool.and_eq_true, decide_eq_true_eq] at h
    obtain rfl | rfl | rfl | rfl | rfl | rfl : n = 0 ∨ n = 1 ∨ n = 2 ∨ n = 3 ∨ n = 4 ∨ n = 5 := by omega
    all_goals simp [lowv, highv, St.get]; omega
  · intro h
    have h0 := h 0 (by omega)
    have h1 := h 1 (by omega)
    have h2 := h 2 (by omega)
    have h3 := h 3 (by omega)
    have h4 := h 4 (by omega)
    have h5 := h 5 (by omega)
    simp [lowv, highv, St.get] at h0 h1 h2 h3 h4 h5
    simp only [fitsB, Bool.and_eq_true, decide_eq_true_eq]
    omega
theorem fits_f (s : St) : setting_Fits.f s.a s.b s.c s.d s.e s.f = some (fitsB s) := by
  unfold setting_Fits.f setting_within.f fitsB
  by_cases a0 : 0 ≤ s.a <;> by_cases a1 : s.a ≤ 65536 <;> by_cases b0 : 0 ≤ s.b <;> by_cases b1 : s.b ≤ 1 <;> by_cases c0 : 0 ≤ s.c <;> by_cases c1 : s.c ≤ 2147483647 <;> simp [a0, a1, b0, b1, c0, c1, ge_iff_le]
  by_cases d0 : 0 ≤ s.d <;> by_cases d1 : s.d ≤ 2147483647 <;> by_cases e0 : 16384 ≤ s.e <;> by_cases e1 : s.e ≤ 65536 <;> by_cases f0 : 1024 ≤ s.f <;> by_cases f1 : s.f ≤ 2147483647 <;> simp [d0, d1, e0, e1, f0, f1]
theorem fits8_calls (s : St) (w : World) (hl : GLow w) (hh : GHigh w) : Calls Tryd.prog 22 #[.agg #[.int .i64 s.a, .int .i64 s.b, .int .i64 s.c, .int .i64 s.d, .int .i64 s.e, .int .i64 s.f]] w fun e w' => e = .returned (.bool (fitsB s)) ∧ Below w.heap.size w w' := by
  have HL := Aside0.mk hl
  have HH := Aside0.mk hh
  have HB := Aside0.mk (Below.refl w.heap.size w)
  clear hl hh
  go_enter Tryd.func22, Tryd.ntmps22
  go_upto_region 1 with fail
  have B1 := Aside0.mk (blk_new w (.cells #[.int .i64 s.a, .int .i64 s.b, .int .i64 s.c, .int .i64 s.d, .int .i64 s.e, .int .i64 s.f] 23))
  have z0 : (w.alloc (.cells #[.int .i64 s.a, .int .i64 s.b, .int .i64 s.c, .int .i64 s.d, .int .i64 s.e, .int .i64 s.f] 23)).cell? ⟨w.heap.size, 0, none⟩ = some (.int .i64 s.a) := blk_cell B1.out 0
  have z1 : (w.alloc (.cells #[.int .i64 s.a, .int .i64 s.b, .int .i64 s.c, .int .i64 s.d, .int .i64 s.e, .int .i64 s.f] 23)).cell? ⟨w.heap.size, 1, none⟩ = some (.int .i64 s.b) := blk_cell B1.out 1
  have z2 : (w.alloc (.cells #[.int .i64 s.a, .int .i64 s.b, .int .i64 s.c, .int .i64 s.d, .int .i64 s.e, .int .i64 s.f] 23)).cell? ⟨w.heap.size, 2, none⟩ = some (.int .i64 s.c) := blk_cell B1.out 2
  have z3 : (w.alloc (.cells #[.int .i64 s.a, .int .i64 s.b, .int .i64 s.c, .int .i64 s.d, .int .i64 s.e, .int .i64 s.f] 23)).cell? ⟨w.heap.size, 3, none⟩ = some (.int .i64 s.d) := blk_cell B1.out 3
  have z4 : (w.alloc (.cells #[.int .i64 s.a, .int .i64 s.b, .int .i64 s.c, .int .i64 s.d, .int .i64 s.e, .int .i64 s.f] 23)).cell? ⟨w.heap.size, 4, none⟩ = some (.int .i64 s.e) := blk_cell B1.out 4
  have z5 : (w.alloc (.cells #[.int .i64 s.a, .int .i64 s.b, .int .i64 s.c, .int .i64 s.d, .int .i64 s.e, .int .i64 s.f] 23)).cell? ⟨w.heap.size, 5, none⟩ = some (.int .i64 s.f) := blk_cell B1.out 5
  go_upto_region 2 with (first
    | (go_at_call 39; refine (six_calls s _).mono ?_; rintro e w6 ⟨rfl, hb⟩; have HB6 := Aside0.mk (below_then (below_alloc HB.out (.cells #[.int .i64 s.a, .int .i64 s.b, .int .i64 s.c, .int .i64 s.d, .int .i64 s.e, .int .i64 s.f] 23)) (by simp) hb); clear hb))
  clear z0 z1 z2 z3 z4 z5
  obtain ⟨W0, hW0⟩ : ∃ W, w6.alloc (.cells #[.int .i64 s.a, .int .i64 s.b, .int .i64 s.c, .int .i64 s.d, .int .i64 s.e, .int .i64 s.f] 66) = W := ⟨_, rfl⟩
  obtain ⟨b3, hb3⟩ : ∃ x, w6.heap.size = x := ⟨_, rfl⟩
  have B3 : Aside0 (W0.heap[b3]? = some (.cells #[.int .i64 s.a, .int .i64 s.b, .int .i64 s.c, .int .i64 s.d, .int .i64 s.e, .int .i64 s.f] 66 (0, 0))) := ⟨by rw [← hW0, ← hb3]; exact blk_new w6 _⟩
  have L0 : Aside0 (Below w.heap.size w W0) := ⟨by rw [← hW0]; exact below_alloc HB6.out _⟩
  rw [hW0, hb3]
  clear hW0 hb3 HB6 B1
  go_wp2_with fail
  go_loopw [4] (fun i w' => ∃ n : Nat, n ≤ 6 ∧ i = .int .i64 n ∧ Aside0 (∀ j : Nat, j < n → lowv j ≤ s.get ((j : Int) + 1) ∧ s.get ((j : Int) + 1) ≤ highv j) ∧ Aside0 (Below W0.heap.size W0 w')) (fun i _ => 6 - (intOf i).toNat)
  case atStart => exact ⟨0, Nat.zero_le _, rfl, ⟨fun j hj => absurd hj (Nat.not_lt_zero _)⟩, ⟨Below.refl _ _⟩⟩
  case round =>
    obtain ⟨n, hn, rfl, HA, HW⟩ := hrel
    have LW := Aside0.mk (below_then L0.out L0.out.size HW.out)
    by_cases h6 : n < 6
    · have p0 : (0 : Int) ≤ (n : Int) := by omega
      have q0 : (n : Int) < 6 := by omega
      have G7 := get_arr s ((n : Int) + 1) (by omega) (by omega)
      rw [show ((n : Int) + 1 - 1).toNat = n by omega] at G7
      obtain ⟨x, hx⟩ : ∃ x, s.get ((n : Int) + 1) = x := ⟨_, rfl⟩
      obtain ⟨lo, hlo⟩ : ∃ x, lowv n = x := ⟨_, rfl⟩
      obtain ⟨hi, hhi⟩ : ∃ x, highv n = x := ⟨_, rfl⟩
      rw [hx] at G7
      have z7 : wr.cell? ⟨b3, n, none⟩ = some (.int .i64 x) := (blk_cell (blk_below B3.out HW.out) n).trans G7
      have zl := (HL.out.below LW.out).at_ n h6
      have zh := (HH.out.below LW.out).at_ n h6
      rw [hlo] at zl
      rw [hhi] at zh
      have HX := Aside0.mk hx
      have HLO := Aside0.mk hlo
      have HHI := Aside0.mk hhi
      clear hx hlo hhi G7
      by_cases c1 : x < lo
      · have d1 : decide (x < lo) = true := decide_eq_true c1
        have C1 := Aside0.mk c1
        clear c1
        have hres : fitsB s = false := by
          rw [Bool.eq_false_iff]; intro h
          have := (fitsB_iff s).1 h n h6
          rw [HX.out, HLO.out] at this
          have := C1.out; omega
        have HRES := Aside0.mk hres
        clear hres
        go_upto_region 5 with fail
        go_quiet (fail)
        go_wp2_with fail
        go_ret
        exact ⟨by rw [HRES.out]; rfl, pw_below_drewN LW.out _⟩
      · have d1 : decide (x < lo) = false := decide_eq_false c1
        have C1 := Aside0.mk c1
        clear c1
        by_cases c2 : hi < x
        · have d2 : decide (hi < x) = true := decide_eq_true c2
          have C2 := Aside0.mk c2
          clear c2
          have hres : fitsB s = false := by
            rw [Bool.eq_false_iff]; intro h
            have := (fitsB_iff s).1 h n h6
            rw [HX.out, HHI.out] at this
            have := C2.out; omega
          have HRES := Aside0.mk hres
          clear hres
          go_upto_region 5 with fail
          go_quiet (fail)
          go_wp2_with fail
          go_ret
          exact ⟨by rw [HRES.out]; rfl, pw_below_drewN LW.out _⟩
        · have d2 : decide (hi < x) = false := decide_eq_false c2
          have C2 := Aside0.mk c2
          clear c2
          go_upto_region 5 with fail
          go_quiet (fail)
          go_wp2_with fail
          go_roundw
          case rel =>
            refine ⟨n + 1, by omega, by go_num, ⟨fun j hj => ?_⟩, ⟨pw_below_drewN HW.out _⟩⟩
            by_cases hjn : j < n
            · exact HA.out j hjn
            · obtain rfl : j = n := by omega
              rw [HX.out, HLO.out, HHI.out]
              have := C1.out; have := C2.out
              omega
          case measure => simp [intOf]; omega
    · have hn6 : n = 6 := by omega
      have hres : fitsB s = true := (fitsB_iff s).2 (fun j hj => HA.out j (by omega))
      have HRES := Aside0.mk hres
      clear hres
      subst hn6
      go_wp2_with fail
      go_ret
      exact ⟨by rw [HRES.out]; rfl, LW.out⟩
end Go.Proofs.YtcjphkgmcfpfeaaDoor.MS
