/- The document's small tests of a frame. No condition. -/
import Derived.Test.YtoffhlbdfhhhjaaDoorMFwB
import Derived.Test.YtoffhlbdfhhhjaaDoorMFrK
namespace Go.Proofs.YtoffhlbdfhhhjaaDoor.Fr
open Go Go.RowKit Go.Proofs.YtoffhlbdfhhhjaaDoorW.PrintWords Go.Proofs.YtoffhlbdfhhhjaaDoorW.PrintLast Go.Proofs.YtoffhlbdfhhhjaaDoorW.PrintMore Go.Proofs.YtoffhlbdfhhhjaaDoor.QL
set_option linter.unusedSimpArgs false
set_option linter.unusedVariables false
set_option maxHeartbeats 8000000
set_option maxRecDepth 100000
theorem withinR_calls (n m : Int) (x : Bool) (w : World) (hx : inR n 0 m = x) : Calls Tryd.prog 94 #[.int .i64 n, .int .i64 m] w fun e w' => e = .returned (.bool x) ∧ Below w.heap.size w w' := by
  subst hx
  refine (heraldref06_within.calls n m (inR n 0 m) w ?_).mono (fun _ _ h => ⟨h.1, by first | exact h.2 | exact h.2.below | exact drawn_below h.2⟩)
  unfold heraldref06_within.f inR
  by_cases h : n ≥ 0
  · rw [if_pos h, decide_eq_true (show (0 : Int) ≤ n from h), Bool.true_and]
  · rw [if_neg h, decide_eq_false (show ¬ (0 : Int) ≤ n from h), Bool.false_and]
/-- Are Code and Last right? -/
def numR (f : Fr) : Bool := inR f.co 0 (if f.ty = 3 ∨ f.ty = 7 then 4294967295 else 0) && inR f.la 0 (if f.ty = 5 ∨ f.ty = 7 ∨ f.ty = 8 then 2147483647 else 0)
theorem numR_calls (f : Fr) (A : Option Addr) (c : Nat) (x : Bool) (w : World) (hx : numR f = x) : Calls Tryd.prog 97 #[.agg (f.cells A c)] w fun e w' => e = .returned (.bool x) ∧ Below w.heap.size w w' := by
  unfold Fr.cells
  obtain ⟨n1, hn1⟩ : ∃ n : Int, (if f.ty = 3 ∨ f.ty = 7 then (4294967295 : Int) else 0) = n := ⟨_, rfl⟩
  obtain ⟨n2, hn2⟩ : ∃ n : Int, (if f.ty = 5 ∨ f.ty = 7 ∨ f.ty = 8 then (2147483647 : Int) else 0) = n := ⟨_, rfl⟩
  obtain ⟨b1, hb1⟩ : ∃ b, inR f.co 0 n1 = b := ⟨_, rfl⟩
  obtain ⟨b2, hb2⟩ : ∃ b, inR f.la 0 n2 = b := ⟨_, rfl⟩
  have HX : Aside0 ((b1 && b2) = x) := ⟨by rw [← hx, ← hb1, ← hb2, ← hn1, ← hn2]; rfl⟩
  have HN1 := Aside0.mk hn1
  have HN2 := Aside0.mk hn2
  have HB1 := Aside0.mk hb1
  have HB2 := Aside0.mk hb2
  clear hn1 hn2 hb1 hb2 hx
  go_enter Tryd.func97, Tryd.ntmps97
  go_upto_region 1 with fail
  obtain ⟨W0, hW⟩ : ∃ W, w.alloc (.cells #[.int .i64 f.ty, .int .i64 f.fl, .int .i64 f.st, .string f.da, .int .i64 f.pad, .int .i64 f.dep, .bool f.ex, .int .i64 f.wt, .int .i64 f.co, .int .i64 f.la, .slice A f.ps.length c] 24) = W := ⟨_, rfl⟩
  obtain ⟨g, hg⟩ : ∃ g, w.heap.size = g := ⟨_, rfl⟩
  have hb : Below w.heap.size w W0 := by rw [← hW]; exact below_alloc (Below.refl _ _) _
  have X0 : Aside0 (At W0 g f A c) := ⟨by rw [← hW, ← hg]; exact blk_new _ _⟩
  have L0 := Aside0.mk hb
  rw [hW, hg]
  clear hW hg hb
  have z0 := X0.out.c0
  obtain ⟨y, hy⟩ : ∃ y, decide (f.ty = 3 ∨ f.ty = 7) = y := ⟨_, rfl⟩
  have HY := Aside0.mk hy
  clear hy
  go_upto_region 2 with fail
  go_cut [12] from 5 to 12 (fun v wc => v = .bool y ∧ Aside0 (wc = W0))
  case first =>
    by_cases e3 : f.ty = 3
    · obtain rfl : y = true := by rw [← HY.out]; exact decide_eq_true (by omega)
      have yy : (f.ty == 3) = true := by simp [e3]
      have yy' : decide (f.ty = 3) = true := decide_eq_true e3
      clear HY e3
      go_wp2_with fail
      go_meet
      case rel => exact ⟨rfl, ⟨rfl⟩⟩
    by_cases e7 : f.ty = 7
    · obtain rfl : y = true := by rw [← HY.out]; exact decide_eq_true (by omega)
      have y3 : (f.ty == 3) = false := by simp [e3]
      have y3' : decide (f.ty = 3) = false := decide_eq_false e3
      have yy : (f.ty == 7) = true := by simp [e7]
      have yy' : decide (f.ty = 7) = true := decide_eq_true e7
      clear HY e3 e7
      go_wp2_with fail
      go_meet
      case rel => exact ⟨rfl, ⟨rfl⟩⟩
    obtain rfl : y = false := by rw [← HY.out]; exact decide_eq_false (by omega)
    have y3 : (f.ty == 3) = false := by simp [e3]
    have y3' : decide (f.ty = 3) = false := decide_eq_false e3
    have y7 : (f.ty == 7) = false := by simp [e7]
    have y7' : decide (f.ty = 7) = false := decide_eq_false e7
    clear HY e3 e7
    go_wp2_with fail
    go_meet
    case rel => exact ⟨rfl, ⟨rfl⟩⟩
  case rest =>
    obtain ⟨rfl, HWC⟩ := hcut
    rw [HWC.out]
    clear HWC
    go_upto_if 12 with fail
    go_cut [3] from 13 to 13 (fun v wc => v = .int .i64 n1 ∧ Aside0 (wc = W0))
    case first =>
      cases y
      · obtain rfl : 0 = n1 := by rw [← HN1.out, if_neg (of_decide_eq_false HY.out)]
        go_wp2_with fail
        go_meet
        case rel => exact ⟨rfl, ⟨rfl⟩⟩
      · obtain rfl : 4294967295 = n1 := by rw [← HN1.out, if_pos (of_decide_eq_true HY.out)]
        go_wp2_with fail
        go_meet
        case rel => exact ⟨rfl, ⟨rfl⟩⟩
    case rest =>
      clear HY
      obtain ⟨rfl, HWC⟩ := hcut
      rw [HWC.out]
      clear HWC
      obtain ⟨y, hy⟩ : ∃ y, decide (f.ty = 5 ∨ f.ty = 7 ∨ f.ty = 8) = y := ⟨_, rfl⟩
      have HY := Aside0.mk hy
      clear hy
      go_upto_region 5 with fail
      go_cut [25] from 13 to 25 (fun v wc => v = .bool y ∧ Aside0 (wc = W0))
      case first =>
        by_cases e5 : f.ty = 5
        · obtain rfl : y = true := by rw [← HY.out]; exact decide_eq_true (by omega)
          have yy : (f.ty == 5) = true := by simp [e5]
          have yy' : decide (f.ty = 5) = true := decide_eq_true e5
          clear HY e5
          go_wp2_with fail
          go_meet
          case rel => exact ⟨rfl, ⟨rfl⟩⟩
        by_cases e7 : f.ty = 7
        · obtain rfl : y = true := by rw [← HY.out]; exact decide_eq_true (by omega)
          have y5 : (f.ty == 5) = false := by simp [e5]
          have y5' : decide (f.ty = 5) = false := decide_eq_false e5
          have yy : (f.ty == 7) = true := by simp [e7]
          have yy' : decide (f.ty = 7) = true := decide_eq_true e7
          clear HY e5 e7
          go_wp2_with fail
          go_meet
          case rel => exact ⟨rfl, ⟨rfl⟩⟩
        by_cases e8 : f.ty = 8
        · obtain rfl : y = true := by rw [← HY.out]; exact decide_eq_true (by omega)
          have y5 : (f.ty == 5) = false := by simp [e5]
          have y5' : decide (f.ty = 5) = false := decide_eq_false e5
          have y7 : (f.ty == 7) = false := by simp [e7]
          have y7' : decide (f.ty = 7) = false := decide_eq_false e7
          have yy : (f.ty == 8) = true := by simp [e8]
          have yy' : decide (f.ty = 8) = true := decide_eq_true e8
          clear HY e5 e7 e8
          go_wp2_with fail
          go_meet
          case rel => exact ⟨rfl, ⟨rfl⟩⟩
        obtain rfl : y = false := by rw [← HY.out]; exact decide_eq_false (by omega)
        have y5 : (f.ty == 5) = false := by simp [e5]
        have y5' : decide (f.ty = 5) = false := decide_eq_false e5
        have y7 : (f.ty == 7) = false := by simp [e7]
        have y7' : decide (f.ty = 7) = false := decide_eq_false e7
        have y8 : (f.ty == 8) = false := by simp [e8]
        have y8' : decide (f.ty = 8) = false := decide_eq_false e8
        clear HY e5 e7 e8
        go_wp2_with fail
        go_meet
        case rel => exact ⟨rfl, ⟨rfl⟩⟩
      case rest =>
        obtain ⟨rfl, HWC⟩ := hcut
        rw [HWC.out]
        clear HWC z0
        go_upto_if 25 with fail
        go_cut [4] from 26 to 26 (fun v wc => v = .int .i64 n2 ∧ Aside0 (wc = W0))
        case first =>
          cases y
          · obtain rfl : 0 = n2 := by rw [← HN2.out, if_neg (of_decide_eq_false HY.out)]
            go_wp2_with fail
            go_meet
            case rel => exact ⟨rfl, ⟨rfl⟩⟩
          · obtain rfl : 2147483647 = n2 := by rw [← HN2.out, if_pos (of_decide_eq_true HY.out)]
            go_wp2_with fail
            go_meet
            case rel => exact ⟨rfl, ⟨rfl⟩⟩
        case rest =>
          clear HY
          obtain ⟨rfl, HWC⟩ := hcut
          rw [HWC.out]
          clear HWC
          have z8 := X0.out.c8
          cases b1
          · obtain rfl : false = x := HX.out
            go_wp2_with (go_at_call 94; refine (withinR_calls f.co n1 false _ HB1.out).mono ?_; rintro e w1 ⟨rfl, hb⟩; have L1 := Aside0.mk (below_then L0.out L0.out.size hb); clear hb)
            go_ret
            exact ⟨rfl, L1.out⟩
          · obtain rfl : b2 = x := HX.out
            go_upto_region 77 with (first
              | (go_at_call 94; with_reducible refine (withinR_calls f.co n1 true _ HB1.out).mono ?_; rintro e w1 ⟨rfl, hb⟩; have L1 := Aside0.mk (below_then L0.out L0.out.size hb); have z9 := (X0.out.low hb).c9; clear hb)
              | (go_at_call 94; with_reducible refine (withinR_calls f.la n2 b2 _ HB2.out).mono ?_; rintro e w2 ⟨rfl, hb⟩; have L2 := Aside0.mk (below_then L1.out L1.out.size hb); clear hb))
            go_ret
            exact ⟨rfl, L2.out⟩

/-- Are Params and Data right? -/
def daR (f : Fr) : Bool := if f.ty = 2 ∨ f.ty = 3 ∨ f.ty = 4 ∨ f.ty = 8 then f.da.toList.isEmpty else if f.ty = 6 then f.da.size == 8 else true
def npR (f : Fr) : Bool := decide (0 < f.ps.length) && (f.ty != 4 || f.fl != 0)
def listR (f : Fr) : Bool := !npR f && f.ps.all parOk && daR f
theorem listR_calls (f : Fr) (A : Option Addr) (c : Nat) (x : Bool) (w : World) (hps : Kd.C k32 w A f.ps.length f.ps) (hpl : f.ps.length ≤ 8796093022208) (hx : listR f = x) : Calls Tryd.prog 98 #[.agg (f.cells A c)] w fun e w' => e = .returned (.bool x) ∧ Below w.heap.size w w' := by
  unfold Fr.cells
  have HPS := Aside0.mk hps
  have HPL := Aside0.mk hpl
  obtain ⟨y, hy⟩ : ∃ y, npR f = y := ⟨_, rfl⟩
  have HX : Aside0 ((!y && f.ps.all parOk && daR f) = x) := ⟨by rw [← hx, ← hy]; rfl⟩
  have HY := Aside0.mk hy
  clear hps hpl hx hy
  go_enter Tryd.func98, Tryd.ntmps98
  go_upto_region 1 with fail
  obtain ⟨W0, hW⟩ : ∃ W, w.alloc (.cells #[.int .i64 f.ty, .int .i64 f.fl, .int .i64 f.st, .string f.da, .int .i64 f.pad, .int .i64 f.dep, .bool f.ex, .int .i64 f.wt, .int .i64 f.co, .int .i64 f.la, .slice A f.ps.length c] 24) = W := ⟨_, rfl⟩
  obtain ⟨g, hg⟩ : ∃ g, w.heap.size = g := ⟨_, rfl⟩
  have hb : Below w.heap.size w W0 := by rw [← hW]; exact below_alloc (Below.refl _ _) _
  have X0 : Aside0 (At W0 g f A c) := ⟨by rw [← hW, ← hg]; exact blk_new _ _⟩
  have L0 := Aside0.mk hb
  rw [hW, hg]
  clear hW hg hb
  have z0 := X0.out.c0
  have z1 := X0.out.c1
  have z10 := X0.out.c10
  go_cut [17] from 4 to 17 (fun v wc => v = .bool y ∧ Aside0 (wc = W0))
  case first =>
    by_cases n0 : 0 < f.ps.length
    · have d1 : decide ((0 : Int) < (f.ps.length : Int)) = true := decide_eq_true (by omega)
      have d2 : decide (0 < f.ps.length) = true := decide_eq_true n0
      have hy := HY.out
      unfold npR at hy
      rw [d2, Bool.true_and] at hy
      clear n0
      by_cases e4 : f.ty = 4
      · have y4 : (f.ty != 4) = false := by simp [e4]
        rw [y4, Bool.false_or] at hy
        have HY2 := Aside0.mk hy
        clear hy e4 HY
        go_wp2_with fail
        go_meet
        case rel => exact ⟨by rw [← HY2.out], ⟨rfl⟩⟩
      · have y4 : (f.ty != 4) = true := by simp [e4]
        rw [y4, Bool.true_or] at hy
        have HY2 := Aside0.mk hy
        clear hy e4 HY
        go_wp2_with fail
        go_meet
        case rel => exact ⟨by rw [← HY2.out], ⟨rfl⟩⟩
    · have d1 : decide ((0 : Int) < (f.ps.length : Int)) = false := decide_eq_false (by omega)
      have d2 : decide (0 < f.ps.length) = false := decide_eq_false n0
      have hy := HY.out
      unfold npR at hy
      rw [d2, Bool.false_and] at hy
      have HY2 := Aside0.mk hy
      clear hy n0 HY
      go_wp2_with fail
      go_meet
      case rel => exact ⟨by rw [← HY2.out], ⟨rfl⟩⟩
  case rest =>
    obtain ⟨rfl, HWC⟩ := hcut
    rw [HWC.out]
    clear HWC z0 z1
    cases y
    · go_upto_if 4 with fail
      clear z10
      go_loopw [3] (fun v w' => ∃ k : Nat, v = .int .i64 (k : Int) ∧ Aside0 (k ≤ f.ps.length) ∧ Aside0 ((f.ps.drop k).all parOk = f.ps.all parOk) ∧ Aside0 (At w' g f A c) ∧ Aside0 (Below w.heap.size w w')) (fun v _ => ((f.ps.length : Int) - intOf v).toNat)
      case atStart => exact ⟨0, rfl, ⟨Nat.zero_le _⟩, ⟨rfl⟩, X0, L0⟩
      case round =>
        clear X0 L0
        obtain ⟨k, rfl, HI, HAL, X0, L0⟩ := hrel
        have z10 := X0.out.c10
        by_cases hlt : k < f.ps.length
        · have d1 : decide ((k : Int) < (f.ps.length : Int)) = true := decide_eq_true (by omega)
          have d2 : decide (k < f.ps.length) = true := decide_eq_true hlt
          have p0 : (0 : Int) ≤ (k : Int) := by omega
          have q0 : (k : Int) < (f.ps.length : Int) := by omega
          obtain ⟨m, hm⟩ : ∃ m, k + 1 = m := ⟨_, rfl⟩
          have hw1 : wrap64 ((k : Int) + 1) = (m : Int) := by have := HPL.out; unfold wrap64; omega
          have HKM : Aside0 (k < f.ps.length ∧ k + 1 = m) := ⟨hlt, hm⟩
          have hst := parOk_step f.ps k hlt
          rw [HAL.out, hm] at hst
          obtain ⟨ad, e0, y0, y1⟩ := at_T32 (Kd.C_below HPS.out L0.out) k p0 q0
          cases e0
          obtain ⟨p, hp⟩ : ∃ p, rd_T32 f.ps (k : Int) = p := ⟨_, rfl⟩
          rw [hp] at y0 y1 hst
          obtain ⟨b1, hb1⟩ : ∃ b, inR p.f0 0 65535 = b := ⟨_, rfl⟩
          obtain ⟨b2, hb2⟩ : ∃ b, inR p.f1 0 4294967295 = b := ⟨_, rfl⟩
          have HST : Aside0 (f.ps.all parOk = (b1 && b2 && (f.ps.drop m).all parOk)) := ⟨by rw [hst]; unfold parOk; rw [hb1, hb2]⟩
          have HB1 := Aside0.mk hb1
          have HB2 := Aside0.mk hb2
          simp only [Int.toNat_natCast] at y0 y1
          clear hm hlt hst hp hb1 hb2
          cases b1
          · obtain rfl : false = x := by rw [← HX.out, HST.out]; rfl
            go_wp2_with (go_at_call 94; with_reducible refine (withinR_calls p.f0 65535 false _ HB1.out).mono ?_; rintro e w1 ⟨rfl, hb⟩; have L1 := Aside0.mk (below_then L0.out L0.out.size hb); clear hb)
            go_ret
            exact ⟨rfl, L1.out⟩
          · cases b2
            · obtain rfl : false = x := by rw [← HX.out, HST.out]; rfl
              go_wp2_with (first
                | (go_at_call 94; with_reducible refine (withinR_calls p.f0 65535 true _ HB1.out).mono ?_; rintro e w1 ⟨rfl, hb⟩; have L1 := Aside0.mk (below_then L0.out L0.out.size hb); have y2 := (hb.cell (World.block_lt_of_cell? _ _ y1)).trans y1; have z11 := (X0.out.low hb).c10; clear hb)
                | (go_at_call 94; with_reducible refine (withinR_calls p.f1 4294967295 false _ HB2.out).mono ?_; rintro e w2 ⟨rfl, hb⟩; have L2 := Aside0.mk (below_then L1.out L1.out.size hb); clear hb))
              go_ret
              exact ⟨rfl, L2.out⟩
            · go_wp2_with (first
                | (go_at_call 94; with_reducible refine (withinR_calls p.f0 65535 true _ HB1.out).mono ?_; rintro e w1 ⟨rfl, hb⟩; have L1 := Aside0.mk (below_then L0.out L0.out.size hb); have y2 := (hb.cell (World.block_lt_of_cell? _ _ y1)).trans y1; have X1 := Aside0.mk (X0.out.low hb); have z11 := X1.out.c10; clear hb)
                | (go_at_call 94; with_reducible refine (withinR_calls p.f1 4294967295 true _ HB2.out).mono ?_; rintro e w2 ⟨rfl, hb⟩; have L2 := Aside0.mk (below_then L1.out L1.out.size hb); have X2 := Aside0.mk (X1.out.low hb); clear hb))
              go_roundw
              case rel => exact ⟨m, congrArg (Value.int .i64) hw1, ⟨by have := HKM.out; omega⟩, ⟨by rw [HST.out]; rfl⟩, X2, L2⟩
              case measure =>
                rw [hw1]
                show ((f.ps.length : Int) - (m : Int)).toNat < ((f.ps.length : Int) - (k : Int)).toNat
                have := HKM.out
                omega
        · have d1 : decide ((k : Int) < (f.ps.length : Int)) = false := decide_eq_false (by omega)
          have d2 : decide (k < f.ps.length) = false := decide_eq_false hlt
          obtain rfl : k = f.ps.length := by have := HI.out; omega
          have hd : daR f = x := by
            have h1 := HAL.out
            rw [List.drop_length] at h1
            have h2 := HX.out
            rw [← h1] at h2
            simpa using h2
          have z0 := X0.out.c0
          have z3 := X0.out.c3
          have LL := L0
          clear hlt HI
          by_cases e2 : f.ty = 2
          · have hx2 : f.da.toList.isEmpty = x := by unfold daR at hd; rw [if_pos (by omega)] at hd; exact hd
            have yy : (f.ty == 2) = true := by simp [e2]
            have yy' : decide (f.ty = 2) = true := decide_eq_true e2
            have HX2 := Aside0.mk hx2
            clear hx2 hd e2
            go_wp2_with fail
            go_ret
            refine ⟨?_, LL.out⟩
            rw [← HX2.out]
            first
              | rfl
              | exact congrArg (fun b => Ending.returned (Value.bool b)) (Bool.eq_iff_iff.mpr (by rw [beq_iff_eq, beq_iff_eq]; omega))
              | (congr 2; exact Bool.eq_iff_iff.mpr (by rw [beq_iff_eq, beq_iff_eq]; omega))
              | simp
          by_cases e3 : f.ty = 3
          · have hx2 : f.da.toList.isEmpty = x := by unfold daR at hd; rw [if_pos (by omega)] at hd; exact hd
            have y2 : (f.ty == 2) = false := by simp [e2]
            have y2' : decide (f.ty = 2) = false := decide_eq_false e2
            have yy : (f.ty == 3) = true := by simp [e3]
            have yy' : decide (f.ty = 3) = true := decide_eq_true e3
            have HX2 := Aside0.mk hx2
            clear hx2 hd e2 e3
            go_wp2_with fail
            go_ret
            refine ⟨?_, LL.out⟩
            rw [← HX2.out]
            first
              | rfl
              | exact congrArg (fun b => Ending.returned (Value.bool b)) (Bool.eq_iff_iff.mpr (by rw [beq_iff_eq, beq_iff_eq]; omega))
              | (congr 2; exact Bool.eq_iff_iff.mpr (by rw [beq_iff_eq, beq_iff_eq]; omega))
              | simp
          by_cases e4 : f.ty = 4
          · have hx2 : f.da.toList.isEmpty = x := by unfold daR at hd; rw [if_pos (by omega)] at hd; exact hd
            have y2 : (f.ty == 2) = false := by simp [e2]
            have y2' : decide (f.ty = 2) = false := decide_eq_false e2
            have y3 : (f.ty == 3) = false := by simp [e3]
            have y3' : decide (f.ty = 3) = false := decide_eq_false e3
            have yy : (f.ty == 4) = true := by simp [e4]
            have yy' : decide (f.ty = 4) = true := decide_eq_true e4
            have HX2 := Aside0.mk hx2
            clear hx2 hd e2 e3 e4
            go_wp2_with fail
            go_ret
            refine ⟨?_, LL.out⟩
            rw [← HX2.out]
            first
              | rfl
              | exact congrArg (fun b => Ending.returned (Value.bool b)) (Bool.eq_iff_iff.mpr (by rw [beq_iff_eq, beq_iff_eq]; omega))
              | (congr 2; exact Bool.eq_iff_iff.mpr (by rw [beq_iff_eq, beq_iff_eq]; omega))
              | simp
          by_cases e8 : f.ty = 8
          · have hx2 : f.da.toList.isEmpty = x := by unfold daR at hd; rw [if_pos (by omega)] at hd; exact hd
            have y2 : (f.ty == 2) = false := by simp [e2]
            have y2' : decide (f.ty = 2) = false := decide_eq_false e2
            have y3 : (f.ty == 3) = false := by simp [e3]
            have y3' : decide (f.ty = 3) = false := decide_eq_false e3
            have y4 : (f.ty == 4) = false := by simp [e4]
            have y4' : decide (f.ty = 4) = false := decide_eq_false e4
            have yy : (f.ty == 8) = true := by simp [e8]
            have yy' : decide (f.ty = 8) = true := decide_eq_true e8
            have HX2 := Aside0.mk hx2
            clear hx2 hd e2 e3 e4 e8
            go_wp2_with fail
            go_ret
            refine ⟨?_, LL.out⟩
            rw [← HX2.out]
            first
              | rfl
              | exact congrArg (fun b => Ending.returned (Value.bool b)) (Bool.eq_iff_iff.mpr (by rw [beq_iff_eq, beq_iff_eq]; omega))
              | (congr 2; exact Bool.eq_iff_iff.mpr (by rw [beq_iff_eq, beq_iff_eq]; omega))
              | simp
          by_cases e6 : f.ty = 6
          · have hx2 : (f.da.size == 8) = x := by unfold daR at hd; rw [if_neg (by omega), if_pos (by omega)] at hd; exact hd
            have y2 : (f.ty == 2) = false := by simp [e2]
            have y2' : decide (f.ty = 2) = false := decide_eq_false e2
            have y3 : (f.ty == 3) = false := by simp [e3]
            have y3' : decide (f.ty = 3) = false := decide_eq_false e3
            have y4 : (f.ty == 4) = false := by simp [e4]
            have y4' : decide (f.ty = 4) = false := decide_eq_false e4
            have y8 : (f.ty == 8) = false := by simp [e8]
            have y8' : decide (f.ty = 8) = false := decide_eq_false e8
            have yy : (f.ty == 6) = true := by simp [e6]
            have yy' : decide (f.ty = 6) = true := decide_eq_true e6
            have HX2 := Aside0.mk hx2
            clear hx2 hd e2 e3 e4 e8 e6
            go_wp2_with fail
            go_ret
            refine ⟨?_, LL.out⟩
            rw [← HX2.out]
            first
              | rfl
              | exact congrArg (fun b => Ending.returned (Value.bool b)) (Bool.eq_iff_iff.mpr (by rw [beq_iff_eq, beq_iff_eq]; omega))
              | (congr 2; exact Bool.eq_iff_iff.mpr (by rw [beq_iff_eq, beq_iff_eq]; omega))
              | simp
          have hx2 : true = x := by unfold daR at hd; rw [if_neg (by omega), if_neg (by omega)] at hd; exact hd
          have y2 : (f.ty == 2) = false := by simp [e2]
          have y2' : decide (f.ty = 2) = false := decide_eq_false e2
          have y3 : (f.ty == 3) = false := by simp [e3]
          have y3' : decide (f.ty = 3) = false := decide_eq_false e3
          have y4 : (f.ty == 4) = false := by simp [e4]
          have y4' : decide (f.ty = 4) = false := decide_eq_false e4
          have y8 : (f.ty == 8) = false := by simp [e8]
          have y8' : decide (f.ty = 8) = false := decide_eq_false e8
          have y6 : (f.ty == 6) = false := by simp [e6]
          have y6' : decide (f.ty = 6) = false := decide_eq_false e6
          have HX2 := Aside0.mk hx2
          clear hx2 hd e2 e3 e4 e8 e6
          go_wp2_with fail
          go_ret
          refine ⟨?_, LL.out⟩
          rw [← HX2.out]
          rfl
    · obtain rfl : false = x := HX.out
      go_wp2_with fail
      go_ret
      exact ⟨rfl, L0.out⟩
end Go.Proofs.YtoffhlbdfhhhjaaDoor.Fr
