/- The document's comparison of frames: the same frame is told the same. The lists fit in memory. -/
import Derived.Test.YtoffhlbdfhhhjaaDoorMFdH
namespace Go.Proofs.YtoffhlbdfhhhjaaDoor.Fr
open Go Go.RowKit Go.Proofs.YtoffhlbdfhhhjaaDoorW.PrintWords Go.Proofs.YtoffhlbdfhhhjaaDoorW.PrintLast Go.Proofs.YtoffhlbdfhhhjaaDoorW.PrintMore Go.Proofs.YtoffhlbdfhhhjaaDoor.QL
set_option linter.unusedSimpArgs false
set_option linter.unusedVariables false
set_option maxHeartbeats 40000000
set_option maxRecDepth 100000
attribute [local go_sem high] eqA32
theorem same7_calls (f : Fr) (A B : Option Addr) (c d : Nat) (w : World) (hl : f.ps.length ≤ 9223372036854775807) (h1 : Kd.C k32 w A f.ps.length f.ps) (h2 : f.ps.length ≤ c) (h3 : Kd.C k32 w B f.ps.length f.ps) (h4 : f.ps.length ≤ d) :
    Calls Tryd.prog 41 #[.agg (f.cells A c), .agg (f.cells B d)] w fun e w' => e = .returned (.bool true) ∧ Below w.heap.size w w' := by
  unfold Fr.cells
  have HL := Aside0.mk hl
  have H1 := Aside0.mk h1
  have H3 := Aside0.mk h3
  have HB := Aside0.mk (Below.refl w.heap.size w)
  clear hl h1 h2 h3 h4
  go_enter Tryd.func41, Tryd.ntmps41
  go_upto_region 1 with fail
  obtain ⟨W, hW⟩ : ∃ W, (w.alloc (.cells #[.int .i64 f.ty, .int .i64 f.fl, .int .i64 f.st, .string f.da, .int .i64 f.pad, .int .i64 f.dep, .bool f.ex, .int .i64 f.wt, .int .i64 f.co, .int .i64 f.la, .slice A f.ps.length c] 24)).alloc (.cells #[.int .i64 f.ty, .int .i64 f.fl, .int .i64 f.st, .string f.da, .int .i64 f.pad, .int .i64 f.dep, .bool f.ex, .int .i64 f.wt, .int .i64 f.co, .int .i64 f.la, .slice B f.ps.length d] 24) = W := ⟨_, rfl⟩
  obtain ⟨ga, hga⟩ : ∃ g, w.heap.size = g := ⟨_, rfl⟩
  obtain ⟨gb, hgb⟩ : ∃ g, ga + 1 = g := ⟨_, rfl⟩
  have XA : Aside0 (At W ga f A c) := ⟨by rw [← hW, ← hga]; exact heap_alloc2_old _ _ _⟩
  have XB : Aside0 (At W gb f B d) := ⟨by rw [← hW, ← hgb, ← hga]; exact heap_alloc2_new _ _ _⟩
  have LW : Aside0 (Below w.heap.size w W) := ⟨by rw [← hW]; exact below_alloc (below_alloc HB.out _) _⟩
  have C1 := Aside0.mk (Kd.C_below H1.out LW.out)
  have C3 := Aside0.mk (Kd.C_below H3.out LW.out)
  have HGA := Aside0.mk hga
  rw [hW, hga, hgb]
  clear hW hga hgb H1 H3 HB
  have a0 := XA.out.c0
  have a1 := XA.out.c1
  have a2 := XA.out.c2
  have a3 := XA.out.c3
  have a4 := XA.out.c4
  have a5 := XA.out.c5
  have a6 := XA.out.c6
  have a7 := XA.out.c7
  have a8 := XA.out.c8
  have a9 := XA.out.c9
  have a10 := XA.out.c10
  have b0 := XB.out.c0
  have b1 := XB.out.c1
  have b2 := XB.out.c2
  have b3 := XB.out.c3
  have b4 := XB.out.c4
  have b5 := XB.out.c5
  have b6 := XB.out.c6
  have b7 := XB.out.c7
  have b8 := XB.out.c8
  have b9 := XB.out.c9
  have b10 := XB.out.c10
  go_upto_if 4 with fail
  clear a0 a1 a2 a3 a4 a5 a6 a7 a8 a9 a10 b0 b1 b2 b3 b4 b5 b6 b7 b8 b9 b10
  go_loopw [5] (fun v w' => ∃ j : Nat, v = .int .i64 (j : Int) ∧ Aside0 (j ≤ f.ps.length) ∧ Aside0 (At w' ga f A c) ∧ Aside0 (At w' gb f B d) ∧ Aside0 (Kd.C k32 w' A f.ps.length f.ps) ∧ Aside0 (Kd.C k32 w' B f.ps.length f.ps) ∧ Aside0 (Below ga w w')) (fun v _ => ((f.ps.length : Int) - intOf v).toNat)
  case atStart => exact ⟨0, rfl, ⟨Nat.zero_le _⟩, XA, XB, C1, C3, ⟨by have := LW.out; rw [HGA.out] at this; exact this⟩⟩
  case round =>
    clear XA XB C1 C3 LW
    obtain ⟨j, rfl, HJ, XA, XB, C1, C3, LW⟩ := hrel
    have zA := XA.out.c10
    have zB := XB.out.c10
    by_cases hjl : j < f.ps.length
    · have d1 : decide ((j : Int) < (f.ps.length : Int)) = true := decide_eq_true (by omega)
      have d2 : decide (j < f.ps.length) = true := decide_eq_true hjl
      obtain ⟨m, hm⟩ : ∃ m, j + 1 = m := ⟨_, rfl⟩
      have hw1 : wrap64 ((j : Int) + 1) = (m : Int) := by have := HL.out; unfold wrap64; omega
      have HJM : Aside0 (j < f.ps.length ∧ j + 1 = m) := ⟨hjl, hm⟩
      have p0 : (0 : Int) ≤ (j : Int) := by omega
      have p1 : (j : Int) < (f.ps.length : Int) := by omega
      obtain ⟨ad, hA, x0, x1⟩ := at_T32 C1.out (j : Int) p0 p1
      subst hA
      obtain ⟨ae, hB, y0, y1⟩ := at_T32 C3.out (j : Int) p0 p1
      subst hB
      rw [Int.toNat_natCast] at x0 x1 y0 y1
      clear hm hjl
      go_upto_region 6 with fail
      go_quiet (fail)
      obtain ⟨Wg, hWg⟩ : ∃ W, wr.drewN nq = W := ⟨_, rfl⟩
      have hb : Below wr.heap.size wr Wg := by rw [← hWg]; exact pw_below_drewN (Below.refl _ _) nq
      have XA2 := Aside0.mk (XA.out.low hb)
      have XB2 := Aside0.mk (XB.out.low hb)
      have C12 := Aside0.mk (Kd.C_below C1.out hb)
      have C32 := Aside0.mk (Kd.C_below C3.out hb)
      have LW2 : Aside0 (Below ga w Wg) := ⟨by have h := LW.out; have h2 := h.size; rw [← HGA.out] at h ⊢; exact below_then h h.size hb⟩
      rw [hWg]
      clear hWg hb
      go_wp2_with fail
      go_roundw
      case rel => exact ⟨m, congrArg (Value.int .i64) hw1, ⟨by have := HJM.out; omega⟩, XA2, XB2, C12, C32, LW2⟩
      case measure =>
        rw [hw1]
        show ((f.ps.length : Int) - (m : Int)).toNat < ((f.ps.length : Int) - (j : Int)).toNat
        have := HJM.out
        omega
    · have d1 : decide ((j : Int) < (f.ps.length : Int)) = false := decide_eq_false (by omega)
      have d2 : decide (j < f.ps.length) = false := decide_eq_false hjl
      clear hjl
      go_wp2_with fail
      go_ret
      exact ⟨rfl, by rw [HGA.out]; exact LW.out⟩
end Go.Proofs.YtoffhlbdfhhhjaaDoor.Fr
