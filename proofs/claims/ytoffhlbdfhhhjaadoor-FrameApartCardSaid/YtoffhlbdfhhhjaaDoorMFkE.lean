/- FrameApart, its end: all that was written over is read. -/
import Derived.Test.YtoffhlbdfhhhjaaDoorMFkB
import Derived.Test.YtoffhlbdfhhhjaaDoorMFkD
import Derived.Test.YtoffhlbdfhhhjaaDoorMFg8
import Derived.LoopN
namespace Go.Proofs.YtoffhlbdfhhhjaaDoor.Fr
open Go Go.RowKit Go.Proofs.YtoffhlbdfhhhjaaDoorW.PrintWords Go.Proofs.YtoffhlbdfhhhjaaDoorW.PrintLast Go.Proofs.YtoffhlbdfhhhjaaDoorW.PrintMore Go.Proofs.YtoffhlbdfhhhjaaDoor.QL
set_option linter.unusedSimpArgs false
set_option linter.unusedVariables false
set_option maxHeartbeats 40000000
set_option maxRecDepth 100000
/-- The first region of a piece of code. -/
def headReg : Code → Option Nat
  | .region n _ _ => some n
  | .seq a _ => headReg a
  | .block _ c => headReg c
  | .loop c => headReg c
  | _ => none
/-- The statement that begins with a region, and what follows it. -/
def splitAt (n : Nat) : Code → Option (Code × Code)
  | .seq a b => if headReg a = some n then some (a, b) else splitAt n b
  | _ => none
def fst : Code → Code
  | .seq a _ => a
  | _ => .skip
def snd : Code → Code
  | .seq _ b => b
  | _ => .skip
noncomputable def x18 : Code := ((Tryd.f5.body.bind (splitAt 18)).getD (.skip, .skip)).1
noncomputable def y18 : Code := ((Tryd.f5.body.bind (splitAt 18)).getD (.skip, .skip)).2
noncomputable def x23 : Code := fst ((Tryd.f5.body.bind (splitAt 23)).getD (.skip, .skip)).1
noncomputable def y23 : Code := snd ((Tryd.f5.body.bind (splitAt 23)).getD (.skip, .skip)).1
noncomputable def z23 : Code := ((Tryd.f5.body.bind (splitAt 23)).getD (.skip, .skip)).2
attribute [local go_sem high] eqA32
theorem apart_tail (w : World) (P : List S32) (HPL : Aside0 (P.length ≤ 2730)) (A0 : Option Addr) (c0 : Nat) (A1 : Option Addr) (c1 : Nat) (A2 : Option Addr) (c2 : Nat) (ar : Nat) (lr g0 d0 g1 d1 g2 d2 : Nat) (Wf2 : World) (V0z : Aside0 (Kd.F k32 Wf2 (fun k => some k = (.slice A0 P.length c0 : Value).ownBlock) A0 P.length (ow 100 P P.length))) (V1z : Aside0 (Kd.F k32 Wf2 (fun k => some k = (.slice A1 P.length c1 : Value).ownBlock) A1 P.length (ow 101 P P.length))) (V2z : Aside0 (Kd.F k32 Wf2 (fun k => some k = (.slice A2 hL.length c2 : Value).ownBlock) A2 hL.length (ow 102 hL hL.length))) (N0z : Aside0 (Kd.R k32 32 Wf2 w.heap.size (fun _ => True) (.slice (some ⟨g0, 0, none⟩) (P.length + 1) d0) (ow 100 P P.length ++ [⟨200, 0⟩]))) (N1z : Aside0 (Kd.R k32 32 Wf2 w.heap.size (fun _ => True) (.slice (some ⟨g1, 0, none⟩) (P.length + 1) d1) (ow 101 P P.length ++ [⟨201, 0⟩]))) (N2z : Aside0 (Kd.R k32 32 Wf2 w.heap.size (fun _ => True) (.slice (some ⟨g2, 0, none⟩) (hL.length + 1) d2) (ow 102 hL hL.length ++ [⟨202, 0⟩]))) (ARz : Aside0 (Wf2.heap[ar]? = some (.cells #[.slice A0 P.length c0, .slice A1 P.length c1, .slice A2 hL.length c2] 40 (0, 0)))) (LRz : Aside0 (Wf2.heap[lr]? = some (.cells #[.slice (some ⟨g0, 0, none⟩) (P.length + 1) d0, .slice (some ⟨g1, 0, none⟩) (P.length + 1) d1, .slice (some ⟨g2, 0, none⟩) (hL.length + 1) d2] 40 (0, 0)))) (Lz : Aside0 (Below w.heap.size w Wf2)) (K K2 : Act → World → Prop) (hK : ∀ a w', Code.wp Tryd.prog y23 (Exit.then K2 (bodyPost Tryd.prog Tryd.f5 fun e w' => e = .returned (.bool true) ∧ Below w.heap.size w w')) a w' → K a w') (hK2 : ∀ a w', Code.wp Tryd.prog z23 (bodyPost Tryd.prog Tryd.f5 fun e w' => e = .returned (.bool true) ∧ Below w.heap.size w w') a w' → K2 a w') (u0 u1 u2 u3 u4 u5 u6 u7 u8 u9 u10 u11 u12 u13 u15 u16 u18 u19 u20 u21 u22 u23 u24 u25 u26 u27 u28 u29 u30 u31 u32 u33 u34 u35 u36 u37 u38 u39 u40 u41 u42 u43 u44 u45 u46 u47 u48 u49 u50 u51 u52 u53 u54 u55 u56 u57 u58 u59 u60 u61 u62 u63 u64 u65 u66 u67 u68 u69 u70 u71 u72 u73 u74 u75 u76 u77 u78 u79 u80 u81 u82 u83 u84 u85 u86 u87 u88 u89 u90 u91 u92 u93 u94 u95 u96 u97 u98 u99 u100 u101 u102 u103 u104 u105 u106 u107 u108 u109 u110 u111 u112 u113 u114 u115 u116 u117 u118 u119 u120 u121 u122 u123 u124 u125 u126 u127 u128 u129 u130 u131 u132 u133 u134 u135 u136 u137 u138 u139 u140 u141 u142 u143 u144 u145 u146 u147 u148 u149 u150 u151 u152 u153 u154 u155 u156 u157 u158 u159 u160 u161 u162 u163 u164 u165 u166 u167 u168 u169 u170 u171 u172 u173 u174 u175 u176 u177 u178 u179 : Value) :
    Code.wp Tryd.prog x23 (Exit.then K (Exit.then K2 (bodyPost Tryd.prog Tryd.f5 fun e w' => e = .returned (.bool true) ∧ Below w.heap.size w w'))) ⟨#[u0, u1, u2, u3, u4, u5, u6, u7, u8, u9, u10, u11, u12, u13, .pointer (some ⟨ar, 0, none⟩), u15, u16, .pointer (some ⟨lr, 0, none⟩), u18, u19, u20, u21, u22, u23, u24, u25, u26, u27, u28, u29, u30, u31, u32, u33, u34, u35, u36, u37, u38, u39, u40, u41, u42, u43, u44, u45, u46, u47, u48, u49, u50, u51, u52, u53, u54, u55, u56, u57, u58, u59, u60, u61, u62, u63, u64, u65, u66, u67, u68, u69, u70, u71, u72, u73, u74, u75, u76, u77, u78, u79, u80, u81, u82, u83, u84, u85, u86, u87, u88, u89, u90, u91, u92, u93, u94, u95, u96, u97, u98, u99, u100, u101, u102, u103, u104, u105, u106, u107, u108, u109, u110, u111, u112, u113, u114, u115, u116, u117, u118, u119, u120, u121, u122, u123, u124, u125, u126, u127, u128, u129, u130, u131, u132, u133, u134, u135, u136, u137, u138, u139, u140, u141, u142, u143, u144, u145, u146, u147, u148, u149, u150, u151, u152, u153, u154, u155, u156, u157, u158, u159, u160, u161, u162, u163, u164, u165, u166, u167, u168, u169, u170, u171, u172, u173, u174, u175, u176, u177, u178, u179], []⟩ Wf2 := by
  conv at hK => intro a w'; arg 1; arg 2; whnf
  conv at hK2 => intro a w'; arg 1; arg 2; whnf
  conv => arg 2; whnf
  try dsimp only
  go_upto_if 24 with fail
  refine wp_loop_rounds 4 ?_
  rw [rounds_succ]
  go_upto_if 27 with fail
  go_loopw [20] (fun v w' => ∃ j : Nat, v = .int .i64 (j : Int) ∧ Aside0 (j ≤ P.length) ∧ Aside0 (Kd.F k32 w' (fun k => some k = (.slice A0 P.length c0 : Value).ownBlock) A0 P.length (ow 100 P P.length)) ∧ Aside0 (Kd.F k32 w' (fun k => some k = (.slice A1 P.length c1 : Value).ownBlock) A1 P.length (ow 101 P P.length)) ∧ Aside0 (Kd.F k32 w' (fun k => some k = (.slice A2 hL.length c2 : Value).ownBlock) A2 hL.length (ow 102 hL hL.length)) ∧ Aside0 (Kd.R k32 32 w' w.heap.size (fun _ => True) (.slice (some ⟨g0, 0, none⟩) (P.length + 1) d0) (ow 100 P P.length ++ [⟨200, 0⟩])) ∧ Aside0 (Kd.R k32 32 w' w.heap.size (fun _ => True) (.slice (some ⟨g1, 0, none⟩) (P.length + 1) d1) (ow 101 P P.length ++ [⟨201, 0⟩])) ∧ Aside0 (Kd.R k32 32 w' w.heap.size (fun _ => True) (.slice (some ⟨g2, 0, none⟩) (hL.length + 1) d2) (ow 102 hL hL.length ++ [⟨202, 0⟩])) ∧ Aside0 (w'.heap[ar]? = some (.cells #[.slice A0 P.length c0, .slice A1 P.length c1, .slice A2 hL.length c2] 40 (0, 0))) ∧ Aside0 (w'.heap[lr]? = some (.cells #[.slice (some ⟨g0, 0, none⟩) (P.length + 1) d0, .slice (some ⟨g1, 0, none⟩) (P.length + 1) d1, .slice (some ⟨g2, 0, none⟩) (hL.length + 1) d2] 40 (0, 0))) ∧ Aside0 (Below w.heap.size w w')) (fun v _ => ((P.length : Int) - intOf v).toNat)
  case atStart => exact ⟨0, rfl, ⟨Nat.zero_le _⟩, V0z, V1z, V2z, N0z, N1z, N2z, ARz, LRz, Lz⟩
  case round =>
    clear V0z V1z V2z N0z N1z N2z ARz LRz Lz
    obtain ⟨j, rfl, HJ, V0q0_, V1q0_, V2q0_, N0q0_, N1q0_, N2q0_, ARq0_, LRq0_, Lq0_⟩ := hrel
    have zA := blk_cell ARq0_.out 0
    have zL := blk_cell LRq0_.out 0
    by_cases hjl : j < P.length
    · have d1 : decide ((j : Int) < (P.length : Int)) = true := decide_eq_true (by omega)
      have d2 : decide (j < P.length) = true := decide_eq_true (by omega)
      obtain ⟨m, hm⟩ : ∃ m, j + 1 = m := ⟨_, rfl⟩
      have hw1 : wrap64 ((j : Int) + 1) = (m : Int) := by have := HPL.out; have : hL.length = 1 := rfl; unfold wrap64; omega
      have HJM : Aside0 (j < P.length ∧ j + 1 = m) := ⟨hjl, hm⟩
      have p0 : (0 : Int) ≤ (j : Int) := by omega
      have p1 : (j : Int) < (P.length : Int) := by omega
      have p2 : (j : Int) < (P.length : Int) + 1 := by omega
      obtain ⟨ad, hA, y0, y1⟩ := at_T32 (Kd.F_now V0q0_.out) (j : Int) p0 p1
      subst hA
      obtain ⟨ae, hB, x0, x1⟩ := at_T32 (Kd.R_reads' N0q0_.out).2.2 (j : Int) p0 (by rw [List.length_append, List.length_singleton, ow_len 100 P P.length (Nat.le_refl _)]; omega)
      cases hB
      rw [app_rd (ow 100 P P.length) ⟨200, 0⟩ j (by rw [ow_len 100 P P.length (Nat.le_refl _)]; exact hjl)] at x0 x1
      rw [ow_rd 100 P j hjl] at x0 x1 y0 y1
      rw [Int.toNat_natCast] at x0 x1 y0 y1
      rw [add_plain] at x0 x1
      clear hm hjl
      go_upto_region 29 with fail
      go_quiet (fail)
      obtain ⟨Wg, hWg⟩ : ∃ W, wr.drewN nq = W := ⟨_, rfl⟩
      have hb : Below wr.heap.size wr Wg := by rw [← hWg]; exact pw_below_drewN (Below.refl _ _) nq
      have V01_ := Aside0.mk (Kd.F_below V0q0_.out hb)
      have N02_ := Aside0.mk (Kd.R_below N0q0_.out hb)
      have V13_ := Aside0.mk (Kd.F_below V1q0_.out hb)
      have N14_ := Aside0.mk (Kd.R_below N1q0_.out hb)
      have V25_ := Aside0.mk (Kd.F_below V2q0_.out hb)
      have N26_ := Aside0.mk (Kd.R_below N2q0_.out hb)
      have AR7_ := Aside0.mk (blk_below ARq0_.out hb)
      have LR8_ := Aside0.mk (blk_below LRq0_.out hb)
      have L9_ := Aside0.mk (below_then Lq0_.out Lq0_.out.size hb)
      rw [hWg]
      clear hWg hb
      go_wp2_with fail
      go_roundw
      case rel => exact ⟨m, congrArg (Value.int .i64) hw1, ⟨by have := HJM.out; omega⟩, V01_, V13_, V25_, N02_, N14_, N26_, AR7_, LR8_, L9_⟩
      case measure =>
        rw [hw1]
        show ((P.length : Int) - (m : Int)).toNat < ((P.length : Int) - (j : Int)).toNat
        have := HJM.out
        omega
    · have d1 : decide ((j : Int) < (P.length : Int)) = false := decide_eq_false (by omega)
      have d2 : decide (j < P.length) = false := decide_eq_false (by omega)
      have hje : j = P.length := by have := HJ.out; omega
      subst hje
      clear hjl HJ d1 d2
      have q0 : (0 : Int) ≤ (P.length : Int) := by omega
      have q1 : (P.length : Int) < (P.length : Int) + 1 := by omega
      obtain ⟨ae, hB, x0, x1⟩ := at_T32 (Kd.R_reads' N0q0_.out).2.2 (P.length : Int) q0 (by rw [List.length_append, List.length_singleton, ow_len 100 P P.length (Nat.le_refl _)]; omega)
      cases hB
      rw [app_last (ow 100 P P.length) ⟨200, 0⟩ P.length (ow_len 100 P P.length (Nat.le_refl _)).symm] at x0 x1
      rw [Int.toNat_natCast, add_plain] at x0 x1
      go_upto_region 31 with fail
      go_quiet (fail)
      obtain ⟨Wh0, hWg⟩ : ∃ W, wr.drewN nq = W := ⟨_, rfl⟩
      have hb : Below wr.heap.size wr Wh0 := by rw [← hWg]; exact pw_below_drewN (Below.refl _ _) nq
      have V010_ := Aside0.mk (Kd.F_below V0q0_.out hb)
      have N011_ := Aside0.mk (Kd.R_below N0q0_.out hb)
      have V112_ := Aside0.mk (Kd.F_below V1q0_.out hb)
      have N113_ := Aside0.mk (Kd.R_below N1q0_.out hb)
      have V214_ := Aside0.mk (Kd.F_below V2q0_.out hb)
      have N215_ := Aside0.mk (Kd.R_below N2q0_.out hb)
      have AR16_ := Aside0.mk (blk_below ARq0_.out hb)
      have LR17_ := Aside0.mk (blk_below LRq0_.out hb)
      have L18_ := Aside0.mk (below_then Lq0_.out Lq0_.out.size hb)
      rw [hWg]
      clear hWg hb zA zL x0 x1 q0 q1
      go_wp2_with fail
      rw [rounds_succ]
      go_upto_if 27 with fail
      go_loopw [20] (fun v w' => ∃ j : Nat, v = .int .i64 (j : Int) ∧ Aside0 (j ≤ P.length) ∧ Aside0 (Kd.F k32 w' (fun k => some k = (.slice A0 P.length c0 : Value).ownBlock) A0 P.length (ow 100 P P.length)) ∧ Aside0 (Kd.F k32 w' (fun k => some k = (.slice A1 P.length c1 : Value).ownBlock) A1 P.length (ow 101 P P.length)) ∧ Aside0 (Kd.F k32 w' (fun k => some k = (.slice A2 hL.length c2 : Value).ownBlock) A2 hL.length (ow 102 hL hL.length)) ∧ Aside0 (Kd.R k32 32 w' w.heap.size (fun _ => True) (.slice (some ⟨g0, 0, none⟩) (P.length + 1) d0) (ow 100 P P.length ++ [⟨200, 0⟩])) ∧ Aside0 (Kd.R k32 32 w' w.heap.size (fun _ => True) (.slice (some ⟨g1, 0, none⟩) (P.length + 1) d1) (ow 101 P P.length ++ [⟨201, 0⟩])) ∧ Aside0 (Kd.R k32 32 w' w.heap.size (fun _ => True) (.slice (some ⟨g2, 0, none⟩) (hL.length + 1) d2) (ow 102 hL hL.length ++ [⟨202, 0⟩])) ∧ Aside0 (w'.heap[ar]? = some (.cells #[.slice A0 P.length c0, .slice A1 P.length c1, .slice A2 hL.length c2] 40 (0, 0))) ∧ Aside0 (w'.heap[lr]? = some (.cells #[.slice (some ⟨g0, 0, none⟩) (P.length + 1) d0, .slice (some ⟨g1, 0, none⟩) (P.length + 1) d1, .slice (some ⟨g2, 0, none⟩) (hL.length + 1) d2] 40 (0, 0))) ∧ Aside0 (Below w.heap.size w w')) (fun v _ => ((P.length : Int) - intOf v).toNat)
      case atStart => exact ⟨0, rfl, ⟨Nat.zero_le _⟩, V010_, V112_, V214_, N011_, N113_, N215_, AR16_, LR17_, L18_⟩
      case round =>
        clear V010_ V112_ V214_ N011_ N113_ N215_ AR16_ LR17_ L18_
        obtain ⟨j, rfl, HJ, V0q1_, V1q1_, V2q1_, N0q1_, N1q1_, N2q1_, ARq1_, LRq1_, Lq1_⟩ := hrel
        have zA := blk_cell ARq1_.out 1
        have zL := blk_cell LRq1_.out 1
        by_cases hjl : j < P.length
        · have d1 : decide ((j : Int) < (P.length : Int)) = true := decide_eq_true (by omega)
          have d2 : decide (j < P.length) = true := decide_eq_true (by omega)
          obtain ⟨m, hm⟩ : ∃ m, j + 1 = m := ⟨_, rfl⟩
          have hw1 : wrap64 ((j : Int) + 1) = (m : Int) := by have := HPL.out; have : hL.length = 1 := rfl; unfold wrap64; omega
          have HJM : Aside0 (j < P.length ∧ j + 1 = m) := ⟨hjl, hm⟩
          have p0 : (0 : Int) ≤ (j : Int) := by omega
          have p1 : (j : Int) < (P.length : Int) := by omega
          have p2 : (j : Int) < (P.length : Int) + 1 := by omega
          obtain ⟨ad, hA, y0, y1⟩ := at_T32 (Kd.F_now V1q1_.out) (j : Int) p0 p1
          subst hA
          obtain ⟨ae, hB, x0, x1⟩ := at_T32 (Kd.R_reads' N1q1_.out).2.2 (j : Int) p0 (by rw [List.length_append, List.length_singleton, ow_len 101 P P.length (Nat.le_refl _)]; omega)
          cases hB
          rw [app_rd (ow 101 P P.length) ⟨201, 0⟩ j (by rw [ow_len 101 P P.length (Nat.le_refl _)]; exact hjl)] at x0 x1
          rw [ow_rd 101 P j hjl] at x0 x1 y0 y1
          rw [Int.toNat_natCast] at x0 x1 y0 y1
          rw [add_plain] at x0 x1
          clear hm hjl
          go_upto_region 29 with fail
          go_quiet (fail)
          obtain ⟨Wg, hWg⟩ : ∃ W, wr.drewN nq = W := ⟨_, rfl⟩
          have hb : Below wr.heap.size wr Wg := by rw [← hWg]; exact pw_below_drewN (Below.refl _ _) nq
          have V019_ := Aside0.mk (Kd.F_below V0q1_.out hb)
          have N020_ := Aside0.mk (Kd.R_below N0q1_.out hb)
          have V121_ := Aside0.mk (Kd.F_below V1q1_.out hb)
          have N122_ := Aside0.mk (Kd.R_below N1q1_.out hb)
          have V223_ := Aside0.mk (Kd.F_below V2q1_.out hb)
          have N224_ := Aside0.mk (Kd.R_below N2q1_.out hb)
          have AR25_ := Aside0.mk (blk_below ARq1_.out hb)
          have LR26_ := Aside0.mk (blk_below LRq1_.out hb)
          have L27_ := Aside0.mk (below_then Lq1_.out Lq1_.out.size hb)
          rw [hWg]
          clear hWg hb
          go_wp2_with fail
          go_roundw
          case rel => exact ⟨m, congrArg (Value.int .i64) hw1, ⟨by have := HJM.out; omega⟩, V019_, V121_, V223_, N020_, N122_, N224_, AR25_, LR26_, L27_⟩
          case measure =>
            rw [hw1]
            show ((P.length : Int) - (m : Int)).toNat < ((P.length : Int) - (j : Int)).toNat
            have := HJM.out
            omega
        · have d1 : decide ((j : Int) < (P.length : Int)) = false := decide_eq_false (by omega)
          have d2 : decide (j < P.length) = false := decide_eq_false (by omega)
          have hje : j = P.length := by have := HJ.out; omega
          subst hje
          clear hjl HJ d1 d2
          have q0 : (0 : Int) ≤ (P.length : Int) := by omega
          have q1 : (P.length : Int) < (P.length : Int) + 1 := by omega
          obtain ⟨ae, hB, x0, x1⟩ := at_T32 (Kd.R_reads' N1q1_.out).2.2 (P.length : Int) q0 (by rw [List.length_append, List.length_singleton, ow_len 101 P P.length (Nat.le_refl _)]; omega)
          cases hB
          rw [app_last (ow 101 P P.length) ⟨201, 0⟩ P.length (ow_len 101 P P.length (Nat.le_refl _)).symm] at x0 x1
          rw [Int.toNat_natCast, add_plain] at x0 x1
          go_upto_region 31 with fail
          go_quiet (fail)
          obtain ⟨Wh1, hWg⟩ : ∃ W, wr.drewN nq = W := ⟨_, rfl⟩
          have hb : Below wr.heap.size wr Wh1 := by rw [← hWg]; exact pw_below_drewN (Below.refl _ _) nq
          have V028_ := Aside0.mk (Kd.F_below V0q1_.out hb)
          have N029_ := Aside0.mk (Kd.R_below N0q1_.out hb)
          have V130_ := Aside0.mk (Kd.F_below V1q1_.out hb)
          have N131_ := Aside0.mk (Kd.R_below N1q1_.out hb)
          have V232_ := Aside0.mk (Kd.F_below V2q1_.out hb)
          have N233_ := Aside0.mk (Kd.R_below N2q1_.out hb)
          have AR34_ := Aside0.mk (blk_below ARq1_.out hb)
          have LR35_ := Aside0.mk (blk_below LRq1_.out hb)
          have L36_ := Aside0.mk (below_then Lq1_.out Lq1_.out.size hb)
          rw [hWg]
          clear hWg hb zA zL x0 x1 q0 q1
          go_wp2_with fail
          rw [rounds_succ]
          go_upto_if 27 with fail
          go_loopw [20] (fun v w' => ∃ j : Nat, v = .int .i64 (j : Int) ∧ Aside0 (j ≤ hL.length) ∧ Aside0 (Kd.F k32 w' (fun k => some k = (.slice A0 P.length c0 : Value).ownBlock) A0 P.length (ow 100 P P.length)) ∧ Aside0 (Kd.F k32 w' (fun k => some k = (.slice A1 P.length c1 : Value).ownBlock) A1 P.length (ow 101 P P.length)) ∧ Aside0 (Kd.F k32 w' (fun k => some k = (.slice A2 hL.length c2 : Value).ownBlock) A2 hL.length (ow 102 hL hL.length)) ∧ Aside0 (Kd.R k32 32 w' w.heap.size (fun _ => True) (.slice (some ⟨g0, 0, none⟩) (P.length + 1) d0) (ow 100 P P.length ++ [⟨200, 0⟩])) ∧ Aside0 (Kd.R k32 32 w' w.heap.size (fun _ => True) (.slice (some ⟨g1, 0, none⟩) (P.length + 1) d1) (ow 101 P P.length ++ [⟨201, 0⟩])) ∧ Aside0 (Kd.R k32 32 w' w.heap.size (fun _ => True) (.slice (some ⟨g2, 0, none⟩) (hL.length + 1) d2) (ow 102 hL hL.length ++ [⟨202, 0⟩])) ∧ Aside0 (w'.heap[ar]? = some (.cells #[.slice A0 P.length c0, .slice A1 P.length c1, .slice A2 hL.length c2] 40 (0, 0))) ∧ Aside0 (w'.heap[lr]? = some (.cells #[.slice (some ⟨g0, 0, none⟩) (P.length + 1) d0, .slice (some ⟨g1, 0, none⟩) (P.length + 1) d1, .slice (some ⟨g2, 0, none⟩) (hL.length + 1) d2] 40 (0, 0))) ∧ Aside0 (Below w.heap.size w w')) (fun v _ => ((hL.length : Int) - intOf v).toNat)
          case atStart => exact ⟨0, rfl, ⟨Nat.zero_le _⟩, V028_, V130_, V232_, N029_, N131_, N233_, AR34_, LR35_, L36_⟩
          case round =>
            clear V028_ V130_ V232_ N029_ N131_ N233_ AR34_ LR35_ L36_
            obtain ⟨j, rfl, HJ, V0q2_, V1q2_, V2q2_, N0q2_, N1q2_, N2q2_, ARq2_, LRq2_, Lq2_⟩ := hrel
            have zA := blk_cell ARq2_.out 2
            have zL := blk_cell LRq2_.out 2
            by_cases hjl : j < hL.length
            · have d1 : decide ((j : Int) < (hL.length : Int)) = true := decide_eq_true (by omega)
              have d2 : decide (j < hL.length) = true := decide_eq_true (by omega)
              obtain ⟨m, hm⟩ : ∃ m, j + 1 = m := ⟨_, rfl⟩
              have hw1 : wrap64 ((j : Int) + 1) = (m : Int) := by have := HPL.out; have : hL.length = 1 := rfl; unfold wrap64; omega
              have HJM : Aside0 (j < hL.length ∧ j + 1 = m) := ⟨hjl, hm⟩
              have p0 : (0 : Int) ≤ (j : Int) := by omega
              have p1 : (j : Int) < (hL.length : Int) := by omega
              have p2 : (j : Int) < (hL.length : Int) + 1 := by omega
              obtain ⟨ad, hA, y0, y1⟩ := at_T32 (Kd.F_now V2q2_.out) (j : Int) p0 p1
              subst hA
              obtain ⟨ae, hB, x0, x1⟩ := at_T32 (Kd.R_reads' N2q2_.out).2.2 (j : Int) p0 (by rw [List.length_append, List.length_singleton, ow_len 102 hL hL.length (Nat.le_refl _)]; omega)
              cases hB
              rw [app_rd (ow 102 hL hL.length) ⟨202, 0⟩ j (by rw [ow_len 102 hL hL.length (Nat.le_refl _)]; exact hjl)] at x0 x1
              rw [ow_rd 102 hL j hjl] at x0 x1 y0 y1
              rw [Int.toNat_natCast] at x0 x1 y0 y1
              rw [add_plain] at x0 x1
              clear hm hjl
              go_upto_region 29 with fail
              go_quiet (fail)
              obtain ⟨Wg, hWg⟩ : ∃ W, wr.drewN nq = W := ⟨_, rfl⟩
              have hb : Below wr.heap.size wr Wg := by rw [← hWg]; exact pw_below_drewN (Below.refl _ _) nq
              have V037_ := Aside0.mk (Kd.F_below V0q2_.out hb)
              have N038_ := Aside0.mk (Kd.R_below N0q2_.out hb)
              have V139_ := Aside0.mk (Kd.F_below V1q2_.out hb)
              have N140_ := Aside0.mk (Kd.R_below N1q2_.out hb)
              have V241_ := Aside0.mk (Kd.F_below V2q2_.out hb)
              have N242_ := Aside0.mk (Kd.R_below N2q2_.out hb)
              have AR43_ := Aside0.mk (blk_below ARq2_.out hb)
              have LR44_ := Aside0.mk (blk_below LRq2_.out hb)
              have L45_ := Aside0.mk (below_then Lq2_.out Lq2_.out.size hb)
              rw [hWg]
              clear hWg hb
              go_wp2_with fail
              go_roundw
              case rel => exact ⟨m, congrArg (Value.int .i64) hw1, ⟨by have := HJM.out; omega⟩, V037_, V139_, V241_, N038_, N140_, N242_, AR43_, LR44_, L45_⟩
              case measure =>
                rw [hw1]
                show ((hL.length : Int) - (m : Int)).toNat < ((hL.length : Int) - (j : Int)).toNat
                have := HJM.out
                omega
            · have d1 : decide ((j : Int) < (hL.length : Int)) = false := decide_eq_false (by omega)
              have d2 : decide (j < hL.length) = false := decide_eq_false (by omega)
              have hje : j = hL.length := by have := HJ.out; omega
              subst hje
              clear hjl HJ d1 d2
              have q0 : (0 : Int) ≤ (hL.length : Int) := by omega
              have q1 : (hL.length : Int) < (hL.length : Int) + 1 := by omega
              obtain ⟨ae, hB, x0, x1⟩ := at_T32 (Kd.R_reads' N2q2_.out).2.2 (hL.length : Int) q0 (by rw [List.length_append, List.length_singleton, ow_len 102 hL hL.length (Nat.le_refl _)]; omega)
              cases hB
              rw [app_last (ow 102 hL hL.length) ⟨202, 0⟩ hL.length (ow_len 102 hL hL.length (Nat.le_refl _)).symm] at x0 x1
              rw [Int.toNat_natCast, add_plain] at x0 x1
              go_upto_region 31 with fail
              go_quiet (fail)
              obtain ⟨Wh2, hWg⟩ : ∃ W, wr.drewN nq = W := ⟨_, rfl⟩
              have hb : Below wr.heap.size wr Wh2 := by rw [← hWg]; exact pw_below_drewN (Below.refl _ _) nq
              have V046_ := Aside0.mk (Kd.F_below V0q2_.out hb)
              have N047_ := Aside0.mk (Kd.R_below N0q2_.out hb)
              have V148_ := Aside0.mk (Kd.F_below V1q2_.out hb)
              have N149_ := Aside0.mk (Kd.R_below N1q2_.out hb)
              have V250_ := Aside0.mk (Kd.F_below V2q2_.out hb)
              have N251_ := Aside0.mk (Kd.R_below N2q2_.out hb)
              have AR52_ := Aside0.mk (blk_below ARq2_.out hb)
              have LR53_ := Aside0.mk (blk_below LRq2_.out hb)
              have L54_ := Aside0.mk (below_then Lq2_.out Lq2_.out.size hb)
              rw [hWg]
              clear hWg hb zA zL x0 x1 q0 q1
              go_wp2_with fail
              rw [rounds_succ]
              go_wp2_with fail
              go_ret
              exact ⟨rfl, L54_.out⟩
end Go.Proofs.YtoffhlbdfhhhjaaDoor.Fr
