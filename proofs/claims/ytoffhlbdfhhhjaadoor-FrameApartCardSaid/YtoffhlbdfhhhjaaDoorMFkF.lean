/- FrameApart: the three rows made longer. -/
import Derived.Test.YtoffhlbdfhhhjaaDoorMFkE
import Derived.LoopN
namespace Go.Proofs.YtoffhlbdfhhhjaaDoor.Fr
open Go Go.RowKit Go.Proofs.YtoffhlbdfhhhjaaDoorW.PrintWords Go.Proofs.YtoffhlbdfhhhjaaDoorW.PrintLast Go.Proofs.YtoffhlbdfhhhjaaDoorW.PrintMore Go.Proofs.YtoffhlbdfhhhjaaDoor.QL
set_option linter.unusedSimpArgs false
set_option linter.unusedVariables false
set_option maxHeartbeats 40000000
set_option maxRecDepth 100000
theorem row_set {W : World} {base g : Nat} {ok : Nat → Prop} {v : Value} {xs : List S32} {cells : Array Value} (h : Kd.R k32 32 W base ok v xs) (hb : W.heap[g]? = some (.cells cells 40 (0, 0))) (j : Nat) (u : Value) : Kd.R k32 32 (W.setCell ⟨g, j, none⟩ u) base ok v xs :=
  Kd.R_set h hb (by intro q hq; have : q = 32 := by simpa [k32, Kd.iso, Kd.pair, Kd.int, Kd.scalar] using hq
                    subst this; decide) j u
attribute [local go_sem high] eqA32
theorem apart_mid (w : World) (P : List S32) (HPL : Aside0 (P.length ≤ 2730)) (A0 : Option Addr) (c0 : Nat) (A1 : Option Addr) (c1 : Nat) (A2 : Option Addr) (c2 : Nat) (ar : Nat) (wr : World) (V0z : Aside0 (Kd.R k32 32 wr w.heap.size (fun _ => True) (.slice A0 P.length c0) (ow 100 P P.length))) (V1z : Aside0 (Kd.R k32 32 wr w.heap.size (fun _ => True) (.slice A1 P.length c1) (ow 101 P P.length))) (V2z : Aside0 (Kd.R k32 32 wr w.heap.size (fun _ => True) (.slice A2 hL.length c2) (ow 102 hL hL.length))) (ARz : Aside0 (wr.heap[ar]? = some (.cells #[.slice A0 P.length c0, .slice A1 P.length c1, .slice A2 hL.length c2] 40 (0, 0)))) (Lz : Aside0 (Below w.heap.size w wr)) (AP_V0_V1 : Aside0 (Ap (.slice A0 P.length c0) (.slice A1 P.length c1))) (AP_V0_V2 : Aside0 (Ap (.slice A0 P.length c0) (.slice A2 hL.length c2))) (AP_V1_V0 : Aside0 (Ap (.slice A1 P.length c1) (.slice A0 P.length c0))) (AP_V1_V2 : Aside0 (Ap (.slice A1 P.length c1) (.slice A2 hL.length c2))) (AP_V2_V0 : Aside0 (Ap (.slice A2 hL.length c2) (.slice A0 P.length c0))) (AP_V2_V1 : Aside0 (Ap (.slice A2 hL.length c2) (.slice A1 P.length c1))) (K : Act → World → Prop) (hK : ∀ a w', Code.wp Tryd.prog y18 (bodyPost Tryd.prog Tryd.f5 fun e w' => e = .returned (.bool true) ∧ Below w.heap.size w w') a w' → K a w') (u0 u1 u2 u3 u4 u5 u6 u7 u8 u9 u10 u11 u12 u13 u15 u16 u17 u18 u19 u20 u21 u22 u23 u24 u25 u26 u27 u28 u29 u30 u31 u32 u33 u34 u35 u36 u37 u38 u39 u40 u41 u42 u43 u44 u45 u46 u47 u48 u49 u50 u51 u52 u53 u54 u55 u56 u57 u58 u59 u60 u61 u62 u63 u64 u65 u66 u67 u68 u69 u70 u71 u72 u73 u74 u75 u76 u77 u78 u79 u80 u81 u82 u83 u84 u85 u86 u87 u88 u89 u90 u91 u92 u93 u94 u95 u96 u97 u98 u99 u100 u101 u102 u103 u104 u105 u106 u107 u108 u109 u110 u111 u112 u113 u114 u115 u116 u117 u118 u119 u120 u121 u122 u123 u124 u125 u126 u127 u128 u129 u130 u131 u132 u133 u134 u135 u136 u137 u138 u139 u140 u141 u142 u143 u144 u145 u146 u147 u148 u149 u150 u151 u152 u153 u154 u155 u156 u157 u158 u159 u160 u161 u162 u163 u164 u165 u166 u167 u168 u169 u170 u171 u172 u173 u174 u175 u176 u177 u178 u179 : Value) :
    Code.wp Tryd.prog x18 (Exit.then K (bodyPost Tryd.prog Tryd.f5 fun e w' => e = .returned (.bool true) ∧ Below w.heap.size w w')) ⟨#[u0, u1, u2, u3, u4, u5, u6, u7, u8, u9, u10, u11, u12, u13, .pointer (some ⟨ar, 0, none⟩), u15, u16, u17, u18, u19, u20, u21, u22, u23, u24, u25, u26, u27, u28, u29, u30, u31, u32, u33, u34, u35, u36, u37, u38, u39, u40, u41, u42, u43, u44, u45, u46, u47, u48, u49, u50, u51, u52, u53, u54, u55, u56, u57, u58, u59, u60, u61, u62, u63, u64, u65, u66, u67, u68, u69, u70, u71, u72, u73, u74, u75, u76, u77, u78, u79, u80, u81, u82, u83, u84, u85, u86, u87, u88, u89, u90, u91, u92, u93, u94, u95, u96, u97, u98, u99, u100, u101, u102, u103, u104, u105, u106, u107, u108, u109, u110, u111, u112, u113, u114, u115, u116, u117, u118, u119, u120, u121, u122, u123, u124, u125, u126, u127, u128, u129, u130, u131, u132, u133, u134, u135, u136, u137, u138, u139, u140, u141, u142, u143, u144, u145, u146, u147, u148, u149, u150, u151, u152, u153, u154, u155, u156, u157, u158, u159, u160, u161, u162, u163, u164, u165, u166, u167, u168, u169, u170, u171, u172, u173, u174, u175, u176, u177, u178, u179], []⟩ wr := by
  conv at hK => intro a w'; arg 1; arg 2; whnf
  conv => arg 2; whnf
  try dsimp only
  go_upto_region 19 with fail
  skip
  obtain ⟨We, hW⟩ : ∃ W, World.alloc wr (.cells #[.slice none 0 0, .slice none 0 0, .slice none 0 0] 40) = W := ⟨_, rfl⟩
  obtain ⟨lr, hx⟩ : ∃ g, wr.heap.size = g := ⟨_, rfl⟩
  have NAL : Aside0 (ar ≠ lr) := ⟨by have := blk_lt ARz.out; omega⟩
  have LGE : Aside0 (w.heap.size ≤ lr) := ⟨by have := Lz.out.size; omega⟩
  have hb : Below wr.heap.size wr We := by rw [← hW]; exact below_alloc (Below.refl _ _) _
  have V01_ := Aside0.mk (Kd.R_below V0z.out hb)
  have V12_ := Aside0.mk (Kd.R_below V1z.out hb)
  have V23_ := Aside0.mk (Kd.R_below V2z.out hb)
  have AR4_ := Aside0.mk (blk_below ARz.out hb)
  have L5_ := Aside0.mk (below_then Lz.out Lz.out.size hb)
  have LR6_ : Aside0 (We.heap[lr]? = some (.cells #[.slice none 0 0, .slice none 0 0, .slice none 0 0] 40 (0, 0))) := ⟨by rw [← hW, ← hx]; exact blk_new _ _⟩
  rw [hW, hx]
  clear hW hx hb
  have NL0 : Aside0 (∀ q, some q = (.slice A0 P.length c0 : Value).ownBlock → q ≠ lr) := ⟨fun q hq e => Kd.R_ne V01_.out LR6_.out (by decide) (e ▸ hq)⟩
  have NL1 : Aside0 (∀ q, some q = (.slice A1 P.length c1 : Value).ownBlock → q ≠ lr) := ⟨fun q hq e => Kd.R_ne V12_.out LR6_.out (by decide) (e ▸ hq)⟩
  have NL2 : Aside0 (∀ q, some q = (.slice A2 hL.length c2 : Value).ownBlock → q ≠ lr) := ⟨fun q hq e => Kd.R_ne V23_.out LR6_.out (by decide) (e ▸ hq)⟩
  go_upto_if 20 with fail
  refine wp_loop_rounds 4 ?_
  rw [rounds_succ]
  have zA := blk_cell AR4_.out 0
  have zL := blk_cell LR6_.out 0
  have zF := blk_frozen LR6_.out 0
  go_upto_region 21 with ((with_reducible refine gate_builtin (b := .append) (xs := #[.tmp 122, .tmp 126]) rfl ?_); at_builtin; refine R_append_keepV k32 rfl (w0 := w) w.heap.size rfl (.tmp 122) (.tmp 126) 22 32 (.agg #[.int .i64 0, .int .i64 0]) 16 rfl Tryd.underlying22 info32 rfl (by decide) (by omega) A0 P.length c0 (ow 100 P P.length) ⟨200, 0⟩ [.int .i64 200, .int .i64 0] rfl rfl (k32_mkM _ _ _ (⟨200, 0⟩ : S32)) V01_.out L5_.out L5_.out.size ?aL ?_; (case aL => rw [ow_len _ _ _ (Nat.le_refl _)]; have := HPL.out; have : hL.length = 1 := rfl; omega); intro v1 w9 ho hb hg hat hF; obtain ⟨g0, d0, en, _⟩ := Kd.R_form ho (by simp); subst en; rw [List.length_append, List.length_singleton, ow_len _ _ _ (Nat.le_refl _)] at ho ⊢; have AP_V1_N0 : Aside0 (Ap (.slice A1 P.length c1) (.slice (some ⟨g0, 0, none⟩) (P.length + 1) d0)) := ⟨(ap_append hat AP_V0_V1.out V12_.out).symm⟩; have AP_V2_N0 : Aside0 (Ap (.slice A2 hL.length c2) (.slice (some ⟨g0, 0, none⟩) (P.length + 1) d0)) := ⟨(ap_append hat AP_V0_V2.out V23_.out).symm⟩; have V17_ := Aside0.mk (row_other rfl V12_.out hg AP_V0_V1.out); have V28_ := Aside0.mk (row_other rfl V23_.out hg AP_V0_V2.out); have AR9_ := Aside0.mk (blk_grown AR4_.out hg (Kd.R_ne V01_.out AR4_.out (by decide))); have LR10_ := Aside0.mk (blk_grown LR6_.out hg (Kd.R_ne V01_.out LR6_.out (by decide))); have L11_ := Aside0.mk hb; have V012_ := Aside0.mk hF; have N013_ := Aside0.mk ho; clear ho hb hg hat hF; have zL := blk_cell LR10_.out 0; have zF := blk_frozen LR10_.out 0)
  obtain ⟨Wf0, hW⟩ : ∃ W, w9.setCell ⟨lr, 0, none⟩ (.slice (some ⟨g0, 0, none⟩) (P.length + 1) d0) = W := ⟨_, rfl⟩
  have V014_ : Aside0 (Kd.F k32 Wf0 (fun k => some k = (.slice A0 P.length c0 : Value).ownBlock) A0 P.length (ow 100 P P.length)) := ⟨by rw [← hW]; exact Kd.F_far (p := ⟨lr, 0, none⟩) V012_.out NL0.out (.slice (some ⟨g0, 0, none⟩) (P.length + 1) d0)⟩
  have V115_ : Aside0 (Kd.R k32 32 Wf0 w.heap.size (fun _ => True) (.slice A1 P.length c1) (ow 101 P P.length)) := ⟨by rw [← hW]; exact row_set V17_.out LR10_.out 0 (.slice (some ⟨g0, 0, none⟩) (P.length + 1) d0)⟩
  have V216_ : Aside0 (Kd.R k32 32 Wf0 w.heap.size (fun _ => True) (.slice A2 hL.length c2) (ow 102 hL hL.length)) := ⟨by rw [← hW]; exact row_set V28_.out LR10_.out 0 (.slice (some ⟨g0, 0, none⟩) (P.length + 1) d0)⟩
  have AR17_ : Aside0 (Wf0.heap[ar]? = some (.cells #[.slice A0 P.length c0, .slice A1 P.length c1, .slice A2 hL.length c2] 40 (0, 0))) := ⟨by rw [← hW]; exact (Below.heap_setCell w9 ⟨lr, 0, none⟩ (.slice (some ⟨g0, 0, none⟩) (P.length + 1) d0) ar NAL.out).trans AR9_.out⟩
  have LR18_ : Aside0 (Wf0.heap[lr]? = some (.cells #[.slice (some ⟨g0, 0, none⟩) (P.length + 1) d0, .slice none 0 0, .slice none 0 0] 40 (0, 0))) := ⟨by have h := blk_set LR10_.out 0 (.slice (some ⟨g0, 0, none⟩) (P.length + 1) d0); rw [← hW]; simpa using h⟩
  have N019_ : Aside0 (Kd.R k32 32 Wf0 w.heap.size (fun _ => True) (.slice (some ⟨g0, 0, none⟩) (P.length + 1) d0) (ow 100 P P.length ++ [⟨200, 0⟩])) := ⟨by rw [← hW]; exact row_set N013_.out LR10_.out 0 (.slice (some ⟨g0, 0, none⟩) (P.length + 1) d0)⟩
  have L20_ : Aside0 (Below w.heap.size w Wf0) := ⟨by rw [← hW]; exact L11_.out.setCell (p := ⟨lr, 0, none⟩) LGE.out (.slice (some ⟨g0, 0, none⟩) (P.length + 1) d0)⟩
  rw [hW]
  clear hW zA zL zF
  go_wp2_with fail
  rw [rounds_succ]
  have zA := blk_cell AR17_.out 1
  have zL := blk_cell LR18_.out 1
  have zF := blk_frozen LR18_.out 1
  go_upto_region 21 with ((with_reducible refine gate_builtin (b := .append) (xs := #[.tmp 122, .tmp 126]) rfl ?_); at_builtin; refine R_append_keepV k32 rfl (w0 := w) w.heap.size rfl (.tmp 122) (.tmp 126) 22 32 (.agg #[.int .i64 0, .int .i64 0]) 16 rfl Tryd.underlying22 info32 rfl (by decide) (by omega) A1 P.length c1 (ow 101 P P.length) ⟨201, 0⟩ [.int .i64 201, .int .i64 0] rfl rfl (k32_mkM _ _ _ (⟨201, 0⟩ : S32)) V115_.out L20_.out L20_.out.size ?aL ?_; (case aL => rw [ow_len _ _ _ (Nat.le_refl _)]; have := HPL.out; have : hL.length = 1 := rfl; omega); intro v1 w9 ho hb hg hat hF; obtain ⟨g1, d1, en, _⟩ := Kd.R_form ho (by simp); subst en; rw [List.length_append, List.length_singleton, ow_len _ _ _ (Nat.le_refl _)] at ho ⊢; have AP_V2_N1 : Aside0 (Ap (.slice A2 hL.length c2) (.slice (some ⟨g1, 0, none⟩) (P.length + 1) d1)) := ⟨(ap_append hat AP_V1_V2.out V216_.out).symm⟩; have V021_ := Aside0.mk (kept_other V014_.out hg AP_V1_V0.out); have V222_ := Aside0.mk (row_other rfl V216_.out hg AP_V1_V2.out); have AR23_ := Aside0.mk (blk_grown AR17_.out hg (Kd.R_ne V115_.out AR17_.out (by decide))); have LR24_ := Aside0.mk (blk_grown LR18_.out hg (Kd.R_ne V115_.out LR18_.out (by decide))); have N025_ := Aside0.mk (row_other rfl N019_.out hg AP_V1_N0.out); have L26_ := Aside0.mk hb; have V127_ := Aside0.mk hF; have N128_ := Aside0.mk ho; clear ho hb hg hat hF; have zL := blk_cell LR24_.out 1; have zF := blk_frozen LR24_.out 1)
  obtain ⟨Wf1, hW⟩ : ∃ W, w9.setCell ⟨lr, 1, none⟩ (.slice (some ⟨g1, 0, none⟩) (P.length + 1) d1) = W := ⟨_, rfl⟩
  have V029_ : Aside0 (Kd.F k32 Wf1 (fun k => some k = (.slice A0 P.length c0 : Value).ownBlock) A0 P.length (ow 100 P P.length)) := ⟨by rw [← hW]; exact Kd.F_far (p := ⟨lr, 1, none⟩) V021_.out NL0.out (.slice (some ⟨g1, 0, none⟩) (P.length + 1) d1)⟩
  have V130_ : Aside0 (Kd.F k32 Wf1 (fun k => some k = (.slice A1 P.length c1 : Value).ownBlock) A1 P.length (ow 101 P P.length)) := ⟨by rw [← hW]; exact Kd.F_far (p := ⟨lr, 1, none⟩) V127_.out NL1.out (.slice (some ⟨g1, 0, none⟩) (P.length + 1) d1)⟩
  have V231_ : Aside0 (Kd.R k32 32 Wf1 w.heap.size (fun _ => True) (.slice A2 hL.length c2) (ow 102 hL hL.length)) := ⟨by rw [← hW]; exact row_set V222_.out LR24_.out 1 (.slice (some ⟨g1, 0, none⟩) (P.length + 1) d1)⟩
  have AR32_ : Aside0 (Wf1.heap[ar]? = some (.cells #[.slice A0 P.length c0, .slice A1 P.length c1, .slice A2 hL.length c2] 40 (0, 0))) := ⟨by rw [← hW]; exact (Below.heap_setCell w9 ⟨lr, 1, none⟩ (.slice (some ⟨g1, 0, none⟩) (P.length + 1) d1) ar NAL.out).trans AR23_.out⟩
  have LR33_ : Aside0 (Wf1.heap[lr]? = some (.cells #[.slice (some ⟨g0, 0, none⟩) (P.length + 1) d0, .slice (some ⟨g1, 0, none⟩) (P.length + 1) d1, .slice none 0 0] 40 (0, 0))) := ⟨by have h := blk_set LR24_.out 1 (.slice (some ⟨g1, 0, none⟩) (P.length + 1) d1); rw [← hW]; simpa using h⟩
  have N034_ : Aside0 (Kd.R k32 32 Wf1 w.heap.size (fun _ => True) (.slice (some ⟨g0, 0, none⟩) (P.length + 1) d0) (ow 100 P P.length ++ [⟨200, 0⟩])) := ⟨by rw [← hW]; exact row_set N025_.out LR24_.out 1 (.slice (some ⟨g1, 0, none⟩) (P.length + 1) d1)⟩
  have N135_ : Aside0 (Kd.R k32 32 Wf1 w.heap.size (fun _ => True) (.slice (some ⟨g1, 0, none⟩) (P.length + 1) d1) (ow 101 P P.length ++ [⟨201, 0⟩])) := ⟨by rw [← hW]; exact row_set N128_.out LR24_.out 1 (.slice (some ⟨g1, 0, none⟩) (P.length + 1) d1)⟩
  have L36_ : Aside0 (Below w.heap.size w Wf1) := ⟨by rw [← hW]; exact L26_.out.setCell (p := ⟨lr, 1, none⟩) LGE.out (.slice (some ⟨g1, 0, none⟩) (P.length + 1) d1)⟩
  rw [hW]
  clear hW zA zL zF
  go_wp2_with fail
  rw [rounds_succ]
  have zA := blk_cell AR32_.out 2
  have zL := blk_cell LR33_.out 2
  have zF := blk_frozen LR33_.out 2
  go_upto_region 21 with ((with_reducible refine gate_builtin (b := .append) (xs := #[.tmp 122, .tmp 126]) rfl ?_); at_builtin; refine R_append_keepV k32 rfl (w0 := w) w.heap.size rfl (.tmp 122) (.tmp 126) 22 32 (.agg #[.int .i64 0, .int .i64 0]) 16 rfl Tryd.underlying22 info32 rfl (by decide) (by omega) A2 hL.length c2 (ow 102 hL hL.length) ⟨202, 0⟩ [.int .i64 202, .int .i64 0] rfl rfl (k32_mkM _ _ _ (⟨202, 0⟩ : S32)) V231_.out L36_.out L36_.out.size ?aL ?_; (case aL => rw [ow_len _ _ _ (Nat.le_refl _)]; have := HPL.out; have : hL.length = 1 := rfl; omega); intro v1 w9 ho hb hg hat hF; obtain ⟨g2, d2, en, _⟩ := Kd.R_form ho (by simp); subst en; rw [List.length_append, List.length_singleton, ow_len _ _ _ (Nat.le_refl _)] at ho ⊢; have V037_ := Aside0.mk (kept_other V029_.out hg AP_V2_V0.out); have V138_ := Aside0.mk (kept_other V130_.out hg AP_V2_V1.out); have AR39_ := Aside0.mk (blk_grown AR32_.out hg (Kd.R_ne V231_.out AR32_.out (by decide))); have LR40_ := Aside0.mk (blk_grown LR33_.out hg (Kd.R_ne V231_.out LR33_.out (by decide))); have N041_ := Aside0.mk (row_other rfl N034_.out hg AP_V2_N0.out); have N142_ := Aside0.mk (row_other rfl N135_.out hg AP_V2_N1.out); have L43_ := Aside0.mk hb; have V244_ := Aside0.mk hF; have N245_ := Aside0.mk ho; clear ho hb hg hat hF; have zL := blk_cell LR40_.out 2; have zF := blk_frozen LR40_.out 2)
  obtain ⟨Wf2, hW⟩ : ∃ W, w9.setCell ⟨lr, 2, none⟩ (.slice (some ⟨g2, 0, none⟩) (hL.length + 1) d2) = W := ⟨_, rfl⟩
  have V046_ : Aside0 (Kd.F k32 Wf2 (fun k => some k = (.slice A0 P.length c0 : Value).ownBlock) A0 P.length (ow 100 P P.length)) := ⟨by rw [← hW]; exact Kd.F_far (p := ⟨lr, 2, none⟩) V037_.out NL0.out (.slice (some ⟨g2, 0, none⟩) (hL.length + 1) d2)⟩
  have V147_ : Aside0 (Kd.F k32 Wf2 (fun k => some k = (.slice A1 P.length c1 : Value).ownBlock) A1 P.length (ow 101 P P.length)) := ⟨by rw [← hW]; exact Kd.F_far (p := ⟨lr, 2, none⟩) V138_.out NL1.out (.slice (some ⟨g2, 0, none⟩) (hL.length + 1) d2)⟩
  have V248_ : Aside0 (Kd.F k32 Wf2 (fun k => some k = (.slice A2 hL.length c2 : Value).ownBlock) A2 hL.length (ow 102 hL hL.length)) := ⟨by rw [← hW]; exact Kd.F_far (p := ⟨lr, 2, none⟩) V244_.out NL2.out (.slice (some ⟨g2, 0, none⟩) (hL.length + 1) d2)⟩
  have AR49_ : Aside0 (Wf2.heap[ar]? = some (.cells #[.slice A0 P.length c0, .slice A1 P.length c1, .slice A2 hL.length c2] 40 (0, 0))) := ⟨by rw [← hW]; exact (Below.heap_setCell w9 ⟨lr, 2, none⟩ (.slice (some ⟨g2, 0, none⟩) (hL.length + 1) d2) ar NAL.out).trans AR39_.out⟩
  have LR50_ : Aside0 (Wf2.heap[lr]? = some (.cells #[.slice (some ⟨g0, 0, none⟩) (P.length + 1) d0, .slice (some ⟨g1, 0, none⟩) (P.length + 1) d1, .slice (some ⟨g2, 0, none⟩) (hL.length + 1) d2] 40 (0, 0))) := ⟨by have h := blk_set LR40_.out 2 (.slice (some ⟨g2, 0, none⟩) (hL.length + 1) d2); rw [← hW]; simpa using h⟩
  have N051_ : Aside0 (Kd.R k32 32 Wf2 w.heap.size (fun _ => True) (.slice (some ⟨g0, 0, none⟩) (P.length + 1) d0) (ow 100 P P.length ++ [⟨200, 0⟩])) := ⟨by rw [← hW]; exact row_set N041_.out LR40_.out 2 (.slice (some ⟨g2, 0, none⟩) (hL.length + 1) d2)⟩
  have N152_ : Aside0 (Kd.R k32 32 Wf2 w.heap.size (fun _ => True) (.slice (some ⟨g1, 0, none⟩) (P.length + 1) d1) (ow 101 P P.length ++ [⟨201, 0⟩])) := ⟨by rw [← hW]; exact row_set N142_.out LR40_.out 2 (.slice (some ⟨g2, 0, none⟩) (hL.length + 1) d2)⟩
  have N253_ : Aside0 (Kd.R k32 32 Wf2 w.heap.size (fun _ => True) (.slice (some ⟨g2, 0, none⟩) (hL.length + 1) d2) (ow 102 hL hL.length ++ [⟨202, 0⟩])) := ⟨by rw [← hW]; exact row_set N245_.out LR40_.out 2 (.slice (some ⟨g2, 0, none⟩) (hL.length + 1) d2)⟩
  have L54_ : Aside0 (Below w.heap.size w Wf2) := ⟨by rw [← hW]; exact L43_.out.setCell (p := ⟨lr, 2, none⟩) LGE.out (.slice (some ⟨g2, 0, none⟩) (hL.length + 1) d2)⟩
  rw [hW]
  clear hW zA zL zF
  go_wp2_with fail
  rw [rounds_succ]
  go_upto_region 23 with fail
  exact apart_tail w P HPL A0 c0 A1 c1 A2 c2 ar lr g0 d0 g1 d1 g2 d2 Wf2 V046_ V147_ V248_ N051_ N152_ N253_ AR49_ LR50_ L54_ _ _ (by assumption) (by assumption) _ _ _ _ _ _ _ _ _ _ _ _ _ _ _ _ _ _ _ _ _ _ _ _ _ _ _ _ _ _ _ _ _ _ _ _ _ _ _ _ _ _ _ _ _ _ _ _ _ _ _ _ _ _ _ _ _ _ _ _ _ _ _ _ _ _ _ _ _ _ _ _ _ _ _ _ _ _ _ _ _ _ _ _ _ _ _ _ _ _ _ _ _ _ _ _ _ _ _ _ _ _ _ _ _ _ _ _ _ _ _ _ _ _ _ _ _ _ _ _ _ _ _ _ _ _ _ _ _ _ _ _ _ _ _ _ _ _ _ _ _ _ _ _ _ _ _ _ _ _ _ _ _ _ _ _ _ _ _ _ _ _ _ _ _ _ _ _ _ _ _ _ _ _ _ _ _ _
end Go.Proofs.YtoffhlbdfhhhjaaDoor.Fr
