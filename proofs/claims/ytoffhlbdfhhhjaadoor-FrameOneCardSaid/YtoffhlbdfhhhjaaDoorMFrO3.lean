/- The frame as Made wants it: whole, walked. The frame is a value. -/
import Derived.Test.YtoffhlbdfhhhjaaDoorMFrO2
namespace Go.Proofs.YtoffhlbdfhhhjaaDoor.Fr
open Go Go.RowKit Go.Proofs.YtoffhlbdfhhhjaaDoorW.PrintWords Go.Proofs.YtoffhlbdfhhhjaaDoorW.PrintLast Go.Proofs.YtoffhlbdfhhhjaaDoorW.PrintMore Go.Proofs.YtoffhlbdfhhhjaaDoor.QL
set_option linter.unusedSimpArgs false
set_option linter.unusedVariables false
set_option maxHeartbeats 40000000
set_option maxRecDepth 100000
theorem whole_calls (f : Fr) (A : Option Addr) (c : Nat) (w : World) (hw : 0 ≤ f.wt ∧ f.wt ≤ 256) :
    Calls Tryd.prog 26 #[.agg (f.cells A c)] w fun e w' => e = .returned (.agg ((wholeF f).cells A c)) ∧ Below w.heap.size w w' := by
  have HW := Aside0.mk hw
  have HB := Aside0.mk (Below.refl w.heap.size w)
  clear hw
  obtain ⟨m, hm⟩ : ∃ m, wholeF f = m := ⟨_, rfl⟩
  have HM := Aside0.mk hm
  clear hm
  unfold Fr.cells
  go_enter Tryd.func26, Tryd.ntmps26
  go_upto_region 1 with fail
  obtain ⟨W0, hW0⟩ : ∃ W, (w.alloc (.cells #[.int .i64 f.ty, .int .i64 f.fl, .int .i64 f.st, .string f.da, .int .i64 f.pad, .int .i64 f.dep, .bool f.ex, .int .i64 f.wt, .int .i64 f.co, .int .i64 f.la, .slice A f.ps.length c] 24)).alloc (.cells #[.int .i64 0, .int .i64 0, .int .i64 0, .string ⟨#[]⟩, .int .i64 0, .int .i64 0, .bool false, .int .i64 0, .int .i64 0, .int .i64 0, .slice none 0 0] 24) = W := ⟨_, rfl⟩
  have X1 : Aside0 (At W0 w.heap.size f A c) := ⟨by rw [← hW0]; exact heap_alloc2_old _ _ _⟩
  have X2 : Aside0 (At W0 (w.heap.size + 1) Fr.zero none 0) := ⟨by rw [← hW0]; exact heap_alloc2_new _ _ _⟩
  have L0 : Aside0 (Below w.heap.size w W0) := ⟨by rw [← hW0]; exact below_alloc (below_alloc HB.out _) _⟩
  obtain ⟨g1, hg1⟩ : ∃ g, w.heap.size = g := ⟨_, rfl⟩
  obtain ⟨g2, hg2⟩ : ∃ g, g1 + 1 = g := ⟨_, rfl⟩
  rw [hW0, hg1, hg2]
  rw [hg1] at X1 X2
  rw [hg2] at X2
  have HG1 := Aside0.mk hg1
  have HG2 := Aside0.mk hg2
  clear hW0 hg1 hg2
  go_upto_region 2 with (refine wpList_load_row rfl 24 _ rfl g1 rfl 24 (f.cells A c) (0, 0) _ X1.out Tryd.underlying24 (by rfl) (by kernel_rfl) ?_; unfold Fr.cells)
  obtain ⟨W1, hW⟩ : ∃ W, W0.alloc (.cells #[.int .i64 f.ty, .int .i64 f.fl, .int .i64 f.st, .string f.da, .int .i64 f.pad, .int .i64 f.dep, .bool f.ex, .int .i64 f.wt, .int .i64 f.co, .int .i64 f.la, .slice A f.ps.length c] 24) = W := ⟨_, rfl⟩
  obtain ⟨g3, hg3⟩ : ∃ g, W0.heap.size = g := ⟨_, rfl⟩
  have T1 : Aside0 (TInv W0 W1 g3 f A c) := ⟨by rw [← hW, ← hg3]; exact ⟨blk_new W0 _, below_alloc (Below.refl _ _) _, Nat.le_refl _⟩⟩
  rw [hW, hg3]
  clear hW hg3
  have z0 := (X1.out.low T1.out.low).c0
  have y6 := T1.out.own.c6
  have yf6 := blk_frozen T1.out.own 6
  go_upto_region 3 with fail
  clear z0 y6 yf6
  obtain ⟨W2, hW⟩ : ∃ W, W1.setCell ⟨g3, 6, none⟩ (.bool (decide (f.ty < 10))) = W := ⟨_, rfl⟩
  have T2 : Aside0 (TInv W0 W2 g3 _ A c) := ⟨by rw [← hW]; exact T1.out.put6 (decide (f.ty < 10))⟩
  rw [hW]
  clear hW T1
  have z7 := (X1.out.low T2.out.low).c7
  by_cases h0 : 0 < f.wt
  · have d0 : decide (0 < f.wt) = true := decide_eq_true h0
    have hw1 : wrap64 (f.wt - 1) = f.wt - 1 := by have := HW.out; unfold wrap64; omega
    have hw2 : wrap64 (f.wt - 1 + 256) = f.wt - 1 + 256 := by have := HW.out; unfold wrap64; omega
    have H0 := Aside0.mk h0
    clear h0
    have y7 := T2.out.own.c7
    have yf7 := blk_frozen T2.out.own 7
    go_upto_region 5 with fail
    clear y7 yf7 z7
    obtain ⟨W3, hW⟩ : ∃ W, W2.setCell ⟨g3, 7, none⟩ (.int .i64 (f.wt - 1)) = W := ⟨_, rfl⟩
    have T3 : Aside0 (TInv W0 W3 g3 _ A c) := ⟨by rw [← hW]; exact T2.out.put7 (f.wt - 1)⟩
    rw [hW]
    clear hW T2
    have z6 := (X1.out.low T3.out.low).c6
    obtain ⟨x, hx⟩ : ∃ x, f.ex = x := ⟨_, rfl⟩
    have HX := Aside0.mk hx
    rw [hx] at z6
    clear hx
    cases x
    · have T : Aside0 (TInv W0 W3 g3 m A c) := ⟨by have e : m = { f with ex := decide (f.ty < 10), wt := f.wt - 1 } := by rw [← HM.out]; unfold wholeF; rw [if_pos H0.out, if_neg (by rw [HX.out]; decide)]
                                                   rw [e]; exact T3.out⟩
      clear T3
      have Y2 := Aside0.mk (X2.out.low T.out.low)
      have LL := Aside0.mk (below_then L0.out L0.out.size T.out.low)
      go_wp2_with (first | (refine wpList_load_row rfl 24 _ rfl g3 rfl 24 (m.cells A c) (0, 0) _ T.out.own Tryd.underlying24 (by rfl) (by kernel_rfl) ?_) | (refine wpList_store_row rfl 24 _ _ rfl g2 (m.cells A c) rfl rfl 24 _ Y2.out (by kernel_rfl) (by kernel_rfl) (by kernel_rfl) ?_; obtain ⟨W8, e8, q4, qo, qb⟩ := row_store _ g2 (m.cells A c) 24 _ Y2.out; rw [e8]; have Q2 := Aside0.mk q4; have QL := Aside0.mk (qb _ _ LL.out (by have := HG1.out; have := HG2.out; omega)); clear q4 qo qb e8))
      exact bodyPost_ret (results_cell_row (fn := Tryd.f26) rfl _ _ g2 24 (m.cells A c) (0, 0) _ rfl Q2.out Tryd.underlying24 (by rfl) (by kernel_rfl)) rfl ⟨by rw [HM.out]; rfl, QL.out⟩
    · have y7 := T3.out.own.c7
      have yf7 := blk_frozen T3.out.own 7
      go_upto_region 7 with fail
      clear y7 yf7 z6
      obtain ⟨W4, hW⟩ : ∃ W, W3.setCell ⟨g3, 7, none⟩ (.int .i64 (f.wt - 1 + 256)) = W := ⟨_, rfl⟩
      have T4 : Aside0 (TInv W0 W4 g3 _ A c) := ⟨by rw [← hW]; exact T3.out.put7 (f.wt - 1 + 256)⟩
      rw [hW]
      clear hW T3
      have T : Aside0 (TInv W0 W4 g3 m A c) := ⟨by have e : m = { f with ex := decide (f.ty < 10), wt := f.wt - 1 + 256 } := by rw [← HM.out]; unfold wholeF; rw [if_pos H0.out, if_pos HX.out]
                                                   rw [e]; exact T4.out⟩
      clear T4
      have Y2 := Aside0.mk (X2.out.low T.out.low)
      have LL := Aside0.mk (below_then L0.out L0.out.size T.out.low)
      go_wp2_with (first | (refine wpList_load_row rfl 24 _ rfl g3 rfl 24 (m.cells A c) (0, 0) _ T.out.own Tryd.underlying24 (by rfl) (by kernel_rfl) ?_) | (refine wpList_store_row rfl 24 _ _ rfl g2 (m.cells A c) rfl rfl 24 _ Y2.out (by kernel_rfl) (by kernel_rfl) (by kernel_rfl) ?_; obtain ⟨W8, e8, q4, qo, qb⟩ := row_store _ g2 (m.cells A c) 24 _ Y2.out; rw [e8]; have Q2 := Aside0.mk q4; have QL := Aside0.mk (qb _ _ LL.out (by have := HG1.out; have := HG2.out; omega)); clear q4 qo qb e8))
      exact bodyPost_ret (results_cell_row (fn := Tryd.f26) rfl _ _ g2 24 (m.cells A c) (0, 0) _ rfl Q2.out Tryd.underlying24 (by rfl) (by kernel_rfl)) rfl ⟨by rw [HM.out]; rfl, QL.out⟩
  · have d0 : decide (0 < f.wt) = false := decide_eq_false h0
    have T : Aside0 (TInv W0 W2 g3 m A c) := ⟨by have e : m = { f with ex := decide (f.ty < 10) } := by rw [← HM.out]; unfold wholeF; rw [if_neg h0]
                                                 rw [e]; exact T2.out⟩
    clear T2 h0
    go_upto_region 7 with fail
    clear z7 d0
    have Y2 := Aside0.mk (X2.out.low T.out.low)
    have LL := Aside0.mk (below_then L0.out L0.out.size T.out.low)
    go_wp2_with (first | (refine wpList_load_row rfl 24 _ rfl g3 rfl 24 (m.cells A c) (0, 0) _ T.out.own Tryd.underlying24 (by rfl) (by kernel_rfl) ?_) | (refine wpList_store_row rfl 24 _ _ rfl g2 (m.cells A c) rfl rfl 24 _ Y2.out (by kernel_rfl) (by kernel_rfl) (by kernel_rfl) ?_; obtain ⟨W8, e8, q4, qo, qb⟩ := row_store _ g2 (m.cells A c) 24 _ Y2.out; rw [e8]; have Q2 := Aside0.mk q4; have QL := Aside0.mk (qb _ _ LL.out (by have := HG1.out; have := HG2.out; omega)); clear q4 qo qb e8))
    exact bodyPost_ret (results_cell_row (fn := Tryd.f26) rfl _ _ g2 24 (m.cells A c) (0, 0) _ rfl Q2.out Tryd.underlying24 (by rfl) (by kernel_rfl)) rfl ⟨by rw [HM.out]; rfl, QL.out⟩
end Go.Proofs.YtoffhlbdfhhhjaaDoor.Fr
