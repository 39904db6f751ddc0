/- The document's answer for settings, by hand: one param applied. The package's variable 'top' holds what the program lays; the param is valid. -/
import Derived.Test.YtcjphkgmcfpfeaaDoorMRefA
import Derived.StillTailTactics
import Derived.BigQuiet
namespace Go.Proofs.YtcjphkgmcfpfeaaDoor.MS
open Go Go.RowKit Go.Proofs.YtcjphkgmcfpfeaaDoorW.PrintWords Go.Proofs.YtcjphkgmcfpfeaaDoorW.PrintLast Go.Proofs.YtcjphkgmcfpfeaaDoorW.PrintMore Go.Proofs.YtcjphkgmcfpfeaaDoor.QL
set_option linter.unusedSimpArgs false
set_option linter.unusedVariables false
set_option maxHeartbeats 40000000
set_option maxRecDepth 100000
/-- The document's variable 'top' holds what the program lays. -/
def GT (w : World) : Prop := w.cell? ⟨0, 0, none⟩ = some (.int .i64 2147483647) ∧ w.cell? ⟨0, 1, none⟩ = some (.int .i64 1) ∧ w.cell? ⟨0, 2, none⟩ = some (.int .i64 2147483647) ∧ w.cell? ⟨0, 3, none⟩ = some (.int .i64 2147483647) ∧ w.cell? ⟨0, 4, none⟩ = some (.int .i64 65536) ∧ w.cell? ⟨0, 5, none⟩ = some (.int .i64 2147483647)
theorem GT.below {w w1 : World} (h : GT w) (hb : Below w.heap.size w w1) : GT w1 := by
  obtain ⟨h0, h1, h2, h3, h4, h5⟩ := h
  exact ⟨pw_cell_below hb h0, pw_cell_below hb h1, pw_cell_below hb h2, pw_cell_below hb h3, pw_cell_below hb h4, pw_cell_below hb h5⟩
theorem set_raw (x0 x1 x2 x3 x4 x5 : Int) (w : World) : Calls Tryd.prog 40 #[.agg #[.int .i64 x0, .int .i64 x1, .int .i64 x2, .int .i64 x3, .int .i64 x4, .int .i64 x5]] w fun e w' => e = .returned (.agg #[.int .i64 x0, .int .i64 x1, .int .i64 x2, .int .i64 x3, .int .i64 x4, .int .i64 x5]) ∧ Below w.heap.size w w' := set_calls ⟨x0, x1, x2, x3, x4, x5⟩ w
theorem one_1_fine (s : St) (v : Int) (hv : v ≤ 2147483647) (w : World) (hT : GT w) : Calls Tryd.prog 38 #[.agg #[.int .i64 s.a, .int .i64 s.b, .int .i64 s.c, .int .i64 s.d, .int .i64 s.e, .int .i64 s.f], .agg #[.int .i64 1, .int .i64 v]] w fun e w' => e = .returned (.agg #[.int .i64 v, .int .i64 s.b, .int .i64 s.c, .int .i64 s.d, .int .i64 s.e, .int .i64 s.f]) ∧ Below w.heap.size w w' := by
  have HB := Aside0.mk (Below.refl w.heap.size w)
  have hd : decide (2147483647 < v) = false := decide_eq_false (by omega)
  clear hv
  have HT := Aside0.mk hT
  clear hT
  go_enter Tryd.func38, Tryd.ntmps38
  go_upto_region 1 with fail
  obtain ⟨Ws, hWs⟩ : ∃ W, ((w.alloc (.cells #[.int .i64 s.a, .int .i64 s.b, .int .i64 s.c, .int .i64 s.d, .int .i64 s.e, .int .i64 s.f] 23)).alloc (.cells #[.int .i64 1, .int .i64 v] 28)).alloc (.cells #[.int .i64 0, .int .i64 0, .int .i64 0, .int .i64 0, .int .i64 0, .int .i64 0] 23) = W := ⟨_, rfl⟩
  have B2 : Aside0 (Ws.heap[w.heap.size]? = some (.cells #[.int .i64 s.a, .int .i64 s.b, .int .i64 s.c, .int .i64 s.d, .int .i64 s.e, .int .i64 s.f] 23 (0, 0))) := ⟨by rw [← hWs]; exact blk_alloc (blk_alloc (blk_new w _) _) _⟩
  have B3 : Aside0 (Ws.heap[w.heap.size + 1]? = some (.cells #[.int .i64 1, .int .i64 v] 28 (0, 0))) := ⟨by
    rw [← hWs]
    have h := blk_new (w.alloc (.cells #[.int .i64 s.a, .int .i64 s.b, .int .i64 s.c, .int .i64 s.d, .int .i64 s.e, .int .i64 s.f] 23)) (.cells #[.int .i64 1, .int .i64 v] 28)
    rw [World.size_alloc] at h
    exact blk_alloc h _⟩
  have B4 : Aside0 (Ws.heap[w.heap.size + 2]? = some (.cells #[.int .i64 0, .int .i64 0, .int .i64 0, .int .i64 0, .int .i64 0, .int .i64 0] 23 (0, 0))) := ⟨by
    rw [← hWs]
    have h := blk_new ((w.alloc (.cells #[.int .i64 s.a, .int .i64 s.b, .int .i64 s.c, .int .i64 s.d, .int .i64 s.e, .int .i64 s.f] 23)).alloc (.cells #[.int .i64 1, .int .i64 v] 28)) (.cells #[.int .i64 0, .int .i64 0, .int .i64 0, .int .i64 0, .int .i64 0, .int .i64 0] 23)
    rwa [World.size_alloc, World.size_alloc] at h⟩
  have LS : Aside0 (Below w.heap.size w Ws) := ⟨by rw [← hWs]; exact below_alloc (below_alloc (below_alloc HB.out _) _) _⟩
  rw [hWs]
  clear hWs
  have z0 : Ws.cell? ⟨w.heap.size, 0, none⟩ = some (.int .i64 s.a) := blk_cell B2.out 0
  have z1 : Ws.cell? ⟨w.heap.size, 1, none⟩ = some (.int .i64 s.b) := blk_cell B2.out 1
  have z2 : Ws.cell? ⟨w.heap.size, 2, none⟩ = some (.int .i64 s.c) := blk_cell B2.out 2
  have z3 : Ws.cell? ⟨w.heap.size, 3, none⟩ = some (.int .i64 s.d) := blk_cell B2.out 3
  have z4 : Ws.cell? ⟨w.heap.size, 4, none⟩ = some (.int .i64 s.e) := blk_cell B2.out 4
  have z5 : Ws.cell? ⟨w.heap.size, 5, none⟩ = some (.int .i64 s.f) := blk_cell B2.out 5
  go_upto_region 2 with (first
    | (go_at_call 39; refine (six_calls s _).mono ?_; rintro e w6 ⟨rfl, hb⟩; have HB6 := Aside0.mk hb; clear hb))
  clear z0 z1 z2 z3 z4 z5
  obtain ⟨W5, hW5⟩ : ∃ W, w6.alloc (.cells #[.int .i64 s.a, .int .i64 s.b, .int .i64 s.c, .int .i64 s.d, .int .i64 s.e, .int .i64 s.f] 66) = W := ⟨_, rfl⟩
  obtain ⟨b5, hb5⟩ : ∃ x, w6.heap.size = x := ⟨_, rfl⟩
  have X5 : Aside0 (Below Ws.heap.size Ws W5) := ⟨by rw [← hW5]; exact below_alloc HB6.out _⟩
  have B5 : Aside0 (W5.heap[b5]? = some (.cells #[.int .i64 s.a, .int .i64 s.b, .int .i64 s.c, .int .i64 s.d, .int .i64 s.e, .int .i64 s.f] 66 (0, 0))) := ⟨by rw [← hW5, ← hb5]; exact blk_new w6 _⟩
  have NE : Aside0 (w.heap.size + 2 ≠ b5) := ⟨by have := blk_lt B4.out; have := HB6.out.size; omega⟩
  have GE5 : Aside0 (w.heap.size ≤ b5) := ⟨by have := blk_lt B2.out; have := HB6.out.size; omega⟩
  rw [hW5, hb5]
  clear hW5 hb5 HB6
  have L5 := Aside0.mk (below_then LS.out LS.out.size X5.out)
  have hg := HT.out.below L5.out
  obtain ⟨g0, g1, g2, g3, g4, g5⟩ := hg
  have B35 := Aside0.mk (blk_below B3.out X5.out)
  have B45 := Aside0.mk (blk_below B4.out X5.out)
  have p0 : W5.cell? ⟨w.heap.size + 1, 0, none⟩ = some (.int .i64 1) := blk_cell B35.out 0
  have p1 : W5.cell? ⟨w.heap.size + 1, 1, none⟩ = some (.int .i64 v) := blk_cell B35.out 1
  have x0 : W5.cell? ⟨b5, 0, none⟩ = some (.int .i64 s.a) := blk_cell B5.out 0
  have x1 : W5.cell? ⟨b5, 1, none⟩ = some (.int .i64 s.b) := blk_cell B5.out 1
  have x2 : W5.cell? ⟨b5, 2, none⟩ = some (.int .i64 s.c) := blk_cell B5.out 2
  have x3 : W5.cell? ⟨b5, 3, none⟩ = some (.int .i64 s.d) := blk_cell B5.out 3
  have x4 : W5.cell? ⟨b5, 4, none⟩ = some (.int .i64 s.e) := blk_cell B5.out 4
  have x5 : W5.cell? ⟨b5, 5, none⟩ = some (.int .i64 s.f) := blk_cell B5.out 5
  have xf0 : W5.frozen? ⟨b5, 0, none⟩ = false := blk_frozen B5.out 0
  have xf1 : W5.frozen? ⟨b5, 1, none⟩ = false := blk_frozen B5.out 1
  have xf2 : W5.frozen? ⟨b5, 2, none⟩ = false := blk_frozen B5.out 2
  have xf3 : W5.frozen? ⟨b5, 3, none⟩ = false := blk_frozen B5.out 3
  have xf4 : W5.frozen? ⟨b5, 4, none⟩ = false := blk_frozen B5.out 4
  have xf5 : W5.frozen? ⟨b5, 5, none⟩ = false := blk_frozen B5.out 5
  have ne1 : b5 ≠ w.heap.size + 1 := by have := blk_lt B35.out; intro h; have := blk_ne B5.out B35.out (by decide); exact this h
  have ne0 : b5 ≠ 0 := fun h => by have h1 := World.block_lt_of_cell? w _ HT.out.1; have := GE5.out; simp at h1; omega
  go_upto_region 4 with fail
  go_quiet (fail)
  generalize hW9 : (World.setCell W5 ⟨b5, 0, none⟩ (.int .i64 v)).drewN nq = W9
  have B9 : Aside0 (W9.heap[b5]? = some (.cells #[.int .i64 v, .int .i64 s.b, .int .i64 s.c, .int .i64 s.d, .int .i64 s.e, .int .i64 s.f] 66 (0, 0))) := ⟨by rw [← hW9]; simpa using blk_set B5.out 0 (.int .i64 v)⟩
  have B39 : Aside0 (W9.heap[w.heap.size + 1]? = some (.cells #[.int .i64 1, .int .i64 v] 28 (0, 0))) := ⟨by rw [← hW9]; exact blk_far (p := ⟨b5, 0, none⟩) B35.out (fun h => ne1 h.symm) _⟩
  have B49 : Aside0 (W9.heap[w.heap.size + 1 + 1]? = some (.cells #[.int .i64 0, .int .i64 0, .int .i64 0, .int .i64 0, .int .i64 0, .int .i64 0] 23 (0, 0))) := ⟨by rw [← hW9]; exact blk_far (p := ⟨b5, 0, none⟩) B45.out NE.out _⟩
  have L9 : Aside0 (Below w.heap.size w W9) := ⟨by rw [← hW9]; exact pw_below_drewN (L5.out.setCell (p := ⟨b5, 0, none⟩) GE5.out _) _⟩
  clear hW9 x0 xf0 x1 xf1 x2 xf2 x3 xf3 x4 xf4 x5 xf5 g0 g1 g2 g3 g4 g5 p0 p1
  have x0 : W9.cell? ⟨b5, 0, none⟩ = some (.int .i64 v) := blk_cell B9.out 0
  have x1 : W9.cell? ⟨b5, 1, none⟩ = some (.int .i64 s.b) := blk_cell B9.out 1
  have x2 : W9.cell? ⟨b5, 2, none⟩ = some (.int .i64 s.c) := blk_cell B9.out 2
  have x3 : W9.cell? ⟨b5, 3, none⟩ = some (.int .i64 s.d) := blk_cell B9.out 3
  have x4 : W9.cell? ⟨b5, 4, none⟩ = some (.int .i64 s.e) := blk_cell B9.out 4
  have x5 : W9.cell? ⟨b5, 5, none⟩ = some (.int .i64 s.f) := blk_cell B9.out 5
  go_wp2_with (first
    | (go_at_call 40; (with_reducible refine (set_raw _ _ _ _ _ _ _).mono ?_); rintro e w7 ⟨rfl, hb⟩; have H47 := Aside0.mk (blk_below B49.out hb); have LL := Aside0.mk (below_then L9.out L9.out.size hb); clear hb; have z0 : w7.cell? ⟨w.heap.size + 1 + 1, 0, none⟩ = some (.int .i64 0) := blk_cell H47.out 0; have z1 : w7.cell? ⟨w.heap.size + 1 + 1, 1, none⟩ = some (.int .i64 0) := blk_cell H47.out 1; have z2 : w7.cell? ⟨w.heap.size + 1 + 1, 2, none⟩ = some (.int .i64 0) := blk_cell H47.out 2; have z3 : w7.cell? ⟨w.heap.size + 1 + 1, 3, none⟩ = some (.int .i64 0) := blk_cell H47.out 3; have z4 : w7.cell? ⟨w.heap.size + 1 + 1, 4, none⟩ = some (.int .i64 0) := blk_cell H47.out 4; have z5 : w7.cell? ⟨w.heap.size + 1 + 1, 5, none⟩ = some (.int .i64 0) := blk_cell H47.out 5; have zf0 : w7.frozen? ⟨w.heap.size + 1 + 1, 0, none⟩ = false := blk_frozen H47.out 0; have zf1 : w7.frozen? ⟨w.heap.size + 1 + 1, 1, none⟩ = false := blk_frozen H47.out 1; have zf2 : w7.frozen? ⟨w.heap.size + 1 + 1, 2, none⟩ = false := blk_frozen H47.out 2; have zf3 : w7.frozen? ⟨w.heap.size + 1 + 1, 3, none⟩ = false := blk_frozen H47.out 3; have zf4 : w7.frozen? ⟨w.heap.size + 1 + 1, 4, none⟩ = false := blk_frozen H47.out 4; have zf5 : w7.frozen? ⟨w.heap.size + 1 + 1, 5, none⟩ = false := blk_frozen H47.out 5))
  refine bodyPost_ret (v := .agg #[.int .i64 v, .int .i64 s.b, .int .i64 s.c, .int .i64 s.d, .int .i64 s.e, .int .i64 s.f]) (by simp [results, Tryd.results38, go_sem, *]) rfl ⟨rfl, ?_⟩
  exact ((((((LL.out.setCell (p := ⟨w.heap.size + 1 + 1, 0, none⟩) (by show w.heap.size ≤ w.heap.size + 1 + 1; omega) _).setCell (p := ⟨w.heap.size + 1 + 1, 1, none⟩) (by show w.heap.size ≤ w.heap.size + 1 + 1; omega) _).setCell (p := ⟨w.heap.size + 1 + 1, 2, none⟩) (by show w.heap.size ≤ w.heap.size + 1 + 1; omega) _).setCell (p := ⟨w.heap.size + 1 + 1, 3, none⟩) (by show w.heap.size ≤ w.heap.size + 1 + 1; omega) _).setCell (p := ⟨w.heap.size + 1 + 1, 4, none⟩) (by show w.heap.size ≤ w.heap.size + 1 + 1; omega) _).setCell (p := ⟨w.heap.size + 1 + 1, 5, none⟩) (by show w.heap.size ≤ w.heap.size + 1 + 1; omega) _)
theorem one_2_fine (s : St) (v : Int) (hv : v ≤ 1) (w : World) (hT : GT w) : Calls Tryd.prog 38 #[.agg #[.int .i64 s.a, .int .i64 s.b, .int .i64 s.c, .int .i64 s.d, .int .i64 s.e, .int .i64 s.f], .agg #[.int .i64 2, .int .i64 v]] w fun e w' => e = .returned (.agg #[.int .i64 s.a, .int .i64 v, .int .i64 s.c, .int .i64 s.d, .int .i64 s.e, .int .i64 s.f]) ∧ Below w.heap.size w w' := by
  have HB := Aside0.mk (Below.refl w.heap.size w)
  have hd : decide (1 < v) = false := decide_eq_false (by omega)
  clear hv
  have HT := Aside0.mk hT
  clear hT
  go_enter Tryd.func38, Tryd.ntmps38
  go_upto_region 1 with fail
  obtain ⟨Ws, hWs⟩ : ∃ W, ((w.alloc (.cells #[.int .i64 s.a, .int .i64 s.b, .int .i64 s.c, .int .i64 s.d, .int .i64 s.e, .int .i64 s.f] 23)).alloc (.cells #[.int .i64 2, .int .i64 v] 28)).alloc (.cells #[.int .i64 0, .int .i64 0, .int .i64 0, .int .i64 0, .int .i64 0, .int .i64 0] 23) = W := ⟨_, rfl⟩
  have B2 : Aside0 (Ws.heap[w.heap.size]? = some (.cells #[.int .i64 s.a, .int .i64 s.b, .int .i64 s.c, .int .i64 s.d, .int .i64 s.e, .int .i64 s.f] 23 (0, 0))) := ⟨by rw [← hWs]; exact blk_alloc (blk_alloc (blk_new w _) _) _⟩
  have B3 : Aside0 (Ws.heap[w.heap.size + 1]? = some (.cells #[.int .i64 2, .int .i64 v] 28 (0, 0))) := ⟨by
    rw [← hWs]
    have h := blk_new (w.alloc (.cells #[.int .i64 s.a, .int .i64 s.b, .int .i64 s.c, .int .i64 s.d, .int .i64 s.e, .int .i64 s.f] 23)) (.cells #[.int .i64 2, .int .i64 v] 28)
    rw [World.size_alloc] at h
    exact blk_alloc h _⟩
  have B4 : Aside0 (Ws.heap[w.heap.size + 2]? = some (.cells #[.int .i64 0, .int .i64 0, .int .i64 0, .int .i64 0, .int .i64 0, .int .i64 0] 23 (0, 0))) := ⟨by
    rw [← hWs]
    have h := blk_new ((w.alloc (.cells #[.int .i64 s.a, .int .i64 s.b, .int .i64 s.c, .int .i64 s.d, .int .i64 s.e, .int .i64 s.f] 23)).alloc (.cells #[.int .i64 2, .int .i64 v] 28)) (.cells #[.int .i64 0, .int .i64 0, .int .i64 0, .int .i64 0, .int .i64 0, .int .i64 0] 23)
    rwa [World.size_alloc, World.size_alloc] at h⟩
  have LS : Aside0 (Below w.heap.size w Ws) := ⟨by rw [← hWs]; exact below_alloc (below_alloc (below_alloc HB.out _) _) _⟩
  rw [hWs]
  clear hWs
  have z0 : Ws.cell? ⟨w.heap.size, 0, none⟩ = some (.int .i64 s.a) := blk_cell B2.out 0
  have z1 : Ws.cell? ⟨w.heap.size, 1, none⟩ = some (.int .i64 s.b) := blk_cell B2.out 1
  have z2 : Ws.cell? ⟨w.heap.size, 2, none⟩ = some (.int .i64 s.c) := blk_cell B2.out 2
  have z3 : Ws.cell? ⟨w.heap.size, 3, none⟩ = some (.int .i64 s.d) := blk_cell B2.out 3
  have z4 : Ws.cell? ⟨w.heap.size, 4, none⟩ = some (.int .i64 s.e) := blk_cell B2.out 4
  have z5 : Ws.cell? ⟨w.heap.size, 5, none⟩ = some (.int .i64 s.f) := blk_cell B2.out 5
  go_upto_region 2 with (first
    | (go_at_call 39; refine (six_calls s _).mono ?_; rintro e w6 ⟨rfl, hb⟩; have HB6 := Aside0.mk hb; clear hb))
  clear z0 z1 z2 z3 z4 z5
  obtain ⟨W5, hW5⟩ : ∃ W, w6.alloc (.cells #[.int .i64 s.a, .int .i64 s.b, .int .i64 s.c, .int .i64 s.d, .int .i64 s.e, .int .i64 s.f] 66) = W := ⟨_, rfl⟩
  obtain ⟨b5, hb5⟩ : ∃ x, w6.heap.size = x := ⟨_, rfl⟩
  have X5 : Aside0 (Below Ws.heap.size Ws W5) := ⟨by rw [← hW5]; exact below_alloc HB6.out _⟩
  have B5 : Aside0 (W5.heap[b5]? = some (.cells #[.int .i64 s.a, .int .i64 s.b, .int .i64 s.c, .int .i64 s.d, .int .i64 s.e, .int .i64 s.f] 66 (0, 0))) := ⟨by rw [← hW5, ← hb5]; exact blk_new w6 _⟩
  have NE : Aside0 (w.heap.size + 2 ≠ b5) := ⟨by have := blk_lt B4.out; have := HB6.out.size; omega⟩
  have GE5 : Aside0 (w.heap.size ≤ b5) := ⟨by have := blk_lt B2.out; have := HB6.out.size; omega⟩
  rw [hW5, hb5]
  clear hW5 hb5 HB6
  have L5 := Aside0.mk (below_then LS.out LS.out.size X5.out)
  have hg := HT.out.below L5.out
  obtain ⟨g0, g1, g2, g3, g4, g5⟩ := hg
  have B35 := Aside0.mk (blk_below B3.out X5.out)
  have B45 := Aside0.mk (blk_below B4.out X5.out)
  have p0 : W5.cell? ⟨w.heap.size + 1, 0, none⟩ = some (.int .i64 2) := blk_cell B35.out 0
  have p1 : W5.cell? ⟨w.heap.size + 1, 1, none⟩ = some (.int .i64 v) := blk_cell B35.out 1
  have x0 : W5.cell? ⟨b5, 0, none⟩ = some (.int .i64 s.a) := blk_cell B5.out 0
  have x1 : W5.cell? ⟨b5, 1, none⟩ = some (.int .i64 s.b) := blk_cell B5.out 1
  have x2 : W5.cell? ⟨b5, 2, none⟩ = some (.int .i64 s.c) := blk_cell B5.out 2
  have x3 : W5.cell? ⟨b5, 3, none⟩ = some (.int .i64 s.d) := blk_cell B5.out 3
  have x4 : W5.cell? ⟨b5, 4, none⟩ = some (.int .i64 s.e) := blk_cell B5.out 4
  have x5 : W5.cell? ⟨b5, 5, none⟩ = some (.int .i64 s.f) := blk_cell B5.out 5
  have xf0 : W5.frozen? ⟨b5, 0, none⟩ = false := blk_frozen B5.out 0
  have xf1 : W5.frozen? ⟨b5, 1, none⟩ = false := blk_frozen B5.out 1
  have xf2 : W5.frozen? ⟨b5, 2, none⟩ = false := blk_frozen B5.out 2
  have xf3 : W5.frozen? ⟨b5, 3, none⟩ = false := blk_frozen B5.out 3
  have xf4 : W5.frozen? ⟨b5, 4, none⟩ = false := blk_frozen B5.out 4
  have xf5 : W5.frozen? ⟨b5, 5, none⟩ = false := blk_frozen B5.out 5
  have ne1 : b5 ≠ w.heap.size + 1 := by have := blk_lt B35.out; intro h; have := blk_ne B5.out B35.out (by decide); exact this h
  have ne0 : b5 ≠ 0 := fun h => by have h1 := World.block_lt_of_cell? w _ HT.out.1; have := GE5.out; simp at h1; omega
  go_upto_region 4 with fail
  go_quiet (fail)
  generalize hW9 : (World.setCell W5 ⟨b5, 1, none⟩ (.int .i64 v)).drewN nq = W9
  have B9 : Aside0 (W9.heap[b5]? = some (.cells #[.int .i64 s.a, .int .i64 v, .int .i64 s.c, .int .i64 s.d, .int .i64 s.e, .int .i64 s.f] 66 (0, 0))) := ⟨by rw [← hW9]; simpa using blk_set B5.out 1 (.int .i64 v)⟩
  have B39 : Aside0 (W9.heap[w.heap.size + 1]? = some (.cells #[.int .i64 2, .int .i64 v] 28 (0, 0))) := ⟨by rw [← hW9]; exact blk_far (p := ⟨b5, 1, none⟩) B35.out (fun h => ne1 h.symm) _⟩
  have B49 : Aside0 (W9.heap[w.heap.size + 1 + 1]? = some (.cells #[.int .i64 0, .int .i64 0, .int .i64 0, .int .i64 0, .int .i64 0, .int .i64 0] 23 (0, 0))) := ⟨by rw [← hW9]; exact blk_far (p := ⟨b5, 1, none⟩) B45.out NE.out _⟩
  have L9 : Aside0 (Below w.heap.size w W9) := ⟨by rw [← hW9]; exact pw_below_drewN (L5.out.setCell (p := ⟨b5, 1, none⟩) GE5.out _) _⟩
  clear hW9 x0 xf0 x1 xf1 x2 xf2 x3 xf3 x4 xf4 x5 xf5 g0 g1 g2 g3 g4 g5 p0 p1
  have x0 : W9.cell? ⟨b5, 0, none⟩ = some (.int .i64 s.a) := blk_cell B9.out 0
  have x1 : W9.cell? ⟨b5, 1, none⟩ = some (.int .i64 v) := blk_cell B9.out 1
  have x2 : W9.cell? ⟨b5, 2, none⟩ = some (.int .i64 s.c) := blk_cell B9.out 2
  have x3 : W9.cell? ⟨b5, 3, none⟩ = some (.int .i64 s.d) := blk_cell B9.out 3
  have x4 : W9.cell? ⟨b5, 4, none⟩ = some (.int .i64 s.e) := blk_cell B9.out 4
  have x5 : W9.cell? ⟨b5, 5, none⟩ = some (.int .i64 s.f) := blk_cell B9.out 5
  go_wp2_with (first
    | (go_at_call 40; (with_reducible refine (set_raw _ _ _ _ _ _ _).mono ?_); rintro e w7 ⟨rfl, hb⟩; have H47 := Aside0.mk (blk_below B49.out hb); have LL := Aside0.mk (below_then L9.out L9.out.size hb); clear hb; have z0 : w7.cell? ⟨w.heap.size + 1 + 1, 0, none⟩ = some (.int .i64 0) := blk_cell H47.out 0; have z1 : w7.cell? ⟨w.heap.size + 1 + 1, 1, none⟩ = some (.int .i64 0) := blk_cell H47.out 1; have z2 : w7.cell? ⟨w.heap.size + 1 + 1, 2, none⟩ = some (.int .i64 0) := blk_cell H47.out 2; have z3 : w7.cell? ⟨w.heap.size + 1 + 1, 3, none⟩ = some (.int .i64 0) := blk_cell H47.out 3; have z4 : w7.cell? ⟨w.heap.size + 1 + 1, 4, none⟩ = some (.int .i64 0) := blk_cell H47.out 4; have z5 : w7.cell? ⟨w.heap.size + 1 + 1, 5, none⟩ = some (.int .i64 0) := blk_cell H47.out 5; have zf0 : w7.frozen? ⟨w.heap.size + 1 + 1, 0, none⟩ = false := blk_frozen H47.out 0; have zf1 : w7.frozen? ⟨w.heap.size + 1 + 1, 1, none⟩ = false := blk_frozen H47.out 1; have zf2 : w7.frozen? ⟨w.heap.size + 1 + 1, 2, none⟩ = false := blk_frozen H47.out 2; have zf3 : w7.frozen? ⟨w.heap.size + 1 + 1, 3, none⟩ = false := blk_frozen H47.out 3; have zf4 : w7.frozen? ⟨w.heap.size + 1 + 1, 4, none⟩ = false := blk_frozen H47.out 4; have zf5 : w7.frozen? ⟨w.heap.size + 1 + 1, 5, none⟩ = false := blk_frozen H47.out 5))
  refine bodyPost_ret (v := .agg #[.int .i64 s.a, .int .i64 v, .int .i64 s.c, .int .i64 s.d, .int .i64 s.e, .int .i64 s.f]) (by simp [results, Tryd.results38, go_sem, *]) rfl ⟨rfl, ?_⟩
  exact ((((((LL.out.setCell (p := ⟨w.heap.size + 1 + 1, 0, none⟩) (by show w.heap.size ≤ w.heap.size + 1 + 1; omega) _).setCell (p := ⟨w.heap.size + 1 + 1, 1, none⟩) (by show w.heap.size ≤ w.heap.size + 1 + 1; omega) _).setCell (p := ⟨w.heap.size + 1 + 1, 2, none⟩) (by show w.heap.size ≤ w.heap.size + 1 + 1; omega) _).setCell (p := ⟨w.heap.size + 1 + 1, 3, none⟩) (by show w.heap.size ≤ w.heap.size + 1 + 1; omega) _).setCell (p := ⟨w.heap.size + 1 + 1, 4, none⟩) (by show w.heap.size ≤ w.heap.size + 1 + 1; omega) _).setCell (p := ⟨w.heap.size + 1 + 1, 5, none⟩) (by show w.heap.size ≤ w.heap.size + 1 + 1; omega) _)
theorem one_3_fine (s : St) (v : Int) (hv : v ≤ 2147483647) (w : World) (hT : GT w) : Calls Tryd.prog 38 #[.agg #[.int .i64 s.a, .int .i64 s.b, .int .i64 s.c, .int .i64 s.d, .int .i64 s.e, .int .i64 s.f], .agg #[.int .i64 3, .int .i64 v]] w fun e w' => e = .returned (.agg #[.int .i64 s.a, .int .i64 s.b, .int .i64 v, .int .i64 s.d, .int .i64 s.e, .int .i64 s.f]) ∧ Below w.heap.size w w' := by
  have HB := Aside0.mk (Below.refl w.heap.size w)
  have hd : decide (2147483647 < v) = false := decide_eq_false (by omega)
  clear hv
  have HT := Aside0.mk hT
  clear hT
  go_enter Tryd.func38, Tryd.ntmps38
  go_upto_region 1 with fail
  obtain ⟨Ws, hWs⟩ : ∃ W, ((w.alloc (.cells #[.int .i64 s.a, .int .i64 s.b, .int .i64 s.c, .int .i64 s.d, .int .i64 s.e, .int .i64 s.f] 23)).alloc (.cells #[.int .i64 3, .int .i64 v] 28)).alloc (.cells #[.int .i64 0, .int .i64 0, .int .i64 0, .int .i64 0, .int .i64 0, .int .i64 0] 23) = W := ⟨_, rfl⟩
  have B2 : Aside0 (Ws.heap[w.heap.size]? = some (.cells #[.int .i64 s.a, .int .i64 s.b, .int .i64 s.c, .int .i64 s.d, .int .i64 s.e, .int .i64 s.f] 23 (0, 0))) := ⟨by rw [← hWs]; exact blk_alloc (blk_alloc (blk_new w _) _) _⟩
  have B3 : Aside0 (Ws.heap[w.heap.size + 1]? = some (.cells #[.int .i64 3, .int .i64 v] 28 (0, 0))) := ⟨by
    rw [← hWs]
    have h := blk_new (w.alloc (.cells #[.int .i64 s.a, .int .i64 s.b, .int .i64 s.c, .int .i64 s.d, .int .i64 s.e, .int .i64 s.f] 23)) (.cells #[.int .i64 3, .int .i64 v] 28)
    rw [World.size_alloc] at h
    exact blk_alloc h _⟩
  have B4 : Aside0 (Ws.heap[w.heap.size + 2]? = some (.cells #[.int .i64 0, .int .i64 0, .int .i64 0, .int .i64 0, .int .i64 0, .int .i64 0] 23 (0, 0))) := ⟨by
    rw [← hWs]
    have h := blk_new ((w.alloc (.cells #[.int .i64 s.a, .int .i64 s.b, .int .i64 s.c, .int .i64 s.d, .int .i64 s.e, .int .i64 s.f] 23)).alloc (.cells #[.int .i64 3, .int .i64 v] 28)) (.cells #[.int .i64 0, .int .i64 0, .int .i64 0, .int .i64 0, .int .i64 0, .int .i64 0] 23)
    rwa [World.size_alloc, World.size_alloc] at h⟩
  have LS : Aside0 (Below w.heap.size w Ws) := ⟨by rw [← hWs]; exact below_alloc (below_alloc (below_alloc HB.out _) _) _⟩
  rw [hWs]
  clear hWs
  have z0 : Ws.cell? ⟨w.heap.size, 0, none⟩ = some (.int .i64 s.a) := blk_cell B2.out 0
  have z1 : Ws.cell? ⟨w.heap.size, 1, none⟩ = some (.int .i64 s.b) := blk_cell B2.out 1
  have z2 : Ws.cell? ⟨w.heap.size, 2, none⟩ = some (.int .i64 s.c) := blk_cell B2.out 2
  have z3 : Ws.cell? ⟨w.heap.size, 3, none⟩ = some (.int .i64 s.d) := blk_cell B2.out 3
  have z4 : Ws.cell? ⟨w.heap.size, 4, none⟩ = some (.int .i64 s.e) := blk_cell B2.out 4
  have z5 : Ws.cell? ⟨w.heap.size, 5, none⟩ = some (.int .i64 s.f) := blk_cell B2.out 5
  go_upto_region 2 with (first
    | (go_at_call 39; refine (six_calls s _).mono ?_; rintro e w6 ⟨rfl, hb⟩; have HB6 := Aside0.mk hb; clear hb))
  clear z0 z1 z2 z3 z4 z5
  obtain ⟨W5, hW5⟩ : ∃ W, w6.alloc (.cells #[.int .i64 s.a, .int .i64 s.b, .int .i64 s.c, .int .i64 s.d, .int .i64 s.e, .int .i64 s.f] 66) = W := ⟨_, rfl⟩
  obtain ⟨b5, hb5⟩ : ∃ x, w6.heap.size = x := ⟨_, rfl⟩
  have X5 : Aside0 (Below Ws.heap.size Ws W5) := ⟨by rw [← hW5]; exact below_alloc HB6.out _⟩
  have B5 : Aside0 (W5.heap[b5]? = some (.cells #[.int .i64 s.a, .int .i64 s.b, .int .i64 s.c, .int .i64 s.d, .int .i64 s.e, .int .i64 s.f] 66 (0, 0))) := ⟨by rw [← hW5, ← hb5]; exact blk_new w6 _⟩
  have NE : Aside0 (w.heap.size + 2 ≠ b5) := ⟨by have := blk_lt B4.out; have := HB6.out.size; omega⟩
  have GE5 : Aside0 (w.heap.size ≤ b5) := ⟨by have := blk_lt B2.out; have := HB6.out.size; omega⟩
  rw [hW5, hb5]
  clear hW5 hb5 HB6
  have L5 := Aside0.mk (below_then LS.out LS.out.size X5.out)
  have hg := HT.out.below L5.out
  obtain ⟨g0, g1, g2, g3, g4, g5⟩ := hg
  have B35 := Aside0.mk (blk_below B3.out X5.out)
  have B45 := Aside0.mk (blk_below B4.out X5.out)
  have p0 : W5.cell? ⟨w.heap.size + 1, 0, none⟩ = some (.int .i64 3) := blk_cell B35.out 0
  have p1 : W5.cell? ⟨w.heap.size + 1, 1, none⟩ = some (.int .i64 v) := blk_cell B35.out 1
  have x0 : W5.cell? ⟨b5, 0, none⟩ = some (.int .i64 s.a) := blk_cell B5.out 0
  have x1 : W5.cell? ⟨b5, 1, none⟩ = some (.int .i64 s.b) := blk_cell B5.out 1
  have x2 : W5.cell? ⟨b5, 2, none⟩ = some (.int .i64 s.c) := blk_cell B5.out 2
  have x3 : W5.cell? ⟨b5, 3, none⟩ = some (.int .i64 s.d) := blk_cell B5.out 3
  have x4 : W5.cell? ⟨b5, 4, none⟩ = some (.int .i64 s.e) := blk_cell B5.out 4
  have x5 : W5.cell? ⟨b5, 5, none⟩ = some (.int .i64 s.f) := blk_cell B5.out 5
  have xf0 : W5.frozen? ⟨b5, 0, none⟩ = false := blk_frozen B5.out 0
  have xf1 : W5.frozen? ⟨b5, 1, none⟩ = false := blk_frozen B5.out 1
  have xf2 : W5.frozen? ⟨b5, 2, none⟩ = false := blk_frozen B5.out 2
  have xf3 : W5.frozen? ⟨b5, 3, none⟩ = false := blk_frozen B5.out 3
  have xf4 : W5.frozen? ⟨b5, 4, none⟩ = false := blk_frozen B5.out 4
  have xf5 : W5.frozen? ⟨b5, 5, none⟩ = false := blk_frozen B5.out 5
  have ne1 : b5 ≠ w.heap.size + 1 := by have := blk_lt B35.out; intro h; have := blk_ne B5.out B35.out (by decide); exact this h
  have ne0 : b5 ≠ 0 := fun h => by have h1 := World.block_lt_of_cell? w _ HT.out.1; have := GE5.out; simp at h1; omega
  go_upto_region 4 with fail
  go_quiet (fail)
  generalize hW9 : (World.setCell W5 ⟨b5, 2, none⟩ (.int .i64 v)).drewN nq = W9
  have B9 : Aside0 (W9.heap[b5]? = some (.cells #[.int .i64 s.a, .int .i64 s.b, .int .i64 v, .int .i64 s.d, .int .i64 s.e, .int .i64 s.f] 66 (0, 0))) := ⟨by rw [← hW9]; simpa using blk_set B5.out 2 (.int .i64 v)⟩
  have B39 : Aside0 (W9.heap[w.heap.size + 1]? = some (.cells #[.int .i64 3, .int .i64 v] 28 (0, 0))) := ⟨by rw [← hW9]; exact blk_far (p := ⟨b5, 2, none⟩) B35.out (fun h => ne1 h.symm) _⟩
  have B49 : Aside0 (W9.heap[w.heap.size + 1 + 1]? = some (.cells #[.int .i64 0, .int .i64 0, .int .i64 0, .int .i64 0, .int .i64 0, .int .i64 0] 23 (0, 0))) := ⟨by rw [← hW9]; exact blk_far (p := ⟨b5, 2, none⟩) B45.out NE.out _⟩
  have L9 : Aside0 (Below w.heap.size w W9) := ⟨by rw [← hW9]; exact pw_below_drewN (L5.out.setCell (p := ⟨b5, 2, none⟩) GE5.out _) _⟩
  clear hW9 x0 xf0 x1 xf1 x2 xf2 x3 xf3 x4 xf4 x5 xf5 g0 g1 g2 g3 g4 g5 p0 p1
  have x0 : W9.cell? ⟨b5, 0, none⟩ = some (.int .i64 s.a) := blk_cell B9.out 0
  have x1 : W9.cell? ⟨b5, 1, none⟩ = some (.int .i64 s.b) := blk_cell B9.out 1
  have x2 : W9.cell? ⟨b5, 2, none⟩ = some (.int .i64 v) := blk_cell B9.out 2
  have x3 : W9.cell? ⟨b5, 3, none⟩ = some (.int .i64 s.d) := blk_cell B9.out 3
  have x4 : W9.cell? ⟨b5, 4, none⟩ = some (.int .i64 s.e) := blk_cell B9.out 4
  have x5 : W9.cell? ⟨b5, 5, none⟩ = some (.int .i64 s.f) := blk_cell B9.out 5
  go_wp2_with (first
    | (go_at_call 40; (with_reducible refine (set_raw _ _ _ _ _ _ _).mono ?_); rintro e w7 ⟨rfl, hb⟩; have H47 := Aside0.mk (blk_below B49.out hb); have LL := Aside0.mk (below_then L9.out L9.out.size hb); clear hb; have z0 : w7.cell? ⟨w.heap.size + 1 + 1, 0, none⟩ = some (.int .i64 0) := blk_cell H47.out 0; have z1 : w7.cell? ⟨w.heap.size + 1 + 1, 1, none⟩ = some (.int .i64 0) := blk_cell H47.out 1; have z2 : w7.cell? ⟨w.heap.size + 1 + 1, 2, none⟩ = some (.int .i64 0) := blk_cell H47.out 2; have z3 : w7.cell? ⟨w.heap.size + 1 + 1, 3, none⟩ = some (.int .i64 0) := blk_cell H47.out 3; have z4 : w7.cell? ⟨w.heap.size + 1 + 1, 4, none⟩ = some (.int .i64 0) := blk_cell H47.out 4; have z5 : w7.cell? ⟨w.heap.size + 1 + 1, 5, none⟩ = some (.int .i64 0) := blk_cell H47.out 5; have zf0 : w7.frozen? ⟨w.heap.size + 1 + 1, 0, none⟩ = false := blk_frozen H47.out 0; have zf1 : w7.frozen? ⟨w.heap.size + 1 + 1, 1, none⟩ = false := blk_frozen H47.out 1; have zf2 : w7.frozen? ⟨w.heap.size + 1 + 1, 2, none⟩ = false := blk_frozen H47.out 2; have zf3 : w7.frozen? ⟨w.heap.size + 1 + 1, 3, none⟩ = false := blk_frozen H47.out 3; have zf4 : w7.frozen? ⟨w.heap.size + 1 + 1, 4, none⟩ = false := blk_frozen H47.out 4; have zf5 : w7.frozen? ⟨w.heap.size + 1 + 1, 5, none⟩ = false := blk_frozen H47.out 5))
  refine bodyPost_ret (v := .agg #[.int .i64 s.a, .int .i64 s.b, .int .i64 v, .int .i64 s.d, .int .i64 s.e, .int .i64 s.f]) (by simp [results, Tryd.results38, go_sem, *]) rfl ⟨rfl, ?_⟩
  exact ((((((LL.out.setCell (p := ⟨w.heap.size + 1 + 1, 0, none⟩) (by show w.heap.size ≤ w.heap.size + 1 + 1; omega) _).setCell (p := ⟨w.heap.size + 1 + 1, 1, none⟩) (by show w.heap.size ≤ w.heap.size + 1 + 1; omega) _).setCell (p := ⟨w.heap.size + 1 + 1, 2, none⟩) (by show w.heap.size ≤ w.heap.size + 1 + 1; omega) _).setCell (p := ⟨w.heap.size + 1 + 1, 3, none⟩) (by show w.heap.size ≤ w.heap.size + 1 + 1; omega) _).setCell (p := ⟨w.heap.size + 1 + 1, 4, none⟩) (by show w.heap.size ≤ w.heap.size + 1 + 1; omega) _).setCell (p := ⟨w.heap.size + 1 + 1, 5, none⟩) (by show w.heap.size ≤ w.heap.size + 1 + 1; omega) _)
theorem one_4_fine (s : St) (v : Int) (hv : v ≤ 2147483647) (w : World) (hT : GT w) : Calls Tryd.prog 38 #[.agg #[.int .i64 s.a, .int .i64 s.b, .int .i64 s.c, .int .i64 s.d, .int .i64 s.e, .int .i64 s.f], .agg #[.int .i64 4, .int .i64 v]] w fun e w' => e = .returned (.agg #[.int .i64 s.a, .int .i64 s.b, .int .i64 s.c, .int .i64 v, .int .i64 s.e, .int .i64 s.f]) ∧ Below w.heap.size w w' := by
  have HB := Aside0.mk (Below.refl w.heap.size w)
  have hd : decide (2147483647 < v) = false := decide_eq_false (by omega)
  clear hv
  have HT := Aside0.mk hT
  clear hT
  go_enter Tryd.func38, Tryd.ntmps38
  go_upto_region 1 with fail
  obtain ⟨Ws, hWs⟩ : ∃ W, ((w.alloc (.cells #[.int .i64 s.a, .int .i64 s.b, .int .i64 s.c, .int .i64 s.d, .int .i64 s.e, .int .i64 s.f] 23)).alloc (.cells #[.int .i64 4, .int .i64 v] 28)).alloc (.cells #[.int .i64 0, .int .i64 0, .int .i64 0, .int .i64 0, .int .i64 0, .int .i64 0] 23) = W := ⟨_, rfl⟩
  have B2 : Aside0 (Ws.heap[w.heap.size]? = some (.cells #[.int .i64 s.a, .int .i64 s.b, .int .i64 s.c, .int .i64 s.d, .int .i64 s.e, .int .i64 s.f] 23 (0, 0))) := ⟨by rw [← hWs]; exact blk_alloc (blk_alloc (blk_new w _) _) _⟩
  have B3 : Aside0 (Ws.heap[w.heap.size + 1]? = some (.cells #[.int .i64 4, .int .i64 v] 28 (0, 0))) := ⟨by
    rw [← hWs]
    have h := blk_new (w.alloc (.cells #[.int .i64 s.a, .int .i64 s.b, .int .i64 s.c, .int .i64 s.d, .int .i64 s.e, .int .i64 s.f] 23)) (.cells #[.int .i64 4, .int .i64 v] 28)
    rw [World.size_alloc] at h
    exact blk_alloc h _⟩
  have B4 : Aside0 (Ws.heap[w.heap.size + 2]? = some (.cells #[.int .i64 0, .int .i64 0, .int .i64 0, .int .i64 0, .int .i64 0, .int .i64 0] 23 (0, 0))) := ⟨by
    rw [← hWs]
    have h := blk_new ((w.alloc (.cells #[.int .i64 s.a, .int .i64 s.b, .int .i64 s.c, .int .i64 s.d, .int .i64 s.e, .int .i64 s.f] 23)).alloc (.cells #[.int .i64 4, .int .i64 v] 28)) (.cells #[.int .i64 0, .int .i64 0, .int .i64 0, .int .i64 0, .int .i64 0, .int .i64 0] 23)
    rwa [World.size_alloc, World.size_alloc] at h⟩
  have LS : Aside0 (Below w.heap.size w Ws) := ⟨by rw [← hWs]; exact below_alloc (below_alloc (below_alloc HB.out _) _) _⟩
  rw [hWs]
  clear hWs
  have z0 : Ws.cell? ⟨w.heap.size, 0, none⟩ = some (.int .i64 s.a) := blk_cell B2.out 0
  have z1 : Ws.cell? ⟨w.heap.size, 1, none⟩ = some (.int .i64 s.b) := blk_cell B2.out 1
  have z2 : Ws.cell? ⟨w.heap.size, 2, none⟩ = some (.int .i64 s.c) := blk_cell B2.out 2
  have z3 : Ws.cell? ⟨w.heap.size, 3, none⟩ = some (.int .i64 s.d) := blk_cell B2.out 3
  have z4 : Ws.cell? ⟨w.heap.size, 4, none⟩ = some (.int .i64 s.e) := blk_cell B2.out 4
  have z5 : Ws.cell? ⟨w.heap.size, 5, none⟩ = some (.int .i64 s.f) := blk_cell B2.out 5
  go_upto_region 2 with (first
    | (go_at_call 39; refine (six_calls s _).mono ?_; rintro e w6 ⟨rfl, hb⟩; have HB6 := Aside0.mk hb; clear hb))
  clear z0 z1 z2 z3 z4 z5
  obtain ⟨W5, hW5⟩ : ∃ W, w6.alloc (.cells #[.int .i64 s.a, .int .i64 s.b, .int .i64 s.c, .int .i64 s.d, .int .i64 s.e, .int .i64 s.f] 66) = W := ⟨_, rfl⟩
  obtain ⟨b5, hb5⟩ : ∃ x, w6.heap.size = x := ⟨_, rfl⟩
  have X5 : Aside0 (Below Ws.heap.size Ws W5) := ⟨by rw [← hW5]; exact below_alloc HB6.out _⟩
  have B5 : Aside0 (W5.heap[b5]? = some (.cells #[.int .i64 s.a, .int .i64 s.b, .int .i64 s.c, .int .i64 s.d, .int .i64 s.e, .int .i64 s.f] 66 (0, 0))) := ⟨by rw [← hW5, ← hb5]; exact blk_new w6 _⟩
  have NE : Aside0 (w.heap.size + 2 ≠ b5) := ⟨by have := blk_lt B4.out; have := HB6.out.size; omega⟩
  have GE5 : Aside0 (w.heap.size ≤ b5) := ⟨by have := blk_lt B2.out; have := HB6.out.size; omega⟩
  rw [hW5, hb5]
  clear hW5 hb5 HB6
  have L5 := Aside0.mk (below_then LS.out LS.out.size X5.out)
  have hg := HT.out.below L5.out
  obtain ⟨g0, g1, g2, g3, g4, g5⟩ := hg
  have B35 := Aside0.mk (blk_below B3.out X5.out)
  have B45 := Aside0.mk (blk_below B4.out X5.out)
  have p0 : W5.cell? ⟨w.heap.size + 1, 0, none⟩ = some (.int .i64 4) := blk_cell B35.out 0
  have p1 : W5.cell? ⟨w.heap.size + 1, 1, none⟩ = some (.int .i64 v) := blk_cell B35.out 1
  have x0 : W5.cell? ⟨b5, 0, none⟩ = some (.int .i64 s.a) := blk_cell B5.out 0
  have x1 : W5.cell? ⟨b5, 1, none⟩ = some (.int .i64 s.b) := blk_cell B5.out 1
  have x2 : W5.cell? ⟨b5, 2, none⟩ = some (.int .i64 s.c) := blk_cell B5.out 2
  have x3 : W5.cell? ⟨b5, 3, none⟩ = some (.int .i64 s.d) := blk_cell B5.out 3
  have x4 : W5.cell? ⟨b5, 4, none⟩ = some (.int .i64 s.e) := blk_cell B5.out 4
  have x5 : W5.cell? ⟨b5, 5, none⟩ = some (.int .i64 s.f) := blk_cell B5.out 5
  have xf0 : W5.frozen? ⟨b5, 0, none⟩ = false := blk_frozen B5.out 0
  have xf1 : W5.frozen? ⟨b5, 1, none⟩ = false := blk_frozen B5.out 1
  have xf2 : W5.frozen? ⟨b5, 2, none⟩ = false := blk_frozen B5.out 2
  have xf3 : W5.frozen? ⟨b5, 3, none⟩ = false := blk_frozen B5.out 3
  have xf4 : W5.frozen? ⟨b5, 4, none⟩ = false := blk_frozen B5.out 4
  have xf5 : W5.frozen? ⟨b5, 5, none⟩ = false := blk_frozen B5.out 5
  have ne1 : b5 ≠ w.heap.size + 1 := by have := blk_lt B35.out; intro h; have := blk_ne B5.out B35.out (by decide); exact this h
  have ne0 : b5 ≠ 0 := fun h => by have h1 := World.block_lt_of_cell? w _ HT.out.1; have := GE5.out; simp at h1; omega
  go_upto_region 4 with fail
  go_quiet (fail)
  generalize hW9 : (World.setCell W5 ⟨b5, 3, none⟩ (.int .i64 v)).drewN nq = W9
  have B9 : Aside0 (W9.heap[b5]? = some (.cells #[.int .i64 s.a, .int .i64 s.b, .int .i64 s.c, .int .i64 v, .int .i64 s.e, .int .i64 s.f] 66 (0, 0))) := ⟨by rw [← hW9]; simpa using blk_set B5.out 3 (.int .i64 v)⟩
  have B39 : Aside0 (W9.heap[w.heap.size + 1]? = some (.cells #[.int .i64 4, .int .i64 v] 28 (0, 0))) := ⟨by rw [← hW9]; exact blk_far (p := ⟨b5, 3, none⟩) B35.out (fun h => ne1 h.symm) _⟩
  have B49 : Aside0 (W9.heap[w.heap.size + 1 + 1]? = some (.cells #[.int .i64 0, .int .i64 0, .int .i64 0, .int .i64 0, .int .i64 0, .int .i64 0] 23 (0, 0))) := ⟨by rw [← hW9]; exact blk_far (p := ⟨b5, 3, none⟩) B45.out NE.out _⟩
  have L9 : Aside0 (Below w.heap.size w W9) := ⟨by rw [← hW9]; exact pw_below_drewN (L5.out.setCell (p := ⟨b5, 3, none⟩) GE5.out _) _⟩
  clear hW9 x0 xf0 x1 xf1 x2 xf2 x3 xf3 x4 xf4 x5 xf5 g0 g1 g2 g3 g4 g5 p0 p1
  have x0 : W9.cell? ⟨b5, 0, none⟩ = some (.int .i64 s.a) := blk_cell B9.out 0
  have x1 : W9.cell? ⟨b5, 1, none⟩ = some (.int .i64 s.b) := blk_cell B9.out 1
  have x2 : W9.cell? ⟨b5, 2, none⟩ = some (.int .i64 s.c) := blk_cell B9.out 2
  have x3 : W9.cell? ⟨b5, 3, none⟩ = some (.int .i64 v) := blk_cell B9.out 3
  have x4 : W9.cell? ⟨b5, 4, none⟩ = some (.int .i64 s.e) := blk_cell B9.out 4
  have x5 : W9.cell? ⟨b5, 5, none⟩ = some (.int .i64 s.f) := blk_cell B9.out 5
  go_wp2_with (first
    | (go_at_call 40; (with_reducible refine (set_raw _ _ _ _ _ _ _).mono ?_); rintro e w7 ⟨rfl, hb⟩; have H47 := Aside0.mk (blk_below B49.out hb); have LL := Aside0.mk (below_then L9.out L9.out.size hb); clear hb; have z0 : w7.cell? ⟨w.heap.size + 1 + 1, 0, none⟩ = some (.int .i64 0) := blk_cell H47.out 0; have z1 : w7.cell? ⟨w.heap.size + 1 + 1, 1, none⟩ = some (.int .i64 0) := blk_cell H47.out 1; have z2 : w7.cell? ⟨w.heap.size + 1 + 1, 2, none⟩ = some (.int .i64 0) := blk_cell H47.out 2; have z3 : w7.cell? ⟨w.heap.size + 1 + 1, 3, none⟩ = some (.int .i64 0) := blk_cell H47.out 3; have z4 : w7.cell? ⟨w.heap.size + 1 + 1, 4, none⟩ = some (.int .i64 0) := blk_cell H47.out 4; have z5 : w7.cell? ⟨w.heap.size + 1 + 1, 5, none⟩ = some (.int .i64 0) := blk_cell H47.out 5; have zf0 : w7.frozen? ⟨w.heap.size + 1 + 1, 0, none⟩ = false := blk_frozen H47.out 0; have zf1 : w7.frozen? ⟨w.heap.size + 1 + 1, 1, none⟩ = false := blk_frozen H47.out 1; have zf2 : w7.frozen? ⟨w.heap.size + 1 + 1, 2, none⟩ = false := blk_frozen H47.out 2; have zf3 : w7.frozen? ⟨w.heap.size + 1 + 1, 3, none⟩ = false := blk_frozen H47.out 3; have zf4 : w7.frozen? ⟨w.heap.size + 1 + 1, 4, none⟩ = false := blk_frozen H47.out 4; have zf5 : w7.frozen? ⟨w.heap.size + 1 + 1, 5, none⟩ = false := blk_frozen H47.out 5))
  refine bodyPost_ret (v := .agg #[.int .i64 s.a, .int .i64 s.b, .int .i64 s.c, .int .i64 v, .int .i64 s.e, .int .i64 s.f]) (by simp [results, Tryd.results38, go_sem, *]) rfl ⟨rfl, ?_⟩
  exact ((((((LL.out.setCell (p := ⟨w.heap.size + 1 + 1, 0, none⟩) (by show w.heap.size ≤ w.heap.size + 1 + 1; omega) _).setCell (p := ⟨w.heap.size + 1 + 1, 1, none⟩) (by show w.heap.size ≤ w.heap.size + 1 + 1; omega) _).setCell (p := ⟨w.heap.size + 1 + 1, 2, none⟩) (by show w.heap.size ≤ w.heap.size + 1 + 1; omega) _).setCell (p := ⟨w.heap.size + 1 + 1, 3, none⟩) (by show w.heap.size ≤ w.heap.size + 1 + 1; omega) _).setCell (p := ⟨w.heap.size + 1 + 1, 4, none⟩) (by show w.heap.size ≤ w.heap.size + 1 + 1; omega) _).setCell (p := ⟨w.heap.size + 1 + 1, 5, none⟩) (by show w.heap.size ≤ w.heap.size + 1 + 1; omega) _)
theorem one_5_fine (s : St) (v : Int) (hv : v ≤ 65536) (w : World) (hT : GT w) : Calls Tryd.prog 38 #[.agg #[.int .i64 s.a, .int .i64 s.b, .int .i64 s.c, .int .i64 s.d, .int .i64 s.e, .int .i64 s.f], .agg #[.int .i64 5, .int .i64 v]] w fun e w' => e = .returned (.agg #[.int .i64 s.a, .int .i64 s.b, .int .i64 s.c, .int .i64 s.d, .int .i64 v, .int .i64 s.f]) ∧ Below w.heap.size w w' := by
  have HB := Aside0.mk (Below.refl w.heap.size w)
  have hd : decide (65536 < v) = false := decide_eq_false (by omega)
  clear hv
  have HT := Aside0.mk hT
  clear hT
  go_enter Tryd.func38, Tryd.ntmps38
  go_upto_region 1 with fail
  obtain ⟨Ws, hWs⟩ : ∃ W, ((w.alloc (.cells #[.int .i64 s.a, .int .i64 s.b, .int .i64 s.c, .int .i64 s.d, .int .i64 s.e, .int .i64 s.f] 23)).alloc (.cells #[.int .i64 5, .int .i64 v] 28)).alloc (.cells #[.int .i64 0, .int .i64 0, .int .i64 0, .int .i64 0, .int .i64 0, .int .i64 0] 23) = W := ⟨_, rfl⟩
  have B2 : Aside0 (Ws.heap[w.heap.size]? = some (.cells #[.int .i64 s.a, .int .i64 s.b, .int .i64 s.c, .int .i64 s.d, .int .i64 s.e, .int .i64 s.f] 23 (0, 0))) := ⟨by rw [← hWs]; exact blk_alloc (blk_alloc (blk_new w _) _) _⟩
  have B3 : Aside0 (Ws.heap[w.heap.size + 1]? = some (.cells #[.int .i64 5, .int .i64 v] 28 (0, 0))) := ⟨by
    rw [← hWs]
    have h := blk_new (w.alloc (.cells #[.int .i64 s.a, .int .i64 s.b, .int .i64 s.c, .int .i64 s.d, .int .i64 s.e, .int .i64 s.f] 23)) (.cells #[.int .i64 5, .int .i64 v] 28)
    rw [World.size_alloc] at h
    exact blk_alloc h _⟩
  have B4 : Aside0 (Ws.heap[w.heap.size + 2]? = some (.cells #[.int .i64 0, .int .i64 0, .int .i64 0, .int .i64 0, .int .i64 0, .int .i64 0] 23 (0, 0))) := ⟨by
    rw [← hWs]
    have h := blk_new ((w.alloc (.cells #[.int .i64 s.a, .int .i64 s.b, .int .i64 s.c, .int .i64 s.d, .int .i64 s.e, .int .i64 s.f] 23)).alloc (.cells #[.int .i64 5, .int .i64 v] 28)) (.cells #[.int .i64 0, .int .i64 0, .int .i64 0, .int .i64 0, .int .i64 0, .int .i64 0] 23)
    rwa [World.size_alloc, World.size_alloc] at h⟩
  have LS : Aside0 (Below w.heap.size w Ws) := ⟨by rw [← hWs]; exact below_alloc (below_alloc (below_alloc HB.out _) _) _⟩
  rw [hWs]
  clear hWs
  have z0 : Ws.cell? ⟨w.heap.size, 0, none⟩ = some (.int .i64 s.a) := blk_cell B2.out 0
  have z1 : Ws.cell? ⟨w.heap.size, 1, none⟩ = some (.int .i64 s.b) := blk_cell B2.out 1
  have z2 : Ws.cell? ⟨w.heap.size, 2, none⟩ = some (.int .i64 s.c) := blk_cell B2.out 2
  have z3 : Ws.cell? ⟨w.heap.size, 3, none⟩ = some (.int .i64 s.d) := blk_cell B2.out 3
  have z4 : Ws.cell? ⟨w.heap.size, 4, none⟩ = some (.int .i64 s.e) := blk_cell B2.out 4
  have z5 : Ws.cell? ⟨w.heap.size, 5, none⟩ = some (.int .i64 s.f) := blk_cell B2.out 5
  go_upto_region 2 with (first
    | (go_at_call 39; refine (six_calls s _).mono ?_; rintro e w6 ⟨rfl, hb⟩; have HB6 := Aside0.mk hb; clear hb))
  clear z0 z1 z2 z3 z4 z5
  obtain ⟨W5, hW5⟩ : ∃ W, w6.alloc (.cells #[.int .i64 s.a, .int .i64 s.b, .int .i64 s.c, .int .i64 s.d, .int .i64 s.e, .int .i64 s.f] 66) = W := ⟨_, rfl⟩
  obtain ⟨b5, hb5⟩ : ∃ x, w6.heap.size = x := ⟨_, rfl⟩
  have X5 : Aside0 (Below Ws.heap.size Ws W5) := ⟨by rw [← hW5]; exact below_alloc HB6.out _⟩
  have B5 : Aside0 (W5.heap[b5]? = some (.cells #[.int .i64 s.a, .int .i64 s.b, .int .i64 s.c, .int .i64 s.d, .int .i64 s.e, .int .i64 s.f] 66 (0, 0))) := ⟨by rw [← hW5, ← hb5]; exact blk_new w6 _⟩
  have NE : Aside0 (w.heap.size + 2 ≠ b5) := ⟨by have := blk_lt B4.out; have := HB6.out.size; omega⟩
  have GE5 : Aside0 (w.heap.size ≤ b5) := ⟨by have := blk_lt B2.out; have := HB6.out.size; omega⟩
  rw [hW5, hb5]
  clear hW5 hb5 HB6
  have L5 := Aside0.mk (below_then LS.out LS.out.size X5.out)
  have hg := HT.out.below L5.out
  obtain ⟨g0, g1, g2, g3, g4, g5⟩ := hg
  have B35 := Aside0.mk (blk_below B3.out X5.out)
  have B45 := Aside0.mk (blk_below B4.out X5.out)
  have p0 : W5.cell? ⟨w.heap.size + 1, 0, none⟩ = some (.int .i64 5) := blk_cell B35.out 0
  have p1 : W5.cell? ⟨w.heap.size + 1, 1, none⟩ = some (.int .i64 v) := blk_cell B35.out 1
  have x0 : W5.cell? ⟨b5, 0, none⟩ = some (.int .i64 s.a) := blk_cell B5.out 0
  have x1 : W5.cell? ⟨b5, 1, none⟩ = some (.int .i64 s.b) := blk_cell B5.out 1
  have x2 : W5.cell? ⟨b5, 2, none⟩ = some (.int .i64 s.c) := blk_cell B5.out 2
  have x3 : W5.cell? ⟨b5, 3, none⟩ = some (.int .i64 s.d) := blk_cell B5.out 3
  have x4 : W5.cell? ⟨b5, 4, none⟩ = some (.int .i64 s.e) := blk_cell B5.out 4
  have x5 : W5.cell? ⟨b5, 5, none⟩ = some (.int .i64 s.f) := blk_cell B5.out 5
  have xf0 : W5.frozen? ⟨b5, 0, none⟩ = false := blk_frozen B5.out 0
  have xf1 : W5.frozen? ⟨b5, 1, none⟩ = false := blk_frozen B5.out 1
  have xf2 : W5.frozen? ⟨b5, 2, none⟩ = false := blk_frozen B5.out 2
  have xf3 : W5.frozen? ⟨b5, 3, none⟩ = false := blk_frozen B5.out 3
  have xf4 : W5.frozen? ⟨b5, 4, none⟩ = false := blk_frozen B5.out 4
  have xf5 : W5.frozen? ⟨b5, 5, none⟩ = false := blk_frozen B5.out 5
  have ne1 : b5 ≠ w.heap.size + 1 := by have := blk_lt B35.out; intro h; have := blk_ne B5.out B35.out (by decide); exact this h
  have ne0 : b5 ≠ 0 := fun h => by have h1 := World.block_lt_of_cell? w _ HT.out.1; have := GE5.out; simp at h1; omega
  go_upto_region 4 with fail
  go_quiet (fail)
  generalize hW9 : (World.setCell W5 ⟨b5, 4, none⟩ (.int .i64 v)).drewN nq = W9
  have B9 : Aside0 (W9.heap[b5]? = some (.cells #[.int .i64 s.a, .int .i64 s.b, .int .i64 s.c, .int .i64 s.d, .int .i64 v, .int .i64 s.f] 66 (0, 0))) := ⟨by rw [← hW9]; simpa using blk_set B5.out 4 (.int .i64 v)⟩
  have B39 : Aside0 (W9.heap[w.heap.size + 1]? = some (.cells #[.int .i64 5, .int .i64 v] 28 (0, 0))) := ⟨by rw [← hW9]; exact blk_far (p := ⟨b5, 4, none⟩) B35.out (fun h => ne1 h.symm) _⟩
  have B49 : Aside0 (W9.heap[w.heap.size + 1 + 1]? = some (.cells #[.int .i64 0, .int .i64 0, .int .i64 0, .int .i64 0, .int .i64 0, .int .i64 0] 23 (0, 0))) := ⟨by rw [← hW9]; exact blk_far (p := ⟨b5, 4, none⟩) B45.out NE.out _⟩
  have L9 : Aside0 (Below w.heap.size w W9) := ⟨by rw [← hW9]; exact pw_below_drewN (L5.out.setCell (p := ⟨b5, 4, none⟩) GE5.out _) _⟩
  clear hW9 x0 xf0 x1 xf1 x2 xf2 x3 xf3 x4 xf4 x5 xf5 g0 g1 g2 g3 g4 g5 p0 p1
  have x0 : W9.cell? ⟨b5, 0, none⟩ = some (.int .i64 s.a) := blk_cell B9.out 0
  have x1 : W9.cell? ⟨b5, 1, none⟩ = some (.int .i64 s.b) := blk_cell B9.out 1
  have x2 : W9.cell? ⟨b5, 2, none⟩ = some (.int .i64 s.c) := blk_cell B9.out 2
  have x3 : W9.cell? ⟨b5, 3, none⟩ = some (.int .i64 s.d) := blk_cell B9.out 3
  have x4 : W9.cell? ⟨b5, 4, none⟩ = some (.int .i64 v) := blk_cell B9.out 4
  have x5 : W9.cell? ⟨b5, 5, none⟩ = some (.int .i64 s.f) := blk_cell B9.out 5
  go_wp2_with (first
    | (go_at_call 40; (with_reducible refine (set_raw _ _ _ _ _ _ _).mono ?_); rintro e w7 ⟨rfl, hb⟩; have H47 := Aside0.mk (blk_below B49.out hb); have LL := Aside0.mk (below_then L9.out L9.out.size hb); clear hb; have z0 : w7.cell? ⟨w.heap.size + 1 + 1, 0, none⟩ = some (.int .i64 0) := blk_cell H47.out 0; have z1 : w7.cell? ⟨w.heap.size + 1 + 1, 1, none⟩ = some (.int .i64 0) := blk_cell H47.out 1; have z2 : w7.cell? ⟨w.heap.size + 1 + 1, 2, none⟩ = some (.int .i64 0) := blk_cell H47.out 2; have z3 : w7.cell? ⟨w.heap.size + 1 + 1, 3, none⟩ = some (.int .i64 0) := blk_cell H47.out 3; have z4 : w7.cell? ⟨w.heap.size + 1 + 1, 4, none⟩ = some (.int .i64 0) := blk_cell H47.out 4; have z5 : w7.cell? ⟨w.heap.size + 1 + 1, 5, none⟩ = some (.int .i64 0) := blk_cell H47.out 5; have zf0 : w7.frozen? ⟨w.heap.size + 1 + 1, 0, none⟩ = false := blk_frozen H47.out 0; have zf1 : w7.frozen? ⟨w.heap.size + 1 + 1, 1, none⟩ = false := blk_frozen H47.out 1; have zf2 : w7.frozen? ⟨w.heap.size + 1 + 1, 2, none⟩ = false := blk_frozen H47.out 2; have zf3 : w7.frozen? ⟨w.heap.size + 1 + 1, 3, none⟩ = false := blk_frozen H47.out 3; have zf4 : w7.frozen? ⟨w.heap.size + 1 + 1, 4, none⟩ = false := blk_frozen H47.out 4; have zf5 : w7.frozen? ⟨w.heap.size + 1 + 1, 5, none⟩ = false := blk_frozen H47.out 5))
  refine bodyPost_ret (v := .agg #[.int .i64 s.a, .int .i64 s.b, .int .i64 s.c, .int .i64 s.d, .int .i64 v, .int .i64 s.f]) (by simp [results, Tryd.results38, go_sem, *]) rfl ⟨rfl, ?_⟩
  exact ((((((LL.out.setCell (p := ⟨w.heap.size + 1 + 1, 0, none⟩) (by show w.heap.size ≤ w.heap.size + 1 + 1; omega) _).setCell (p := ⟨w.heap.size + 1 + 1, 1, none⟩) (by show w.heap.size ≤ w.heap.size + 1 + 1; omega) _).setCell (p := ⟨w.heap.size + 1 + 1, 2, none⟩) (by show w.heap.size ≤ w.heap.size + 1 + 1; omega) _).setCell (p := ⟨w.heap.size + 1 + 1, 3, none⟩) (by show w.heap.size ≤ w.heap.size + 1 + 1; omega) _).setCell (p := ⟨w.heap.size + 1 + 1, 4, none⟩) (by show w.heap.size ≤ w.heap.size + 1 + 1; omega) _).setCell (p := ⟨w.heap.size + 1 + 1, 5, none⟩) (by show w.heap.size ≤ w.heap.size + 1 + 1; omega) _)
theorem one_6_fine (s : St) (v : Int) (hv : v ≤ 2147483647) (w : World) (hT : GT w) : Calls Tryd.prog 38 #[.agg #[.int .i64 s.a, .int .i64 s.b, .int .i64 s.c, .int .i64 s.d, .int .i64 s.e, .int .i64 s.f], .agg #[.int .i64 6, .int .i64 v]] w fun e w' => e = .returned (.agg #[.int .i64 s.a, .int .i64 s.b, .int .i64 s.c, .int .i64 s.d, .int .i64 s.e, .int .i64 v]) ∧ Below w.heap.size w w' := by
  have HB := Aside0.mk (Below.refl w.heap.size w)
  have hd : decide (2147483647 < v) = false := decide_eq_false (by omega)
  clear hv
  have HT := Aside0.mk hT
  clear hT
  go_enter Tryd.func38, Tryd.ntmps38
  go_upto_region 1 with fail
  obtain ⟨Ws, hWs⟩ : ∃ W, ((w.alloc (.cells #[.int .i64 s.a, .int .i64 s.b, .int .i64 s.c, .int .i64 s.d, .int .i64 s.e, .int .i64 s.f] 23)).alloc (.cells #[.int .i64 6, .int .i64 v] 28)).alloc (.cells #[.int .i64 0, .int .i64 0, .int .i64 0, .int .i64 0, .int .i64 0, .int .i64 0] 23) = W := ⟨_, rfl⟩
  have B2 : Aside0 (Ws.heap[w.heap.size]? = some (.cells #[.int .i64 s.a, .int .i64 s.b, .int .i64 s.c, .int .i64 s.d, .int .i64 s.e, .int .i64 s.f] 23 (0, 0))) := ⟨by rw [← hWs]; exact blk_alloc (blk_alloc (blk_new w _) _) _⟩
  have B3 : Aside0 (Ws.heap[w.heap.size + 1]? = some (.cells #[.int .i64 6, .int .i64 v] 28 (0, 0))) := ⟨by
    rw [← hWs]
    have h := blk_new (w.alloc (.cells #[.int .i64 s.a, .int .i64 s.b, .int .i64 s.c, .int .i64 s.d, .int .i64 s.e, .int .i64 s.f] 23)) (.cells #[.int .i64 6, .int .i64 v] 28)
    rw [World.size_alloc] at h
    exact blk_alloc h _⟩
  have B4 : Aside0 (Ws.heap[w.heap.size + 2]? = some (.cells #[.int .i64 0, .int .i64 0, .int .i64 0, .int .i64 0, .int .i64 0, .int .i64 0] 23 (0, 0))) := ⟨by
    rw [← hWs]
    have h := blk_new ((w.alloc (.cells #[.int .i64 s.a, .int .i64 s.b, .int .i64 s.c, .int .i64 s.d, .int .i64 s.e, .int .i64 s.f] 23)).alloc (.cells #[.int .i64 6, .int .i64 v] 28)) (.cells #[.int .i64 0, .int .i64 0, .int .i64 0, .int .i64 0, .int .i64 0, .int .i64 0] 23)
    rwa [World.size_alloc, World.size_alloc] at h⟩
  have LS : Aside0 (Below w.heap.size w Ws) := ⟨by rw [← hWs]; exact below_alloc (below_alloc (below_alloc HB.out _) _) _⟩
  rw [hWs]
  clear hWs
  have z0 : Ws.cell? ⟨w.heap.size, 0, none⟩ = some (.int .i64 s.a) := blk_cell B2.out 0
  have z1 : Ws.cell? ⟨w.heap.size, 1, none⟩ = some (.int .i64 s.b) := blk_cell B2.out 1
  have z2 : Ws.cell? ⟨w.heap.size, 2, none⟩ = some (.int .i64 s.c) := blk_cell B2.out 2
  have z3 : Ws.cell? ⟨w.heap.size, 3, none⟩ = some (.int .i64 s.d) := blk_cell B2.out 3
  have z4 : Ws.cell? ⟨w.heap.size, 4, none⟩ = some (.int .i64 s.e) := blk_cell B2.out 4
  have z5 : Ws.cell? ⟨w.heap.size, 5, none⟩ = some (.int .i64 s.f) := blk_cell B2.out 5
  go_upto_region 2 with (first
    | (go_at_call 39; refine (six_calls s _).mono ?_; rintro e w6 ⟨rfl, hb⟩; have HB6 := Aside0.mk hb; clear hb))
  clear z0 z1 z2 z3 z4 z5
  obtain ⟨W5, hW5⟩ : ∃ W, w6.alloc (.cells #[.int .i64 s.a, .int .i64 s.b, .int .i64 s.c, .int .i64 s.d, .int .i64 s.e, .int .i64 s.f] 66) = W := ⟨_, rfl⟩
  obtain ⟨b5, hb5⟩ : ∃ x, w6.heap.size = x := ⟨_, rfl⟩
  have X5 : Aside0 (Below Ws.heap.size Ws W5) := ⟨by rw [← hW5]; exact below_alloc HB6.out _⟩
  have B5 : Aside0 (W5.heap[b5]? = some (.cells #[.int .i64 s.a, .int .i64 s.b, .int .i64 s.c, .int .i64 s.d, .int .i64 s.e, .int .i64 s.f] 66 (0, 0))) := ⟨by rw [← hW5, ← hb5]; exact blk_new w6 _⟩
  have NE : Aside0 (w.heap.size + 2 ≠ b5) := ⟨by have := blk_lt B4.out; have := HB6.out.size; omega⟩
  have GE5 : Aside0 (w.heap.size ≤ b5) := ⟨by have := blk_lt B2.out; have := HB6.out.size; omega⟩
  rw [hW5, hb5]
  clear hW5 hb5 HB6
  have L5 := Aside0.mk (below_then LS.out LS.out.size X5.out)
  have hg := HT.out.below L5.out
  obtain ⟨g0, g1, g2, g3, g4, g5⟩ := hg
  have B35 := Aside0.mk (blk_below B3.out X5.out)
  have B45 := Aside0.mk (blk_below B4.out X5.out)
  have p0 : W5.cell? ⟨w.heap.size + 1, 0, none⟩ = some (.int .i64 6) := blk_cell B35.out 0
  have p1 : W5.cell? ⟨w.heap.size + 1, 1, none⟩ = some (.int .i64 v) := blk_cell B35.out 1
  have x0 : W5.cell? ⟨b5, 0, none⟩ = some (.int .i64 s.a) := blk_cell B5.out 0
  have x1 : W5.cell? ⟨b5, 1, none⟩ = some (.int .i64 s.b) := blk_cell B5.out 1
  have x2 : W5.cell? ⟨b5, 2, none⟩ = some (.int .i64 s.c) := blk_cell B5.out 2
  have x3 : W5.cell? ⟨b5, 3, none⟩ = some (.int .i64 s.d) := blk_cell B5.out 3
  have x4 : W5.cell? ⟨b5, 4, none⟩ = some (.int .i64 s.e) := blk_cell B5.out 4
  have x5 : W5.cell? ⟨b5, 5, none⟩ = some (.int .i64 s.f) := blk_cell B5.out 5
  have xf0 : W5.frozen? ⟨b5, 0, none⟩ = false := blk_frozen B5.out 0
  have xf1 : W5.frozen? ⟨b5, 1, none⟩ = false := blk_frozen B5.out 1
  have xf2 : W5.frozen? ⟨b5, 2, none⟩ = false := blk_frozen B5.out 2
  have xf3 : W5.frozen? ⟨b5, 3, none⟩ = false := blk_frozen B5.out 3
  have xf4 : W5.frozen? ⟨b5, 4, none⟩ = false := blk_frozen B5.out 4
  have xf5 : W5.frozen? ⟨b5, 5, none⟩ = false := blk_frozen B5.out 5
  have ne1 : b5 ≠ w.heap.size + 1 := by have := blk_lt B35.out; intro h; have := blk_ne B5.out B35.out (by decide); exact this h
  have ne0 : b5 ≠ 0 := fun h => by have h1 := World.block_lt_of_cell? w _ HT.out.1; have := GE5.out; simp at h1; omega
  go_upto_region 4 with fail
  go_quiet (fail)
  generalize hW9 : (World.setCell W5 ⟨b5, 5, none⟩ (.int .i64 v)).drewN nq = W9
  have B9 : Aside0 (W9.heap[b5]? = some (.cells #[.int .i64 s.a, .int .i64 s.b, .int .i64 s.c, .int .i64 s.d, .int .i64 s.e, .int .i64 v] 66 (0, 0))) := ⟨by rw [← hW9]; simpa using blk_set B5.out 5 (.int .i64 v)⟩
  have B39 : Aside0 (W9.heap[w.heap.size + 1]? = some (.cells #[.int .i64 6, .int .i64 v] 28 (0, 0))) := ⟨by rw [← hW9]; exact blk_far (p := ⟨b5, 5, none⟩) B35.out (fun h => ne1 h.symm) _⟩
  have B49 : Aside0 (W9.heap[w.heap.size + 1 + 1]? = some (.cells #[.int .i64 0, .int .i64 0, .int .i64 0, .int .i64 0, .int .i64 0, .int .i64 0] 23 (0, 0))) := ⟨by rw [← hW9]; exact blk_far (p := ⟨b5, 5, none⟩) B45.out NE.out _⟩
  have L9 : Aside0 (Below w.heap.size w W9) := ⟨by rw [← hW9]; exact pw_below_drewN (L5.out.setCell (p := ⟨b5, 5, none⟩) GE5.out _) _⟩
  clear hW9 x0 xf0 x1 xf1 x2 xf2 x3 xf3 x4 xf4 x5 xf5 g0 g1 g2 g3 g4 g5 p0 p1
  have x0 : W9.cell? ⟨b5, 0, none⟩ = some (.int .i64 s.a) := blk_cell B9.out 0
  have x1 : W9.cell? ⟨b5, 1, none⟩ = some (.int .i64 s.b) := blk_cell B9.out 1
  have x2 : W9.cell? ⟨b5, 2, none⟩ = some (.int .i64 s.c) := blk_cell B9.out 2
  have x3 : W9.cell? ⟨b5, 3, none⟩ = some (.int .i64 s.d) := blk_cell B9.out 3
  have x4 : W9.cell? ⟨b5, 4, none⟩ = some (.int .i64 s.e) := blk_cell B9.out 4
  have x5 : W9.cell? ⟨b5, 5, none⟩ = some (.int .i64 v) := blk_cell B9.out 5
  go_wp2_with (first
    | (go_at_call 40; (with_reducible refine (set_raw _ _ _ _ _ _ _).mono ?_); rintro e w7 ⟨rfl, hb⟩; have H47 := Aside0.mk (blk_below B49.out hb); have LL := Aside0.mk (below_then L9.out L9.out.size hb); clear hb; have z0 : w7.cell? ⟨w.heap.size + 1 + 1, 0, none⟩ = some (.int .i64 0) := blk_cell H47.out 0; have z1 : w7.cell? ⟨w.heap.size + 1 + 1, 1, none⟩ = some (.int .i64 0) := blk_cell H47.out 1; have z2 : w7.cell? ⟨w.heap.size + 1 + 1, 2, none⟩ = some (.int .i64 0) := blk_cell H47.out 2; have z3 : w7.cell? ⟨w.heap.size + 1 + 1, 3, none⟩ = some (.int .i64 0) := blk_cell H47.out 3; have z4 : w7.cell? ⟨w.heap.size + 1 + 1, 4, none⟩ = some (.int .i64 0) := blk_cell H47.out 4; have z5 : w7.cell? ⟨w.heap.size + 1 + 1, 5, none⟩ = some (.int .i64 0) := blk_cell H47.out 5; have zf0 : w7.frozen? ⟨w.heap.size + 1 + 1, 0, none⟩ = false := blk_frozen H47.out 0; have zf1 : w7.frozen? ⟨w.heap.size + 1 + 1, 1, none⟩ = false := blk_frozen H47.out 1; have zf2 : w7.frozen? ⟨w.heap.size + 1 + 1, 2, none⟩ = false := blk_frozen H47.out 2; have zf3 : w7.frozen? ⟨w.heap.size + 1 + 1, 3, none⟩ = false := blk_frozen H47.out 3; have zf4 : w7.frozen? ⟨w.heap.size + 1 + 1, 4, none⟩ = false := blk_frozen H47.out 4; have zf5 : w7.frozen? ⟨w.heap.size + 1 + 1, 5, none⟩ = false := blk_frozen H47.out 5))
  refine bodyPost_ret (v := .agg #[.int .i64 s.a, .int .i64 s.b, .int .i64 s.c, .int .i64 s.d, .int .i64 s.e, .int .i64 v]) (by simp [results, Tryd.results38, go_sem, *]) rfl ⟨rfl, ?_⟩
  exact ((((((LL.out.setCell (p := ⟨w.heap.size + 1 + 1, 0, none⟩) (by show w.heap.size ≤ w.heap.size + 1 + 1; omega) _).setCell (p := ⟨w.heap.size + 1 + 1, 1, none⟩) (by show w.heap.size ≤ w.heap.size + 1 + 1; omega) _).setCell (p := ⟨w.heap.size + 1 + 1, 2, none⟩) (by show w.heap.size ≤ w.heap.size + 1 + 1; omega) _).setCell (p := ⟨w.heap.size + 1 + 1, 3, none⟩) (by show w.heap.size ≤ w.heap.size + 1 + 1; omega) _).setCell (p := ⟨w.heap.size + 1 + 1, 4, none⟩) (by show w.heap.size ≤ w.heap.size + 1 + 1; omega) _).setCell (p := ⟨w.heap.size + 1 + 1, 5, none⟩) (by show w.heap.size ≤ w.heap.size + 1 + 1; omega) _)
theorem one_1_over (s : St) (v : Int) (hv : 2147483647 < v) (w : World) (hT : GT w) : Calls Tryd.prog 38 #[.agg #[.int .i64 s.a, .int .i64 s.b, .int .i64 s.c, .int .i64 s.d, .int .i64 s.e, .int .i64 s.f], .agg #[.int .i64 1, .int .i64 v]] w fun e w' => e = .returned (.agg #[.int .i64 2147483647, .int .i64 s.b, .int .i64 s.c, .int .i64 s.d, .int .i64 s.e, .int .i64 s.f]) ∧ Below w.heap.size w w' := by
  have HB := Aside0.mk (Below.refl w.heap.size w)
  have hd : decide (2147483647 < v) = true := decide_eq_true hv
  clear hv
  have HT := Aside0.mk hT
  clear hT
  go_enter Tryd.func38, Tryd.ntmps38
  go_upto_region 1 with fail
  obtain ⟨Ws, hWs⟩ : ∃ W, ((w.alloc (.cells #[.int .i64 s.a, .int .i64 s.b, .int .i64 s.c, .int .i64 s.d, .int .i64 s.e, .int .i64 s.f] 23)).alloc (.cells #[.int .i64 1, .int .i64 v] 28)).alloc (.cells #[.int .i64 0, .int .i64 0, .int .i64 0, .int .i64 0, .int .i64 0, .int .i64 0] 23) = W := ⟨_, rfl⟩
  have B2 : Aside0 (Ws.heap[w.heap.size]? = some (.cells #[.int .i64 s.a, .int .i64 s.b, .int .i64 s.c, .int .i64 s.d, .int .i64 s.e, .int .i64 s.f] 23 (0, 0))) := ⟨by rw [← hWs]; exact blk_alloc (blk_alloc (blk_new w _) _) _⟩
  have B3 : Aside0 (Ws.heap[w.heap.size + 1]? = some (.cells #[.int .i64 1, .int .i64 v] 28 (0, 0))) := ⟨by
    rw [← hWs]
    have h := blk_new (w.alloc (.cells #[.int .i64 s.a, .int .i64 s.b, .int .i64 s.c, .int .i64 s.d, .int .i64 s.e, .int .i64 s.f] 23)) (.cells #[.int .i64 1, .int .i64 v] 28)
    rw [World.size_alloc] at h
    exact blk_alloc h _⟩
  have B4 : Aside0 (Ws.heap[w.heap.size + 2]? = some (.cells #[.int .i64 0, .int .i64 0, .int .i64 0, .int .i64 0, .int .i64 0, .int .i64 0] 23 (0, 0))) := ⟨by
    rw [← hWs]
    have h := blk_new ((w.alloc (.cells #[.int .i64 s.a, .int .i64 s.b, .int .i64 s.c, .int .i64 s.d, .int .i64 s.e, .int .i64 s.f] 23)).alloc (.cells #[.int .i64 1, .int .i64 v] 28)) (.cells #[.int .i64 0, .int .i64 0, .int .i64 0, .int .i64 0, .int .i64 0, .int .i64 0] 23)
    rwa [World.size_alloc, World.size_alloc] at h⟩
  have LS : Aside0 (Below w.heap.size w Ws) := ⟨by rw [← hWs]; exact below_alloc (below_alloc (below_alloc HB.out _) _) _⟩
  rw [hWs]
  clear hWs
  have z0 : Ws.cell? ⟨w.heap.size, 0, none⟩ = some (.int .i64 s.a) := blk_cell B2.out 0
  have z1 : Ws.cell? ⟨w.heap.size, 1, none⟩ = some (.int .i64 s.b) := blk_cell B2.out 1
  have z2 : Ws.cell? ⟨w.heap.size, 2, none⟩ = some (.int .i64 s.c) := blk_cell B2.out 2
  have z3 : Ws.cell? ⟨w.heap.size, 3, none⟩ = some (.int .i64 s.d) := blk_cell B2.out 3
  have z4 : Ws.cell? ⟨w.heap.size, 4, none⟩ = some (.int .i64 s.e) := blk_cell B2.out 4
  have z5 : Ws.cell? ⟨w.heap.size, 5, none⟩ = some (.int .i64 s.f) := blk_cell B2.out 5
  go_upto_region 2 with (first
    | (go_at_call 39; refine (six_calls s _).mono ?_; rintro e w6 ⟨rfl, hb⟩; have HB6 := Aside0.mk hb; clear hb))
  clear z0 z1 z2 z3 z4 z5
  obtain ⟨W5, hW5⟩ : ∃ W, w6.alloc (.cells #[.int .i64 s.a, .int .i64 s.b, .int .i64 s.c, .int .i64 s.d, .int .i64 s.e, .int .i64 s.f] 66) = W := ⟨_, rfl⟩
  obtain ⟨b5, hb5⟩ : ∃ x, w6.heap.size = x := ⟨_, rfl⟩
  have X5 : Aside0 (Below Ws.heap.size Ws W5) := ⟨by rw [← hW5]; exact below_alloc HB6.out _⟩
  have B5 : Aside0 (W5.heap[b5]? = some (.cells #[.int .i64 s.a, .int .i64 s.b, .int .i64 s.c, .int .i64 s.d, .int .i64 s.e, .int .i64 s.f] 66 (0, 0))) := ⟨by rw [← hW5, ← hb5]; exact blk_new w6 _⟩
  have NE : Aside0 (w.heap.size + 2 ≠ b5) := ⟨by have := blk_lt B4.out; have := HB6.out.size; omega⟩
  have GE5 : Aside0 (w.heap.size ≤ b5) := ⟨by have := blk_lt B2.out; have := HB6.out.size; omega⟩
  rw [hW5, hb5]
  clear hW5 hb5 HB6
  have L5 := Aside0.mk (below_then LS.out LS.out.size X5.out)
  have hg := HT.out.below L5.out
  obtain ⟨g0, g1, g2, g3, g4, g5⟩ := hg
  have B35 := Aside0.mk (blk_below B3.out X5.out)
  have B45 := Aside0.mk (blk_below B4.out X5.out)
  have p0 : W5.cell? ⟨w.heap.size + 1, 0, none⟩ = some (.int .i64 1) := blk_cell B35.out 0
  have p1 : W5.cell? ⟨w.heap.size + 1, 1, none⟩ = some (.int .i64 v) := blk_cell B35.out 1
  have x0 : W5.cell? ⟨b5, 0, none⟩ = some (.int .i64 s.a) := blk_cell B5.out 0
  have x1 : W5.cell? ⟨b5, 1, none⟩ = some (.int .i64 s.b) := blk_cell B5.out 1
  have x2 : W5.cell? ⟨b5, 2, none⟩ = some (.int .i64 s.c) := blk_cell B5.out 2
  have x3 : W5.cell? ⟨b5, 3, none⟩ = some (.int .i64 s.d) := blk_cell B5.out 3
  have x4 : W5.cell? ⟨b5, 4, none⟩ = some (.int .i64 s.e) := blk_cell B5.out 4
  have x5 : W5.cell? ⟨b5, 5, none⟩ = some (.int .i64 s.f) := blk_cell B5.out 5
  have xf0 : W5.frozen? ⟨b5, 0, none⟩ = false := blk_frozen B5.out 0
  have xf1 : W5.frozen? ⟨b5, 1, none⟩ = false := blk_frozen B5.out 1
  have xf2 : W5.frozen? ⟨b5, 2, none⟩ = false := blk_frozen B5.out 2
  have xf3 : W5.frozen? ⟨b5, 3, none⟩ = false := blk_frozen B5.out 3
  have xf4 : W5.frozen? ⟨b5, 4, none⟩ = false := blk_frozen B5.out 4
  have xf5 : W5.frozen? ⟨b5, 5, none⟩ = false := blk_frozen B5.out 5
  have ne1 : b5 ≠ w.heap.size + 1 := by have := blk_lt B35.out; intro h; have := blk_ne B5.out B35.out (by decide); exact this h
  have ne0 : b5 ≠ 0 := fun h => by have h1 := World.block_lt_of_cell? w _ HT.out.1; have := GE5.out; simp at h1; omega
  go_upto_region 4 with fail
  go_quiet (fail)
  generalize hW9 : (World.setCell W5 ⟨b5, 0, none⟩ (.int .i64 v)).drewN nq = W9
  have B9 : Aside0 (W9.heap[b5]? = some (.cells #[.int .i64 v, .int .i64 s.b, .int .i64 s.c, .int .i64 s.d, .int .i64 s.e, .int .i64 s.f] 66 (0, 0))) := ⟨by rw [← hW9]; simpa using blk_set B5.out 0 (.int .i64 v)⟩
  have B39 : Aside0 (W9.heap[w.heap.size + 1]? = some (.cells #[.int .i64 1, .int .i64 v] 28 (0, 0))) := ⟨by rw [← hW9]; exact blk_far (p := ⟨b5, 0, none⟩) B35.out (fun h => ne1 h.symm) _⟩
  have B49 : Aside0 (W9.heap[w.heap.size + 1 + 1]? = some (.cells #[.int .i64 0, .int .i64 0, .int .i64 0, .int .i64 0, .int .i64 0, .int .i64 0] 23 (0, 0))) := ⟨by rw [← hW9]; exact blk_far (p := ⟨b5, 0, none⟩) B45.out NE.out _⟩
  have L9 : Aside0 (Below w.heap.size w W9) := ⟨by rw [← hW9]; exact pw_below_drewN (L5.out.setCell (p := ⟨b5, 0, none⟩) GE5.out _) _⟩
  clear hW9 x0 xf0 x1 xf1 x2 xf2 x3 xf3 x4 xf4 x5 xf5 g0 g1 g2 g3 g4 g5 p0 p1
  have hw0 : wrap64 0 = 0 := by unfold wrap64; omega
  have c0 : W9.cell? ⟨w.heap.size + 1, 0, none⟩ = some (.int .i64 1) := blk_cell B39.out 0
  have c1 : W9.cell? ⟨0, 0, none⟩ = some (.int .i64 2147483647) := (HT.out.below L9.out).1
  have c2 : W9.cell? ⟨b5, 0, none⟩ = some (.int .i64 v) := blk_cell B9.out 0
  have c3 : W9.frozen? ⟨b5, 0, none⟩ = false := blk_frozen B9.out 0
  go_upto_region 5 with fail
  refine start_ (n := 10) (S := fun w' => w'.cell? ⟨w.heap.size + 1, 0, none⟩ = some (.int .i64 1) ∧ w'.cell? ⟨0, 0, none⟩ = some (.int .i64 2147483647) ∧ w'.cell? ⟨b5, 0, none⟩ = some (.int .i64 v) ∧ w'.frozen? ⟨b5, 0, none⟩ = false) (ds := [9]) #[false, false, false, false, false, false, false, false, false, false] (by kernel_rfl) rfl rfl ⟨c0, c1, c2, c3⟩ (fun hHeld => ?_)
  refine pure_ (i := 0) (N := some 30) (v := ?_) (a' := ?_) #[true, false, false, false, false, false, false, false, false, false] rfl rfl (by kernel_rfl) (fun _ _ _ h => h) (Or.inl ⟨by rfl, ?_⟩) ?_ ?_
  rotate_left
  · intro w'
    go_simp
    with_reducible rfl
  rotate_left
  · simp only [Act.put, List.setIfInBounds_toArray, List.set_cons_zero, List.set_cons_succ, i64_w, i32_w]
    rfl
  refine pure_ (i := 3) (N := some 33) (v := ?_) (a' := ?_) #[true, false, false, true, false, false, false, false, false, false] rfl rfl (by kernel_rfl) (fun _ _ _ h => h) (Or.inl ⟨by rfl, ?_⟩) ?_ ?_
  rotate_left
  · intro w'
    go_simp
    with_reducible rfl
  rotate_left
  · simp only [Act.put, List.setIfInBounds_toArray, List.set_cons_zero, List.set_cons_succ, i64_w, i32_w]
    rfl
  refine take_ (i := 1) (N := some 31) (v := ?_) (a' := ?_) #[true, true, false, true, false, false, false, false, false, false] rfl rfl (by kernel_rfl) (fun _ _ _ h => h) (Or.inl ⟨by rfl, ?_⟩) hHeld ?_ ?_
  rotate_left
  · rintro w' ⟨s0, s1, s2, s3⟩
    go_simp
    with_reducible rfl
  rotate_left
  · simp only [Act.put, List.setIfInBounds_toArray, List.set_cons_zero, List.set_cons_succ, i64_w, i32_w]
    rfl
  refine pure_ (i := 2) (N := some 32) (v := ?_) (a' := ?_) #[true, true, true, true, false, false, false, false, false, false] rfl rfl (by kernel_rfl) (fun _ _ _ h => h) (Or.inl ⟨by rfl, ?_⟩) ?_ ?_
  rotate_left
  · intro w'
    go_simp
    with_reducible rfl
  rotate_left
  · simp only [Act.put, List.setIfInBounds_toArray, List.set_cons_zero, List.set_cons_succ, i64_w, i32_w]
    rfl
  refine take_ (i := 4) (N := some 34) (v := ?_) (a' := ?_) #[true, true, true, true, true, false, false, false, false, false] rfl rfl (by kernel_rfl) (fun _ _ _ h => h) (Or.inl ⟨by rfl, ?_⟩) hHeld ?_ ?_
  rotate_left
  · rintro w' ⟨s0, s1, s2, s3⟩
    go_simp
    with_reducible rfl
  rotate_left
  · simp only [Act.put, List.setIfInBounds_toArray, List.set_cons_zero, List.set_cons_succ, i64_w, i32_w]
    rfl
  refine pure_ (i := 5) (N := some 35) (v := ?_) (a' := ?_) #[true, true, true, true, true, true, false, false, false, false] rfl rfl (by kernel_rfl) (fun _ _ _ h => h) (Or.inl ⟨by rfl, ?_⟩) ?_ ?_
  rotate_left
  · intro w'
    go_simp
    with_reducible rfl
  rotate_left
  · simp only [Act.put, List.setIfInBounds_toArray, List.set_cons_zero, List.set_cons_succ, i64_w, i32_w]
    rfl
  refine pure_ (i := 6) (N := some 36) (v := ?_) (a' := ?_) #[true, true, true, true, true, true, true, false, false, false] rfl rfl (by kernel_rfl) (fun _ _ _ h => h) (Or.inl ⟨by rfl, ?_⟩) ?_ ?_
  rotate_left
  · intro w'
    go_simp
    with_reducible rfl
  rotate_left
  · simp only [Act.put, List.setIfInBounds_toArray, List.set_cons_zero, List.set_cons_succ, i64_w, i32_w]
    rfl
  refine take_ (i := 7) (N := some 37) (v := ?_) (a' := ?_) #[true, true, true, true, true, true, true, true, false, false] rfl rfl (by kernel_rfl) (fun _ _ _ h => h) (Or.inl ⟨by rfl, ?_⟩) hHeld ?_ ?_
  rotate_left
  · rintro w' ⟨s0, s1, s2, s3⟩
    go_simp
    with_reducible rfl
  rotate_left
  · simp only [Act.put, List.setIfInBounds_toArray, List.set_cons_zero, List.set_cons_succ, i64_w, i32_w]
    rfl
  refine pure_ (i := 8) (N := some 38) (v := ?_) (a' := ?_) #[true, true, true, true, true, true, true, true, true, false] rfl rfl (by kernel_rfl) (fun _ _ _ h => h) (Or.inl ⟨by rfl, ?_⟩) ?_ ?_
  rotate_left
  · intro w'
    go_simp
    with_reducible rfl
  rotate_left
  · simp only [Act.put, List.setIfInBounds_toArray, List.set_cons_zero, List.set_cons_succ, i64_w, i32_w]
    rfl
  refine last_ (i := 9) (N := none) #[true, true, true, true, true, true, true, true, true, true] rfl rfl (by kernel_rfl) (by decide) (fun K hK => ?_)
  refine skip_ (w1 := ?_) (by rfl) rfl ?_ ?_
  rotate_left
  · go_simp
    rfl
  refine hK.out _ _ ?_
  clear hK K
  refine done_ (by kernel_rfl) ?_
  generalize hW10 : (W9.setCell ⟨b5, 0, none⟩ (.int .i64 2147483647)).drew = W10
  have B10 : Aside0 (W10.heap[b5]? = some (.cells #[.int .i64 2147483647, .int .i64 s.b, .int .i64 s.c, .int .i64 s.d, .int .i64 s.e, .int .i64 s.f] 66 (0, 0))) := ⟨by
    have h : (W9.setCell ⟨b5, 0, none⟩ (.int .i64 2147483647)).heap[b5]? = some (.cells #[.int .i64 2147483647, .int .i64 s.b, .int .i64 s.c, .int .i64 s.d, .int .i64 s.e, .int .i64 s.f] 66 (0, 0)) := by simpa using blk_set B9.out 0 (.int .i64 2147483647)
    rw [← hW10]; exact h⟩
  have B410 : Aside0 (W10.heap[w.heap.size + 1 + 1]? = some (.cells #[.int .i64 0, .int .i64 0, .int .i64 0, .int .i64 0, .int .i64 0, .int .i64 0] 23 (0, 0))) := ⟨by rw [← hW10]; exact blk_far (p := ⟨b5, 0, none⟩) B49.out NE.out _⟩
  have L10 : Aside0 (Below w.heap.size w W10) := ⟨by rw [← hW10]; exact below_drew (L9.out.setCell (p := ⟨b5, 0, none⟩) GE5.out _)⟩
  clear hW10 hHeld c0 c1 c2 c3
  have x0 : W10.cell? ⟨b5, 0, none⟩ = some (.int .i64 2147483647) := blk_cell B10.out 0
  have x1 : W10.cell? ⟨b5, 1, none⟩ = some (.int .i64 s.b) := blk_cell B10.out 1
  have x2 : W10.cell? ⟨b5, 2, none⟩ = some (.int .i64 s.c) := blk_cell B10.out 2
  have x3 : W10.cell? ⟨b5, 3, none⟩ = some (.int .i64 s.d) := blk_cell B10.out 3
  have x4 : W10.cell? ⟨b5, 4, none⟩ = some (.int .i64 s.e) := blk_cell B10.out 4
  have x5 : W10.cell? ⟨b5, 5, none⟩ = some (.int .i64 s.f) := blk_cell B10.out 5
  go_wp2_with (first
    | (go_at_call 40; (with_reducible refine (set_raw _ _ _ _ _ _ _).mono ?_); rintro e w7 ⟨rfl, hb⟩; have H47 := Aside0.mk (blk_below B410.out hb); have LL := Aside0.mk (below_then L10.out L10.out.size hb); clear hb; have z0 : w7.cell? ⟨w.heap.size + 1 + 1, 0, none⟩ = some (.int .i64 0) := blk_cell H47.out 0; have z1 : w7.cell? ⟨w.heap.size + 1 + 1, 1, none⟩ = some (.int .i64 0) := blk_cell H47.out 1; have z2 : w7.cell? ⟨w.heap.size + 1 + 1, 2, none⟩ = some (.int .i64 0) := blk_cell H47.out 2; have z3 : w7.cell? ⟨w.heap.size + 1 + 1, 3, none⟩ = some (.int .i64 0) := blk_cell H47.out 3; have z4 : w7.cell? ⟨w.heap.size + 1 + 1, 4, none⟩ = some (.int .i64 0) := blk_cell H47.out 4; have z5 : w7.cell? ⟨w.heap.size + 1 + 1, 5, none⟩ = some (.int .i64 0) := blk_cell H47.out 5; have zf0 : w7.frozen? ⟨w.heap.size + 1 + 1, 0, none⟩ = false := blk_frozen H47.out 0; have zf1 : w7.frozen? ⟨w.heap.size + 1 + 1, 1, none⟩ = false := blk_frozen H47.out 1; have zf2 : w7.frozen? ⟨w.heap.size + 1 + 1, 2, none⟩ = false := blk_frozen H47.out 2; have zf3 : w7.frozen? ⟨w.heap.size + 1 + 1, 3, none⟩ = false := blk_frozen H47.out 3; have zf4 : w7.frozen? ⟨w.heap.size + 1 + 1, 4, none⟩ = false := blk_frozen H47.out 4; have zf5 : w7.frozen? ⟨w.heap.size + 1 + 1, 5, none⟩ = false := blk_frozen H47.out 5))
  refine bodyPost_ret (v := .agg #[.int .i64 2147483647, .int .i64 s.b, .int .i64 s.c, .int .i64 s.d, .int .i64 s.e, .int .i64 s.f]) (by simp [results, Tryd.results38, go_sem, *]) rfl ⟨rfl, ?_⟩
  exact ((((((LL.out.setCell (p := ⟨w.heap.size + 1 + 1, 0, none⟩) (by show w.heap.size ≤ w.heap.size + 1 + 1; omega) _).setCell (p := ⟨w.heap.size + 1 + 1, 1, none⟩) (by show w.heap.size ≤ w.heap.size + 1 + 1; omega) _).setCell (p := ⟨w.heap.size + 1 + 1, 2, none⟩) (by show w.heap.size ≤ w.heap.size + 1 + 1; omega) _).setCell (p := ⟨w.heap.size + 1 + 1, 3, none⟩) (by show w.heap.size ≤ w.heap.size + 1 + 1; omega) _).setCell (p := ⟨w.heap.size + 1 + 1, 4, none⟩) (by show w.heap.size ≤ w.heap.size + 1 + 1; omega) _).setCell (p := ⟨w.heap.size + 1 + 1, 5, none⟩) (by show w.heap.size ≤ w.heap.size + 1 + 1; omega) _)
theorem one_3_over (s : St) (v : Int) (hv : 2147483647 < v) (w : World) (hT : GT w) : Calls Tryd.prog 38 #[.agg #[.int .i64 s.a, .int .i64 s.b, .int .i64 s.c, .int .i64 s.d, .int .i64 s.e, .int .i64 s.f], .agg #[.int .i64 3, .int .i64 v]] w fun e w' => e = .returned (.agg #[.int .i64 s.a, .int .i64 s.b, .int .i64 2147483647, .int .i64 s.d, .int .i64 s.e, .int .i64 s.f]) ∧ Below w.heap.size w w' := by
  have HB := Aside0.mk (Below.refl w.heap.size w)
  have hd : decide (2147483647 < v) = true := decide_eq_true hv
  clear hv
  have HT := Aside0.mk hT
  clear hT
  go_enter Tryd.func38, Tryd.ntmps38
  go_upto_region 1 with fail
  obtain ⟨Ws, hWs⟩ : ∃ W, ((w.alloc (.cells #[.int .i64 s.a, .int .i64 s.b, .int .i64 s.c, .int .i64 s.d, .int .i64 s.e, .int .i64 s.f] 23)).alloc (.cells #[.int .i64 3, .int .i64 v] 28)).alloc (.cells #[.int .i64 0, .int .i64 0, .int .i64 0, .int .i64 0, .int .i64 0, .int .i64 0] 23) = W := ⟨_, rfl⟩
  have B2 : Aside0 (Ws.heap[w.heap.size]? = some (.cells #[.int .i64 s.a, .int .i64 s.b, .int .i64 s.c, .int .i64 s.d, .int .i64 s.e, .int .i64 s.f] 23 (0, 0))) := ⟨by rw [← hWs]; exact blk_alloc (blk_alloc (blk_new w _) _) _⟩
  have B3 : Aside0 (Ws.heap[w.heap.size + 1]? = some (.cells #[.int .i64 3, .int .i64 v] 28 (0, 0))) := ⟨by
    rw [← hWs]
    have h := blk_new (w.alloc (.cells #[.int .i64 s.a, .int .i64 s.b, .int .i64 s.c, .int .i64 s.d, .int .i64 s.e, .int .i64 s.f] 23)) (.cells #[.int .i64 3, .int .i64 v] 28)
    rw [World.size_alloc] at h
    exact blk_alloc h _⟩
  have B4 : Aside0 (Ws.heap[w.heap.size + 2]? = some (.cells #[.int .i64 0, .int .i64 0, .int .i64 0, .int .i64 0, .int .i64 0, .int .i64 0] 23 (0, 0))) := ⟨by
    rw [← hWs]
    have h := blk_new ((w.alloc (.cells #[.int .i64 s.a, .int .i64 s.b, .int .i64 s.c, .int .i64 s.d, .int .i64 s.e, .int .i64 s.f] 23)).alloc (.cells #[.int .i64 3, .int .i64 v] 28)) (.cells #[.int .i64 0, .int .i64 0, .int .i64 0, .int .i64 0, .int .i64 0, .int .i64 0] 23)
    rwa [World.size_alloc, World.size_alloc] at h⟩
  have LS : Aside0 (Below w.heap.size w Ws) := ⟨by rw [← hWs]; exact below_alloc (below_alloc (below_alloc HB.out _) _) _⟩
  rw [hWs]
  clear hWs
  have z0 : Ws.cell? ⟨w.heap.size, 0, none⟩ = some (.int .i64 s.a) := blk_cell B2.out 0
  have z1 : Ws.cell? ⟨w.heap.size, 1, none⟩ = some (.int .i64 s.b) := blk_cell B2.out 1
  have z2 : Ws.cell? ⟨w.heap.size, 2, none⟩ = some (.int .i64 s.c) := blk_cell B2.out 2
  have z3 : Ws.cell? ⟨w.heap.size, 3, none⟩ = some (.int .i64 s.d) := blk_cell B2.out 3
  have z4 : Ws.cell? ⟨w.heap.size, 4, none⟩ = some (.int .i64 s.e) := blk_cell B2.out 4
  have z5 : Ws.cell? ⟨w.heap.size, 5, none⟩ = some (.int .i64 s.f) := blk_cell B2.out 5
  go_upto_region 2 with (first
    | (go_at_call 39; refine (six_calls s _).mono ?_; rintro e w6 ⟨rfl, hb⟩; have HB6 := Aside0.mk hb; clear hb))
  clear z0 z1 z2 z3 z4 z5
  obtain ⟨W5, hW5⟩ : ∃ W, w6.alloc (.cells #[.int .i64 s.a, .int .i64 s.b, .int .i64 s.c, .int .i64 s.d, .int .i64 s.e, .int .i64 s.f] 66) = W := ⟨_, rfl⟩
  obtain ⟨b5, hb5⟩ : ∃ x, w6.heap.size = x := ⟨_, rfl⟩
  have X5 : Aside0 (Below Ws.heap.size Ws W5) := ⟨by rw [← hW5]; exact below_alloc HB6.out _⟩
  have B5 : Aside0 (W5.heap[b5]? = some (.cells #[.int .i64 s.a, .int .i64 s.b, .int .i64 s.c, .int .i64 s.d, .int .i64 s.e, .int .i64 s.f] 66 (0, 0))) := ⟨by rw [← hW5, ← hb5]; exact blk_new w6 _⟩
  have NE : Aside0 (w.heap.size + 2 ≠ b5) := ⟨by have := blk_lt B4.out; have := HB6.out.size; omega⟩
  have GE5 : Aside0 (w.heap.size ≤ b5) := ⟨by have := blk_lt B2.out; have := HB6.out.size; omega⟩
  rw [hW5, hb5]
  clear hW5 hb5 HB6
  have L5 := Aside0.mk (below_then LS.out LS.out.size X5.out)
  have hg := HT.out.below L5.out
  obtain ⟨g0, g1, g2, g3, g4, g5⟩ := hg
  have B35 := Aside0.mk (blk_below B3.out X5.out)
  have B45 := Aside0.mk (blk_below B4.out X5.out)
  have p0 : W5.cell? ⟨w.heap.size + 1, 0, none⟩ = some (.int .i64 3) := blk_cell B35.out 0
  have p1 : W5.cell? ⟨w.heap.size + 1, 1, none⟩ = some (.int .i64 v) := blk_cell B35.out 1
  have x0 : W5.cell? ⟨b5, 0, none⟩ = some (.int .i64 s.a) := blk_cell B5.out 0
  have x1 : W5.cell? ⟨b5, 1, none⟩ = some (.int .i64 s.b) := blk_cell B5.out 1
  have x2 : W5.cell? ⟨b5, 2, none⟩ = some (.int .i64 s.c) := blk_cell B5.out 2
  have x3 : W5.cell? ⟨b5, 3, none⟩ = some (.int .i64 s.d) := blk_cell B5.out 3
  have x4 : W5.cell? ⟨b5, 4, none⟩ = some (.int .i64 s.e) := blk_cell B5.out 4
  have x5 : W5.cell? ⟨b5, 5, none⟩ = some (.int .i64 s.f) := blk_cell B5.out 5
  have xf0 : W5.frozen? ⟨b5, 0, none⟩ = false := blk_frozen B5.out 0
  have xf1 : W5.frozen? ⟨b5, 1, none⟩ = false := blk_frozen B5.out 1
  have xf2 : W5.frozen? ⟨b5, 2, none⟩ = false := blk_frozen B5.out 2
  have xf3 : W5.frozen? ⟨b5, 3, none⟩ = false := blk_frozen B5.out 3
  have xf4 : W5.frozen? ⟨b5, 4, none⟩ = false := blk_frozen B5.out 4
  have xf5 : W5.frozen? ⟨b5, 5, none⟩ = false := blk_frozen B5.out 5
  have ne1 : b5 ≠ w.heap.size + 1 := by have := blk_lt B35.out; intro h; have := blk_ne B5.out B35.out (by decide); exact this h
  have ne0 : b5 ≠ 0 := fun h => by have h1 := World.block_lt_of_cell? w _ HT.out.1; have := GE5.out; simp at h1; omega
  go_upto_region 4 with fail
  go_quiet (fail)
  generalize hW9 : (World.setCell W5 ⟨b5, 2, none⟩ (.int .i64 v)).drewN nq = W9
  have B9 : Aside0 (W9.heap[b5]? = some (.cells #[.int .i64 s.a, .int .i64 s.b, .int .i64 v, .int .i64 s.d, .int .i64 s.e, .int .i64 s.f] 66 (0, 0))) := ⟨by rw [← hW9]; simpa using blk_set B5.out 2 (.int .i64 v)⟩
  have B39 : Aside0 (W9.heap[w.heap.size + 1]? = some (.cells #[.int .i64 3, .int .i64 v] 28 (0, 0))) := ⟨by rw [← hW9]; exact blk_far (p := ⟨b5, 2, none⟩) B35.out (fun h => ne1 h.symm) _⟩
  have B49 : Aside0 (W9.heap[w.heap.size + 1 + 1]? = some (.cells #[.int .i64 0, .int .i64 0, .int .i64 0, .int .i64 0, .int .i64 0, .int .i64 0] 23 (0, 0))) := ⟨by rw [← hW9]; exact blk_far (p := ⟨b5, 2, none⟩) B45.out NE.out _⟩
  have L9 : Aside0 (Below w.heap.size w W9) := ⟨by rw [← hW9]; exact pw_below_drewN (L5.out.setCell (p := ⟨b5, 2, none⟩) GE5.out _) _⟩
  clear hW9 x0 xf0 x1 xf1 x2 xf2 x3 xf3 x4 xf4 x5 xf5 g0 g1 g2 g3 g4 g5 p0 p1
  have hw0 : wrap64 2 = 2 := by unfold wrap64; omega
  have c0 : W9.cell? ⟨w.heap.size + 1, 0, none⟩ = some (.int .i64 3) := blk_cell B39.out 0
  have c1 : W9.cell? ⟨0, 2, none⟩ = some (.int .i64 2147483647) := (HT.out.below L9.out).2.2.1
  have c2 : W9.cell? ⟨b5, 2, none⟩ = some (.int .i64 v) := blk_cell B9.out 2
  have c3 : W9.frozen? ⟨b5, 2, none⟩ = false := blk_frozen B9.out 2
  go_upto_region 5 with fail
  refine start_ (n := 10) (S := fun w' => w'.cell? ⟨w.heap.size + 1, 0, none⟩ = some (.int .i64 3) ∧ w'.cell? ⟨0, 2, none⟩ = some (.int .i64 2147483647) ∧ w'.cell? ⟨b5, 2, none⟩ = some (.int .i64 v) ∧ w'.frozen? ⟨b5, 2, none⟩ = false) (ds := [9]) #[false, false, false, false, false, false, false, false, false, false] (by kernel_rfl) rfl rfl ⟨c0, c1, c2, c3⟩ (fun hHeld => ?_)
  refine pure_ (i := 0) (N := some 30) (v := ?_) (a' := ?_) #[true, false, false, false, false, false, false, false, false, false] rfl rfl (by kernel_rfl) (fun _ _ _ h => h) (Or.inl ⟨by rfl, ?_⟩) ?_ ?_
  rotate_left
  · intro w'
    go_simp
    with_reducible rfl
  rotate_left
  · simp only [Act.put, List.setIfInBounds_toArray, List.set_cons_zero, List.set_cons_succ, i64_w, i32_w]
    rfl
  refine pure_ (i := 3) (N := some 33) (v := ?_) (a' := ?_) #[true, false, false, true, false, false, false, false, false, false] rfl rfl (by kernel_rfl) (fun _ _ _ h => h) (Or.inl ⟨by rfl, ?_⟩) ?_ ?_
  rotate_left
  · intro w'
    go_simp
    with_reducible rfl
  rotate_left
  · simp only [Act.put, List.setIfInBounds_toArray, List.set_cons_zero, List.set_cons_succ, i64_w, i32_w]
    rfl
  refine take_ (i := 1) (N := some 31) (v := ?_) (a' := ?_) #[true, true, false, true, false, false, false, false, false, false] rfl rfl (by kernel_rfl) (fun _ _ _ h => h) (Or.inl ⟨by rfl, ?_⟩) hHeld ?_ ?_
  rotate_left
  · rintro w' ⟨s0, s1, s2, s3⟩
    go_simp
    with_reducible rfl
  rotate_left
  · simp only [Act.put, List.setIfInBounds_toArray, List.set_cons_zero, List.set_cons_succ, i64_w, i32_w]
    rfl
  refine pure_ (i := 2) (N := some 32) (v := ?_) (a' := ?_) #[true, true, true, true, false, false, false, false, false, false] rfl rfl (by kernel_rfl) (fun _ _ _ h => h) (Or.inl ⟨by rfl, ?_⟩) ?_ ?_
  rotate_left
  · intro w'
    go_simp
    with_reducible rfl
  rotate_left
  · simp only [Act.put, List.setIfInBounds_toArray, List.set_cons_zero, List.set_cons_succ, i64_w, i32_w]
    rfl
  refine take_ (i := 4) (N := some 34) (v := ?_) (a' := ?_) #[true, true, true, true, true, false, false, false, false, false] rfl rfl (by kernel_rfl) (fun _ _ _ h => h) (Or.inl ⟨by rfl, ?_⟩) hHeld ?_ ?_
  rotate_left
  · rintro w' ⟨s0, s1, s2, s3⟩
    go_simp
    with_reducible rfl
  rotate_left
  · simp only [Act.put, List.setIfInBounds_toArray, List.set_cons_zero, List.set_cons_succ, i64_w, i32_w]
    rfl
  refine pure_ (i := 5) (N := some 35) (v := ?_) (a' := ?_) #[true, true, true, true, true, true, false, false, false, false] rfl rfl (by kernel_rfl) (fun _ _ _ h => h) (Or.inl ⟨by rfl, ?_⟩) ?_ ?_
  rotate_left
  · intro w'
    go_simp
    with_reducible rfl
  rotate_left
  · simp only [Act.put, List.setIfInBounds_toArray, List.set_cons_zero, List.set_cons_succ, i64_w, i32_w]
    rfl
  refine pure_ (i := 6) (N := some 36) (v := ?_) (a' := ?_) #[true, true, true, true, true, true, true, false, false, false] rfl rfl (by kernel_rfl) (fun _ _ _ h => h) (Or.inl ⟨by rfl, ?_⟩) ?_ ?_
  rotate_left
  · intro w'
    go_simp
    with_reducible rfl
  rotate_left
  · simp only [Act.put, List.setIfInBounds_toArray, List.set_cons_zero, List.set_cons_succ, i64_w, i32_w]
    rfl
  refine take_ (i := 7) (N := some 37) (v := ?_) (a' := ?_) #[true, true, true, true, true, true, true, true, false, false] rfl rfl (by kernel_rfl) (fun _ _ _ h => h) (Or.inl ⟨by rfl, ?_⟩) hHeld ?_ ?_
  rotate_left
  · rintro w' ⟨s0, s1, s2, s3⟩
    go_simp
    with_reducible rfl
  rotate_left
  · simp only [Act.put, List.setIfInBounds_toArray, List.set_cons_zero, List.set_cons_succ, i64_w, i32_w]
    rfl
  refine pure_ (i := 8) (N := some 38) (v := ?_) (a' := ?_) #[true, true, true, true, true, true, true, true, true, false] rfl rfl (by kernel_rfl) (fun _ _ _ h => h) (Or.inl ⟨by rfl, ?_⟩) ?_ ?_
  rotate_left
  · intro w'
    go_simp
    with_reducible rfl
  rotate_left
  · simp only [Act.put, List.setIfInBounds_toArray, List.set_cons_zero, List.set_cons_succ, i64_w, i32_w]
    rfl
  refine last_ (i := 9) (N := none) #[true, true, true, true, true, true, true, true, true, true] rfl rfl (by kernel_rfl) (by decide) (fun K hK => ?_)
  refine skip_ (w1 := ?_) (by rfl) rfl ?_ ?_
  rotate_left
  · go_simp
    rfl
  refine hK.out _ _ ?_
  clear hK K
  refine done_ (by kernel_rfl) ?_
  generalize hW10 : (W9.setCell ⟨b5, 2, none⟩ (.int .i64 2147483647)).drew = W10
  have B10 : Aside0 (W10.heap[b5]? = some (.cells #[.int .i64 s.a, .int .i64 s.b, .int .i64 2147483647, .int .i64 s.d, .int .i64 s.e, .int .i64 s.f] 66 (0, 0))) := ⟨by
    have h : (W9.setCell ⟨b5, 2, none⟩ (.int .i64 2147483647)).heap[b5]? = some (.cells #[.int .i64 s.a, .int .i64 s.b, .int .i64 2147483647, .int .i64 s.d, .int .i64 s.e, .int .i64 s.f] 66 (0, 0)) := by simpa using blk_set B9.out 2 (.int .i64 2147483647)
    rw [← hW10]; exact h⟩
  have B410 : Aside0 (W10.heap[w.heap.size + 1 + 1]? = some (.cells #[.int .i64 0, .int .i64 0, .int .i64 0, .int .i64 0, .int .i64 0, .int .i64 0] 23 (0, 0))) := ⟨by rw [← hW10]; exact blk_far (p := ⟨b5, 2, none⟩) B49.out NE.out _⟩
  have L10 : Aside0 (Below w.heap.size w W10) := ⟨by rw [← hW10]; exact below_drew (L9.out.setCell (p := ⟨b5, 2, none⟩) GE5.out _)⟩
  clear hW10 hHeld c0 c1 c2 c3
  have x0 : W10.cell? ⟨b5, 0, none⟩ = some (.int .i64 s.a) := blk_cell B10.out 0
  have x1 : W10.cell? ⟨b5, 1, none⟩ = some (.int .i64 s.b) := blk_cell B10.out 1
  have x2 : W10.cell? ⟨b5, 2, none⟩ = some (.int .i64 2147483647) := blk_cell B10.out 2
  have x3 : W10.cell? ⟨b5, 3, none⟩ = some (.int .i64 s.d) := blk_cell B10.out 3
  have x4 : W10.cell? ⟨b5, 4, none⟩ = some (.int .i64 s.e) := blk_cell B10.out 4
  have x5 : W10.cell? ⟨b5, 5, none⟩ = some (.int .i64 s.f) := blk_cell B10.out 5
  go_wp2_with (first
    | (go_at_call 40; (with_reducible refine (set_raw _ _ _ _ _ _ _).mono ?_); rintro e w7 ⟨rfl, hb⟩; have H47 := Aside0.mk (blk_below B410.out hb); have LL := Aside0.mk (below_then L10.out L10.out.size hb); clear hb; have z0 : w7.cell? ⟨w.heap.size + 1 + 1, 0, none⟩ = some (.int .i64 0) := blk_cell H47.out 0; have z1 : w7.cell? ⟨w.heap.size + 1 + 1, 1, none⟩ = some (.int .i64 0) := blk_cell H47.out 1; have z2 : w7.cell? ⟨w.heap.size + 1 + 1, 2, none⟩ = some (.int .i64 0) := blk_cell H47.out 2; have z3 : w7.cell? ⟨w.heap.size + 1 + 1, 3, none⟩ = some (.int .i64 0) := blk_cell H47.out 3; have z4 : w7.cell? ⟨w.heap.size + 1 + 1, 4, none⟩ = some (.int .i64 0) := blk_cell H47.out 4; have z5 : w7.cell? ⟨w.heap.size + 1 + 1, 5, none⟩ = some (.int .i64 0) := blk_cell H47.out 5; have zf0 : w7.frozen? ⟨w.heap.size + 1 + 1, 0, none⟩ = false := blk_frozen H47.out 0; have zf1 : w7.frozen? ⟨w.heap.size + 1 + 1, 1, none⟩ = false := blk_frozen H47.out 1; have zf2 : w7.frozen? ⟨w.heap.size + 1 + 1, 2, none⟩ = false := blk_frozen H47.out 2; have zf3 : w7.frozen? ⟨w.heap.size + 1 + 1, 3, none⟩ = false := blk_frozen H47.out 3; have zf4 : w7.frozen? ⟨w.heap.size + 1 + 1, 4, none⟩ = false := blk_frozen H47.out 4; have zf5 : w7.frozen? ⟨w.heap.size + 1 + 1, 5, none⟩ = false := blk_frozen H47.out 5))
  refine bodyPost_ret (v := .agg #[.int .i64 s.a, .int .i64 s.b, .int .i64 2147483647, .int .i64 s.d, .int .i64 s.e, .int .i64 s.f]) (by simp [results, Tryd.results38, go_sem, *]) rfl ⟨rfl, ?_⟩
  exact ((((((LL.out.setCell (p := ⟨w.heap.size + 1 + 1, 0, none⟩) (by show w.heap.size ≤ w.heap.size + 1 + 1; omega) _).setCell (p := ⟨w.heap.size + 1 + 1, 1, none⟩) (by show w.heap.size ≤ w.heap.size + 1 + 1; omega) _).setCell (p := ⟨w.heap.size + 1 + 1, 2, none⟩) (by show w.heap.size ≤ w.heap.size + 1 + 1; omega) _).setCell (p := ⟨w.heap.size + 1 + 1, 3, none⟩) (by show w.heap.size ≤ w.heap.size + 1 + 1; omega) _).setCell (p := ⟨w.heap.size + 1 + 1, 4, none⟩) (by show w.heap.size ≤ w.heap.size + 1 + 1; omega) _).setCell (p := ⟨w.heap.size + 1 + 1, 5, none⟩) (by show w.heap.size ≤ w.heap.size + 1 + 1; omega) _)
theorem one_4_over (s : St) (v : Int) (hv : 2147483647 < v) (w : World) (hT : GT w) : Calls Tryd.prog 38 #[.agg #[.int .i64 s.a, .int .i64 s.b, .int .i64 s.c, .int .i64 s.d, .int .i64 s.e, .int .i64 s.f], .agg #[.int .i64 4, .int .i64 v]] w fun e w' => e = .returned (.agg #[.int .i64 s.a, .int .i64 s.b, .int .i64 s.c, .int .i64 2147483647, .int .i64 s.e, .int .i64 s.f]) ∧ Below w.heap.size w w' := by
  have HB := Aside0.mk (Below.refl w.heap.size w)
  have hd : decide (2147483647 < v) = true := decide_eq_true hv
  clear hv
  have HT := Aside0.mk hT
  clear hT
  go_enter Tryd.func38, Tryd.ntmps38
  go_upto_region 1 with fail
  obtain ⟨Ws, hWs⟩ : ∃ W, ((w.alloc (.cells #[.int .i64 s.a, .int .i64 s.b, .int .i64 s.c, .int .i64 s.d, .int .i64 s.e, .int .i64 s.f] 23)).alloc (.cells #[.int .i64 4, .int .i64 v] 28)).alloc (.cells #[.int .i64 0, .int .i64 0, .int .i64 0, .int .i64 0, .int .i64 0, .int .i64 0] 23) = W := ⟨_, rfl⟩
  have B2 : Aside0 (Ws.heap[w.heap.size]? = some (.cells #[.int .i64 s.a, .int .i64 s.b, .int .i64 s.c, .int .i64 s.d, .int .i64 s.e, .int .i64 s.f] 23 (0, 0))) := ⟨by rw [← hWs]; exact blk_alloc (blk_alloc (blk_new w _) _) _⟩
  have B3 : Aside0 (Ws.heap[w.heap.size + 1]? = some (.cells #[.int .i64 4, .int .i64 v] 28 (0, 0))) := ⟨by
    rw [← hWs]
    have h := blk_new (w.alloc (.cells #[.int .i64 s.a, .int .i64 s.b, .int .i64 s.c, .int .i64 s.d, .int .i64 s.e, .int .i64 s.f] 23)) (.cells #[.int .i64 4, .int .i64 v] 28)
    rw [World.size_alloc] at h
    exact blk_alloc h _⟩
  have B4 : Aside0 (Ws.heap[w.heap.size + 2]? = some (.cells #[.int .i64 0, .int .i64 0, .int .i64 0, .int .i64 0, .int .i64 0, .int .i64 0] 23 (0, 0))) := ⟨by
    rw [← hWs]
    have h := blk_new ((w.alloc (.cells #[.int .i64 s.a, .int .i64 s.b, .int .i64 s.c, .int .i64 s.d, .int .i64 s.e, .int .i64 s.f] 23)).alloc (.cells #[.int .i64 4, .int .i64 v] 28)) (.cells #[.int .i64 0, .int .i64 0, .int .i64 0, .int .i64 0, .int .i64 0, .int .i64 0] 23)
    rwa [World.size_alloc, World.size_alloc] at h⟩
  have LS : Aside0 (Below w.heap.size w Ws) := ⟨by rw [← hWs]; exact below_alloc (below_alloc (below_alloc HB.out _) _) _⟩
  rw [hWs]
  clear hWs
  have z0 : Ws.cell? ⟨w.heap.size, 0, none⟩ = some (.int .i64 s.a) := blk_cell B2.out 0
  have z1 : Ws.cell? ⟨w.heap.size, 1, none⟩ = some (.int .i64 s.b) := blk_cell B2.out 1
  have z2 : Ws.cell? ⟨w.heap.size, 2, none⟩ = some (.int .i64 s.c) := blk_cell B2.out 2
  have z3 : Ws.cell? ⟨w.heap.size, 3, none⟩ = some (.int .i64 s.d) := blk_cell B2.out 3
  have z4 : Ws.cell? ⟨w.heap.size, 4, none⟩ = some (.int .i64 s.e) := blk_cell B2.out 4
  have z5 : Ws.cell? ⟨w.heap.size, 5, none⟩ = some (.int .i64 s.f) := blk_cell B2.out 5
  go_upto_region 2 with (first
    | (go_at_call 39; refine (six_calls s _).mono ?_; rintro e w6 ⟨rfl, hb⟩; have HB6 := Aside0.mk hb; clear hb))
  clear z0 z1 z2 z3 z4 z5
  obtain ⟨W5, hW5⟩ : ∃ W, w6.alloc (.cells #[.int .i64 s.a, .int .i64 s.b, .int .i64 s.c, .int .i64 s.d, .int .i64 s.e, .int .i64 s.f] 66) = W := ⟨_, rfl⟩
  obtain ⟨b5, hb5⟩ : ∃ x, w6.heap.size = x := ⟨_, rfl⟩
  have X5 : Aside0 (Below Ws.heap.size Ws W5) := ⟨by rw [← hW5]; exact below_alloc HB6.out _⟩
  have B5 : Aside0 (W5.heap[b5]? = some (.cells #[.int .i64 s.a, .int .i64 s.b, .int .i64 s.c, .int .i64 s.d, .int .i64 s.e, .int .i64 s.f] 66 (0, 0))) := ⟨by rw [← hW5, ← hb5]; exact blk_new w6 _⟩
  have NE : Aside0 (w.heap.size + 2 ≠ b5) := ⟨by have := blk_lt B4.out; have := HB6.out.size; omega⟩
  have GE5 : Aside0 (w.heap.size ≤ b5) := ⟨by have := blk_lt B2.out; have := HB6.out.size; omega⟩
  rw [hW5, hb5]
  clear hW5 hb5 HB6
  have L5 := Aside0.mk (below_then LS.out LS.out.size X5.out)
  have hg := HT.out.below L5.out
  obtain ⟨g0, g1, g2, g3, g4, g5⟩ := hg
  have B35 := Aside0.mk (blk_below B3.out X5.out)
  have B45 := Aside0.mk (blk_below B4.out X5.out)
  have p0 : W5.cell? ⟨w.heap.size + 1, 0, none⟩ = some (.int .i64 4) := blk_cell B35.out 0
  have p1 : W5.cell? ⟨w.heap.size + 1, 1, none⟩ = some (.int .i64 v) := blk_cell B35.out 1
  have x0 : W5.cell? ⟨b5, 0, none⟩ = some (.int .i64 s.a) := blk_cell B5.out 0
  have x1 : W5.cell? ⟨b5, 1, none⟩ = some (.int .i64 s.b) := blk_cell B5.out 1
  have x2 : W5.cell? ⟨b5, 2, none⟩ = some (.int .i64 s.c) := blk_cell B5.out 2
  have x3 : W5.cell? ⟨b5, 3, none⟩ = some (.int .i64 s.d) := blk_cell B5.out 3
  have x4 : W5.cell? ⟨b5, 4, none⟩ = some (.int .i64 s.e) := blk_cell B5.out 4
  have x5 : W5.cell? ⟨b5, 5, none⟩ = some (.int .i64 s.f) := blk_cell B5.out 5
  have xf0 : W5.frozen? ⟨b5, 0, none⟩ = false := blk_frozen B5.out 0
  have xf1 : W5.frozen? ⟨b5, 1, none⟩ = false := blk_frozen B5.out 1
  have xf2 : W5.frozen? ⟨b5, 2, none⟩ = false := blk_frozen B5.out 2
  have xf3 : W5.frozen? ⟨b5, 3, none⟩ = false := blk_frozen B5.out 3
  have xf4 : W5.frozen? ⟨b5, 4, none⟩ = false := blk_frozen B5.out 4
  have xf5 : W5.frozen? ⟨b5, 5, none⟩ = false := blk_frozen B5.out 5
  have ne1 : b5 ≠ w.heap.size + 1 := by have := blk_lt B35.out; intro h; have := blk_ne B5.out B35.out (by decide); exact this h
  have ne0 : b5 ≠ 0 := fun h => by have h1 := World.block_lt_of_cell? w _ HT.out.1; have := GE5.out; simp at h1; omega
  go_upto_region 4 with fail
  go_quiet (fail)
  generalize hW9 : (World.setCell W5 ⟨b5, 3, none⟩ (.int .i64 v)).drewN nq = W9
  have B9 : Aside0 (W9.heap[b5]? = some (.cells #[.int .i64 s.a, .int .i64 s.b, .int .i64 s.c, .int .i64 v, .int .i64 s.e, .int .i64 s.f] 66 (0, 0))) := ⟨by rw [← hW9]; simpa using blk_set B5.out 3 (.int .i64 v)⟩
  have B39 : Aside0 (W9.heap[w.heap.size + 1]? = some (.cells #[.int .i64 4, .int .i64 v] 28 (0, 0))) := ⟨by rw [← hW9]; exact blk_far (p := ⟨b5, 3, none⟩) B35.out (fun h => ne1 h.symm) _⟩
  have B49 : Aside0 (W9.heap[w.heap.size + 1 + 1]? = some (.cells #[.int .i64 0, .int .i64 0, .int .i64 0, .int .i64 0, .int .i64 0, .int .i64 0] 23 (0, 0))) := ⟨by rw [← hW9]; exact blk_far (p := ⟨b5, 3, none⟩) B45.out NE.out _⟩
  have L9 : Aside0 (Below w.heap.size w W9) := ⟨by rw [← hW9]; exact pw_below_drewN (L5.out.setCell (p := ⟨b5, 3, none⟩) GE5.out _) _⟩
  clear hW9 x0 xf0 x1 xf1 x2 xf2 x3 xf3 x4 xf4 x5 xf5 g0 g1 g2 g3 g4 g5 p0 p1
  have hw0 : wrap64 3 = 3 := by unfold wrap64; omega
  have c0 : W9.cell? ⟨w.heap.size + 1, 0, none⟩ = some (.int .i64 4) := blk_cell B39.out 0
  have c1 : W9.cell? ⟨0, 3, none⟩ = some (.int .i64 2147483647) := (HT.out.below L9.out).2.2.2.1
  have c2 : W9.cell? ⟨b5, 3, none⟩ = some (.int .i64 v) := blk_cell B9.out 3
  have c3 : W9.frozen? ⟨b5, 3, none⟩ = false := blk_frozen B9.out 3
  go_upto_region 5 with fail
  refine start_ (n := 10) (S := fun w' => w'.cell? ⟨w.heap.size + 1, 0, none⟩ = some (.int .i64 4) ∧ w'.cell? ⟨0, 3, none⟩ = some (.int .i64 2147483647) ∧ w'.cell? ⟨b5, 3, none⟩ = some (.int .i64 v) ∧ w'.frozen? ⟨b5, 3, none⟩ = false) (ds := [9]) #[false, false, false, false, false, false, false, false, false, false] (by kernel_rfl) rfl rfl ⟨c0, c1, c2, c3⟩ (fun hHeld => ?_)
  refine pure_ (i := 0) (N := some 30) (v := ?_) (a' := ?_) #[true, false, false, false, false, false, false, false, false, false] rfl rfl (by kernel_rfl) (fun _ _ _ h => h) (Or.inl ⟨by rfl, ?_⟩) ?_ ?_
  rotate_left
  · intro w'
    go_simp
    with_reducible rfl
  rotate_left
  · simp only [Act.put, List.setIfInBounds_toArray, List.set_cons_zero, List.set_cons_succ, i64_w, i32_w]
    rfl
  refine pure_ (i := 3) (N := some 33) (v := ?_) (a' := ?_) #[true, false, false, true, false, false, false, false, false, false] rfl rfl (by kernel_rfl) (fun _ _ _ h => h) (Or.inl ⟨by rfl, ?_⟩) ?_ ?_
  rotate_left
  · intro w'
    go_simp
    with_reducible rfl
  rotate_left
  · simp only [Act.put, List.setIfInBounds_toArray, List.set_cons_zero, List.set_cons_succ, i64_w, i32_w]
    rfl
  refine take_ (i := 1) (N := some 31) (v := ?_) (a' := ?_) #[true, true, false, true, false, false, false, false, false, false] rfl rfl (by kernel_rfl) (fun _ _ _ h => h) (Or.inl ⟨by rfl, ?_⟩) hHeld ?_ ?_
  rotate_left
  · rintro w' ⟨s0, s1, s2, s3⟩
    go_simp
    with_reducible rfl
  rotate_left
  · simp only [Act.put, List.setIfInBounds_toArray, List.set_cons_zero, List.set_cons_succ, i64_w, i32_w]
    rfl
  refine pure_ (i := 2) (N := some 32) (v := ?_) (a' := ?_) #[true, true, true, true, false, false, false, false, false, false] rfl rfl (by kernel_rfl) (fun _ _ _ h => h) (Or.inl ⟨by rfl, ?_⟩) ?_ ?_
  rotate_left
  · intro w'
    go_simp
    with_reducible rfl
  rotate_left
  · simp only [Act.put, List.setIfInBounds_toArray, List.set_cons_zero, List.set_cons_succ, i64_w, i32_w]
    rfl
  refine take_ (i := 4) (N := some 34) (v := ?_) (a' := ?_) #[true, true, true, true, true, false, false, false, false, false] rfl rfl (by kernel_rfl) (fun _ _ _ h => h) (Or.inl ⟨by rfl, ?_⟩) hHeld ?_ ?_
  rotate_left
  · rintro w' ⟨s0, s1, s2, s3⟩
    go_simp
    with_reducible rfl
  rotate_left
  · simp only [Act.put, List.setIfInBounds_toArray, List.set_cons_zero, List.set_cons_succ, i64_w, i32_w]
    rfl
  refine pure_ (i := 5) (N := some 35) (v := ?_) (a' := ?_) #[true, true, true, true, true, true, false, false, false, false] rfl rfl (by kernel_rfl) (fun _ _ _ h => h) (Or.inl ⟨by rfl, ?_⟩) ?_ ?_
  rotate_left
  · intro w'
    go_simp
    with_reducible rfl
  rotate_left
  · simp only [Act.put, List.setIfInBounds_toArray, List.set_cons_zero, List.set_cons_succ, i64_w, i32_w]
    rfl
  refine pure_ (i := 6) (N := some 36) (v := ?_) (a' := ?_) #[true, true, true, true, true, true, true, false, false, false] rfl rfl (by kernel_rfl) (fun _ _ _ h => h) (Or.inl ⟨by rfl, ?_⟩) ?_ ?_
  rotate_left
  · intro w'
    go_simp
    with_reducible rfl
  rotate_left
  · simp only [Act.put, List.setIfInBounds_toArray, List.set_cons_zero, List.set_cons_succ, i64_w, i32_w]
    rfl
  refine take_ (i := 7) (N := some 37) (v := ?_) (a' := ?_) #[true, true, true, true, true, true, true, true, false, false] rfl rfl (by kernel_rfl) (fun _ _ _ h => h) (Or.inl ⟨by rfl, ?_⟩) hHeld ?_ ?_
  rotate_left
  · rintro w' ⟨s0, s1, s2, s3⟩
    go_simp
    with_reducible rfl
  rotate_left
  · simp only [Act.put, List.setIfInBounds_toArray, List.set_cons_zero, List.set_cons_succ, i64_w, i32_w]
    rfl
  refine pure_ (i := 8) (N := some 38) (v := ?_) (a' := ?_) #[true, true, true, true, true, true, true, true, true, false] rfl rfl (by kernel_rfl) (fun _ _ _ h => h) (Or.inl ⟨by rfl, ?_⟩) ?_ ?_
  rotate_left
  · intro w'
    go_simp
    with_reducible rfl
  rotate_left
  · simp only [Act.put, List.setIfInBounds_toArray, List.set_cons_zero, List.set_cons_succ, i64_w, i32_w]
    rfl
  refine last_ (i := 9) (N := none) #[true, true, true, true, true, true, true, true, true, true] rfl rfl (by kernel_rfl) (by decide) (fun K hK => ?_)
  refine skip_ (w1 := ?_) (by rfl) rfl ?_ ?_
  rotate_left
  · go_simp
    rfl
  refine hK.out _ _ ?_
  clear hK K
  refine done_ (by kernel_rfl) ?_
  generalize hW10 : (W9.setCell ⟨b5, 3, none⟩ (.int .i64 2147483647)).drew = W10
  have B10 : Aside0 (W10.heap[b5]? = some (.cells #[.int .i64 s.a, .int .i64 s.b, .int .i64 s.c, .int .i64 2147483647, .int .i64 s.e, .int .i64 s.f] 66 (0, 0))) := ⟨by
    have h : (W9.setCell ⟨b5, 3, none⟩ (.int .i64 2147483647)).heap[b5]? = some (.cells #[.int .i64 s.a, .int .i64 s.b, .int .i64 s.c, .int .i64 2147483647, .int .i64 s.e, .int .i64 s.f] 66 (0, 0)) := by simpa using blk_set B9.out 3 (.int .i64 2147483647)
    rw [← hW10]; exact h⟩
  have B410 : Aside0 (W10.heap[w.heap.size + 1 + 1]? = some (.cells #[.int .i64 0, .int .i64 0, .int .i64 0, .int .i64 0, .int .i64 0, .int .i64 0] 23 (0, 0))) := ⟨by rw [← hW10]; exact blk_far (p := ⟨b5, 3, none⟩) B49.out NE.out _⟩
  have L10 : Aside0 (Below w.heap.size w W10) := ⟨by rw [← hW10]; exact below_drew (L9.out.setCell (p := ⟨b5, 3, none⟩) GE5.out _)⟩
  clear hW10 hHeld c0 c1 c2 c3
  have x0 : W10.cell? ⟨b5, 0, none⟩ = some (.int .i64 s.a) := blk_cell B10.out 0
  have x1 : W10.cell? ⟨b5, 1, none⟩ = some (.int .i64 s.b) := blk_cell B10.out 1
  have x2 : W10.cell? ⟨b5, 2, none⟩ = some (.int .i64 s.c) := blk_cell B10.out 2
  have x3 : W10.cell? ⟨b5, 3, none⟩ = some (.int .i64 2147483647) := blk_cell B10.out 3
  have x4 : W10.cell? ⟨b5, 4, none⟩ = some (.int .i64 s.e) := blk_cell B10.out 4
  have x5 : W10.cell? ⟨b5, 5, none⟩ = some (.int .i64 s.f) := blk_cell B10.out 5
  go_wp2_with (first
    | (go_at_call 40; (with_reducible refine (set_raw _ _ _ _ _ _ _).mono ?_); rintro e w7 ⟨rfl, hb⟩; have H47 := Aside0.mk (blk_below B410.out hb); have LL := Aside0.mk (below_then L10.out L10.out.size hb); clear hb; have z0 : w7.cell? ⟨w.heap.size + 1 + 1, 0, none⟩ = some (.int .i64 0) := blk_cell H47.out 0; have z1 : w7.cell? ⟨w.heap.size + 1 + 1, 1, none⟩ = some (.int .i64 0) := blk_cell H47.out 1; have z2 : w7.cell? ⟨w.heap.size + 1 + 1, 2, none⟩ = some (.int .i64 0) := blk_cell H47.out 2; have z3 : w7.cell? ⟨w.heap.size + 1 + 1, 3, none⟩ = some (.int .i64 0) := blk_cell H47.out 3; have z4 : w7.cell? ⟨w.heap.size + 1 + 1, 4, none⟩ = some (.int .i64 0) := blk_cell H47.out 4; have z5 : w7.cell? ⟨w.heap.size + 1 + 1, 5, none⟩ = some (.int .i64 0) := blk_cell H47.out 5; have zf0 : w7.frozen? ⟨w.heap.size + 1 + 1, 0, none⟩ = false := blk_frozen H47.out 0; have zf1 : w7.frozen? ⟨w.heap.size + 1 + 1, 1, none⟩ = false := blk_frozen H47.out 1; have zf2 : w7.frozen? ⟨w.heap.size + 1 + 1, 2, none⟩ = false := blk_frozen H47.out 2; have zf3 : w7.frozen? ⟨w.heap.size + 1 + 1, 3, none⟩ = false := blk_frozen H47.out 3; have zf4 : w7.frozen? ⟨w.heap.size + 1 + 1, 4, none⟩ = false := blk_frozen H47.out 4; have zf5 : w7.frozen? ⟨w.heap.size + 1 + 1, 5, none⟩ = false := blk_frozen H47.out 5))
  refine bodyPost_ret (v := .agg #[.int .i64 s.a, .int .i64 s.b, .int .i64 s.c, .int .i64 2147483647, .int .i64 s.e, .int .i64 s.f]) (by simp [results, Tryd.results38, go_sem, *]) rfl ⟨rfl, ?_⟩
  exact ((((((LL.out.setCell (p := ⟨w.heap.size + 1 + 1, 0, none⟩) (by show w.heap.size ≤ w.heap.size + 1 + 1; omega) _).setCell (p := ⟨w.heap.size + 1 + 1, 1, none⟩) (by show w.heap.size ≤ w.heap.size + 1 + 1; omega) _).setCell (p := ⟨w.heap.size + 1 + 1, 2, none⟩) (by show w.heap.size ≤ w.heap.size + 1 + 1; omega) _).setCell (p := ⟨w.heap.size + 1 + 1, 3, none⟩) (by show w.heap.size ≤ w.heap.size + 1 + 1; omega) _).setCell (p := ⟨w.heap.size + 1 + 1, 4, none⟩) (by show w.heap.size ≤ w.heap.size + 1 + 1; omega) _).setCell (p := ⟨w.heap.size + 1 + 1, 5, none⟩) (by show w.heap.size ≤ w.heap.size + 1 + 1; omega) _)
theorem one_5_over (s : St) (v : Int) (hv : 65536 < v) (w : World) (hT : GT w) : Calls Tryd.prog 38 #[.agg #[.int .i64 s.a, .int .i64 s.b, .int .i64 s.c, .int .i64 s.d, .int .i64 s.e, .int .i64 s.f], .agg #[.int .i64 5, .int .i64 v]] w fun e w' => e = .returned (.agg #[.int .i64 s.a, .int .i64 s.b, .int .i64 s.c, .int .i64 s.d, .int .i64 65536, .int .i64 s.f]) ∧ Below w.heap.size w w' := by
  have HB := Aside0.mk (Below.refl w.heap.size w)
  have hd : decide (65536 < v) = true := decide_eq_true hv
  clear hv
  have HT := Aside0.mk hT
  clear hT
  go_enter Tryd.func38, Tryd.ntmps38
  go_upto_region 1 with fail
  obtain ⟨Ws, hWs⟩ : ∃ W, ((w.alloc (.cells #[.int .i64 s.a, .int .i64 s.b, .int .i64 s.c, .int .i64 s.d, .int .i64 s.e, .int .i64 s.f] 23)).alloc (.cells #[.int .i64 5, .int .i64 v] 28)).alloc (.cells #[.int .i64 0, .int .i64 0, .int .i64 0, .int .i64 0, .int .i64 0, .int .i64 0] 23) = W := ⟨_, rfl⟩
  have B2 : Aside0 (Ws.heap[w.heap.size]? = some (.cells #[.int .i64 s.a, .int .i64 s.b, .int .i64 s.c, .int .i64 s.d, .int .i64 s.e, .int .i64 s.f] 23 (0, 0))) := ⟨by rw [← hWs]; exact blk_alloc (blk_alloc (blk_new w _) _) _⟩
  have B3 : Aside0 (Ws.heap[w.heap.size + 1]? = some (.cells #[.int .i64 5, .int .i64 v] 28 (0, 0))) := ⟨by
    rw [← hWs]
    have h := blk_new (w.alloc (.cells #[.int .i64 s.a, .int .i64 s.b, .int .i64 s.c, .int .i64 s.d, .int .i64 s.e, .int .i64 s.f] 23)) (.cells #[.int .i64 5, .int .i64 v] 28)
    rw [World.size_alloc] at h
    exact blk_alloc h _⟩
  have B4 : Aside0 (Ws.heap[w.heap.size + 2]? = some (.cells #[.int .i64 0, .int .i64 0, .int .i64 0, .int .i64 0, .int .i64 0, .int .i64 0] 23 (0, 0))) := ⟨by
    rw [← hWs]
    have h := blk_new ((w.alloc (.cells #[.int .i64 s.a, .int .i64 s.b, .int .i64 s.c, .int .i64 s.d, .int .i64 s.e, .int .i64 s.f] 23)).alloc (.cells #[.int .i64 5, .int .i64 v] 28)) (.cells #[.int .i64 0, .int .i64 0, .int .i64 0, .int .i64 0, .int .i64 0, .int .i64 0] 23)
    rwa [World.size_alloc, World.size_alloc] at h⟩
  have LS : Aside0 (Below w.heap.size w Ws) := ⟨by rw [← hWs]; exact below_alloc (below_alloc (below_alloc HB.out _) _) _⟩
  rw [hWs]
  clear hWs
  have z0 : Ws.cell? ⟨w.heap.size, 0, none⟩ = some (.int .i64 s.a) := blk_cell B2.out 0
  have z1 : Ws.cell? ⟨w.heap.size, 1, none⟩ = some (.int .i64 s.b) := blk_cell B2.out 1
  have z2 : Ws.cell? ⟨w.heap.size, 2, none⟩ = some (.int .i64 s.c) := blk_cell B2.out 2
  have z3 : Ws.cell? ⟨w.heap.size, 3, none⟩ = some (.int .i64 s.d) := blk_cell B2.out 3
  have z4 : Ws.cell? ⟨w.heap.size, 4, none⟩ = some (.int .i64 s.e) := blk_cell B2.out 4
  have z5 : Ws.cell? ⟨w.heap.size, 5, none⟩ = some (.int .i64 s.f) := blk_cell B2.out 5
  go_upto_region 2 with (first
    | (go_at_call 39; refine (six_calls s _).mono ?_; rintro e w6 ⟨rfl, hb⟩; have HB6 := Aside0.mk hb; clear hb))
  clear z0 z1 z2 z3 z4 z5
  obtain ⟨W5, hW5⟩ : ∃ W, w6.alloc (.cells #[.int .i64 s.a, .int .i64 s.b, .int .i64 s.c, .int .i64 s.d, .int .i64 s.e, .int .i64 s.f] 66) = W := ⟨_, rfl⟩
  obtain ⟨b5, hb5⟩ : ∃ x, w6.heap.size = x := ⟨_, rfl⟩
  have X5 : Aside0 (Below Ws.heap.size Ws W5) := ⟨by rw [← hW5]; exact below_alloc HB6.out _⟩
  have B5 : Aside0 (W5.heap[b5]? = some (.cells #[.int .i64 s.a, .int .i64 s.b, .int .i64 s.c, .int .i64 s.d, .int .i64 s.e, .int .i64 s.f] 66 (0, 0))) := ⟨by rw [← hW5, ← hb5]; exact blk_new w6 _⟩
  have NE : Aside0 (w.heap.size + 2 ≠ b5) := ⟨by have := blk_lt B4.out; have := HB6.out.size; omega⟩
  have GE5 : Aside0 (w.heap.size ≤ b5) := ⟨by have := blk_lt B2.out; have := HB6.out.size; omega⟩
  rw [hW5, hb5]
  clear hW5 hb5 HB6
  have L5 := Aside0.mk (below_then LS.out LS.out.size X5.out)
  have hg := HT.out.below L5.out
  obtain ⟨g0, g1, g2, g3, g4, g5⟩ := hg
  have B35 := Aside0.mk (blk_below B3.out X5.out)
  have B45 := Aside0.mk (blk_below B4.out X5.out)
  have p0 : W5.cell? ⟨w.heap.size + 1, 0, none⟩ = some (.int .i64 5) := blk_cell B35.out 0
  have p1 : W5.cell? ⟨w.heap.size + 1, 1, none⟩ = some (.int .i64 v) := blk_cell B35.out 1
  have x0 : W5.cell? ⟨b5, 0, none⟩ = some (.int .i64 s.a) := blk_cell B5.out 0
  have x1 : W5.cell? ⟨b5, 1, none⟩ = some (.int .i64 s.b) := blk_cell B5.out 1
  have x2 : W5.cell? ⟨b5, 2, none⟩ = some (.int .i64 s.c) := blk_cell B5.out 2
  have x3 : W5.cell? ⟨b5, 3, none⟩ = some (.int .i64 s.d) := blk_cell B5.out 3
  have x4 : W5.cell? ⟨b5, 4, none⟩ = some (.int .i64 s.e) := blk_cell B5.out 4
  have x5 : W5.cell? ⟨b5, 5, none⟩ = some (.int .i64 s.f) := blk_cell B5.out 5
  have xf0 : W5.frozen? ⟨b5, 0, none⟩ = false := blk_frozen B5.out 0
  have xf1 : W5.frozen? ⟨b5, 1, none⟩ = false := blk_frozen B5.out 1
  have xf2 : W5.frozen? ⟨b5, 2, none⟩ = false := blk_frozen B5.out 2
  have xf3 : W5.frozen? ⟨b5, 3, none⟩ = false := blk_frozen B5.out 3
  have xf4 : W5.frozen? ⟨b5, 4, none⟩ = false := blk_frozen B5.out 4
  have xf5 : W5.frozen? ⟨b5, 5, none⟩ = false := blk_frozen B5.out 5
  have ne1 : b5 ≠ w.heap.size + 1 := by have := blk_lt B35.out; intro h; have := blk_ne B5.out B35.out (by decide); exact this h
  have ne0 : b5 ≠ 0 := fun h => by have h1 := World.block_lt_of_cell? w _ HT.out.1; have := GE5.out; simp at h1; omega
  go_upto_region 4 with fail
  go_quiet (fail)
  generalize hW9 : (World.setCell W5 ⟨b5, 4, none⟩ (.int .i64 v)).drewN nq = W9
  have B9 : Aside0 (W9.heap[b5]? = some (.cells #[.int .i64 s.a, .int .i64 s.b, .int .i64 s.c, .int .i64 s.d, .int .i64 v, .int .i64 s.f] 66 (0, 0))) := ⟨by rw [← hW9]; simpa using blk_set B5.out 4 (.int .i64 v)⟩
  have B39 : Aside0 (W9.heap[w.heap.size + 1]? = some (.cells #[.int .i64 5, .int .i64 v] 28 (0, 0))) := ⟨by rw [← hW9]; exact blk_far (p := ⟨b5, 4, none⟩) B35.out (fun h => ne1 h.symm) _⟩
  have B49 : Aside0 (W9.heap[w.heap.size + 1 + 1]? = some (.cells #[.int .i64 0, .int .i64 0, .int .i64 0, .int .i64 0, .int .i64 0, .int .i64 0] 23 (0, 0))) := ⟨by rw [← hW9]; exact blk_far (p := ⟨b5, 4, none⟩) B45.out NE.out _⟩
  have L9 : Aside0 (Below w.heap.size w W9) := ⟨by rw [← hW9]; exact pw_below_drewN (L5.out.setCell (p := ⟨b5, 4, none⟩) GE5.out _) _⟩
  clear hW9 x0 xf0 x1 xf1 x2 xf2 x3 xf3 x4 xf4 x5 xf5 g0 g1 g2 g3 g4 g5 p0 p1
  have hw0 : wrap64 4 = 4 := by unfold wrap64; omega
  have c0 : W9.cell? ⟨w.heap.size + 1, 0, none⟩ = some (.int .i64 5) := blk_cell B39.out 0
  have c1 : W9.cell? ⟨0, 4, none⟩ = some (.int .i64 65536) := (HT.out.below L9.out).2.2.2.2.1
  have c2 : W9.cell? ⟨b5, 4, none⟩ = some (.int .i64 v) := blk_cell B9.out 4
  have c3 : W9.frozen? ⟨b5, 4, none⟩ = false := blk_frozen B9.out 4
  go_upto_region 5 with fail
  refine start_ (n := 10) (S := fun w' => w'.cell? ⟨w.heap.size + 1, 0, none⟩ = some (.int .i64 5) ∧ w'.cell? ⟨0, 4, none⟩ = some (.int .i64 65536) ∧ w'.cell? ⟨b5, 4, none⟩ = some (.int .i64 v) ∧ w'.frozen? ⟨b5, 4, none⟩ = false) (ds := [9]) #[false, false, false, false, false, false, false, false, false, false] (by kernel_rfl) rfl rfl ⟨c0, c1, c2, c3⟩ (fun hHeld => ?_)
  refine pure_ (i := 0) (N := some 30) (v := ?_) (a' := ?_) #[true, false, false, false, false, false, false, false, false, false] rfl rfl (by kernel_rfl) (fun _ _ _ h => h) (Or.inl ⟨by rfl, ?_⟩) ?_ ?_
  rotate_left
  · intro w'
    go_simp
    with_reducible rfl
  rotate_left
  · simp only [Act.put, List.setIfInBounds_toArray, List.set_cons_zero, List.set_cons_succ, i64_w, i32_w]
    rfl
  refine pure_ (i := 3) (N := some 33) (v := ?_) (a' := ?_) #[true, false, false, true, false, false, false, false, false, false] rfl rfl (by kernel_rfl) (fun _ _ _ h => h) (Or.inl ⟨by rfl, ?_⟩) ?_ ?_
  rotate_left
  · intro w'
    go_simp
    with_reducible rfl
  rotate_left
  · simp only [Act.put, List.setIfInBounds_toArray, List.set_cons_zero, List.set_cons_succ, i64_w, i32_w]
    rfl
  refine take_ (i := 1) (N := some 31) (v := ?_) (a' := ?_) #[true, true, false, true, false, false, false, false, false, false] rfl rfl (by kernel_rfl) (fun _ _ _ h => h) (Or.inl ⟨by rfl, ?_⟩) hHeld ?_ ?_
  rotate_left
  · rintro w' ⟨s0, s1, s2, s3⟩
    go_simp
    with_reducible rfl
  rotate_left
  · simp only [Act.put, List.setIfInBounds_toArray, List.set_cons_zero, List.set_cons_succ, i64_w, i32_w]
    rfl
  refine pure_ (i := 2) (N := some 32) (v := ?_) (a' := ?_) #[true, true, true, true, false, false, false, false, false, false] rfl rfl (by kernel_rfl) (fun _ _ _ h => h) (Or.inl ⟨by rfl, ?_⟩) ?_ ?_
  rotate_left
  · intro w'
    go_simp
    with_reducible rfl
  rotate_left
  · simp only [Act.put, List.setIfInBounds_toArray, List.set_cons_zero, List.set_cons_succ, i64_w, i32_w]
    rfl
  refine take_ (i := 4) (N := some 34) (v := ?_) (a' := ?_) #[true, true, true, true, true, false, false, false, false, false] rfl rfl (by kernel_rfl) (fun _ _ _ h => h) (Or.inl ⟨by rfl, ?_⟩) hHeld ?_ ?_
  rotate_left
  · rintro w' ⟨s0, s1, s2, s3⟩
    go_simp
    with_reducible rfl
  rotate_left
  · simp only [Act.put, List.setIfInBounds_toArray, List.set_cons_zero, List.set_cons_succ, i64_w, i32_w]
    rfl
  refine pure_ (i := 5) (N := some 35) (v := ?_) (a' := ?_) #[true, true, true, true, true, true, false, false, false, false] rfl rfl (by kernel_rfl) (fun _ _ _ h => h) (Or.inl ⟨by rfl, ?_⟩) ?_ ?_
  rotate_left
  · intro w'
    go_simp
    with_reducible rfl
  rotate_left
  · simp only [Act.put, List.setIfInBounds_toArray, List.set_cons_zero, List.set_cons_succ, i64_w, i32_w]
    rfl
  refine pure_ (i := 6) (N := some 36) (v := ?_) (a' := ?_) #[true, true, true, true, true, true, true, false, false, false] rfl rfl (by kernel_rfl) (fun _ _ _ h => h) (Or.inl ⟨by rfl, ?_⟩) ?_ ?_
  rotate_left
  · intro w'
    go_simp
    with_reducible rfl
  rotate_left
  · simp only [Act.put, List.setIfInBounds_toArray, List.set_cons_zero, List.set_cons_succ, i64_w, i32_w]
    rfl
  refine take_ (i := 7) (N := some 37) (v := ?_) (a' := ?_) #[true, true, true, true, true, true, true, true, false, false] rfl rfl (by kernel_rfl) (fun _ _ _ h => h) (Or.inl ⟨by rfl, ?_⟩) hHeld ?_ ?_
  rotate_left
  · rintro w' ⟨s0, s1, s2, s3⟩
    go_simp
    with_reducible rfl
  rotate_left
  · simp only [Act.put, List.setIfInBounds_toArray, List.set_cons_zero, List.set_cons_succ, i64_w, i32_w]
    rfl
  refine pure_ (i := 8) (N := some 38) (v := ?_) (a' := ?_) #[true, true, true, true, true, true, true, true, true, false] rfl rfl (by kernel_rfl) (fun _ _ _ h => h) (Or.inl ⟨by rfl, ?_⟩) ?_ ?_
  rotate_left
  · intro w'
    go_simp
    with_reducible rfl
  rotate_left
  · simp only [Act.put, List.setIfInBounds_toArray, List.set_cons_zero, List.set_cons_succ, i64_w, i32_w]
    rfl
  refine last_ (i := 9) (N := none) #[true, true, true, true, true, true, true, true, true, true] rfl rfl (by kernel_rfl) (by decide) (fun K hK => ?_)
  refine skip_ (w1 := ?_) (by rfl) rfl ?_ ?_
  rotate_left
  · go_simp
    rfl
  refine hK.out _ _ ?_
  clear hK K
  refine done_ (by kernel_rfl) ?_
  generalize hW10 : (W9.setCell ⟨b5, 4, none⟩ (.int .i64 65536)).drew = W10
  have B10 : Aside0 (W10.heap[b5]? = some (.cells #[.int .i64 s.a, .int .i64 s.b, .int .i64 s.c, .int .i64 s.d, .int .i64 65536, .int .i64 s.f] 66 (0, 0))) := ⟨by
    have h : (W9.setCell ⟨b5, 4, none⟩ (.int .i64 65536)).heap[b5]? = some (.cells #[.int .i64 s.a, .int .i64 s.b, .int .i64 s.c, .int .i64 s.d, .int .i64 65536, .int .i64 s.f] 66 (0, 0)) := by simpa using blk_set B9.out 4 (.int .i64 65536)
    rw [← hW10]; exact h⟩
  have B410 : Aside0 (W10.heap[w.heap.size + 1 + 1]? = some (.cells #[.int .i64 0, .int .i64 0, .int .i64 0, .int .i64 0, .int .i64 0, .int .i64 0] 23 (0, 0))) := ⟨by rw [← hW10]; exact blk_far (p := ⟨b5, 4, none⟩) B49.out NE.out _⟩
  have L10 : Aside0 (Below w.heap.size w W10) := ⟨by rw [← hW10]; exact below_drew (L9.out.setCell (p := ⟨b5, 4, none⟩) GE5.out _)⟩
  clear hW10 hHeld c0 c1 c2 c3
  have x0 : W10.cell? ⟨b5, 0, none⟩ = some (.int .i64 s.a) := blk_cell B10.out 0
  have x1 : W10.cell? ⟨b5, 1, none⟩ = some (.int .i64 s.b) := blk_cell B10.out 1
  have x2 : W10.cell? ⟨b5, 2, none⟩ = some (.int .i64 s.c) := blk_cell B10.out 2
  have x3 : W10.cell? ⟨b5, 3, none⟩ = some (.int .i64 s.d) := blk_cell B10.out 3
  have x4 : W10.cell? ⟨b5, 4, none⟩ = some (.int .i64 65536) := blk_cell B10.out 4
  have x5 : W10.cell? ⟨b5, 5, none⟩ = some (.int .i64 s.f) := blk_cell B10.out 5
  go_wp2_with (first
    | (go_at_call 40; (with_reducible refine (set_raw _ _ _ _ _ _ _).mono ?_); rintro e w7 ⟨rfl, hb⟩; have H47 := Aside0.mk (blk_below B410.out hb); have LL := Aside0.mk (below_then L10.out L10.out.size hb); clear hb; have z0 : w7.cell? ⟨w.heap.size + 1 + 1, 0, none⟩ = some (.int .i64 0) := blk_cell H47.out 0; have z1 : w7.cell? ⟨w.heap.size + 1 + 1, 1, none⟩ = some (.int .i64 0) := blk_cell H47.out 1; have z2 : w7.cell? ⟨w.heap.size + 1 + 1, 2, none⟩ = some (.int .i64 0) := blk_cell H47.out 2; have z3 : w7.cell? ⟨w.heap.size + 1 + 1, 3, none⟩ = some (.int .i64 0) := blk_cell H47.out 3; have z4 : w7.cell? ⟨w.heap.size + 1 + 1, 4, none⟩ = some (.int .i64 0) := blk_cell H47.out 4; have z5 : w7.cell? ⟨w.heap.size + 1 + 1, 5, none⟩ = some (.int .i64 0) := blk_cell H47.out 5; have zf0 : w7.frozen? ⟨w.heap.size + 1 + 1, 0, none⟩ = false := blk_frozen H47.out 0; have zf1 : w7.frozen? ⟨w.heap.size + 1 + 1, 1, none⟩ = false := blk_frozen H47.out 1; have zf2 : w7.frozen? ⟨w.heap.size + 1 + 1, 2, none⟩ = false := blk_frozen H47.out 2; have zf3 : w7.frozen? ⟨w.heap.size + 1 + 1, 3, none⟩ = false := blk_frozen H47.out 3; have zf4 : w7.frozen? ⟨w.heap.size + 1 + 1, 4, none⟩ = false := blk_frozen H47.out 4; have zf5 : w7.frozen? ⟨w.heap.size + 1 + 1, 5, none⟩ = false := blk_frozen H47.out 5))
  refine bodyPost_ret (v := .agg #[.int .i64 s.a, .int .i64 s.b, .int .i64 s.c, .int .i64 s.d, .int .i64 65536, .int .i64 s.f]) (by simp [results, Tryd.results38, go_sem, *]) rfl ⟨rfl, ?_⟩
  exact ((((((LL.out.setCell (p := ⟨w.heap.size + 1 + 1, 0, none⟩) (by show w.heap.size ≤ w.heap.size + 1 + 1; omega) _).setCell (p := ⟨w.heap.size + 1 + 1, 1, none⟩) (by show w.heap.size ≤ w.heap.size + 1 + 1; omega) _).setCell (p := ⟨w.heap.size + 1 + 1, 2, none⟩) (by show w.heap.size ≤ w.heap.size + 1 + 1; omega) _).setCell (p := ⟨w.heap.size + 1 + 1, 3, none⟩) (by show w.heap.size ≤ w.heap.size + 1 + 1; omega) _).setCell (p := ⟨w.heap.size + 1 + 1, 4, none⟩) (by show w.heap.size ≤ w.heap.size + 1 + 1; omega) _).setCell (p := ⟨w.heap.size + 1 + 1, 5, none⟩) (by show w.heap.size ≤ w.heap.size + 1 + 1; omega) _)
theorem one_6_over (s : St) (v : Int) (hv : 2147483647 < v) (w : World) (hT : GT w) : Calls Tryd.prog 38 #[.agg #[.int .i64 s.a, .int .i64 s.b, .int .i64 s.c, .int .i64 s.d, .int .i64 s.e, .int .i64 s.f], .agg #[.int .i64 6, .int .i64 v]] w fun e w' => e = .returned (.agg #[.int .i64 s.a, .int .i64 s.b, .int .i64 s.c, .int .i64 s.d, .int .i64 s.e, .int .i64 2147483647]) ∧ Below w.heap.size w w' := by
  have HB := Aside0.mk (Below.refl w.heap.size w)
  have hd : decide (2147483647 < v) = true := decide_eq_true hv
  clear hv
  have HT := Aside0.mk hT
  clear hT
  go_enter Tryd.func38, Tryd.ntmps38
  go_upto_region 1 with fail
  obtain ⟨Ws, hWs⟩ : ∃ W, ((w.alloc (.cells #[.int .i64 s.a, .int .i64 s.b, .int .i64 s.c, .int .i64 s.d, .int .i64 s.e, .int .i64 s.f] 23)).alloc (.cells #[.int .i64 6, .int .i64 v] 28)).alloc (.cells #[.int .i64 0, .int .i64 0, .int .i64 0, .int .i64 0, .int .i64 0, .int .i64 0] 23) = W := ⟨_, rfl⟩
  have B2 : Aside0 (Ws.heap[w.heap.size]? = some (.cells #[.int .i64 s.a, .int .i64 s.b, .int .i64 s.c, .int .i64 s.d, .int .i64 s.e, .int .i64 s.f] 23 (0, 0))) := ⟨by rw [← hWs]; exact blk_alloc (blk_alloc (blk_new w _) _) _⟩
  have B3 : Aside0 (Ws.heap[w.heap.size + 1]? = some (.cells #[.int .i64 6, .int .i64 v] 28 (0, 0))) := ⟨by
    rw [← hWs]
    have h := blk_new (w.alloc (.cells #[.int .i64 s.a, .int .i64 s.b, .int .i64 s.c, .int .i64 s.d, .int .i64 s.e, .int .i64 s.f] 23)) (.cells #[.int .i64 6, .int .i64 v] 28)
    rw [World.size_alloc] at h
    exact blk_alloc h _⟩
  have B4 : Aside0 (Ws.heap[w.heap.size + 2]? = some (.cells #[.int .i64 0, .int .i64 0, .int .i64 0, .int .i64 0, .int .i64 0, .int .i64 0] 23 (0, 0))) := ⟨by
    rw [← hWs]
    have h := blk_new ((w.alloc (.cells #[.int .i64 s.a, .int .i64 s.b, .int .i64 s.c, .int .i64 s.d, .int .i64 s.e, .int .i64 s.f] 23)).alloc (.cells #[.int .i64 6, .int .i64 v] 28)) (.cells #[.int .i64 0, .int .i64 0, .int .i64 0, .int .i64 0, .int .i64 0, .int .i64 0] 23)
    rwa [World.size_alloc, World.size_alloc] at h⟩
  have LS : Aside0 (Below w.heap.size w Ws) := ⟨by rw [← hWs]; exact below_alloc (below_alloc (below_alloc HB.out _) _) _⟩
  rw [hWs]
  clear hWs
  have z0 : Ws.cell? ⟨w.heap.size, 0, none⟩ = some (.int .i64 s.a) := blk_cell B2.out 0
  have z1 : Ws.cell? ⟨w.heap.size, 1, none⟩ = some (.int .i64 s.b) := blk_cell B2.out 1
  have z2 : Ws.cell? ⟨w.heap.size, 2, none⟩ = some (.int .i64 s.c) := blk_cell B2.out 2
  have z3 : Ws.cell? ⟨w.heap.size, 3, none⟩ = some (.int .i64 s.d) := blk_cell B2.out 3
  have z4 : Ws.cell? ⟨w.heap.size, 4, none⟩ = some (.int .i64 s.e) := blk_cell B2.out 4
  have z5 : Ws.cell? ⟨w.heap.size, 5, none⟩ = some (.int .i64 s.f) := blk_cell B2.out 5
  go_upto_region 2 with (first
    | (go_at_call 39; refine (six_calls s _).mono ?_; rintro e w6 ⟨rfl, hb⟩; have HB6 := Aside0.mk hb; clear hb))
  clear z0 z1 z2 z3 z4 z5
  obtain ⟨W5, hW5⟩ : ∃ W, w6.alloc (.cells #[.int .i64 s.a, .int .i64 s.b, .int .i64 s.c, .int .i64 s.d, .int .i64 s.e, .int .i64 s.f] 66) = W := ⟨_, rfl⟩
  obtain ⟨b5, hb5⟩ : ∃ x, w6.heap.size = x := ⟨_, rfl⟩
  have X5 : Aside0 (Below Ws.heap.size Ws W5) := ⟨by rw [← hW5]; exact below_alloc HB6.out _⟩
  have B5 : Aside0 (W5.heap[b5]? = some (.cells #[.int .i64 s.a, .int .i64 s.b, .int .i64 s.c, .int .i64 s.d, .int .i64 s.e, .int .i64 s.f] 66 (0, 0))) := ⟨by rw [← hW5, ← hb5]; exact blk_new w6 _⟩
  have NE : Aside0 (w.heap.size + 2 ≠ b5) := ⟨by have := blk_lt B4.out; have := HB6.out.size; omega⟩
  have GE5 : Aside0 (w.heap.size ≤ b5) := ⟨by have := blk_lt B2.out; have := HB6.out.size; omega⟩
  rw [hW5, hb5]
  clear hW5 hb5 HB6
  have L5 := Aside0.mk (below_then LS.out LS.out.size X5.out)
  have hg := HT.out.below L5.out
  obtain ⟨g0, g1, g2, g3, g4, g5⟩ := hg
  have B35 := Aside0.mk (blk_below B3.out X5.out)
  have B45 := Aside0.mk (blk_below B4.out X5.out)
  have p0 : W5.cell? ⟨w.heap.size + 1, 0, none⟩ = some (.int .i64 6) := blk_cell B35.out 0
  have p1 : W5.cell? ⟨w.heap.size + 1, 1, none⟩ = some (.int .i64 v) := blk_cell B35.out 1
  have x0 : W5.cell? ⟨b5, 0, none⟩ = some (.int .i64 s.a) := blk_cell B5.out 0
  have x1 : W5.cell? ⟨b5, 1, none⟩ = some (.int .i64 s.b) := blk_cell B5.out 1
  have x2 : W5.cell? ⟨b5, 2, none⟩ = some (.int .i64 s.c) := blk_cell B5.out 2
  have x3 : W5.cell? ⟨b5, 3, none⟩ = some (.int .i64 s.d) := blk_cell B5.out 3
  have x4 : W5.cell? ⟨b5, 4, none⟩ = some (.int .i64 s.e) := blk_cell B5.out 4
  have x5 : W5.cell? ⟨b5, 5, none⟩ = some (.int .i64 s.f) := blk_cell B5.out 5
  have xf0 : W5.frozen? ⟨b5, 0, none⟩ = false := blk_frozen B5.out 0
  have xf1 : W5.frozen? ⟨b5, 1, none⟩ = false := blk_frozen B5.out 1
  have xf2 : W5.frozen? ⟨b5, 2, none⟩ = false := blk_frozen B5.out 2
  have xf3 : W5.frozen? ⟨b5, 3, none⟩ = false := blk_frozen B5.out 3
  have xf4 : W5.frozen? ⟨b5, 4, none⟩ = false := blk_frozen B5.out 4
  have xf5 : W5.frozen? ⟨b5, 5, none⟩ = false := blk_frozen B5.out 5
  have ne1 : b5 ≠ w.heap.size + 1 := by have := blk_lt B35.out; intro h; have := blk_ne B5.out B35.out (by decide); exact this h
  have ne0 : b5 ≠ 0 := fun h => by have h1 := World.block_lt_of_cell? w _ HT.out.1; have := GE5.out; simp at h1; omega
  go_upto_region 4 with fail
  go_quiet (fail)
  generalize hW9 : (World.setCell W5 ⟨b5, 5, none⟩ (.int .i64 v)).drewN nq = W9
  have B9 : Aside0 (W9.heap[b5]? = some (.cells #[.int .i64 s.a, .int .i64 s.b, .int .i64 s.c, .int .i64 s.d, .int .i64 s.e, .int .i64 v] 66 (0, 0))) := ⟨by rw [← hW9]; simpa using blk_set B5.out 5 (.int .i64 v)⟩
  have B39 : Aside0 (W9.heap[w.heap.size + 1]? = some (.cells #[.int .i64 6, .int .i64 v] 28 (0, 0))) := ⟨by rw [← hW9]; exact blk_far (p := ⟨b5, 5, none⟩) B35.out (fun h => ne1 h.symm) _⟩
  have B49 : Aside0 (W9.heap[w.heap.size + 1 + 1]? = some (.cells #[.int .i64 0, .int .i64 0, .int .i64 0, .int .i64 0, .int .i64 0, .int .i64 0] 23 (0, 0))) := ⟨by rw [← hW9]; exact blk_far (p := ⟨b5, 5, none⟩) B45.out NE.out _⟩
  have L9 : Aside0 (Below w.heap.size w W9) := ⟨by rw [← hW9]; exact pw_below_drewN (L5.out.setCell (p := ⟨b5, 5, none⟩) GE5.out _) _⟩
  clear hW9 x0 xf0 x1 xf1 x2 xf2 x3 xf3 x4 xf4 x5 xf5 g0 g1 g2 g3 g4 g5 p0 p1
  have hw0 : wrap64 5 = 5 := by unfold wrap64; omega
  have c0 : W9.cell? ⟨w.heap.size + 1, 0, none⟩ = some (.int .i64 6) := blk_cell B39.out 0
  have c1 : W9.cell? ⟨0, 5, none⟩ = some (.int .i64 2147483647) := (HT.out.below L9.out).2.2.2.2.2
  have c2 : W9.cell? ⟨b5, 5, none⟩ = some (.int .i64 v) := blk_cell B9.out 5
  have c3 : W9.frozen? ⟨b5, 5, none⟩ = false := blk_frozen B9.out 5
  go_upto_region 5 with fail
  refine start_ (n := 10) (S := fun w' => w'.cell? ⟨w.heap.size + 1, 0, none⟩ = some (.int .i64 6) ∧ w'.cell? ⟨0, 5, none⟩ = some (.int .i64 2147483647) ∧ w'.cell? ⟨b5, 5, none⟩ = some (.int .i64 v) ∧ w'.frozen? ⟨b5, 5, none⟩ = false) (ds := [9]) #[false, false, false, false, false, false, false, false, false, false] (by kernel_rfl) rfl rfl ⟨c0, c1, c2, c3⟩ (fun hHeld => ?_)
  refine pure_ (i := 0) (N := some 30) (v := ?_) (a' := ?_) #[true, false, false, false, false, false, false, false, false, false] rfl rfl (by kernel_rfl) (fun _ _ _ h => h) (Or.inl ⟨by rfl, ?_⟩) ?_ ?_
  rotate_left
  · intro w'
    go_simp
    with_reducible rfl
  rotate_left
  · simp only [Act.put, List.setIfInBounds_toArray, List.set_cons_zero, List.set_cons_succ, i64_w, i32_w]
    rfl
  refine pure_ (i := 3) (N := some 33) (v := ?_) (a' := ?_) #[true, false, false, true, false, false, false, false, false, false] rfl rfl (by kernel_rfl) (fun _ _ _ h => h) (Or.inl ⟨by rfl, ?_⟩) ?_ ?_
  rotate_left
  · intro w'
    go_simp
    with_reducible rfl
  rotate_left
  · simp only [Act.put, List.setIfInBounds_toArray, List.set_cons_zero, List.set_cons_succ, i64_w, i32_w]
    rfl
  refine take_ (i := 1) (N := some 31) (v := ?_) (a' := ?_) #[true, true, false, true, false, false, false, false, false, false] rfl rfl (by kernel_rfl) (fun _ _ _ h => h) (Or.inl ⟨by rfl, ?_⟩) hHeld ?_ ?_
  rotate_left
  · rintro w' ⟨s0, s1, s2, s3⟩
    go_simp
    with_reducible rfl
  rotate_left
  · simp only [Act.put, List.setIfInBounds_toArray, List.set_cons_zero, List.set_cons_succ, i64_w, i32_w]
    rfl
  refine pure_ (i := 2) (N := some 32) (v := ?_) (a' := ?_) #[true, true, true, true, false, false, false, false, false, false] rfl rfl (by kernel_rfl) (fun _ _ _ h => h) (Or.inl ⟨by rfl, ?_⟩) ?_ ?_
  rotate_left
  · intro w'
    go_simp
    with_reducible rfl
  rotate_left
  · simp only [Act.put, List.setIfInBounds_toArray, List.set_cons_zero, List.set_cons_succ, i64_w, i32_w]
    rfl
  refine take_ (i := 4) (N := some 34) (v := ?_) (a' := ?_) #[true, true, true, true, true, false, false, false, false, false] rfl rfl (by kernel_rfl) (fun _ _ _ h => h) (Or.inl ⟨by rfl, ?_⟩) hHeld ?_ ?_
  rotate_left
  · rintro w' ⟨s0, s1, s2, s3⟩
    go_simp
    with_reducible rfl
  rotate_left
  · simp only [Act.put, List.setIfInBounds_toArray, List.set_cons_zero, List.set_cons_succ, i64_w, i32_w]
    rfl
  refine pure_ (i := 5) (N := some 35) (v := ?_) (a' := ?_) #[true, true, true, true, true, true, false, false, false, false] rfl rfl (by kernel_rfl) (fun _ _ _ h => h) (Or.inl ⟨by rfl, ?_⟩) ?_ ?_
  rotate_left
  · intro w'
    go_simp
    with_reducible rfl
  rotate_left
  · simp only [Act.put, List.setIfInBounds_toArray, List.set_cons_zero, List.set_cons_succ, i64_w, i32_w]
    rfl
  refine pure_ (i := 6) (N := some 36) (v := ?_) (a' := ?_) #[true, true, true, true, true, true, true, false, false, false] rfl rfl (by kernel_rfl) (fun _ _ _ h => h) (Or.inl ⟨by rfl, ?_⟩) ?_ ?_
  rotate_left
  · intro w'
    go_simp
    with_reducible rfl
  rotate_left
  · simp only [Act.put, List.setIfInBounds_toArray, List.set_cons_zero, List.set_cons_succ, i64_w, i32_w]
    rfl
  refine take_ (i := 7) (N := some 37) (v := ?_) (a' := ?_) #[true, true, true, true, true, true, true, true, false, false] rfl rfl (by kernel_rfl) (fun _ _ _ h => h) (Or.inl ⟨by rfl, ?_⟩) hHeld ?_ ?_
  rotate_left
  · rintro w' ⟨s0, s1, s2, s3⟩
    go_simp
    with_reducible rfl
  rotate_left
  · simp only [Act.put, List.setIfInBounds_toArray, List.set_cons_zero, List.set_cons_succ, i64_w, i32_w]
    rfl
  refine pure_ (i := 8) (N := some 38) (v := ?_) (a' := ?_) #[true, true, true, true, true, true, true, true, true, false] rfl rfl (by kernel_rfl) (fun _ _ _ h => h) (Or.inl ⟨by rfl, ?_⟩) ?_ ?_
  rotate_left
  · intro w'
    go_simp
    with_reducible rfl
  rotate_left
  · simp only [Act.put, List.setIfInBounds_toArray, List.set_cons_zero, List.set_cons_succ, i64_w, i32_w]
    rfl
  refine last_ (i := 9) (N := none) #[true, true, true, true, true, true, true, true, true, true] rfl rfl (by kernel_rfl) (by decide) (fun K hK => ?_)
  refine skip_ (w1 := ?_) (by rfl) rfl ?_ ?_
  rotate_left
  · go_simp
    rfl
  refine hK.out _ _ ?_
  clear hK K
  refine done_ (by kernel_rfl) ?_
  generalize hW10 : (W9.setCell ⟨b5, 5, none⟩ (.int .i64 2147483647)).drew = W10
  have B10 : Aside0 (W10.heap[b5]? = some (.cells #[.int .i64 s.a, .int .i64 s.b, .int .i64 s.c, .int .i64 s.d, .int .i64 s.e, .int .i64 2147483647] 66 (0, 0))) := ⟨by
    have h : (W9.setCell ⟨b5, 5, none⟩ (.int .i64 2147483647)).heap[b5]? = some (.cells #[.int .i64 s.a, .int .i64 s.b, .int .i64 s.c, .int .i64 s.d, .int .i64 s.e, .int .i64 2147483647] 66 (0, 0)) := by simpa using blk_set B9.out 5 (.int .i64 2147483647)
    rw [← hW10]; exact h⟩
  have B410 : Aside0 (W10.heap[w.heap.size + 1 + 1]? = some (.cells #[.int .i64 0, .int .i64 0, .int .i64 0, .int .i64 0, .int .i64 0, .int .i64 0] 23 (0, 0))) := ⟨by rw [← hW10]; exact blk_far (p := ⟨b5, 5, none⟩) B49.out NE.out _⟩
  have L10 : Aside0 (Below w.heap.size w W10) := ⟨by rw [← hW10]; exact below_drew (L9.out.setCell (p := ⟨b5, 5, none⟩) GE5.out _)⟩
  clear hW10 hHeld c0 c1 c2 c3
  have x0 : W10.cell? ⟨b5, 0, none⟩ = some (.int .i64 s.a) := blk_cell B10.out 0
  have x1 : W10.cell? ⟨b5, 1, none⟩ = some (.int .i64 s.b) := blk_cell B10.out 1
  have x2 : W10.cell? ⟨b5, 2, none⟩ = some (.int .i64 s.c) := blk_cell B10.out 2
  have x3 : W10.cell? ⟨b5, 3, none⟩ = some (.int .i64 s.d) := blk_cell B10.out 3
  have x4 : W10.cell? ⟨b5, 4, none⟩ = some (.int .i64 s.e) := blk_cell B10.out 4
  have x5 : W10.cell? ⟨b5, 5, none⟩ = some (.int .i64 2147483647) := blk_cell B10.out 5
  go_wp2_with (first
    | (go_at_call 40; (with_reducible refine (set_raw _ _ _ _ _ _ _).mono ?_); rintro e w7 ⟨rfl, hb⟩; have H47 := Aside0.mk (blk_below B410.out hb); have LL := Aside0.mk (below_then L10.out L10.out.size hb); clear hb; have z0 : w7.cell? ⟨w.heap.size + 1 + 1, 0, none⟩ = some (.int .i64 0) := blk_cell H47.out 0; have z1 : w7.cell? ⟨w.heap.size + 1 + 1, 1, none⟩ = some (.int .i64 0) := blk_cell H47.out 1; have z2 : w7.cell? ⟨w.heap.size + 1 + 1, 2, none⟩ = some (.int .i64 0) := blk_cell H47.out 2; have z3 : w7.cell? ⟨w.heap.size + 1 + 1, 3, none⟩ = some (.int .i64 0) := blk_cell H47.out 3; have z4 : w7.cell? ⟨w.heap.size + 1 + 1, 4, none⟩ = some (.int .i64 0) := blk_cell H47.out 4; have z5 : w7.cell? ⟨w.heap.size + 1 + 1, 5, none⟩ = some (.int .i64 0) := blk_cell H47.out 5; have zf0 : w7.frozen? ⟨w.heap.size + 1 + 1, 0, none⟩ = false := blk_frozen H47.out 0; have zf1 : w7.frozen? ⟨w.heap.size + 1 + 1, 1, none⟩ = false := blk_frozen H47.out 1; have zf2 : w7.frozen? ⟨w.heap.size + 1 + 1, 2, none⟩ = false := blk_frozen H47.out 2; have zf3 : w7.frozen? ⟨w.heap.size + 1 + 1, 3, none⟩ = false := blk_frozen H47.out 3; have zf4 : w7.frozen? ⟨w.heap.size + 1 + 1, 4, none⟩ = false := blk_frozen H47.out 4; have zf5 : w7.frozen? ⟨w.heap.size + 1 + 1, 5, none⟩ = false := blk_frozen H47.out 5))
  refine bodyPost_ret (v := .agg #[.int .i64 s.a, .int .i64 s.b, .int .i64 s.c, .int .i64 s.d, .int .i64 s.e, .int .i64 2147483647]) (by simp [results, Tryd.results38, go_sem, *]) rfl ⟨rfl, ?_⟩
  exact ((((((LL.out.setCell (p := ⟨w.heap.size + 1 + 1, 0, none⟩) (by show w.heap.size ≤ w.heap.size + 1 + 1; omega) _).setCell (p := ⟨w.heap.size + 1 + 1, 1, none⟩) (by show w.heap.size ≤ w.heap.size + 1 + 1; omega) _).setCell (p := ⟨w.heap.size + 1 + 1, 2, none⟩) (by show w.heap.size ≤ w.heap.size + 1 + 1; omega) _).setCell (p := ⟨w.heap.size + 1 + 1, 3, none⟩) (by show w.heap.size ≤ w.heap.size + 1 + 1; omega) _).setCell (p := ⟨w.heap.size + 1 + 1, 4, none⟩) (by show w.heap.size ≤ w.heap.size + 1 + 1; omega) _).setCell (p := ⟨w.heap.size + 1 + 1, 5, none⟩) (by show w.heap.size ≤ w.heap.size + 1 + 1; omega) _)
theorem one_low (s : St) (id v : Int) (hv : id < 1) (w : World) : Calls Tryd.prog 38 #[.agg #[.int .i64 s.a, .int .i64 s.b, .int .i64 s.c, .int .i64 s.d, .int .i64 s.e, .int .i64 s.f], .agg #[.int .i64 id, .int .i64 v]] w fun e w' => e = .returned (.agg #[.int .i64 s.a, .int .i64 s.b, .int .i64 s.c, .int .i64 s.d, .int .i64 s.e, .int .i64 s.f]) ∧ Below w.heap.size w w' := by
  have HB := Aside0.mk (Below.refl w.heap.size w)
  have hd1 : decide (1 ≤ id) = false := decide_eq_false (by omega)
  have hd2 : decide (id ≤ 6) = true := decide_eq_true (by omega)
  clear hv
  go_enter Tryd.func38, Tryd.ntmps38
  go_upto_region 1 with fail
  obtain ⟨Ws, hWs⟩ : ∃ W, ((w.alloc (.cells #[.int .i64 s.a, .int .i64 s.b, .int .i64 s.c, .int .i64 s.d, .int .i64 s.e, .int .i64 s.f] 23)).alloc (.cells #[.int .i64 id, .int .i64 v] 28)).alloc (.cells #[.int .i64 0, .int .i64 0, .int .i64 0, .int .i64 0, .int .i64 0, .int .i64 0] 23) = W := ⟨_, rfl⟩
  have B2 : Aside0 (Ws.heap[w.heap.size]? = some (.cells #[.int .i64 s.a, .int .i64 s.b, .int .i64 s.c, .int .i64 s.d, .int .i64 s.e, .int .i64 s.f] 23 (0, 0))) := ⟨by rw [← hWs]; exact blk_alloc (blk_alloc (blk_new w _) _) _⟩
  have B3 : Aside0 (Ws.heap[w.heap.size + 1]? = some (.cells #[.int .i64 id, .int .i64 v] 28 (0, 0))) := ⟨by
    rw [← hWs]
    have h := blk_new (w.alloc (.cells #[.int .i64 s.a, .int .i64 s.b, .int .i64 s.c, .int .i64 s.d, .int .i64 s.e, .int .i64 s.f] 23)) (.cells #[.int .i64 id, .int .i64 v] 28)
    rw [World.size_alloc] at h
    exact blk_alloc h _⟩
  have B4 : Aside0 (Ws.heap[w.heap.size + 2]? = some (.cells #[.int .i64 0, .int .i64 0, .int .i64 0, .int .i64 0, .int .i64 0, .int .i64 0] 23 (0, 0))) := ⟨by
    rw [← hWs]
    have h := blk_new ((w.alloc (.cells #[.int .i64 s.a, .int .i64 s.b, .int .i64 s.c, .int .i64 s.d, .int .i64 s.e, .int .i64 s.f] 23)).alloc (.cells #[.int .i64 id, .int .i64 v] 28)) (.cells #[.int .i64 0, .int .i64 0, .int .i64 0, .int .i64 0, .int .i64 0, .int .i64 0] 23)
    rwa [World.size_alloc, World.size_alloc] at h⟩
  have LS : Aside0 (Below w.heap.size w Ws) := ⟨by rw [← hWs]; exact below_alloc (below_alloc (below_alloc HB.out _) _) _⟩
  rw [hWs]
  clear hWs
  have z0 : Ws.cell? ⟨w.heap.size, 0, none⟩ = some (.int .i64 s.a) := blk_cell B2.out 0
  have z1 : Ws.cell? ⟨w.heap.size, 1, none⟩ = some (.int .i64 s.b) := blk_cell B2.out 1
  have z2 : Ws.cell? ⟨w.heap.size, 2, none⟩ = some (.int .i64 s.c) := blk_cell B2.out 2
  have z3 : Ws.cell? ⟨w.heap.size, 3, none⟩ = some (.int .i64 s.d) := blk_cell B2.out 3
  have z4 : Ws.cell? ⟨w.heap.size, 4, none⟩ = some (.int .i64 s.e) := blk_cell B2.out 4
  have z5 : Ws.cell? ⟨w.heap.size, 5, none⟩ = some (.int .i64 s.f) := blk_cell B2.out 5
  go_upto_region 2 with (first
    | (go_at_call 39; refine (six_calls s _).mono ?_; rintro e w6 ⟨rfl, hb⟩; have HB6 := Aside0.mk hb; clear hb))
  clear z0 z1 z2 z3 z4 z5
  obtain ⟨W5, hW5⟩ : ∃ W, w6.alloc (.cells #[.int .i64 s.a, .int .i64 s.b, .int .i64 s.c, .int .i64 s.d, .int .i64 s.e, .int .i64 s.f] 66) = W := ⟨_, rfl⟩
  obtain ⟨b5, hb5⟩ : ∃ x, w6.heap.size = x := ⟨_, rfl⟩
  have X5 : Aside0 (Below Ws.heap.size Ws W5) := ⟨by rw [← hW5]; exact below_alloc HB6.out _⟩
  have B5 : Aside0 (W5.heap[b5]? = some (.cells #[.int .i64 s.a, .int .i64 s.b, .int .i64 s.c, .int .i64 s.d, .int .i64 s.e, .int .i64 s.f] 66 (0, 0))) := ⟨by rw [← hW5, ← hb5]; exact blk_new w6 _⟩
  have NE : Aside0 (w.heap.size + 2 ≠ b5) := ⟨by have := blk_lt B4.out; have := HB6.out.size; omega⟩
  have GE5 : Aside0 (w.heap.size ≤ b5) := ⟨by have := blk_lt B2.out; have := HB6.out.size; omega⟩
  rw [hW5, hb5]
  clear hW5 hb5 HB6
  have L5 := Aside0.mk (below_then LS.out LS.out.size X5.out)
  have B35 := Aside0.mk (blk_below B3.out X5.out)
  have B45 := Aside0.mk (blk_below B4.out X5.out)
  have p0 : W5.cell? ⟨w.heap.size + 1, 0, none⟩ = some (.int .i64 id) := blk_cell B35.out 0
  have x0 : W5.cell? ⟨b5, 0, none⟩ = some (.int .i64 s.a) := blk_cell B5.out 0
  have x1 : W5.cell? ⟨b5, 1, none⟩ = some (.int .i64 s.b) := blk_cell B5.out 1
  have x2 : W5.cell? ⟨b5, 2, none⟩ = some (.int .i64 s.c) := blk_cell B5.out 2
  have x3 : W5.cell? ⟨b5, 3, none⟩ = some (.int .i64 s.d) := blk_cell B5.out 3
  have x4 : W5.cell? ⟨b5, 4, none⟩ = some (.int .i64 s.e) := blk_cell B5.out 4
  have x5 : W5.cell? ⟨b5, 5, none⟩ = some (.int .i64 s.f) := blk_cell B5.out 5
  go_wp2_with (first
    | (go_at_call 40; (with_reducible refine (set_raw _ _ _ _ _ _ _).mono ?_); rintro e w7 ⟨rfl, hb⟩; have H47 := Aside0.mk (blk_below B45.out hb); have LL := Aside0.mk (below_then L5.out L5.out.size hb); clear hb; have z0 : w7.cell? ⟨w.heap.size + 1 + 1, 0, none⟩ = some (.int .i64 0) := blk_cell H47.out 0; have z1 : w7.cell? ⟨w.heap.size + 1 + 1, 1, none⟩ = some (.int .i64 0) := blk_cell H47.out 1; have z2 : w7.cell? ⟨w.heap.size + 1 + 1, 2, none⟩ = some (.int .i64 0) := blk_cell H47.out 2; have z3 : w7.cell? ⟨w.heap.size + 1 + 1, 3, none⟩ = some (.int .i64 0) := blk_cell H47.out 3; have z4 : w7.cell? ⟨w.heap.size + 1 + 1, 4, none⟩ = some (.int .i64 0) := blk_cell H47.out 4; have z5 : w7.cell? ⟨w.heap.size + 1 + 1, 5, none⟩ = some (.int .i64 0) := blk_cell H47.out 5; have zf0 : w7.frozen? ⟨w.heap.size + 1 + 1, 0, none⟩ = false := blk_frozen H47.out 0; have zf1 : w7.frozen? ⟨w.heap.size + 1 + 1, 1, none⟩ = false := blk_frozen H47.out 1; have zf2 : w7.frozen? ⟨w.heap.size + 1 + 1, 2, none⟩ = false := blk_frozen H47.out 2; have zf3 : w7.frozen? ⟨w.heap.size + 1 + 1, 3, none⟩ = false := blk_frozen H47.out 3; have zf4 : w7.frozen? ⟨w.heap.size + 1 + 1, 4, none⟩ = false := blk_frozen H47.out 4; have zf5 : w7.frozen? ⟨w.heap.size + 1 + 1, 5, none⟩ = false := blk_frozen H47.out 5))
  refine bodyPost_ret (v := .agg #[.int .i64 s.a, .int .i64 s.b, .int .i64 s.c, .int .i64 s.d, .int .i64 s.e, .int .i64 s.f]) (by simp [results, Tryd.results38, go_sem, *]) rfl ⟨rfl, ?_⟩
  exact ((((((LL.out.setCell (p := ⟨w.heap.size + 1 + 1, 0, none⟩) (by show w.heap.size ≤ w.heap.size + 1 + 1; omega) _).setCell (p := ⟨w.heap.size + 1 + 1, 1, none⟩) (by show w.heap.size ≤ w.heap.size + 1 + 1; omega) _).setCell (p := ⟨w.heap.size + 1 + 1, 2, none⟩) (by show w.heap.size ≤ w.heap.size + 1 + 1; omega) _).setCell (p := ⟨w.heap.size + 1 + 1, 3, none⟩) (by show w.heap.size ≤ w.heap.size + 1 + 1; omega) _).setCell (p := ⟨w.heap.size + 1 + 1, 4, none⟩) (by show w.heap.size ≤ w.heap.size + 1 + 1; omega) _).setCell (p := ⟨w.heap.size + 1 + 1, 5, none⟩) (by show w.heap.size ≤ w.heap.size + 1 + 1; omega) _)
theorem one_high (s : St) (id v : Int) (hv : 6 < id) (w : World) : Calls Tryd.prog 38 #[.agg #[.int .i64 s.a, .int .i64 s.b, .int .i64 s.c, .int .i64 s.d, .int .i64 s.e, .int .i64 s.f], .agg #[.int .i64 id, .int .i64 v]] w fun e w' => e = .returned (.agg #[.int .i64 s.a, .int .i64 s.b, .int .i64 s.c, .int .i64 s.d, .int .i64 s.e, .int .i64 s.f]) ∧ Below w.heap.size w w' := by
  have HB := Aside0.mk (Below.refl w.heap.size w)
  have hd1 : decide (1 ≤ id) = true := decide_eq_true (by omega)
  have hd2 : decide (id ≤ 6) = false := decide_eq_false (by omega)
  clear hv
  go_enter Tryd.func38, Tryd.ntmps38
  go_upto_region 1 with fail
  obtain ⟨Ws, hWs⟩ : ∃ W, ((w.alloc (.cells #[.int .i64 s.a, .int .i64 s.b, .int .i64 s.c, .int .i64 s.d, .int .i64 s.e, .int .i64 s.f] 23)).alloc (.cells #[.int .i64 id, .int .i64 v] 28)).alloc (.cells #[.int .i64 0, .int .i64 0, .int .i64 0, .int .i64 0, .int .i64 0, .int .i64 0] 23) = W := ⟨_, rfl⟩
  have B2 : Aside0 (Ws.heap[w.heap.size]? = some (.cells #[.int .i64 s.a, .int .i64 s.b, .int .i64 s.c, .int .i64 s.d, .int .i64 s.e, .int .i64 s.f] 23 (0, 0))) := ⟨by rw [← hWs]; exact blk_alloc (blk_alloc (blk_new w _) _) _⟩
  have B3 : Aside0 (Ws.heap[w.heap.size + 1]? = some (.cells #[.int .i64 id, .int .i64 v] 28 (0, 0))) := ⟨by
    rw [← hWs]
    have h := blk_new (w.alloc (.cells #[.int .i64 s.a, .int .i64 s.b, .int .i64 s.c, .int .i64 s.d, .int .i64 s.e, .int .i64 s.f] 23)) (.cells #[.int .i64 id, .int .i64 v] 28)
    rw [World.size_alloc] at h
    exact blk_alloc h _⟩
  have B4 : Aside0 (Ws.heap[w.heap.size + 2]? = some (.cells #[.int .i64 0, .int .i64 0, .int .i64 0, .int .i64 0, .int .i64 0, .int .i64 0] 23 (0, 0))) := ⟨by
    rw [← hWs]
    have h := blk_new ((w.alloc (.cells #[.int .i64 s.a, .int .i64 s.b, .int .i64 s.c, .int .i64 s.d, .int .i64 s.e, .int .i64 s.f] 23)).alloc (.cells #[.int .i64 id, .int .i64 v] 28)) (.cells #[.int .i64 0, .int .i64 0, .int .i64 0, .int .i64 0, .int .i64 0, .int .i64 0] 23)
    rwa [World.size_alloc, World.size_alloc] at h⟩
  have LS : Aside0 (Below w.heap.size w Ws) := ⟨by rw [← hWs]; exact below_alloc (below_alloc (below_alloc HB.out _) _) _⟩
  rw [hWs]
  clear hWs
  have z0 : Ws.cell? ⟨w.heap.size, 0, none⟩ = some (.int .i64 s.a) := blk_cell B2.out 0
  have z1 : Ws.cell? ⟨w.heap.size, 1, none⟩ = some (.int .i64 s.b) := blk_cell B2.out 1
  have z2 : Ws.cell? ⟨w.heap.size, 2, none⟩ = some (.int .i64 s.c) := blk_cell B2.out 2
  have z3 : Ws.cell? ⟨w.heap.size, 3, none⟩ = some (.int .i64 s.d) := blk_cell B2.out 3
  have z4 : Ws.cell? ⟨w.heap.size, 4, none⟩ = some (.int .i64 s.e) := blk_cell B2.out 4
  have z5 : Ws.cell? ⟨w.heap.size, 5, none⟩ = some (.int .i64 s.f) := blk_cell B2.out 5
  go_upto_region 2 with (first
    | (go_at_call 39; refine (six_calls s _).mono ?_; rintro e w6 ⟨rfl, hb⟩; have HB6 := Aside0.mk hb; clear hb))
  clear z0 z1 z2 z3 z4 z5
  obtain ⟨W5, hW5⟩ : ∃ W, w6.alloc (.cells #[.int .i64 s.a, .int .i64 s.b, .int .i64 s.c, .int .i64 s.d, .int .i64 s.e, .int .i64 s.f] 66) = W := ⟨_, rfl⟩
  obtain ⟨b5, hb5⟩ : ∃ x, w6.heap.size = x := ⟨_, rfl⟩
  have X5 : Aside0 (Below Ws.heap.size Ws W5) := ⟨by rw [← hW5]; exact below_alloc HB6.out _⟩
  have B5 : Aside0 (W5.heap[b5]? = some (.cells #[.int .i64 s.a, .int .i64 s.b, .int .i64 s.c, .int .i64 s.d, .int .i64 s.e, .int .i64 s.f] 66 (0, 0))) := ⟨by rw [← hW5, ← hb5]; exact blk_new w6 _⟩
  have NE : Aside0 (w.heap.size + 2 ≠ b5) := ⟨by have := blk_lt B4.out; have := HB6.out.size; omega⟩
  have GE5 : Aside0 (w.heap.size ≤ b5) := ⟨by have := blk_lt B2.out; have := HB6.out.size; omega⟩
  rw [hW5, hb5]
  clear hW5 hb5 HB6
  have L5 := Aside0.mk (below_then LS.out LS.out.size X5.out)
  have B35 := Aside0.mk (blk_below B3.out X5.out)
  have B45 := Aside0.mk (blk_below B4.out X5.out)
  have p0 : W5.cell? ⟨w.heap.size + 1, 0, none⟩ = some (.int .i64 id) := blk_cell B35.out 0
  have x0 : W5.cell? ⟨b5, 0, none⟩ = some (.int .i64 s.a) := blk_cell B5.out 0
  have x1 : W5.cell? ⟨b5, 1, none⟩ = some (.int .i64 s.b) := blk_cell B5.out 1
  have x2 : W5.cell? ⟨b5, 2, none⟩ = some (.int .i64 s.c) := blk_cell B5.out 2
  have x3 : W5.cell? ⟨b5, 3, none⟩ = some (.int .i64 s.d) := blk_cell B5.out 3
  have x4 : W5.cell? ⟨b5, 4, none⟩ = some (.int .i64 s.e) := blk_cell B5.out 4
  have x5 : W5.cell? ⟨b5, 5, none⟩ = some (.int .i64 s.f) := blk_cell B5.out 5
  go_wp2_with (first
    | (go_at_call 40; (with_reducible refine (set_raw _ _ _ _ _ _ _).mono ?_); rintro e w7 ⟨rfl, hb⟩; have H47 := Aside0.mk (blk_below B45.out hb); have LL := Aside0.mk (below_then L5.out L5.out.size hb); clear hb; have z0 : w7.cell? ⟨w.heap.size + 1 + 1, 0, none⟩ = some (.int .i64 0) := blk_cell H47.out 0; have z1 : w7.cell? ⟨w.heap.size + 1 + 1, 1, none⟩ = some (.int .i64 0) := blk_cell H47.out 1; have z2 : w7.cell? ⟨w.heap.size + 1 + 1, 2, none⟩ = some (.int .i64 0) := blk_cell H47.out 2; have z3 : w7.cell? ⟨w.heap.size + 1 + 1, 3, none⟩ = some (.int .i64 0) := blk_cell H47.out 3; have z4 : w7.cell? ⟨w.heap.size + 1 + 1, 4, none⟩ = some (.int .i64 0) := blk_cell H47.out 4; have z5 : w7.cell? ⟨w.heap.size + 1 + 1, 5, none⟩ = some (.int .i64 0) := blk_cell H47.out 5; have zf0 : w7.frozen? ⟨w.heap.size + 1 + 1, 0, none⟩ = false := blk_frozen H47.out 0; have zf1 : w7.frozen? ⟨w.heap.size + 1 + 1, 1, none⟩ = false := blk_frozen H47.out 1; have zf2 : w7.frozen? ⟨w.heap.size + 1 + 1, 2, none⟩ = false := blk_frozen H47.out 2; have zf3 : w7.frozen? ⟨w.heap.size + 1 + 1, 3, none⟩ = false := blk_frozen H47.out 3; have zf4 : w7.frozen? ⟨w.heap.size + 1 + 1, 4, none⟩ = false := blk_frozen H47.out 4; have zf5 : w7.frozen? ⟨w.heap.size + 1 + 1, 5, none⟩ = false := blk_frozen H47.out 5))
  refine bodyPost_ret (v := .agg #[.int .i64 s.a, .int .i64 s.b, .int .i64 s.c, .int .i64 s.d, .int .i64 s.e, .int .i64 s.f]) (by simp [results, Tryd.results38, go_sem, *]) rfl ⟨rfl, ?_⟩
  exact ((((((LL.out.setCell (p := ⟨w.heap.size + 1 + 1, 0, none⟩) (by show w.heap.size ≤ w.heap.size + 1 + 1; omega) _).setCell (p := ⟨w.heap.size + 1 + 1, 1, none⟩) (by show w.heap.size ≤ w.heap.size + 1 + 1; omega) _).setCell (p := ⟨w.heap.size + 1 + 1, 2, none⟩) (by show w.heap.size ≤ w.heap.size + 1 + 1; omega) _).setCell (p := ⟨w.heap.size + 1 + 1, 3, none⟩) (by show w.heap.size ≤ w.heap.size + 1 + 1; omega) _).setCell (p := ⟨w.heap.size + 1 + 1, 4, none⟩) (by show w.heap.size ≤ w.heap.size + 1 + 1; omega) _).setCell (p := ⟨w.heap.size + 1 + 1, 5, none⟩) (by show w.heap.size ≤ w.heap.size + 1 + 1; omega) _)
/-- One param that is valid, applied by the document: as 'put' tells. -/
theorem one8_calls (s : St) (id v : Int) (cl : Bool) (hv : valid id v cl = 0) (w : World) (hT : GT w) : Calls Tryd.prog 38 #[.agg #[.int .i64 s.a, .int .i64 s.b, .int .i64 s.c, .int .i64 s.d, .int .i64 s.e, .int .i64 s.f], .agg #[.int .i64 id, .int .i64 v]] w fun e w' => e = .returned (.agg (put s id v).arr) ∧ Below w.heap.size w w' := by
  obtain ⟨h0, h2, h5⟩ := valid_ranges id v cl hv
  by_cases hin : 1 ≤ id ∧ id ≤ 6
  · obtain rfl | rfl | rfl | rfl | rfl | rfl : id = 1 ∨ id = 2 ∨ id = 3 ∨ id = 4 ∨ id = 5 ∨ id = 6 := by omega
    · by_cases ho : 2147483647 < v
      · have e : (put s 1 v).arr = #[.int .i64 2147483647, .int .i64 s.b, .int .i64 s.c, .int .i64 s.d, .int .i64 s.e, .int .i64 s.f] := by simp [put, St.arr, mn, top, ho]
        rw [e]; exact one_1_over s v ho w hT
      · have e : (put s 1 v).arr = #[.int .i64 v, .int .i64 s.b, .int .i64 s.c, .int .i64 s.d, .int .i64 s.e, .int .i64 s.f] := by simp [put, St.arr, mn, top, ho]
        rw [e]; exact one_1_fine s v (by omega) w hT
    · have ho : ¬ 2147483647 < v := by have := h2 rfl; omega
      have e : (put s 2 v).arr = #[.int .i64 s.a, .int .i64 v, .int .i64 s.c, .int .i64 s.d, .int .i64 s.e, .int .i64 s.f] := by simp [put, St.arr, mn, top, ho]
      rw [e]; exact one_2_fine s v (h2 rfl) w hT
    · by_cases ho : 2147483647 < v
      · have e : (put s 3 v).arr = #[.int .i64 s.a, .int .i64 s.b, .int .i64 2147483647, .int .i64 s.d, .int .i64 s.e, .int .i64 s.f] := by simp [put, St.arr, mn, top, ho]
        rw [e]; exact one_3_over s v ho w hT
      · have e : (put s 3 v).arr = #[.int .i64 s.a, .int .i64 s.b, .int .i64 v, .int .i64 s.d, .int .i64 s.e, .int .i64 s.f] := by simp [put, St.arr, mn, top, ho]
        rw [e]; exact one_3_fine s v (by omega) w hT
    · by_cases ho : 2147483647 < v
      · have e : (put s 4 v).arr = #[.int .i64 s.a, .int .i64 s.b, .int .i64 s.c, .int .i64 2147483647, .int .i64 s.e, .int .i64 s.f] := by simp [put, St.arr, mn, top, ho]
        rw [e]; exact one_4_over s v ho w hT
      · have e : (put s 4 v).arr = #[.int .i64 s.a, .int .i64 s.b, .int .i64 s.c, .int .i64 v, .int .i64 s.e, .int .i64 s.f] := by simp [put, St.arr, mn, top, ho]
        rw [e]; exact one_4_fine s v (by omega) w hT
    · by_cases ho : 65536 < v
      · have e : (put s 5 v).arr = #[.int .i64 s.a, .int .i64 s.b, .int .i64 s.c, .int .i64 s.d, .int .i64 65536, .int .i64 s.f] := by simp [put, St.arr, mn, top, ho]
        rw [e]; exact one_5_over s v ho w hT
      · have e : (put s 5 v).arr = #[.int .i64 s.a, .int .i64 s.b, .int .i64 s.c, .int .i64 s.d, .int .i64 v, .int .i64 s.f] := by simp [put, St.arr, mn, top, ho]
        rw [e]; exact one_5_fine s v (by omega) w hT
    · by_cases ho : 2147483647 < v
      · have e : (put s 6 v).arr = #[.int .i64 s.a, .int .i64 s.b, .int .i64 s.c, .int .i64 s.d, .int .i64 s.e, .int .i64 2147483647] := by simp [put, St.arr, mn, top, ho]
        rw [e]; exact one_6_over s v ho w hT
      · have e : (put s 6 v).arr = #[.int .i64 s.a, .int .i64 s.b, .int .i64 s.c, .int .i64 s.d, .int .i64 s.e, .int .i64 v] := by simp [put, St.arr, mn, top, ho]
        rw [e]; exact one_6_fine s v (by omega) w hT
  · rw [put_other s id v hin]
    by_cases hl : id < 1
    · exact one_low s id v hl w
    · exact one_high s id v (by omega) w
end Go.Proofs.YtcjphkgmcfpfeaaDoor.MS
