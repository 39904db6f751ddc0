/- The document's answer for settings, by hand: its six numbers, one param applied, the default. The package's variable 'top' holds what the program lays; no other condition but those in each statement. -/
import Derived.Test.YtcjphkgmcfpfeaaDoorMSetP
namespace Go.Proofs.YtcjphkgmcfpfeaaDoor.MS
open Go Go.RowKit Go.Proofs.YtcjphkgmcfpfeaaDoorW.PrintWords Go.Proofs.YtcjphkgmcfpfeaaDoorW.PrintLast Go.Proofs.YtcjphkgmcfpfeaaDoorW.PrintMore Go.Proofs.YtcjphkgmcfpfeaaDoor.QL
attribute [local go_sem] max2_int min2_int max_two min_two
set_option linter.unusedSimpArgs false
set_option linter.unusedVariables false
set_option maxHeartbeats 8000000
set_option maxRecDepth 100000
theorem six_calls (s : St) (w : World) : Calls Tryd.prog 39 #[.agg #[.int .i64 s.a, .int .i64 s.b, .int .i64 s.c, .int .i64 s.d, .int .i64 s.e, .int .i64 s.f]] w fun e w' => e = .returned (.agg #[.int .i64 s.a, .int .i64 s.b, .int .i64 s.c, .int .i64 s.d, .int .i64 s.e, .int .i64 s.f]) ∧ Below w.heap.size w w' := by
  have HB := Aside0.mk (Below.refl w.heap.size w)
  go_enter Tryd.func39, Tryd.ntmps39
  go_wp2_with fail
  refine bodyPost_ret (v := .agg #[.int .i64 s.a, .int .i64 s.b, .int .i64 s.c, .int .i64 s.d, .int .i64 s.e, .int .i64 s.f]) (by simp [results, Tryd.results39, go_sem, *]) rfl ⟨rfl, ?_⟩
  exact below_alloc (below_alloc HB.out _) _
theorem set_calls (s : St) (w : World) : Calls Tryd.prog 40 #[.agg #[.int .i64 s.a, .int .i64 s.b, .int .i64 s.c, .int .i64 s.d, .int .i64 s.e, .int .i64 s.f]] w fun e w' => e = .returned (.agg #[.int .i64 s.a, .int .i64 s.b, .int .i64 s.c, .int .i64 s.d, .int .i64 s.e, .int .i64 s.f]) ∧ Below w.heap.size w w' := by
  have HB := Aside0.mk (Below.refl w.heap.size w)
  go_enter Tryd.func40, Tryd.ntmps40
  go_wp2_with fail
  refine bodyPost_ret (v := .agg #[.int .i64 s.a, .int .i64 s.b, .int .i64 s.c, .int .i64 s.d, .int .i64 s.e, .int .i64 s.f]) (by simp [results, Tryd.results40, go_sem, *]) rfl ⟨rfl, ?_⟩
  exact below_alloc (below_alloc HB.out _) _
theorem set_init (w : World) : Calls Tryd.prog 40 #[.agg #[.int .i64 4096, .int .i64 1, .int .i64 2147483647, .int .i64 65535, .int .i64 16384, .int .i64 2147483647]] w fun e w' => e = .returned (.agg #[.int .i64 4096, .int .i64 1, .int .i64 2147483647, .int .i64 65535, .int .i64 16384, .int .i64 2147483647]) ∧ Below w.heap.size w w' := set_calls init w
theorem default8_calls (w : World) : Calls Tryd.prog 20 #[] w fun e w' => e = .returned (.agg #[.int .i64 4096, .int .i64 1, .int .i64 2147483647, .int .i64 65535, .int .i64 16384, .int .i64 2147483647]) ∧ Below w.heap.size w w' := by
  have HB := Aside0.mk (Below.refl w.heap.size w)
  have H0 := Aside0.mk (blk_new w (.cells #[.int .i64 0, .int .i64 0, .int .i64 0, .int .i64 0, .int .i64 0, .int .i64 0] 23))
  go_enter Tryd.func20, Tryd.ntmps20
  go_wp2_with (first
    | (go_at_call 40; (with_reducible refine (set_init _).mono ?_); rintro e w1 ⟨rfl, hb⟩; have HB1 := Aside0.mk (below_then (below_alloc HB.out _) (by simp) hb); have H1 := Aside0.mk (blk_below H0.out hb); clear hb; have z0 : w1.cell? ⟨w.heap.size, 0, none⟩ = some (.int .i64 0) := blk_cell H1.out 0; have z1 : w1.cell? ⟨w.heap.size, 1, none⟩ = some (.int .i64 0) := blk_cell H1.out 1; have z2 : w1.cell? ⟨w.heap.size, 2, none⟩ = some (.int .i64 0) := blk_cell H1.out 2; have z3 : w1.cell? ⟨w.heap.size, 3, none⟩ = some (.int .i64 0) := blk_cell H1.out 3; have z4 : w1.cell? ⟨w.heap.size, 4, none⟩ = some (.int .i64 0) := blk_cell H1.out 4; have z5 : w1.cell? ⟨w.heap.size, 5, none⟩ = some (.int .i64 0) := blk_cell H1.out 5; have zf0 : w1.frozen? ⟨w.heap.size, 0, none⟩ = false := blk_frozen H1.out 0; have zf1 : w1.frozen? ⟨w.heap.size, 1, none⟩ = false := blk_frozen H1.out 1; have zf2 : w1.frozen? ⟨w.heap.size, 2, none⟩ = false := blk_frozen H1.out 2; have zf3 : w1.frozen? ⟨w.heap.size, 3, none⟩ = false := blk_frozen H1.out 3; have zf4 : w1.frozen? ⟨w.heap.size, 4, none⟩ = false := blk_frozen H1.out 4; have zf5 : w1.frozen? ⟨w.heap.size, 5, none⟩ = false := blk_frozen H1.out 5))
  refine bodyPost_ret (v := .agg #[.int .i64 4096, .int .i64 1, .int .i64 2147483647, .int .i64 65535, .int .i64 16384, .int .i64 2147483647]) (by simp [results, Tryd.results20, go_sem, *]) rfl ⟨rfl, ?_⟩
  exact ((((((HB1.out.setCell (p := ⟨w.heap.size, 0, none⟩) (Nat.le_refl _) _).setCell (p := ⟨w.heap.size, 1, none⟩) (Nat.le_refl _) _).setCell (p := ⟨w.heap.size, 2, none⟩) (Nat.le_refl _) _).setCell (p := ⟨w.heap.size, 3, none⟩) (Nat.le_refl _) _).setCell (p := ⟨w.heap.size, 4, none⟩) (Nat.le_refl _) _).setCell (p := ⟨w.heap.size, 5, none⟩) (Nat.le_refl _) _)
end Go.Proofs.YtcjphkgmcfpfeaaDoor.MS
