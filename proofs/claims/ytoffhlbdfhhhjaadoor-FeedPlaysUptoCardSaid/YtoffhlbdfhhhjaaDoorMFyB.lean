/- The document's feed breaks. The feed lies in a block of its own. -/
import Derived.RegionTactic
import Derived.Test.YtoffhlbdfhhhjaaDoorMFyA
import Derived.Test.YtoffhlbdfhhhjaaDoorMFdB
import Derived.Test.YtoffhlbdfhhhjaaDoorMFg4
import Derived.Test.YtoffhlbdfhhhjaaDoorMFrK
namespace Go.Proofs.YtoffhlbdfhhhjaaDoor.Fr
open Go Go.RowKit Go.Proofs.YtoffhlbdfhhhjaaDoorW.PrintWords Go.Proofs.YtoffhlbdfhhhjaaDoorW.PrintLast Go.Proofs.YtoffhlbdfhhhjaaDoorW.PrintMore Go.Proofs.YtoffhlbdfhhhjaaDoor.QL
set_option linter.unusedSimpArgs false
set_option linter.unusedVariables false
set_option maxHeartbeats 8000000
set_option maxRecDepth 100000
theorem res70 (tmps : Array Value) (W : World) (g4 g6 : Nat) (f : Fr) (A : Option Addr) (c : Nat) (ok : Bool) (code st : Int) (h4 : tmps.getD 4 undef = .pointer (some ⟨g4, 0, none⟩)) (h5 : tmps.getD 5 undef = .bool ok) (h6 : tmps.getD 6 undef = .pointer (some ⟨g6, 0, none⟩)) (hf : At W g4 f A c) (he : W.heap[g6]? = some (.cells #[.int .i64 code, .int .i64 st] 35 (0, 0))) :
    (results Tryd.f70 tmps).run Tryd.prog W = .ok (.tuple #[.agg (f.cells A c), .bool ok, .agg #[.int .i64 code, .int .i64 st]]) W := by
  have r1 := run_loadVar_row (P := Tryd.prog) W g4 24 24 (f.cells A c) (0, 0) _ hf Tryd.underlying24 (by rfl) (by kernel_rfl)
  have r2 := run_loadVar_row (P := Tryd.prog) W g6 35 35 #[.int .i64 code, .int .i64 st] (0, 0) _ he Tryd.underlying35 (by rfl) (by kernel_rfl)
  have e : Tryd.f70.results = #[.cell 4 24, .tmp 5, .cell 6 35] := rfl
  simp only [Array.getD_eq_getD_getElem?] at h4 h5 h6
  simp [results, e, h4, h5, h6, asAddr, Sem.run_bind, r1, r2]
theorem breaks7_calls (g : Nat) (f : Dc) (code st : Int) (w : World) (h : DAt w g f) : Calls Tryd.prog 70 #[.pointer (some ⟨g, 0, none⟩), .agg #[.int .i64 code, .int .i64 st]] w fun e w' => e = .returned (.tuple #[.agg #[.int .i64 0, .int .i64 0, .int .i64 0, .string ⟨#[]⟩, .int .i64 0, .int .i64 0, .bool false, .int .i64 0, .int .i64 0, .int .i64 0, .slice none 0 0], .bool false, .agg #[.int .i64 code, .int .i64 st]]) ∧ DAt w' g { f with b := ByteArray.empty, code := code, st := st } ∧ Chg g w w' := by
  have H := Aside0.mk h
  clear h
  obtain ⟨f1, hf1⟩ : ∃ q : Dc, { f with b := ByteArray.empty, code := code, st := st } = q := ⟨_, rfl⟩
  rw [hf1]
  have HF1 := Aside0.mk hf1
  clear hf1
  go_enter Tryd.func70, Tryd.ntmps70
  go_upto_region 1 with fail
  obtain ⟨W1, hW1⟩ : ∃ W, ((w.alloc (.cells #[.int .i64 code, .int .i64 st] 35)).alloc (.cells #[.int .i64 0, .int .i64 0, .int .i64 0, .string ⟨#[]⟩, .int .i64 0, .int .i64 0, .bool false, .int .i64 0, .int .i64 0, .int .i64 0, .slice none 0 0] 24)).alloc (.cells #[.int .i64 0, .int .i64 0] 35) = W := ⟨_, rfl⟩
  obtain ⟨g3, h3⟩ : ∃ q, w.heap.size = q := ⟨_, rfl⟩
  obtain ⟨g4, h4⟩ : ∃ q, g3 + 1 = q := ⟨_, rfl⟩
  obtain ⟨g6, h6⟩ : ∃ q, g4 + 1 = q := ⟨_, rfl⟩
  have L1 : Aside0 (Below w.heap.size w W1) := ⟨by rw [← hW1]; exact below_alloc (below_alloc (below_alloc (Below.refl _ _) _) _) _⟩
  have X3 : Aside0 (W1.heap[g3]? = some (.cells #[.int .i64 code, .int .i64 st] 35 (0, 0))) := ⟨by rw [← hW1, ← h3]; exact blk_alloc (heap_alloc2_old _ _ _) _⟩
  have X4 : Aside0 (At W1 g4 Fr.zero none 0) := ⟨by rw [← hW1, ← h4, ← h3]; exact blk_alloc (heap_alloc2_new w _ _) _⟩
  have X6 : Aside0 (W1.heap[g6]? = some (.cells #[.int .i64 0, .int .i64 0] 35 (0, 0))) := ⟨by rw [← hW1, ← h6, ← h4, ← h3]; have h := heap_alloc2_new (w.alloc (.cells #[.int .i64 code, .int .i64 st] 35)) (.cells #[.int .i64 0, .int .i64 0, .int .i64 0, .string ⟨#[]⟩, .int .i64 0, .int .i64 0, .bool false, .int .i64 0, .int .i64 0, .int .i64 0, .slice none 0 0] 24) (.cells #[.int .i64 0, .int .i64 0] 35); simpa using h⟩
  have HG : Aside0 (g < w.heap.size ∧ w.heap.size = g3 ∧ g3 + 1 = g4 ∧ g4 + 1 = g6) := ⟨blk_lt H.out, h3, h4, h6⟩
  rw [hW1, h3, h4, h6]
  clear hW1 h3 h4 h6
  have H1 := Aside0.mk (H.out.low L1.out)
  have z3 := H1.out.c3
  have z4 := H1.out.c4
  have z2 := H1.out.c2
  have y3 := H1.out.fz 3
  have y4 := H1.out.fz 4
  have x0 := blk_cell X3.out 0
  have x1 := blk_cell X3.out 1
  go_upto_region 2 with fail
  obtain ⟨W3, hW3⟩ : ∃ W, ((W1.setCell ⟨g, 3, none⟩ (.int .i64 code)).setCell ⟨g, 4, none⟩ (.int .i64 st)) = W := ⟨_, rfl⟩
  have H3 : Aside0 (DAt W3 g { f with code := code, st := st }) := ⟨by rw [← hW3]; exact (H1.out.put3 code).put4 st⟩
  have N3 : Aside0 (g3 ≠ g ∧ g4 ≠ g ∧ g6 ≠ g) := ⟨by have := HG.out; omega⟩
  have Y3 : Aside0 (W3.heap[g3]? = some (.cells #[.int .i64 code, .int .i64 st] 35 (0, 0))) := ⟨by rw [← hW3]; exact blk_far (blk_far X3.out (show g3 ≠ g from N3.out.1) _) (show g3 ≠ g from N3.out.1) _⟩
  have Y4 : Aside0 (At W3 g4 Fr.zero none 0) := ⟨by rw [← hW3]; exact blk_far (blk_far X4.out (show g4 ≠ g from N3.out.2.1) _) (show g4 ≠ g from N3.out.2.1) _⟩
  have Y6 : Aside0 (W3.heap[g6]? = some (.cells #[.int .i64 0, .int .i64 0] 35 (0, 0))) := ⟨by rw [← hW3]; exact blk_far (blk_far X6.out (show g6 ≠ g from N3.out.2.2) _) (show g6 ≠ g from N3.out.2.2) _⟩
  have C3 : Aside0 (Chg g w W3) := ⟨by rw [← hW3]; exact ((Chg.of L1.out).trans (Chg.set _ _ _)).trans (Chg.set _ _ _)⟩
  rw [hW3]
  clear hW3 X3 X4 X6 H1 z3 z4 z2 y3 y4 x0 x1 L1
  have z2 := H3.out.c2
  have y2 := H3.out.fz 2
  go_upto_region 3 with fail
  obtain ⟨W4, hW4⟩ : ∃ W, (W3.setCell ⟨g, 2, none⟩ (.string ⟨#[]⟩)) = W := ⟨_, rfl⟩
  have H4 : Aside0 (DAt W4 g f1) := ⟨by rw [← hW4, ← HF1.out]; exact H3.out.put2 ByteArray.empty⟩
  have Z3 : Aside0 (W4.heap[g3]? = some (.cells #[.int .i64 code, .int .i64 st] 35 (0, 0))) := ⟨by rw [← hW4]; exact blk_far Y3.out (show g3 ≠ g from N3.out.1) _⟩
  have Z4 : Aside0 (At W4 g4 Fr.zero none 0) := ⟨by rw [← hW4]; exact blk_far Y4.out (show g4 ≠ g from N3.out.2.1) _⟩
  have Z6 : Aside0 (W4.heap[g6]? = some (.cells #[.int .i64 0, .int .i64 0] 35 (0, 0))) := ⟨by rw [← hW4]; exact blk_far Y6.out (show g6 ≠ g from N3.out.2.2) _⟩
  have C4 : Aside0 (Chg g w W4) := ⟨by rw [← hW4]; exact C3.out.trans (Chg.set _ _ _)⟩
  rw [hW4]
  clear hW4 Y3 Y4 Y6 H3 C3 z2 y2
  have q0 := blk_cell Z3.out 0
  have q1 := blk_cell Z3.out 1
  have q2 : At W4.drew g4 Fr.zero none 0 := Z4.out.low (below_drew (Below.refl _ _))
  have q3 := blk_below Z6.out (below_drew (Below.refl _ _))
  have q4 : DAt W4.drew g f1 := H4.out.low (below_drew (Below.refl _ _))
  have q5 : Chg g w W4.drew := C4.out.trans (Chg.of (below_drew (Below.refl _ _)))
  refine start_ (n := 5) (S := fun w' => w'.cell? ⟨g3, 0, none⟩ = some (.int .i64 code) ∧ w'.cell? ⟨g3, 1, none⟩ = some (.int .i64 st) ∧ At w' g4 Fr.zero none 0 ∧ w'.heap[g6]? = some (.cells #[.int .i64 0, .int .i64 0] 35 (0, 0)) ∧ DAt w' g f1 ∧ Chg g w w') (ds := [4]) #[false, false, false, false, false] (by kernel_rfl) rfl rfl ⟨q0, q1, q2, q3, q4, q5⟩ (fun hHeld => ?_)
  refine pure_ (i := 0) (N := some 14) (v := ?_) (a' := ?_) #[true, false, false, false, false] rfl rfl (by kernel_rfl) (fun _ _ _ h => h) (Or.inl ⟨by rfl, ?_⟩) ?_ ?_
  rotate_left
  · intro w'
    go_simp
    with_reducible rfl
  rotate_left
  · simp only [Act.put, List.setIfInBounds_toArray, List.set_cons_zero, List.set_cons_succ, i64_w, i32_w]
    rfl
  refine take_ (i := 1) (N := some 15) (v := ?_) (a' := ?_) #[true, true, false, false, false] rfl rfl (by kernel_rfl) (fun _ _ _ h => h) (Or.inl ⟨by rfl, ?_⟩) hHeld ?_ ?_
  rotate_left
  · rintro w' ⟨s0, s1, s2, s3, s4, s5⟩
    go_simp
    with_reducible rfl
  rotate_left
  · simp only [Act.put, List.setIfInBounds_toArray, List.set_cons_zero, List.set_cons_succ, i64_w, i32_w]
    rfl
  refine one_ (i := 2) (N := none) #[true, true, true, false, false] rfl rfl (by kernel_rfl) (by decide) (fun K hK => ?_)
  refine skip_row 24 _ _ rfl (by rfl) rfl g4 #[.int .i64 0, .int .i64 0, .int .i64 0, .string ⟨#[]⟩, .int .i64 0, .int .i64 0, .bool false, .int .i64 0, .int .i64 0, .int .i64 0, .slice none 0 0] rfl rfl 24 _ hHeld.2.2.1 (by kernel_rfl) (by kernel_rfl) (by kernel_rfl) ?_
  obtain ⟨W8, e8, q4, qo, qb⟩ := row_store _ g4 #[.int .i64 0, .int .i64 0, .int .i64 0, .string ⟨#[]⟩, .int .i64 0, .int .i64 0, .bool false, .int .i64 0, .int .i64 0, .int .i64 0, .slice none 0 0] 24 _ hHeld.2.2.1
  rw [e8]
  refine hK.out _ _ ⟨(cell_same (qo g3 (by have := HG.out; omega)) 0).trans hHeld.1, (cell_same (qo g3 (by have := HG.out; omega)) 1).trans hHeld.2.1, q4, (qo g6 (by have := HG.out; omega)).trans hHeld.2.2.2.1, (qo g (by have := HG.out; omega)).trans hHeld.2.2.2.2.1, hHeld.2.2.2.2.2.blkset (k := g4) (by have := HG.out; omega) qo (qb _ _ (Below.refl _ _) (by have := HG.out; omega))⟩ (fun hHeld => ?_)
  clear hK K
  refine pure_ (i := 3) (N := some 5) (v := ?_) (a' := ?_) #[true, true, true, true, false] rfl rfl (by kernel_rfl) (fun _ _ _ h => h) (Or.inl ⟨by rfl, ?_⟩) ?_ ?_
  rotate_left
  · intro w'
    go_simp
    with_reducible rfl
  rotate_left
  · simp only [Act.put, List.setIfInBounds_toArray, List.set_cons_zero, List.set_cons_succ, i64_w, i32_w]
    rfl
  refine last_ (i := 4) (N := none) #[true, true, true, true, true] rfl rfl (by kernel_rfl) (by decide) (fun K hK => ?_)
  refine skip_row 35 _ _ rfl (by rfl) rfl g6 #[.int .i64 code, .int .i64 st] rfl rfl 35 _ hHeld.2.2.2.1 (by kernel_rfl) (by kernel_rfl) (by kernel_rfl) ?_
  obtain ⟨W9, e9, p6, po, pb⟩ := row_store _ g6 #[.int .i64 code, .int .i64 st] 35 _ hHeld.2.2.2.1
  rw [e9]
  have R6 := Aside0.mk p6
  have R4 := Aside0.mk ((po _ (by have := HG.out; omega)).trans hHeld.2.2.1)
  have RF := Aside0.mk ((po _ (by have := HG.out; omega)).trans hHeld.2.2.2.2.1)
  have RC := Aside0.mk (hHeld.2.2.2.2.2.blkset (k := g6) (by have := HG.out; omega) po (pb _ _ (Below.refl _ _) (by have := HG.out; omega)))
  clear p6 po pb e9
  refine hK.out _ _ ?_
  clear hK K
  refine done_ (by kernel_rfl) ?_
  go_wp2_with fail
  refine bodyPost_ret (res70 _ _ g4 g6 Fr.zero none 0 false code st rfl rfl rfl R4.out R6.out) rfl ⟨rfl, RF.out, RC.out⟩
end Go.Proofs.YtoffhlbdfhhhjaaDoor.Fr
