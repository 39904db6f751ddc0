/- The document's Next behind a fault. The feed lies in a block of its own. -/
import Derived.RegionTactic
import Derived.Test.YtoffhlbdfhhhjaaDoorMFyB
import Derived.Test.YtoffhlbdfhhhjaaDoorMFyC
import Derived.Test.YtoffhlbdfhhhjaaDoorMFdB
import Derived.Test.YtoffhlbdfhhhjaaDoorMFg4
import Derived.Test.YtoffhlbdfhhhjaaDoorMFrK
namespace Go.Proofs.YtoffhlbdfhhhjaaDoor.Fr
open Go Go.RowKit Go.Proofs.YtoffhlbdfhhhjaaDoorW.PrintWords Go.Proofs.YtoffhlbdfhhhjaaDoorW.PrintLast Go.Proofs.YtoffhlbdfhhhjaaDoorW.PrintMore Go.Proofs.YtoffhlbdfhhhjaaDoor.QL
set_option linter.unusedSimpArgs false
set_option linter.unusedVariables false
set_option maxHeartbeats 8000000
set_option maxRecDepth 100000
theorem res40 (tmps : Array Value) (W : World) (g4 g6 : Nat) (f : Fr) (A : Option Addr) (c : Nat) (ok : Bool) (code st : Int) (h4 : tmps.getD 2 undef = .pointer (some ⟨g4, 0, none⟩)) (h5 : tmps.getD 3 undef = .bool ok) (h6 : tmps.getD 4 undef = .pointer (some ⟨g6, 0, none⟩)) (hf : At W g4 f A c) (he : W.heap[g6]? = some (.cells #[.int .i64 code, .int .i64 st] 35 (0, 0))) :
    (results Tryd.f40 tmps).run Tryd.prog W = .ok (.tuple #[.agg (f.cells A c), .bool ok, .agg #[.int .i64 code, .int .i64 st]]) W := by
  have r1 := run_loadVar_row (P := Tryd.prog) W g4 24 24 (f.cells A c) (0, 0) _ hf Tryd.underlying24 (by rfl) (by kernel_rfl)
  have r2 := run_loadVar_row (P := Tryd.prog) W g6 35 35 #[.int .i64 code, .int .i64 st] (0, 0) _ he Tryd.underlying35 (by rfl) (by kernel_rfl)
  have e : Tryd.f40.results = #[.cell 2 24, .tmp 3, .cell 4 35] := rfl
  simp only [Array.getD_eq_getD_getElem?] at h4 h5 h6
  simp [results, e, h4, h5, h6, asAddr, Sem.run_bind, r1, r2]
/-- An answer of the document's Next: the params are a row of their own. -/
def NyPost (g : Nat) (w : World) (r : Dc × Nx) (e : Ending) (w' : World) : Prop := ∃ A c, e = .returned (.tuple #[.agg (r.2.fr.cells A c), .bool r.2.ok, .agg #[.int .i64 r.2.code, .int .i64 r.2.st]]) ∧ Kd.R k32 32 w' w.heap.size (fun _ => True) (.slice A r.2.fr.ps.length c) r.2.fr.ps ∧ DAt w' g r.1 ∧ Chg g w w'
theorem next7_broken (g : Nat) (f : Dc) (w : World) (h : DAt w g f) (hc : f.code ≠ 0) : Calls Tryd.prog 40 #[.pointer (some ⟨g, 0, none⟩)] w fun e w' => NyPost g w (nextD f) e w' := by
  have hn : nextD f = (f, ⟨Fr.zero, false, f.code, f.st⟩) := by unfold nextD; rw [if_pos hc]
  rw [hn]
  have H := Aside0.mk h
  have b0 : (f.code == 0) = false := beq_eq_false_iff_ne.mpr hc
  clear h hn hc
  go_enter Tryd.func40, Tryd.ntmps40
  go_upto_region 1 with fail
  obtain ⟨W1, hW1⟩ : ∃ W, ((w.alloc (.cells #[.int .i64 0, .int .i64 0, .int .i64 0, .string ⟨#[]⟩, .int .i64 0, .int .i64 0, .bool false, .int .i64 0, .int .i64 0, .int .i64 0, .slice none 0 0] 24)).alloc (.cells #[.int .i64 0, .int .i64 0] 35)) = W := ⟨_, rfl⟩
  obtain ⟨g2, h2⟩ : ∃ q, w.heap.size = q := ⟨_, rfl⟩
  obtain ⟨g4, h4⟩ : ∃ q, g2 + 1 = q := ⟨_, rfl⟩
  have L1 : Aside0 (Below w.heap.size w W1) := ⟨by rw [← hW1]; exact below_alloc (below_alloc (Below.refl _ _) _) _⟩
  have X2 : Aside0 (At W1 g2 Fr.zero none 0) := ⟨by rw [← hW1, ← h2]; exact heap_alloc2_old _ _ _⟩
  have X4 : Aside0 (W1.heap[g4]? = some (.cells #[.int .i64 0, .int .i64 0] 35 (0, 0))) := ⟨by rw [← hW1, ← h4, ← h2]; exact heap_alloc2_new _ _ _⟩
  have HG : Aside0 (g < w.heap.size ∧ w.heap.size = g2 ∧ g2 + 1 = g4) := ⟨blk_lt H.out, h2, h4⟩
  rw [hW1, h2, h4]
  clear hW1 h2 h4
  have H1 := Aside0.mk (H.out.low L1.out)
  have q0 := H1.out.c3
  have q1 := H1.out.c4
  go_upto_region 2 with fail
  have q2 : At W1.drew g2 Fr.zero none 0 := X2.out.low (below_drew (Below.refl _ _))
  have q3 := blk_below X4.out (below_drew (Below.refl _ _))
  have q4 : DAt W1.drew g f := H1.out.low (below_drew (Below.refl _ _))
  have q5 : Chg g w W1.drew := (Chg.of L1.out).trans (Chg.of (below_drew (Below.refl _ _)))
  refine start_ (n := 8) (S := fun w' => w'.cell? ⟨g, 3, none⟩ = some (.int .i64 f.code) ∧ w'.cell? ⟨g, 4, none⟩ = some (.int .i64 f.st) ∧ At w' g2 Fr.zero none 0 ∧ w'.heap[g4]? = some (.cells #[.int .i64 0, .int .i64 0] 35 (0, 0)) ∧ DAt w' g f ∧ Chg g w w') (ds := [7]) #[false, false, false, false, false, false, false, false] (by kernel_rfl) rfl rfl ⟨q0, q1, q2, q3, q4, q5⟩ (fun hHeld => ?_)
  refine pure_ (i := 0) (N := some 15) (v := ?_) (a' := ?_) #[true, false, false, false, false, false, false, false] rfl rfl (by kernel_rfl) (fun _ _ _ h => h) (Or.inl ⟨by rfl, ?_⟩) ?_ ?_
  rotate_left
  · intro w'
    go_simp
    with_reducible rfl
  rotate_left
  · simp only [Act.put, List.setIfInBounds_toArray, List.set_cons_zero, List.set_cons_succ, i64_w, i32_w]
    rfl
  refine pure_ (i := 1) (N := some 16) (v := ?_) (a' := ?_) #[true, true, false, false, false, false, false, false] rfl rfl (by kernel_rfl) (fun _ _ _ h => h) (Or.inl ⟨by rfl, ?_⟩) ?_ ?_
  rotate_left
  · intro w'
    go_simp
    with_reducible rfl
  rotate_left
  · simp only [Act.put, List.setIfInBounds_toArray, List.set_cons_zero, List.set_cons_succ, i64_w, i32_w]
    rfl
  refine pure_ (i := 2) (N := some 17) (v := ?_) (a' := ?_) #[true, true, true, false, false, false, false, false] rfl rfl (by kernel_rfl) (fun _ _ _ h => h) (Or.inl ⟨by rfl, ?_⟩) ?_ ?_
  rotate_left
  · intro w'
    go_simp
    with_reducible rfl
  rotate_left
  · simp only [Act.put, List.setIfInBounds_toArray, List.set_cons_zero, List.set_cons_succ, i64_w, i32_w]
    rfl
  refine pure_ (i := 3) (N := some 18) (v := ?_) (a' := ?_) #[true, true, true, true, false, false, false, false] rfl rfl (by kernel_rfl) (fun _ _ _ h => h) (Or.inl ⟨by rfl, ?_⟩) ?_ ?_
  rotate_left
  · intro w'
    go_simp
    with_reducible rfl
  rotate_left
  · simp only [Act.put, List.setIfInBounds_toArray, List.set_cons_zero, List.set_cons_succ, i64_w, i32_w]
    rfl
  refine take_ (i := 4) (N := some 19) (v := ?_) (a' := ?_) #[true, true, true, true, true, false, false, false] rfl rfl (by kernel_rfl) (fun _ _ _ h => h) (Or.inl ⟨by rfl, ?_⟩) hHeld ?_ ?_
  rotate_left
  · rintro w' ⟨s0, s1, s2, s3, s4, s5⟩
    go_simp
    with_reducible rfl
  rotate_left
  · simp only [Act.put, List.setIfInBounds_toArray, List.set_cons_zero, List.set_cons_succ, i64_w, i32_w]
    rfl
  refine one_ (i := 5) (N := none) #[true, true, true, true, true, true, false, false] rfl rfl (by kernel_rfl) (by decide) (fun K hK => ?_)
  refine skip_row 24 _ _ rfl (by rfl) rfl g2 #[.int .i64 0, .int .i64 0, .int .i64 0, .string ⟨#[]⟩, .int .i64 0, .int .i64 0, .bool false, .int .i64 0, .int .i64 0, .int .i64 0, .slice none 0 0] rfl rfl 24 _ hHeld.2.2.1 (by kernel_rfl) (by kernel_rfl) (by kernel_rfl) ?_
  obtain ⟨W8, e8, q4, qo, qb⟩ := row_store _ g2 #[.int .i64 0, .int .i64 0, .int .i64 0, .string ⟨#[]⟩, .int .i64 0, .int .i64 0, .bool false, .int .i64 0, .int .i64 0, .int .i64 0, .slice none 0 0] 24 _ hHeld.2.2.1
  rw [e8]
  refine hK.out _ _ ⟨(cell_same (qo g (by have := HG.out; omega)) 3).trans hHeld.1, (cell_same (qo g (by have := HG.out; omega)) 4).trans hHeld.2.1, q4, (qo g4 (by have := HG.out; omega)).trans hHeld.2.2.2.1, (qo g (by have := HG.out; omega)).trans hHeld.2.2.2.2.1, hHeld.2.2.2.2.2.blkset (k := g2) (by have := HG.out; omega) qo (qb _ _ (Below.refl _ _) (by have := HG.out; omega))⟩ (fun hHeld => ?_)
  clear hK K
  refine pure_ (i := 6) (N := some 3) (v := ?_) (a' := ?_) #[true, true, true, true, true, true, true, false] rfl rfl (by kernel_rfl) (fun _ _ _ h => h) (Or.inl ⟨by rfl, ?_⟩) ?_ ?_
  rotate_left
  · intro w'
    go_simp
    with_reducible rfl
  rotate_left
  · simp only [Act.put, List.setIfInBounds_toArray, List.set_cons_zero, List.set_cons_succ, i64_w, i32_w]
    rfl
  refine last_ (i := 7) (N := none) #[true, true, true, true, true, true, true, true] rfl rfl (by kernel_rfl) (by decide) (fun K hK => ?_)
  refine skip_row 35 _ _ rfl (by rfl) rfl g4 #[.int .i64 f.code, .int .i64 f.st] rfl rfl 35 _ hHeld.2.2.2.1 (by kernel_rfl) (by kernel_rfl) (by kernel_rfl) ?_
  obtain ⟨W9, e9, p6, po, pb⟩ := row_store _ g4 #[.int .i64 f.code, .int .i64 f.st] 35 _ hHeld.2.2.2.1
  rw [e9]
  have R6 := Aside0.mk p6
  have R4 := Aside0.mk ((po _ (by have := HG.out; omega)).trans hHeld.2.2.1)
  have RF := Aside0.mk ((po _ (by have := HG.out; omega)).trans hHeld.2.2.2.2.1)
  have RC := Aside0.mk (hHeld.2.2.2.2.2.blkset (k := g4) (by have := HG.out; omega) po (pb _ _ (Below.refl _ _) (by have := HG.out; omega)))
  clear p6 po pb e9
  refine hK.out _ _ ?_
  clear hK K
  refine done_ (by kernel_rfl) ?_
  go_wp2_with fail
  refine bodyPost_ret (res40 _ _ g2 g4 Fr.zero none 0 false f.code f.st rfl rfl rfl R4.out R6.out) rfl ⟨none, 0, rfl, Kd.R_nil _ _ _ _ _, RF.out, RC.out⟩
end Go.Proofs.YtoffhlbdfhhhjaaDoor.Fr
