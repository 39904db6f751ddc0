/- Frames as bytes: which frame can be written. The package's variable holds what the program lays. -/
import Derived.Test.YtoffhlbdfhhhjaaDoorMFg2
namespace Go.Proofs.YtoffhlbdfhhhjaaDoor.Fr
open Go Go.RowKit Go.Proofs.YtoffhlbdfhhhjaaDoorW.PrintWords Go.Proofs.YtoffhlbdfhhhjaaDoorW.PrintLast Go.Proofs.YtoffhlbdfhhhjaaDoorW.PrintMore Go.Proofs.YtoffhlbdfhhhjaaDoor.QL
set_option linter.unusedSimpArgs false
set_option linter.unusedVariables false
set_option maxHeartbeats 40000000
set_option maxRecDepth 100000
theorem right_no0 (g : Nat) (f : Fr) (A : Option Addr) (c : Nat) (w : World) (hf : At w g f A c) (hG : GL w) (h0 : inR f.ty 0 255 = false) :
    Calls Tryd.prog 45 #[.pointer (some ⟨g, 0, none⟩)] w fun e w' => e = .returned (.bool false) ∧ Below w.heap.size w w' := by
  have d0 : w.drew.cell? ⟨g, 0, none⟩ = some (.int .i64 f.ty) := hf.c0
  have d1 : w.drew.cell? ⟨g, 1, none⟩ = some (.int .i64 f.fl) := hf.c1
  have d2 : w.drew.cell? ⟨g, 2, none⟩ = some (.int .i64 f.st) := hf.c2
  have d3 : At w.drew g f A c := hf
  have d4 : GL w.drew := hG
  have d5 : Below w.heap.size w w.drew := below_drew (Below.refl _ _)
  have HX0 := Aside0.mk h0
  clear h0
  have hfl := fld0
  clear hf hG
  go_enter Tryd.func45, Tryd.ntmps45
  go_upto_region 1 with fail
  refine start_ (n := 33) (S := fun w' => w'.cell? ⟨g, 0, none⟩ = some (.int .i64 f.ty) ∧ w'.cell? ⟨g, 1, none⟩ = some (.int .i64 f.fl) ∧ w'.cell? ⟨g, 2, none⟩ = some (.int .i64 f.st) ∧ At w' g f A c ∧ GL w' ∧ Below w.heap.size w w') (ds := []) #[false, false, false, false, false, false, false, false, false, false, false, false, false, false, false, false, false, false, false, false, false, false, false, false, false, false, false, false, false, false, false, false, false] (by kernel_rfl) rfl rfl ⟨d0, d1, d2, d3, d4, d5⟩ (fun hHeld => ?_)
  refine pure_ (i := 0) (N := some 6) (v := ?_) (a' := ?_) #[true, false, false, false, false, false, false, false, false, false, false, false, false, false, false, false, false, false, false, false, false, false, false, false, false, false, false, false, false, false, false, false, false] rfl rfl (by kernel_rfl) (fun _ _ _ h => h) (Or.inl ⟨by rfl, ?_⟩) ?_ ?_
  rotate_left
  · intro w'
    go_simp
    with_reducible rfl
  rotate_left
  · simp only [Act.put, List.setIfInBounds_toArray, List.set_cons_zero, List.set_cons_succ, i64_w, i32_w]
    rfl
  refine pure_ (i := 1) (N := some 7) (v := ?_) (a' := ?_) #[true, true, false, false, false, false, false, false, false, false, false, false, false, false, false, false, false, false, false, false, false, false, false, false, false, false, false, false, false, false, false, false, false] rfl rfl (by kernel_rfl) (fun _ _ _ h => h) (Or.inl ⟨by rfl, ?_⟩) ?_ ?_
  rotate_left
  · intro w'
    go_simp
    with_reducible rfl
  rotate_left
  · simp only [Act.put, List.setIfInBounds_toArray, List.set_cons_zero, List.set_cons_succ, i64_w, i32_w]
    rfl
  refine pure_ (i := 2) (N := some 8) (v := ?_) (a' := ?_) #[true, true, true, false, false, false, false, false, false, false, false, false, false, false, false, false, false, false, false, false, false, false, false, false, false, false, false, false, false, false, false, false, false] rfl rfl (by kernel_rfl) (fun _ _ _ h => h) (Or.inl ⟨by rfl, ?_⟩) ?_ ?_
  rotate_left
  · intro w'
    go_simp
    with_reducible rfl
  rotate_left
  · simp only [Act.put, List.setIfInBounds_toArray, List.set_cons_zero, List.set_cons_succ, i64_w, i32_w]
    rfl
  refine take_ (i := 3) (N := some 9) (v := ?_) (a' := ?_) #[true, true, true, true, false, false, false, false, false, false, false, false, false, false, false, false, false, false, false, false, false, false, false, false, false, false, false, false, false, false, false, false, false] rfl rfl (by kernel_rfl) (fun _ _ _ h => h) (Or.inl ⟨by rfl, ?_⟩) hHeld ?_ ?_
  rotate_left
  · rintro w' ⟨s0, s1, s2, s3, s4, s5⟩
    go_simp
    with_reducible rfl
  rotate_left
  · simp only [Act.put, List.setIfInBounds_toArray, List.set_cons_zero, List.set_cons_succ, i64_w, i32_w]
    rfl
  refine one_ (i := 4) (N := some 10) #[true, true, true, true, true, false, false, false, false, false, false, false, false, false, false, false, false, false, false, false, false, false, false, false, false, false, false, false, false, false, false, false, false] rfl rfl (by kernel_rfl) (by decide) (fun K hK => ?_)
  refine goes_ Tryd.func71 (by kernel_rfl) rfl #[.int .i64 f.ty, .int .i64 0, .int .i64 255] (by rfl) rfl rfl (by simp only [List.map_toArray, List.map_cons, List.map_nil]; rfl) ?_
  with_reducible refine (within_calls f.ty 0 255 false _ HX0.out).mono ?_
  rintro e w3 ⟨rfl, hb⟩
  refine ⟨_, rfl, ?_⟩
  refine hK.out _ _ ⟨(hb.cell (World.block_lt_of_cell? _ _ hHeld.1)).trans hHeld.1, (hb.cell (World.block_lt_of_cell? _ _ hHeld.2.1)).trans hHeld.2.1, (hb.cell (World.block_lt_of_cell? _ _ hHeld.2.2.1)).trans hHeld.2.2.1, At.low hHeld.2.2.2.1 hb, GL.below hHeld.2.2.2.2.1 hb, below_then hHeld.2.2.2.2.2 (hHeld.2.2.2.2.2).size hb⟩ (fun hHeld => ?_)
  clear hK K
  refine norm_ (a' := ?_) ?_ ?_
  rotate_left
  · show Act.put _ (some 10) _ = _
    simp only [Act.put, List.setIfInBounds_toArray, List.set_cons_zero, List.set_cons_succ, i64_w, i32_w]
    rfl
  refine pure_ (i := 5) (N := some 11) (v := ?_) (a' := ?_) #[true, true, true, true, true, true, false, false, false, false, false, false, false, false, false, false, false, false, false, false, false, false, false, false, false, false, false, false, false, false, false, false, false] rfl rfl (by kernel_rfl) (fun _ _ _ h => h) (Or.inl ⟨by rfl, ?_⟩) ?_ ?_
  rotate_left
  · intro w'
    go_simp
    with_reducible rfl
  rotate_left
  · simp only [Act.put, List.setIfInBounds_toArray, List.set_cons_zero, List.set_cons_succ, i64_w, i32_w]
    rfl
  refine pure_ (i := 6) (N := some 12) (v := ?_) (a' := ?_) #[true, true, true, true, true, true, true, false, false, false, false, false, false, false, false, false, false, false, false, false, false, false, false, false, false, false, false, false, false, false, false, false, false] rfl rfl (by kernel_rfl) (fun _ _ _ h => h) (Or.inl ⟨by rfl, ?_⟩) ?_ ?_
  rotate_left
  · intro w'
    go_simp
    with_reducible rfl
  rotate_left
  · simp only [Act.put, List.setIfInBounds_toArray, List.set_cons_zero, List.set_cons_succ, i64_w, i32_w]
    rfl
  refine pure_ (i := 7) (N := some 13) (v := undef) (a' := ?_) #[true, true, true, true, true, true, true, true, false, false, false, false, false, false, false, false, false, false, false, false, false, false, false, false, false, false, false, false, false, false, false, false, false] rfl rfl (by kernel_rfl) (fun _ _ _ h => h) (Or.inr ⟨by rfl, rfl⟩) ?_ ?_
  rotate_left
  · simp only [Act.put, List.setIfInBounds_toArray, List.set_cons_zero, List.set_cons_succ, i64_w, i32_w]
    rfl
  refine pure_ (i := 8) (N := some 14) (v := undef) (a' := ?_) #[true, true, true, true, true, true, true, true, true, false, false, false, false, false, false, false, false, false, false, false, false, false, false, false, false, false, false, false, false, false, false, false, false] rfl rfl (by kernel_rfl) (fun _ _ _ h => h) (Or.inr ⟨by rfl, rfl⟩) ?_ ?_
  rotate_left
  · simp only [Act.put, List.setIfInBounds_toArray, List.set_cons_zero, List.set_cons_succ, i64_w, i32_w]
    rfl
  refine pure_ (i := 9) (N := some 15) (v := undef) (a' := ?_) #[true, true, true, true, true, true, true, true, true, true, false, false, false, false, false, false, false, false, false, false, false, false, false, false, false, false, false, false, false, false, false, false, false] rfl rfl (by kernel_rfl) (fun _ _ _ h => h) (Or.inr ⟨by rfl, rfl⟩) ?_ ?_
  rotate_left
  · simp only [Act.put, List.setIfInBounds_toArray, List.set_cons_zero, List.set_cons_succ, i64_w, i32_w]
    rfl
  refine pure_ (i := 10) (N := some 16) (v := undef) (a' := ?_) #[true, true, true, true, true, true, true, true, true, true, true, false, false, false, false, false, false, false, false, false, false, false, false, false, false, false, false, false, false, false, false, false, false] rfl rfl (by kernel_rfl) (fun _ _ _ h => h) (Or.inr ⟨by rfl, rfl⟩) ?_ ?_
  rotate_left
  · simp only [Act.put, List.setIfInBounds_toArray, List.set_cons_zero, List.set_cons_succ, i64_w, i32_w]
    rfl
  refine pure_ (i := 11) (N := some 17) (v := undef) (a' := ?_) #[true, true, true, true, true, true, true, true, true, true, true, true, false, false, false, false, false, false, false, false, false, false, false, false, false, false, false, false, false, false, false, false, false] rfl rfl (by kernel_rfl) (fun _ _ _ h => h) (Or.inr ⟨by rfl, rfl⟩) ?_ ?_
  rotate_left
  · simp only [Act.put, List.setIfInBounds_toArray, List.set_cons_zero, List.set_cons_succ, i64_w, i32_w]
    rfl
  refine pure_ (i := 12) (N := some 18) (v := undef) (a' := ?_) #[true, true, true, true, true, true, true, true, true, true, true, true, true, false, false, false, false, false, false, false, false, false, false, false, false, false, false, false, false, false, false, false, false] rfl rfl (by kernel_rfl) (fun _ _ _ h => h) (Or.inr ⟨by rfl, rfl⟩) ?_ ?_
  rotate_left
  · simp only [Act.put, List.setIfInBounds_toArray, List.set_cons_zero, List.set_cons_succ, i64_w, i32_w]
    rfl
  refine pure_ (i := 13) (N := some 19) (v := undef) (a' := ?_) #[true, true, true, true, true, true, true, true, true, true, true, true, true, true, false, false, false, false, false, false, false, false, false, false, false, false, false, false, false, false, false, false, false] rfl rfl (by kernel_rfl) (fun _ _ _ h => h) (Or.inr ⟨by rfl, rfl⟩) ?_ ?_
  rotate_left
  · simp only [Act.put, List.setIfInBounds_toArray, List.set_cons_zero, List.set_cons_succ, i64_w, i32_w]
    rfl
  refine pure_ (i := 14) (N := some 20) (v := undef) (a' := ?_) #[true, true, true, true, true, true, true, true, true, true, true, true, true, true, true, false, false, false, false, false, false, false, false, false, false, false, false, false, false, false, false, false, false] rfl rfl (by kernel_rfl) (fun _ _ _ h => h) (Or.inr ⟨by rfl, rfl⟩) ?_ ?_
  rotate_left
  · simp only [Act.put, List.setIfInBounds_toArray, List.set_cons_zero, List.set_cons_succ, i64_w, i32_w]
    rfl
  refine pure_ (i := 15) (N := some 21) (v := undef) (a' := ?_) #[true, true, true, true, true, true, true, true, true, true, true, true, true, true, true, true, false, false, false, false, false, false, false, false, false, false, false, false, false, false, false, false, false] rfl rfl (by kernel_rfl) (fun _ _ _ h => h) (Or.inr ⟨by rfl, rfl⟩) ?_ ?_
  rotate_left
  · simp only [Act.put, List.setIfInBounds_toArray, List.set_cons_zero, List.set_cons_succ, i64_w, i32_w]
    rfl
  refine pure_ (i := 16) (N := some 22) (v := undef) (a' := ?_) #[true, true, true, true, true, true, true, true, true, true, true, true, true, true, true, true, true, false, false, false, false, false, false, false, false, false, false, false, false, false, false, false, false] rfl rfl (by kernel_rfl) (fun _ _ _ h => h) (Or.inr ⟨by rfl, rfl⟩) ?_ ?_
  rotate_left
  · simp only [Act.put, List.setIfInBounds_toArray, List.set_cons_zero, List.set_cons_succ, i64_w, i32_w]
    rfl
  refine pure_ (i := 17) (N := some 23) (v := undef) (a' := ?_) #[true, true, true, true, true, true, true, true, true, true, true, true, true, true, true, true, true, true, false, false, false, false, false, false, false, false, false, false, false, false, false, false, false] rfl rfl (by kernel_rfl) (fun _ _ _ h => h) (Or.inr ⟨by rfl, rfl⟩) ?_ ?_
  rotate_left
  · simp only [Act.put, List.setIfInBounds_toArray, List.set_cons_zero, List.set_cons_succ, i64_w, i32_w]
    rfl
  refine pure_ (i := 18) (N := some 24) (v := undef) (a' := ?_) #[true, true, true, true, true, true, true, true, true, true, true, true, true, true, true, true, true, true, true, false, false, false, false, false, false, false, false, false, false, false, false, false, false] rfl rfl (by kernel_rfl) (fun _ _ _ h => h) (Or.inr ⟨by rfl, rfl⟩) ?_ ?_
  rotate_left
  · simp only [Act.put, List.setIfInBounds_toArray, List.set_cons_zero, List.set_cons_succ, i64_w, i32_w]
    rfl
  refine pure_ (i := 19) (N := some 25) (v := ?_) (a' := ?_) #[true, true, true, true, true, true, true, true, true, true, true, true, true, true, true, true, true, true, true, true, false, false, false, false, false, false, false, false, false, false, false, false, false] rfl rfl (by kernel_rfl) (fun _ _ _ h => h) (Or.inl ⟨by rfl, ?_⟩) ?_ ?_
  rotate_left
  · intro w'
    go_simp
    with_reducible rfl
  rotate_left
  · simp only [Act.put, List.setIfInBounds_toArray, List.set_cons_zero, List.set_cons_succ, i64_w, i32_w]
    rfl
  refine pure_ (i := 20) (N := some 26) (v := ?_) (a' := ?_) #[true, true, true, true, true, true, true, true, true, true, true, true, true, true, true, true, true, true, true, true, true, false, false, false, false, false, false, false, false, false, false, false, false] rfl rfl (by kernel_rfl) (fun _ _ _ h => h) (Or.inl ⟨by rfl, ?_⟩) ?_ ?_
  rotate_left
  · intro w'
    go_simp
    with_reducible rfl
  rotate_left
  · simp only [Act.put, List.setIfInBounds_toArray, List.set_cons_zero, List.set_cons_succ, i64_w, i32_w]
    rfl
  refine pure_ (i := 21) (N := some 27) (v := undef) (a' := ?_) #[true, true, true, true, true, true, true, true, true, true, true, true, true, true, true, true, true, true, true, true, true, true, false, false, false, false, false, false, false, false, false, false, false] rfl rfl (by kernel_rfl) (fun _ _ _ h => h) (Or.inr ⟨by rfl, rfl⟩) ?_ ?_
  rotate_left
  · simp only [Act.put, List.setIfInBounds_toArray, List.set_cons_zero, List.set_cons_succ, i64_w, i32_w]
    rfl
  refine pure_ (i := 22) (N := some 28) (v := undef) (a' := ?_) #[true, true, true, true, true, true, true, true, true, true, true, true, true, true, true, true, true, true, true, true, true, true, true, false, false, false, false, false, false, false, false, false, false] rfl rfl (by kernel_rfl) (fun _ _ _ h => h) (Or.inr ⟨by rfl, rfl⟩) ?_ ?_
  rotate_left
  · simp only [Act.put, List.setIfInBounds_toArray, List.set_cons_zero, List.set_cons_succ, i64_w, i32_w]
    rfl
  refine pure_ (i := 23) (N := some 29) (v := undef) (a' := ?_) #[true, true, true, true, true, true, true, true, true, true, true, true, true, true, true, true, true, true, true, true, true, true, true, true, false, false, false, false, false, false, false, false, false] rfl rfl (by kernel_rfl) (fun _ _ _ h => h) (Or.inr ⟨by rfl, rfl⟩) ?_ ?_
  rotate_left
  · simp only [Act.put, List.setIfInBounds_toArray, List.set_cons_zero, List.set_cons_succ, i64_w, i32_w]
    rfl
  refine pure_ (i := 24) (N := some 30) (v := undef) (a' := ?_) #[true, true, true, true, true, true, true, true, true, true, true, true, true, true, true, true, true, true, true, true, true, true, true, true, true, false, false, false, false, false, false, false, false] rfl rfl (by kernel_rfl) (fun _ _ _ h => h) (Or.inr ⟨by rfl, rfl⟩) ?_ ?_
  rotate_left
  · simp only [Act.put, List.setIfInBounds_toArray, List.set_cons_zero, List.set_cons_succ, i64_w, i32_w]
    rfl
  refine pure_ (i := 25) (N := some 31) (v := undef) (a' := ?_) #[true, true, true, true, true, true, true, true, true, true, true, true, true, true, true, true, true, true, true, true, true, true, true, true, true, true, false, false, false, false, false, false, false] rfl rfl (by kernel_rfl) (fun _ _ _ h => h) (Or.inr ⟨by rfl, rfl⟩) ?_ ?_
  rotate_left
  · simp only [Act.put, List.setIfInBounds_toArray, List.set_cons_zero, List.set_cons_succ, i64_w, i32_w]
    rfl
  refine pure_ (i := 26) (N := some 32) (v := undef) (a' := ?_) #[true, true, true, true, true, true, true, true, true, true, true, true, true, true, true, true, true, true, true, true, true, true, true, true, true, true, true, false, false, false, false, false, false] rfl rfl (by kernel_rfl) (fun _ _ _ h => h) (Or.inr ⟨by rfl, rfl⟩) ?_ ?_
  rotate_left
  · simp only [Act.put, List.setIfInBounds_toArray, List.set_cons_zero, List.set_cons_succ, i64_w, i32_w]
    rfl
  refine pure_ (i := 27) (N := some 33) (v := ?_) (a' := ?_) #[true, true, true, true, true, true, true, true, true, true, true, true, true, true, true, true, true, true, true, true, true, true, true, true, true, true, true, true, false, false, false, false, false] rfl rfl (by kernel_rfl) (fun _ _ _ h => h) (Or.inl ⟨by rfl, ?_⟩) ?_ ?_
  rotate_left
  · intro w'
    go_simp
    with_reducible rfl
  rotate_left
  · simp only [Act.put, List.setIfInBounds_toArray, List.set_cons_zero, List.set_cons_succ, i64_w, i32_w]
    rfl
  refine pure_ (i := 28) (N := some 34) (v := ?_) (a' := ?_) #[true, true, true, true, true, true, true, true, true, true, true, true, true, true, true, true, true, true, true, true, true, true, true, true, true, true, true, true, true, false, false, false, false] rfl rfl (by kernel_rfl) (fun _ _ _ h => h) (Or.inl ⟨by rfl, ?_⟩) ?_ ?_
  rotate_left
  · intro w'
    go_simp
    with_reducible rfl
  rotate_left
  · simp only [Act.put, List.setIfInBounds_toArray, List.set_cons_zero, List.set_cons_succ, i64_w, i32_w]
    rfl
  refine pure_ (i := 29) (N := some 35) (v := undef) (a' := ?_) #[true, true, true, true, true, true, true, true, true, true, true, true, true, true, true, true, true, true, true, true, true, true, true, true, true, true, true, true, true, true, false, false, false] rfl rfl (by kernel_rfl) (fun _ _ _ h => h) (Or.inr ⟨by rfl, rfl⟩) ?_ ?_
  rotate_left
  · simp only [Act.put, List.setIfInBounds_toArray, List.set_cons_zero, List.set_cons_succ, i64_w, i32_w]
    rfl
  refine pure_ (i := 30) (N := some 36) (v := undef) (a' := ?_) #[true, true, true, true, true, true, true, true, true, true, true, true, true, true, true, true, true, true, true, true, true, true, true, true, true, true, true, true, true, true, true, false, false] rfl rfl (by kernel_rfl) (fun _ _ _ h => h) (Or.inr ⟨by rfl, rfl⟩) ?_ ?_
  rotate_left
  · simp only [Act.put, List.setIfInBounds_toArray, List.set_cons_zero, List.set_cons_succ, i64_w, i32_w]
    rfl
  refine pure_ (i := 31) (N := some 37) (v := undef) (a' := ?_) #[true, true, true, true, true, true, true, true, true, true, true, true, true, true, true, true, true, true, true, true, true, true, true, true, true, true, true, true, true, true, true, true, false] rfl rfl (by kernel_rfl) (fun _ _ _ h => h) (Or.inr ⟨by rfl, rfl⟩) ?_ ?_
  rotate_left
  · simp only [Act.put, List.setIfInBounds_toArray, List.set_cons_zero, List.set_cons_succ, i64_w, i32_w]
    rfl
  refine pure_ (i := 32) (N := some 38) (v := ?_) (a' := ?_) #[true, true, true, true, true, true, true, true, true, true, true, true, true, true, true, true, true, true, true, true, true, true, true, true, true, true, true, true, true, true, true, true, true] rfl rfl (by kernel_rfl) (fun _ _ _ h => h) (Or.inl ⟨by rfl, ?_⟩) ?_ ?_
  rotate_left
  · intro w'
    go_simp
    with_reducible rfl
  rotate_left
  · simp only [Act.put, List.setIfInBounds_toArray, List.set_cons_zero, List.set_cons_succ, i64_w, i32_w]
    rfl
  refine done_ (by kernel_rfl) ?_
  go_wp2_with fail
  go_ret
  exact ⟨rfl, hHeld.2.2.2.2.2⟩
theorem right_no1 (g : Nat) (f : Fr) (A : Option Addr) (c : Nat) (w : World) (hf : At w g f A c) (hG : GL w) (h0 : inR f.ty 0 255 = true) (h1 : (Go.bits .andNot .i64 f.fl (kFl f.ty) != 0) = true) :
    Calls Tryd.prog 45 #[.pointer (some ⟨g, 0, none⟩)] w fun e w' => e = .returned (.bool false) ∧ Below w.heap.size w w' := by
  have d0 : w.drew.cell? ⟨g, 0, none⟩ = some (.int .i64 f.ty) := hf.c0
  have d1 : w.drew.cell? ⟨g, 1, none⟩ = some (.int .i64 f.fl) := hf.c1
  have d2 : w.drew.cell? ⟨g, 2, none⟩ = some (.int .i64 f.st) := hf.c2
  have d3 : At w.drew g f A c := hf
  have d4 : GL w.drew := hG
  have d5 : Below w.heap.size w w.drew := below_drew (Below.refl _ _)
  have HX0 := Aside0.mk h0
  have H0 : Aside0 (0 ≤ f.ty) := ⟨by have h := h0; unfold inR at h; simp only [Bool.and_eq_true, decide_eq_true_eq] at h; exact h.1⟩
  clear h0
  have hfl := fld0
  clear hf hG
  go_enter Tryd.func45, Tryd.ntmps45
  go_upto_region 1 with fail
  refine start_ (n := 33) (S := fun w' => w'.cell? ⟨g, 0, none⟩ = some (.int .i64 f.ty) ∧ w'.cell? ⟨g, 1, none⟩ = some (.int .i64 f.fl) ∧ w'.cell? ⟨g, 2, none⟩ = some (.int .i64 f.st) ∧ At w' g f A c ∧ GL w' ∧ Below w.heap.size w w') (ds := []) #[false, false, false, false, false, false, false, false, false, false, false, false, false, false, false, false, false, false, false, false, false, false, false, false, false, false, false, false, false, false, false, false, false] (by kernel_rfl) rfl rfl ⟨d0, d1, d2, d3, d4, d5⟩ (fun hHeld => ?_)
  refine pure_ (i := 0) (N := some 6) (v := ?_) (a' := ?_) #[true, false, false, false, false, false, false, false, false, false, false, false, false, false, false, false, false, false, false, false, false, false, false, false, false, false, false, false, false, false, false, false, false] rfl rfl (by kernel_rfl) (fun _ _ _ h => h) (Or.inl ⟨by rfl, ?_⟩) ?_ ?_
  rotate_left
  · intro w'
    go_simp
    with_reducible rfl
  rotate_left
  · simp only [Act.put, List.setIfInBounds_toArray, List.set_cons_zero, List.set_cons_succ, i64_w, i32_w]
    rfl
  refine pure_ (i := 1) (N := some 7) (v := ?_) (a' := ?_) #[true, true, false, false, false, false, false, false, false, false, false, false, false, false, false, false, false, false, false, false, false, false, false, false, false, false, false, false, false, false, false, false, false] rfl rfl (by kernel_rfl) (fun _ _ _ h => h) (Or.inl ⟨by rfl, ?_⟩) ?_ ?_
  rotate_left
  · intro w'
    go_simp
    with_reducible rfl
  rotate_left
  · simp only [Act.put, List.setIfInBounds_toArray, List.set_cons_zero, List.set_cons_succ, i64_w, i32_w]
    rfl
  refine pure_ (i := 2) (N := some 8) (v := ?_) (a' := ?_) #[true, true, true, false, false, false, false, false, false, false, false, false, false, false, false, false, false, false, false, false, false, false, false, false, false, false, false, false, false, false, false, false, false] rfl rfl (by kernel_rfl) (fun _ _ _ h => h) (Or.inl ⟨by rfl, ?_⟩) ?_ ?_
  rotate_left
  · intro w'
    go_simp
    with_reducible rfl
  rotate_left
  · simp only [Act.put, List.setIfInBounds_toArray, List.set_cons_zero, List.set_cons_succ, i64_w, i32_w]
    rfl
  refine take_ (i := 3) (N := some 9) (v := ?_) (a' := ?_) #[true, true, true, true, false, false, false, false, false, false, false, false, false, false, false, false, false, false, false, false, false, false, false, false, false, false, false, false, false, false, false, false, false] rfl rfl (by kernel_rfl) (fun _ _ _ h => h) (Or.inl ⟨by rfl, ?_⟩) hHeld ?_ ?_
  rotate_left
  · rintro w' ⟨s0, s1, s2, s3, s4, s5⟩
    go_simp
    with_reducible rfl
  rotate_left
  · simp only [Act.put, List.setIfInBounds_toArray, List.set_cons_zero, List.set_cons_succ, i64_w, i32_w]
    rfl
  refine one_ (i := 4) (N := some 10) #[true, true, true, true, true, false, false, false, false, false, false, false, false, false, false, false, false, false, false, false, false, false, false, false, false, false, false, false, false, false, false, false, false] rfl rfl (by kernel_rfl) (by decide) (fun K hK => ?_)
  refine goes_ Tryd.func71 (by kernel_rfl) rfl #[.int .i64 f.ty, .int .i64 0, .int .i64 255] (by rfl) rfl rfl (by simp only [List.map_toArray, List.map_cons, List.map_nil]; rfl) ?_
  with_reducible refine (within_calls f.ty 0 255 true _ HX0.out).mono ?_
  rintro e w3 ⟨rfl, hb⟩
  refine ⟨_, rfl, ?_⟩
  refine hK.out _ _ ⟨(hb.cell (World.block_lt_of_cell? _ _ hHeld.1)).trans hHeld.1, (hb.cell (World.block_lt_of_cell? _ _ hHeld.2.1)).trans hHeld.2.1, (hb.cell (World.block_lt_of_cell? _ _ hHeld.2.2.1)).trans hHeld.2.2.1, At.low hHeld.2.2.2.1 hb, GL.below hHeld.2.2.2.2.1 hb, below_then hHeld.2.2.2.2.2 (hHeld.2.2.2.2.2).size hb⟩ (fun hHeld => ?_)
  clear hK K
  refine norm_ (a' := ?_) ?_ ?_
  rotate_left
  · show Act.put _ (some 10) _ = _
    simp only [Act.put, List.setIfInBounds_toArray, List.set_cons_zero, List.set_cons_succ, i64_w, i32_w]
    rfl
  refine pure_ (i := 5) (N := some 11) (v := ?_) (a' := ?_) #[true, true, true, true, true, true, false, false, false, false, false, false, false, false, false, false, false, false, false, false, false, false, false, false, false, false, false, false, false, false, false, false, false] rfl rfl (by kernel_rfl) (fun _ _ _ h => h) (Or.inl ⟨by rfl, ?_⟩) ?_ ?_
  rotate_left
  · intro w'
    go_simp
    with_reducible rfl
  rotate_left
  · simp only [Act.put, List.setIfInBounds_toArray, List.set_cons_zero, List.set_cons_succ, i64_w, i32_w]
    rfl
  refine pure_ (i := 6) (N := some 12) (v := ?_) (a' := ?_) #[true, true, true, true, true, true, true, false, false, false, false, false, false, false, false, false, false, false, false, false, false, false, false, false, false, false, false, false, false, false, false, false, false] rfl rfl (by kernel_rfl) (fun _ _ _ h => h) (Or.inl ⟨by rfl, ?_⟩) ?_ ?_
  rotate_left
  · intro w'
    go_simp
    with_reducible rfl
  rotate_left
  · simp only [Act.put, List.setIfInBounds_toArray, List.set_cons_zero, List.set_cons_succ, i64_w, i32_w]
    rfl
  refine pure_ (i := 7) (N := some 13) (v := ?_) (a' := ?_) #[true, true, true, true, true, true, true, true, false, false, false, false, false, false, false, false, false, false, false, false, false, false, false, false, false, false, false, false, false, false, false, false, false] rfl rfl (by kernel_rfl) (fun _ _ _ h => h) (Or.inl ⟨by rfl, ?_⟩) ?_ ?_
  rotate_left
  · intro w'
    go_simp
    with_reducible rfl
  rotate_left
  · simp only [Act.put, List.setIfInBounds_toArray, List.set_cons_zero, List.set_cons_succ, i64_w, i32_w]
    rfl
  refine pure_ (i := 8) (N := some 14) (v := ?_) (a' := ?_) #[true, true, true, true, true, true, true, true, true, false, false, false, false, false, false, false, false, false, false, false, false, false, false, false, false, false, false, false, false, false, false, false, false] rfl rfl (by kernel_rfl) (fun _ _ _ h => h) (Or.inl ⟨by rfl, ?_⟩) ?_ ?_
  rotate_left
  · intro w'
    go_simp
    with_reducible rfl
  rotate_left
  · simp only [Act.put, List.setIfInBounds_toArray, List.set_cons_zero, List.set_cons_succ, i64_w, i32_w]
    rfl
  refine pure_ (i := 9) (N := some 15) (v := ?_) (a' := ?_) #[true, true, true, true, true, true, true, true, true, true, false, false, false, false, false, false, false, false, false, false, false, false, false, false, false, false, false, false, false, false, false, false, false] rfl rfl (by kernel_rfl) (fun _ _ _ h => h) (Or.inl ⟨by rfl, ?_⟩) ?_ ?_
  rotate_left
  · intro w'
    go_simp
    with_reducible rfl
  rotate_left
  · simp only [Act.put, List.setIfInBounds_toArray, List.set_cons_zero, List.set_cons_succ, i64_w, i32_w]
    rfl
  refine pure_ (i := 11) (N := some 17) (v := ?_) (a' := ?_) #[true, true, true, true, true, true, true, true, true, true, false, true, false, false, false, false, false, false, false, false, false, false, false, false, false, false, false, false, false, false, false, false, false] rfl rfl (by kernel_rfl) (fun _ _ _ h => h) (Or.inl ⟨by rfl, ?_⟩) ?_ ?_
  rotate_left
  · intro w'
    go_simp
    with_reducible rfl
  rotate_left
  · simp only [Act.put, List.setIfInBounds_toArray, List.set_cons_zero, List.set_cons_succ, i64_w, i32_w]
    rfl
  refine pure_ (i := 12) (N := some 18) (v := ?_) (a' := ?_) #[true, true, true, true, true, true, true, true, true, true, false, true, true, false, false, false, false, false, false, false, false, false, false, false, false, false, false, false, false, false, false, false, false] rfl rfl (by kernel_rfl) (fun _ _ _ h => h) (Or.inl ⟨by rfl, ?_⟩) ?_ ?_
  rotate_left
  · intro w'
    go_simp
    with_reducible rfl
  rotate_left
  · simp only [Act.put, List.setIfInBounds_toArray, List.set_cons_zero, List.set_cons_succ, i64_w, i32_w]
    rfl
  refine pure_ (i := 13) (N := some 19) (v := ?_) (a' := ?_) #[true, true, true, true, true, true, true, true, true, true, false, true, true, true, false, false, false, false, false, false, false, false, false, false, false, false, false, false, false, false, false, false, false] rfl rfl (by kernel_rfl) (fun _ _ _ h => h) (Or.inl ⟨by rfl, ?_⟩) ?_ ?_
  rotate_left
  · intro w'
    go_simp
    with_reducible rfl
  rotate_left
  · simp only [Act.put, List.setIfInBounds_toArray, List.set_cons_zero, List.set_cons_succ, i64_w, i32_w]
    rfl
  refine take_ (i := 10) (N := some 16) (v := ?_) (a' := ?_) #[true, true, true, true, true, true, true, true, true, true, true, true, true, true, false, false, false, false, false, false, false, false, false, false, false, false, false, false, false, false, false, false, false] rfl rfl (by kernel_rfl) (fun _ _ _ h => h) (Or.inl ⟨by rfl, ?_⟩) hHeld ?_ ?_
  rotate_left
  · rintro w' ⟨s0, s1, s2, s3, s4, s5⟩
    go_simp
    with_reducible rfl
  rotate_left
  · simp only [Act.put, List.setIfInBounds_toArray, List.set_cons_zero, List.set_cons_succ, i64_w, i32_w]
    rfl
  refine take_ (i := 14) (N := some 20) (v := ?_) (a' := ?_) #[true, true, true, true, true, true, true, true, true, true, true, true, true, true, true, false, false, false, false, false, false, false, false, false, false, false, false, false, false, false, false, false, false] rfl rfl (by kernel_rfl) (fun _ _ _ h => h) (Or.inl ⟨by rfl, ?_⟩) hHeld ?_ ?_
  rotate_left
  · rintro w' ⟨s0, s1, s2, s3, s4, s5⟩
    go_simp
    with_reducible rfl
  rotate_left
  · simp only [Act.put, List.setIfInBounds_toArray, List.set_cons_zero, List.set_cons_succ, i64_w, i32_w]
    rfl
  refine one_ (i := 15) (N := some 21) #[true, true, true, true, true, true, true, true, true, true, true, true, true, true, true, true, false, false, false, false, false, false, false, false, false, false, false, false, false, false, false, false, false] rfl rfl (by kernel_rfl) (by decide) (fun K hK => ?_)
  refine goes_ Tryd.func58 (by kernel_rfl) rfl #[.int .i64 f.ty] (by rfl) rfl rfl (by simp only [List.map_toArray, List.map_cons, List.map_nil]; rfl) ?_
  with_reducible refine (kindOf_calls f.ty _ _ _ hHeld.2.2.2.2.1 H0.out rfl rfl).mono ?_
  rintro e w3 ⟨rfl, hb⟩
  refine ⟨_, rfl, ?_⟩
  refine hK.out _ _ ⟨(hb.cell (World.block_lt_of_cell? _ _ hHeld.1)).trans hHeld.1, (hb.cell (World.block_lt_of_cell? _ _ hHeld.2.1)).trans hHeld.2.1, (hb.cell (World.block_lt_of_cell? _ _ hHeld.2.2.1)).trans hHeld.2.2.1, At.low hHeld.2.2.2.1 hb, GL.below hHeld.2.2.2.2.1 hb, below_then hHeld.2.2.2.2.2 (hHeld.2.2.2.2.2).size hb⟩ (fun hHeld => ?_)
  clear hK K
  refine norm_ (a' := ?_) ?_ ?_
  rotate_left
  · show Act.put _ (some 21) _ = _
    simp only [Act.put, List.setIfInBounds_toArray, List.set_cons_zero, List.set_cons_succ, i64_w, i32_w]
    rfl
  refine pure_ (i := 16) (N := some 22) (v := ?_) (a' := ?_) #[true, true, true, true, true, true, true, true, true, true, true, true, true, true, true, true, true, false, false, false, false, false, false, false, false, false, false, false, false, false, false, false, false] rfl rfl (by kernel_rfl) (fun _ _ _ h => h) (Or.inl ⟨by rfl, ?_⟩) ?_ ?_
  rotate_left
  · intro w'
    go_simp
    with_reducible rfl
  rotate_left
  · simp only [Act.put, List.setIfInBounds_toArray, List.set_cons_zero, List.set_cons_succ, i64_w, i32_w]
    rfl
  refine pure_ (i := 17) (N := some 23) (v := ?_) (a' := ?_) #[true, true, true, true, true, true, true, true, true, true, true, true, true, true, true, true, true, true, false, false, false, false, false, false, false, false, false, false, false, false, false, false, false] rfl rfl (by kernel_rfl) (fun _ _ _ h => h) (Or.inl ⟨by rfl, ?_⟩) ?_ ?_
  rotate_left
  · intro w'
    go_simp
    with_reducible rfl
  rotate_left
  · simp only [Act.put, List.setIfInBounds_toArray, List.set_cons_zero, List.set_cons_succ, i64_w, i32_w]
    rfl
  refine pure_ (i := 18) (N := some 24) (v := ?_) (a' := ?_) #[true, true, true, true, true, true, true, true, true, true, true, true, true, true, true, true, true, true, true, false, false, false, false, false, false, false, false, false, false, false, false, false, false] rfl rfl (by kernel_rfl) (fun _ _ _ h => h) (Or.inl ⟨by rfl, ?_⟩) ?_ ?_
  rotate_left
  · intro w'
    go_simp
    with_reducible rfl
  rotate_left
  · simp only [Act.put, List.setIfInBounds_toArray, List.set_cons_zero, List.set_cons_succ, i64_w, i32_w]
    rfl
  refine pure_ (i := 19) (N := some 25) (v := ?_) (a' := ?_) #[true, true, true, true, true, true, true, true, true, true, true, true, true, true, true, true, true, true, true, true, false, false, false, false, false, false, false, false, false, false, false, false, false] rfl rfl (by kernel_rfl) (fun _ _ _ h => h) (Or.inl ⟨by rfl, ?_⟩) ?_ ?_
  rotate_left
  · intro w'
    go_simp
    with_reducible rfl
  rotate_left
  · simp only [Act.put, List.setIfInBounds_toArray, List.set_cons_zero, List.set_cons_succ, i64_w, i32_w]
    rfl
  refine pure_ (i := 20) (N := some 26) (v := ?_) (a' := ?_) #[true, true, true, true, true, true, true, true, true, true, true, true, true, true, true, true, true, true, true, true, true, false, false, false, false, false, false, false, false, false, false, false, false] rfl rfl (by kernel_rfl) (fun _ _ _ h => h) (Or.inl ⟨by rfl, ?_⟩) ?_ ?_
  rotate_left
  · intro w'
    go_simp
    with_reducible rfl
  rotate_left
  · simp only [Act.put, List.setIfInBounds_toArray, List.set_cons_zero, List.set_cons_succ, i64_w, i32_w]
    rfl
  refine pure_ (i := 21) (N := some 27) (v := undef) (a' := ?_) #[true, true, true, true, true, true, true, true, true, true, true, true, true, true, true, true, true, true, true, true, true, true, false, false, false, false, false, false, false, false, false, false, false] rfl rfl (by kernel_rfl) (fun _ _ _ h => h) (Or.inr ⟨by rfl, rfl⟩) ?_ ?_
  rotate_left
  · simp only [Act.put, List.setIfInBounds_toArray, List.set_cons_zero, List.set_cons_succ, i64_w, i32_w]
    rfl
  refine pure_ (i := 22) (N := some 28) (v := undef) (a' := ?_) #[true, true, true, true, true, true, true, true, true, true, true, true, true, true, true, true, true, true, true, true, true, true, true, false, false, false, false, false, false, false, false, false, false] rfl rfl (by kernel_rfl) (fun _ _ _ h => h) (Or.inr ⟨by rfl, rfl⟩) ?_ ?_
  rotate_left
  · simp only [Act.put, List.setIfInBounds_toArray, List.set_cons_zero, List.set_cons_succ, i64_w, i32_w]
    rfl
  refine pure_ (i := 23) (N := some 29) (v := undef) (a' := ?_) #[true, true, true, true, true, true, true, true, true, true, true, true, true, true, true, true, true, true, true, true, true, true, true, true, false, false, false, false, false, false, false, false, false] rfl rfl (by kernel_rfl) (fun _ _ _ h => h) (Or.inr ⟨by rfl, rfl⟩) ?_ ?_
  rotate_left
  · simp only [Act.put, List.setIfInBounds_toArray, List.set_cons_zero, List.set_cons_succ, i64_w, i32_w]
    rfl
  refine pure_ (i := 24) (N := some 30) (v := undef) (a' := ?_) #[true, true, true, true, true, true, true, true, true, true, true, true, true, true, true, true, true, true, true, true, true, true, true, true, true, false, false, false, false, false, false, false, false] rfl rfl (by kernel_rfl) (fun _ _ _ h => h) (Or.inr ⟨by rfl, rfl⟩) ?_ ?_
  rotate_left
  · simp only [Act.put, List.setIfInBounds_toArray, List.set_cons_zero, List.set_cons_succ, i64_w, i32_w]
    rfl
  refine pure_ (i := 25) (N := some 31) (v := undef) (a' := ?_) #[true, true, true, true, true, true, true, true, true, true, true, true, true, true, true, true, true, true, true, true, true, true, true, true, true, true, false, false, false, false, false, false, false] rfl rfl (by kernel_rfl) (fun _ _ _ h => h) (Or.inr ⟨by rfl, rfl⟩) ?_ ?_
  rotate_left
  · simp only [Act.put, List.setIfInBounds_toArray, List.set_cons_zero, List.set_cons_succ, i64_w, i32_w]
    rfl
  refine pure_ (i := 26) (N := some 32) (v := undef) (a' := ?_) #[true, true, true, true, true, true, true, true, true, true, true, true, true, true, true, true, true, true, true, true, true, true, true, true, true, true, true, false, false, false, false, false, false] rfl rfl (by kernel_rfl) (fun _ _ _ h => h) (Or.inr ⟨by rfl, rfl⟩) ?_ ?_
  rotate_left
  · simp only [Act.put, List.setIfInBounds_toArray, List.set_cons_zero, List.set_cons_succ, i64_w, i32_w]
    rfl
  refine pure_ (i := 27) (N := some 33) (v := ?_) (a' := ?_) #[true, true, true, true, true, true, true, true, true, true, true, true, true, true, true, true, true, true, true, true, true, true, true, true, true, true, true, true, false, false, false, false, false] rfl rfl (by kernel_rfl) (fun _ _ _ h => h) (Or.inl ⟨by rfl, ?_⟩) ?_ ?_
  rotate_left
  · intro w'
    go_simp
    with_reducible rfl
  rotate_left
  · simp only [Act.put, List.setIfInBounds_toArray, List.set_cons_zero, List.set_cons_succ, i64_w, i32_w]
    rfl
  refine pure_ (i := 28) (N := some 34) (v := ?_) (a' := ?_) #[true, true, true, true, true, true, true, true, true, true, true, true, true, true, true, true, true, true, true, true, true, true, true, true, true, true, true, true, true, false, false, false, false] rfl rfl (by kernel_rfl) (fun _ _ _ h => h) (Or.inl ⟨by rfl, ?_⟩) ?_ ?_
  rotate_left
  · intro w'
    go_simp
    with_reducible rfl
  rotate_left
  · simp only [Act.put, List.setIfInBounds_toArray, List.set_cons_zero, List.set_cons_succ, i64_w, i32_w]
    rfl
  refine pure_ (i := 29) (N := some 35) (v := undef) (a' := ?_) #[true, true, true, true, true, true, true, true, true, true, true, true, true, true, true, true, true, true, true, true, true, true, true, true, true, true, true, true, true, true, false, false, false] rfl rfl (by kernel_rfl) (fun _ _ _ h => h) (Or.inr ⟨by rfl, rfl⟩) ?_ ?_
  rotate_left
  · simp only [Act.put, List.setIfInBounds_toArray, List.set_cons_zero, List.set_cons_succ, i64_w, i32_w]
    rfl
  refine pure_ (i := 30) (N := some 36) (v := undef) (a' := ?_) #[true, true, true, true, true, true, true, true, true, true, true, true, true, true, true, true, true, true, true, true, true, true, true, true, true, true, true, true, true, true, true, false, false] rfl rfl (by kernel_rfl) (fun _ _ _ h => h) (Or.inr ⟨by rfl, rfl⟩) ?_ ?_
  rotate_left
  · simp only [Act.put, List.setIfInBounds_toArray, List.set_cons_zero, List.set_cons_succ, i64_w, i32_w]
    rfl
  refine pure_ (i := 31) (N := some 37) (v := undef) (a' := ?_) #[true, true, true, true, true, true, true, true, true, true, true, true, true, true, true, true, true, true, true, true, true, true, true, true, true, true, true, true, true, true, true, true, false] rfl rfl (by kernel_rfl) (fun _ _ _ h => h) (Or.inr ⟨by rfl, rfl⟩) ?_ ?_
  rotate_left
  · simp only [Act.put, List.setIfInBounds_toArray, List.set_cons_zero, List.set_cons_succ, i64_w, i32_w]
    rfl
  refine pure_ (i := 32) (N := some 38) (v := ?_) (a' := ?_) #[true, true, true, true, true, true, true, true, true, true, true, true, true, true, true, true, true, true, true, true, true, true, true, true, true, true, true, true, true, true, true, true, true] rfl rfl (by kernel_rfl) (fun _ _ _ h => h) (Or.inl ⟨by rfl, ?_⟩) ?_ ?_
  rotate_left
  · intro w'
    go_simp
    with_reducible rfl
  rotate_left
  · simp only [Act.put, List.setIfInBounds_toArray, List.set_cons_zero, List.set_cons_succ, i64_w, i32_w]
    rfl
  refine done_ (by kernel_rfl) ?_
  go_wp2_with fail
  go_ret
  exact ⟨rfl, hHeld.2.2.2.2.2⟩
theorem right_no2 (g : Nat) (f : Fr) (A : Option Addr) (c : Nat) (w : World) (hf : At w g f A c) (hG : GL w) (h0 : inR f.ty 0 255 = true) (h1 : (Go.bits .andNot .i64 f.fl (kFl f.ty) != 0) = false) (h2 : inR f.st 0 2147483647 = false) :
    Calls Tryd.prog 45 #[.pointer (some ⟨g, 0, none⟩)] w fun e w' => e = .returned (.bool false) ∧ Below w.heap.size w w' := by
  have d0 : w.drew.cell? ⟨g, 0, none⟩ = some (.int .i64 f.ty) := hf.c0
  have d1 : w.drew.cell? ⟨g, 1, none⟩ = some (.int .i64 f.fl) := hf.c1
  have d2 : w.drew.cell? ⟨g, 2, none⟩ = some (.int .i64 f.st) := hf.c2
  have d3 : At w.drew g f A c := hf
  have d4 : GL w.drew := hG
  have d5 : Below w.heap.size w w.drew := below_drew (Below.refl _ _)
  have HX0 := Aside0.mk h0
  have H0 : Aside0 (0 ≤ f.ty) := ⟨by have h := h0; unfold inR at h; simp only [Bool.and_eq_true, decide_eq_true_eq] at h; exact h.1⟩
  clear h0
  have HX2 := Aside0.mk h2
  clear h2
  have hfl := fld0
  clear hf hG
  go_enter Tryd.func45, Tryd.ntmps45
  go_upto_region 1 with fail
  refine start_ (n := 33) (S := fun w' => w'.cell? ⟨g, 0, none⟩ = some (.int .i64 f.ty) ∧ w'.cell? ⟨g, 1, none⟩ = some (.int .i64 f.fl) ∧ w'.cell? ⟨g, 2, none⟩ = some (.int .i64 f.st) ∧ At w' g f A c ∧ GL w' ∧ Below w.heap.size w w') (ds := []) #[false, false, false, false, false, false, false, false, false, false, false, false, false, false, false, false, false, false, false, false, false, false, false, false, false, false, false, false, false, false, false, false, false] (by kernel_rfl) rfl rfl ⟨d0, d1, d2, d3, d4, d5⟩ (fun hHeld => ?_)
  refine pure_ (i := 0) (N := some 6) (v := ?_) (a' := ?_) #[true, false, false, false, false, false, false, false, false, false, false, false, false, false, false, false, false, false, false, false, false, false, false, false, false, false, false, false, false, false, false, false, false] rfl rfl (by kernel_rfl) (fun _ _ _ h => h) (Or.inl ⟨by rfl, ?_⟩) ?_ ?_
  rotate_left
  · intro w'
    go_simp
    with_reducible rfl
  rotate_left
  · simp only [Act.put, List.setIfInBounds_toArray, List.set_cons_zero, List.set_cons_succ, i64_w, i32_w]
    rfl
  refine pure_ (i := 1) (N := some 7) (v := ?_) (a' := ?_) #[true, true, false, false, false, false, false, false, false, false, false, false, false, false, false, false, false, false, false, false, false, false, false, false, false, false, false, false, false, false, false, false, false] rfl rfl (by kernel_rfl) (fun _ _ _ h => h) (Or.inl ⟨by rfl, ?_⟩) ?_ ?_
  rotate_left
  · intro w'
    go_simp
    with_reducible rfl
  rotate_left
  · simp only [Act.put, List.setIfInBounds_toArray, List.set_cons_zero, List.set_cons_succ, i64_w, i32_w]
    rfl
  refine pure_ (i := 2) (N := some 8) (v := ?_) (a' := ?_) #[true, true, true, false, false, false, false, false, false, false, false, false, false, false, false, false, false, false, false, false, false, false, false, false, false, false, false, false, false, false, false, false, false] rfl rfl (by kernel_rfl) (fun _ _ _ h => h) (Or.inl ⟨by rfl, ?_⟩) ?_ ?_
  rotate_left
  · intro w'
    go_simp
    with_reducible rfl
  rotate_left
  · simp only [Act.put, List.setIfInBounds_toArray, List.set_cons_zero, List.set_cons_succ, i64_w, i32_w]
    rfl
  refine take_ (i := 3) (N := some 9) (v := ?_) (a' := ?_) #[true, true, true, true, false, false, false, false, false, false, false, false, false, false, false, false, false, false, false, false, false, false, false, false, false, false, false, false, false, false, false, false, false] rfl rfl (by kernel_rfl) (fun _ _ _ h => h) (Or.inl ⟨by rfl, ?_⟩) hHeld ?_ ?_
  rotate_left
  · rintro w' ⟨s0, s1, s2, s3, s4, s5⟩
    go_simp
    with_reducible rfl
  rotate_left
  · simp only [Act.put, List.setIfInBounds_toArray, List.set_cons_zero, List.set_cons_succ, i64_w, i32_w]
    rfl
  refine one_ (i := 4) (N := some 10) #[true, true, true, true, true, false, false, false, false, false, false, false, false, false, false, false, false, false, false, false, false, false, false, false, false, false, false, false, false, false, false, false, false] rfl rfl (by kernel_rfl) (by decide) (fun K hK => ?_)
  refine goes_ Tryd.func71 (by kernel_rfl) rfl #[.int .i64 f.ty, .int .i64 0, .int .i64 255] (by rfl) rfl rfl (by simp only [List.map_toArray, List.map_cons, List.map_nil]; rfl) ?_
  with_reducible refine (within_calls f.ty 0 255 true _ HX0.out).mono ?_
  rintro e w3 ⟨rfl, hb⟩
  refine ⟨_, rfl, ?_⟩
  refine hK.out _ _ ⟨(hb.cell (World.block_lt_of_cell? _ _ hHeld.1)).trans hHeld.1, (hb.cell (World.block_lt_of_cell? _ _ hHeld.2.1)).trans hHeld.2.1, (hb.cell (World.block_lt_of_cell? _ _ hHeld.2.2.1)).trans hHeld.2.2.1, At.low hHeld.2.2.2.1 hb, GL.below hHeld.2.2.2.2.1 hb, below_then hHeld.2.2.2.2.2 (hHeld.2.2.2.2.2).size hb⟩ (fun hHeld => ?_)
  clear hK K
  refine norm_ (a' := ?_) ?_ ?_
  rotate_left
  · show Act.put _ (some 10) _ = _
    simp only [Act.put, List.setIfInBounds_toArray, List.set_cons_zero, List.set_cons_succ, i64_w, i32_w]
    rfl
  refine pure_ (i := 5) (N := some 11) (v := ?_) (a' := ?_) #[true, true, true, true, true, true, false, false, false, false, false, false, false, false, false, false, false, false, false, false, false, false, false, false, false, false, false, false, false, false, false, false, false] rfl rfl (by kernel_rfl) (fun _ _ _ h => h) (Or.inl ⟨by rfl, ?_⟩) ?_ ?_
  rotate_left
  · intro w'
    go_simp
    with_reducible rfl
  rotate_left
  · simp only [Act.put, List.setIfInBounds_toArray, List.set_cons_zero, List.set_cons_succ, i64_w, i32_w]
    rfl
  refine pure_ (i := 6) (N := some 12) (v := ?_) (a' := ?_) #[true, true, true, true, true, true, true, false, false, false, false, false, false, false, false, false, false, false, false, false, false, false, false, false, false, false, false, false, false, false, false, false, false] rfl rfl (by kernel_rfl) (fun _ _ _ h => h) (Or.inl ⟨by rfl, ?_⟩) ?_ ?_
  rotate_left
  · intro w'
    go_simp
    with_reducible rfl
  rotate_left
  · simp only [Act.put, List.setIfInBounds_toArray, List.set_cons_zero, List.set_cons_succ, i64_w, i32_w]
    rfl
  refine pure_ (i := 7) (N := some 13) (v := ?_) (a' := ?_) #[true, true, true, true, true, true, true, true, false, false, false, false, false, false, false, false, false, false, false, false, false, false, false, false, false, false, false, false, false, false, false, false, false] rfl rfl (by kernel_rfl) (fun _ _ _ h => h) (Or.inl ⟨by rfl, ?_⟩) ?_ ?_
  rotate_left
  · intro w'
    go_simp
    with_reducible rfl
  rotate_left
  · simp only [Act.put, List.setIfInBounds_toArray, List.set_cons_zero, List.set_cons_succ, i64_w, i32_w]
    rfl
  refine pure_ (i := 8) (N := some 14) (v := ?_) (a' := ?_) #[true, true, true, true, true, true, true, true, true, false, false, false, false, false, false, false, false, false, false, false, false, false, false, false, false, false, false, false, false, false, false, false, false] rfl rfl (by kernel_rfl) (fun _ _ _ h => h) (Or.inl ⟨by rfl, ?_⟩) ?_ ?_
  rotate_left
  · intro w'
    go_simp
    with_reducible rfl
  rotate_left
  · simp only [Act.put, List.setIfInBounds_toArray, List.set_cons_zero, List.set_cons_succ, i64_w, i32_w]
    rfl
  refine pure_ (i := 9) (N := some 15) (v := ?_) (a' := ?_) #[true, true, true, true, true, true, true, true, true, true, false, false, false, false, false, false, false, false, false, false, false, false, false, false, false, false, false, false, false, false, false, false, false] rfl rfl (by kernel_rfl) (fun _ _ _ h => h) (Or.inl ⟨by rfl, ?_⟩) ?_ ?_
  rotate_left
  · intro w'
    go_simp
    with_reducible rfl
  rotate_left
  · simp only [Act.put, List.setIfInBounds_toArray, List.set_cons_zero, List.set_cons_succ, i64_w, i32_w]
    rfl
  refine pure_ (i := 11) (N := some 17) (v := ?_) (a' := ?_) #[true, true, true, true, true, true, true, true, true, true, false, true, false, false, false, false, false, false, false, false, false, false, false, false, false, false, false, false, false, false, false, false, false] rfl rfl (by kernel_rfl) (fun _ _ _ h => h) (Or.inl ⟨by rfl, ?_⟩) ?_ ?_
  rotate_left
  · intro w'
    go_simp
    with_reducible rfl
  rotate_left
  · simp only [Act.put, List.setIfInBounds_toArray, List.set_cons_zero, List.set_cons_succ, i64_w, i32_w]
    rfl
  refine pure_ (i := 12) (N := some 18) (v := ?_) (a' := ?_) #[true, true, true, true, true, true, true, true, true, true, false, true, true, false, false, false, false, false, false, false, false, false, false, false, false, false, false, false, false, false, false, false, false] rfl rfl (by kernel_rfl) (fun _ _ _ h => h) (Or.inl ⟨by rfl, ?_⟩) ?_ ?_
  rotate_left
  · intro w'
    go_simp
    with_reducible rfl
  rotate_left
  · simp only [Act.put, List.setIfInBounds_toArray, List.set_cons_zero, List.set_cons_succ, i64_w, i32_w]
    rfl
  refine pure_ (i := 13) (N := some 19) (v := ?_) (a' := ?_) #[true, true, true, true, true, true, true, true, true, true, false, true, true, true, false, false, false, false, false, false, false, false, false, false, false, false, false, false, false, false, false, false, false] rfl rfl (by kernel_rfl) (fun _ _ _ h => h) (Or.inl ⟨by rfl, ?_⟩) ?_ ?_
  rotate_left
  · intro w'
    go_simp
    with_reducible rfl
  rotate_left
  · simp only [Act.put, List.setIfInBounds_toArray, List.set_cons_zero, List.set_cons_succ, i64_w, i32_w]
    rfl
  refine take_ (i := 10) (N := some 16) (v := ?_) (a' := ?_) #[true, true, true, true, true, true, true, true, true, true, true, true, true, true, false, false, false, false, false, false, false, false, false, false, false, false, false, false, false, false, false, false, false] rfl rfl (by kernel_rfl) (fun _ _ _ h => h) (Or.inl ⟨by rfl, ?_⟩) hHeld ?_ ?_
  rotate_left
  · rintro w' ⟨s0, s1, s2, s3, s4, s5⟩
    go_simp
    with_reducible rfl
  rotate_left
  · simp only [Act.put, List.setIfInBounds_toArray, List.set_cons_zero, List.set_cons_succ, i64_w, i32_w]
    rfl
  refine take_ (i := 14) (N := some 20) (v := ?_) (a' := ?_) #[true, true, true, true, true, true, true, true, true, true, true, true, true, true, true, false, false, false, false, false, false, false, false, false, false, false, false, false, false, false, false, false, false] rfl rfl (by kernel_rfl) (fun _ _ _ h => h) (Or.inl ⟨by rfl, ?_⟩) hHeld ?_ ?_
  rotate_left
  · rintro w' ⟨s0, s1, s2, s3, s4, s5⟩
    go_simp
    with_reducible rfl
  rotate_left
  · simp only [Act.put, List.setIfInBounds_toArray, List.set_cons_zero, List.set_cons_succ, i64_w, i32_w]
    rfl
  refine one_ (i := 15) (N := some 21) #[true, true, true, true, true, true, true, true, true, true, true, true, true, true, true, true, false, false, false, false, false, false, false, false, false, false, false, false, false, false, false, false, false] rfl rfl (by kernel_rfl) (by decide) (fun K hK => ?_)
  refine goes_ Tryd.func58 (by kernel_rfl) rfl #[.int .i64 f.ty] (by rfl) rfl rfl (by simp only [List.map_toArray, List.map_cons, List.map_nil]; rfl) ?_
  with_reducible refine (kindOf_calls f.ty _ _ _ hHeld.2.2.2.2.1 H0.out rfl rfl).mono ?_
  rintro e w3 ⟨rfl, hb⟩
  refine ⟨_, rfl, ?_⟩
  refine hK.out _ _ ⟨(hb.cell (World.block_lt_of_cell? _ _ hHeld.1)).trans hHeld.1, (hb.cell (World.block_lt_of_cell? _ _ hHeld.2.1)).trans hHeld.2.1, (hb.cell (World.block_lt_of_cell? _ _ hHeld.2.2.1)).trans hHeld.2.2.1, At.low hHeld.2.2.2.1 hb, GL.below hHeld.2.2.2.2.1 hb, below_then hHeld.2.2.2.2.2 (hHeld.2.2.2.2.2).size hb⟩ (fun hHeld => ?_)
  clear hK K
  refine norm_ (a' := ?_) ?_ ?_
  rotate_left
  · show Act.put _ (some 21) _ = _
    simp only [Act.put, List.setIfInBounds_toArray, List.set_cons_zero, List.set_cons_succ, i64_w, i32_w]
    rfl
  refine pure_ (i := 16) (N := some 22) (v := ?_) (a' := ?_) #[true, true, true, true, true, true, true, true, true, true, true, true, true, true, true, true, true, false, false, false, false, false, false, false, false, false, false, false, false, false, false, false, false] rfl rfl (by kernel_rfl) (fun _ _ _ h => h) (Or.inl ⟨by rfl, ?_⟩) ?_ ?_
  rotate_left
  · intro w'
    go_simp
    with_reducible rfl
  rotate_left
  · simp only [Act.put, List.setIfInBounds_toArray, List.set_cons_zero, List.set_cons_succ, i64_w, i32_w]
    rfl
  refine pure_ (i := 17) (N := some 23) (v := ?_) (a' := ?_) #[true, true, true, true, true, true, true, true, true, true, true, true, true, true, true, true, true, true, false, false, false, false, false, false, false, false, false, false, false, false, false, false, false] rfl rfl (by kernel_rfl) (fun _ _ _ h => h) (Or.inl ⟨by rfl, ?_⟩) ?_ ?_
  rotate_left
  · intro w'
    go_simp
    with_reducible rfl
  rotate_left
  · simp only [Act.put, List.setIfInBounds_toArray, List.set_cons_zero, List.set_cons_succ, i64_w, i32_w]
    rfl
  refine pure_ (i := 18) (N := some 24) (v := ?_) (a' := ?_) #[true, true, true, true, true, true, true, true, true, true, true, true, true, true, true, true, true, true, true, false, false, false, false, false, false, false, false, false, false, false, false, false, false] rfl rfl (by kernel_rfl) (fun _ _ _ h => h) (Or.inl ⟨by rfl, ?_⟩) ?_ ?_
  rotate_left
  · intro w'
    go_simp
    with_reducible rfl
  rotate_left
  · simp only [Act.put, List.setIfInBounds_toArray, List.set_cons_zero, List.set_cons_succ, i64_w, i32_w]
    rfl
  refine pure_ (i := 19) (N := some 25) (v := ?_) (a' := ?_) #[true, true, true, true, true, true, true, true, true, true, true, true, true, true, true, true, true, true, true, true, false, false, false, false, false, false, false, false, false, false, false, false, false] rfl rfl (by kernel_rfl) (fun _ _ _ h => h) (Or.inl ⟨by rfl, ?_⟩) ?_ ?_
  rotate_left
  · intro w'
    go_simp
    with_reducible rfl
  rotate_left
  · simp only [Act.put, List.setIfInBounds_toArray, List.set_cons_zero, List.set_cons_succ, i64_w, i32_w]
    rfl
  refine pure_ (i := 20) (N := some 26) (v := ?_) (a' := ?_) #[true, true, true, true, true, true, true, true, true, true, true, true, true, true, true, true, true, true, true, true, true, false, false, false, false, false, false, false, false, false, false, false, false] rfl rfl (by kernel_rfl) (fun _ _ _ h => h) (Or.inl ⟨by rfl, ?_⟩) ?_ ?_
  rotate_left
  · intro w'
    go_simp
    with_reducible rfl
  rotate_left
  · simp only [Act.put, List.setIfInBounds_toArray, List.set_cons_zero, List.set_cons_succ, i64_w, i32_w]
    rfl
  refine pure_ (i := 21) (N := some 27) (v := ?_) (a' := ?_) #[true, true, true, true, true, true, true, true, true, true, true, true, true, true, true, true, true, true, true, true, true, true, false, false, false, false, false, false, false, false, false, false, false] rfl rfl (by kernel_rfl) (fun _ _ _ h => h) (Or.inl ⟨by rfl, ?_⟩) ?_ ?_
  rotate_left
  · intro w'
    go_simp
    with_reducible rfl
  rotate_left
  · simp only [Act.put, List.setIfInBounds_toArray, List.set_cons_zero, List.set_cons_succ, i64_w, i32_w]
    rfl
  refine pure_ (i := 22) (N := some 28) (v := ?_) (a' := ?_) #[true, true, true, true, true, true, true, true, true, true, true, true, true, true, true, true, true, true, true, true, true, true, true, false, false, false, false, false, false, false, false, false, false] rfl rfl (by kernel_rfl) (fun _ _ _ h => h) (Or.inl ⟨by rfl, ?_⟩) ?_ ?_
  rotate_left
  · intro w'
    go_simp
    with_reducible rfl
  rotate_left
  · simp only [Act.put, List.setIfInBounds_toArray, List.set_cons_zero, List.set_cons_succ, i64_w, i32_w]
    rfl
  refine pure_ (i := 23) (N := some 29) (v := ?_) (a' := ?_) #[true, true, true, true, true, true, true, true, true, true, true, true, true, true, true, true, true, true, true, true, true, true, true, true, false, false, false, false, false, false, false, false, false] rfl rfl (by kernel_rfl) (fun _ _ _ h => h) (Or.inl ⟨by rfl, ?_⟩) ?_ ?_
  rotate_left
  · intro w'
    go_simp
    with_reducible rfl
  rotate_left
  · simp only [Act.put, List.setIfInBounds_toArray, List.set_cons_zero, List.set_cons_succ, i64_w, i32_w]
    rfl
  refine take_ (i := 24) (N := some 30) (v := ?_) (a' := ?_) #[true, true, true, true, true, true, true, true, true, true, true, true, true, true, true, true, true, true, true, true, true, true, true, true, true, false, false, false, false, false, false, false, false] rfl rfl (by kernel_rfl) (fun _ _ _ h => h) (Or.inl ⟨by rfl, ?_⟩) hHeld ?_ ?_
  rotate_left
  · rintro w' ⟨s0, s1, s2, s3, s4, s5⟩
    go_simp
    with_reducible rfl
  rotate_left
  · simp only [Act.put, List.setIfInBounds_toArray, List.set_cons_zero, List.set_cons_succ, i64_w, i32_w]
    rfl
  refine one_ (i := 25) (N := some 31) #[true, true, true, true, true, true, true, true, true, true, true, true, true, true, true, true, true, true, true, true, true, true, true, true, true, true, false, false, false, false, false, false, false] rfl rfl (by kernel_rfl) (by decide) (fun K hK => ?_)
  refine goes_ Tryd.func71 (by kernel_rfl) rfl #[.int .i64 f.st, .int .i64 0, .int .i64 2147483647] (by rfl) rfl rfl (by simp only [List.map_toArray, List.map_cons, List.map_nil]; rfl) ?_
  with_reducible refine (within_calls f.st 0 2147483647 false _ HX2.out).mono ?_
  rintro e w3 ⟨rfl, hb⟩
  refine ⟨_, rfl, ?_⟩
  refine hK.out _ _ ⟨(hb.cell (World.block_lt_of_cell? _ _ hHeld.1)).trans hHeld.1, (hb.cell (World.block_lt_of_cell? _ _ hHeld.2.1)).trans hHeld.2.1, (hb.cell (World.block_lt_of_cell? _ _ hHeld.2.2.1)).trans hHeld.2.2.1, At.low hHeld.2.2.2.1 hb, GL.below hHeld.2.2.2.2.1 hb, below_then hHeld.2.2.2.2.2 (hHeld.2.2.2.2.2).size hb⟩ (fun hHeld => ?_)
  clear hK K
  refine norm_ (a' := ?_) ?_ ?_
  rotate_left
  · show Act.put _ (some 31) _ = _
    simp only [Act.put, List.setIfInBounds_toArray, List.set_cons_zero, List.set_cons_succ, i64_w, i32_w]
    rfl
  refine pure_ (i := 26) (N := some 32) (v := ?_) (a' := ?_) #[true, true, true, true, true, true, true, true, true, true, true, true, true, true, true, true, true, true, true, true, true, true, true, true, true, true, true, false, false, false, false, false, false] rfl rfl (by kernel_rfl) (fun _ _ _ h => h) (Or.inl ⟨by rfl, ?_⟩) ?_ ?_
  rotate_left
  · intro w'
    go_simp
    with_reducible rfl
  rotate_left
  · simp only [Act.put, List.setIfInBounds_toArray, List.set_cons_zero, List.set_cons_succ, i64_w, i32_w]
    rfl
  refine pure_ (i := 27) (N := some 33) (v := ?_) (a' := ?_) #[true, true, true, true, true, true, true, true, true, true, true, true, true, true, true, true, true, true, true, true, true, true, true, true, true, true, true, true, false, false, false, false, false] rfl rfl (by kernel_rfl) (fun _ _ _ h => h) (Or.inl ⟨by rfl, ?_⟩) ?_ ?_
  rotate_left
  · intro w'
    go_simp
    with_reducible rfl
  rotate_left
  · simp only [Act.put, List.setIfInBounds_toArray, List.set_cons_zero, List.set_cons_succ, i64_w, i32_w]
    rfl
  refine pure_ (i := 28) (N := some 34) (v := ?_) (a' := ?_) #[true, true, true, true, true, true, true, true, true, true, true, true, true, true, true, true, true, true, true, true, true, true, true, true, true, true, true, true, true, false, false, false, false] rfl rfl (by kernel_rfl) (fun _ _ _ h => h) (Or.inl ⟨by rfl, ?_⟩) ?_ ?_
  rotate_left
  · intro w'
    go_simp
    with_reducible rfl
  rotate_left
  · simp only [Act.put, List.setIfInBounds_toArray, List.set_cons_zero, List.set_cons_succ, i64_w, i32_w]
    rfl
  refine pure_ (i := 29) (N := some 35) (v := undef) (a' := ?_) #[true, true, true, true, true, true, true, true, true, true, true, true, true, true, true, true, true, true, true, true, true, true, true, true, true, true, true, true, true, true, false, false, false] rfl rfl (by kernel_rfl) (fun _ _ _ h => h) (Or.inr ⟨by rfl, rfl⟩) ?_ ?_
  rotate_left
  · simp only [Act.put, List.setIfInBounds_toArray, List.set_cons_zero, List.set_cons_succ, i64_w, i32_w]
    rfl
  refine pure_ (i := 30) (N := some 36) (v := undef) (a' := ?_) #[true, true, true, true, true, true, true, true, true, true, true, true, true, true, true, true, true, true, true, true, true, true, true, true, true, true, true, true, true, true, true, false, false] rfl rfl (by kernel_rfl) (fun _ _ _ h => h) (Or.inr ⟨by rfl, rfl⟩) ?_ ?_
  rotate_left
  · simp only [Act.put, List.setIfInBounds_toArray, List.set_cons_zero, List.set_cons_succ, i64_w, i32_w]
    rfl
  refine pure_ (i := 31) (N := some 37) (v := undef) (a' := ?_) #[true, true, true, true, true, true, true, true, true, true, true, true, true, true, true, true, true, true, true, true, true, true, true, true, true, true, true, true, true, true, true, true, false] rfl rfl (by kernel_rfl) (fun _ _ _ h => h) (Or.inr ⟨by rfl, rfl⟩) ?_ ?_
  rotate_left
  · simp only [Act.put, List.setIfInBounds_toArray, List.set_cons_zero, List.set_cons_succ, i64_w, i32_w]
    rfl
  refine pure_ (i := 32) (N := some 38) (v := ?_) (a' := ?_) #[true, true, true, true, true, true, true, true, true, true, true, true, true, true, true, true, true, true, true, true, true, true, true, true, true, true, true, true, true, true, true, true, true] rfl rfl (by kernel_rfl) (fun _ _ _ h => h) (Or.inl ⟨by rfl, ?_⟩) ?_ ?_
  rotate_left
  · intro w'
    go_simp
    with_reducible rfl
  rotate_left
  · simp only [Act.put, List.setIfInBounds_toArray, List.set_cons_zero, List.set_cons_succ, i64_w, i32_w]
    rfl
  refine done_ (by kernel_rfl) ?_
  go_wp2_with fail
  go_ret
  exact ⟨rfl, hHeld.2.2.2.2.2⟩
theorem right_no3 (g : Nat) (f : Fr) (A : Option Addr) (c : Nat) (w : World) (hf : At w g f A c) (hG : GL w) (h0 : inR f.ty 0 255 = true) (h1 : (Go.bits .andNot .i64 f.fl (kFl f.ty) != 0) = false) (h2 : inR f.st 0 2147483647 = true) (h3 : stB f.ty f.st = false) :
    Calls Tryd.prog 45 #[.pointer (some ⟨g, 0, none⟩)] w fun e w' => e = .returned (.bool false) ∧ Below w.heap.size w w' := by
  have d0 : w.drew.cell? ⟨g, 0, none⟩ = some (.int .i64 f.ty) := hf.c0
  have d1 : w.drew.cell? ⟨g, 1, none⟩ = some (.int .i64 f.fl) := hf.c1
  have d2 : w.drew.cell? ⟨g, 2, none⟩ = some (.int .i64 f.st) := hf.c2
  have d3 : At w.drew g f A c := hf
  have d4 : GL w.drew := hG
  have d5 : Below w.heap.size w w.drew := below_drew (Below.refl _ _)
  have HX0 := Aside0.mk h0
  have H0 : Aside0 (0 ≤ f.ty) := ⟨by have h := h0; unfold inR at h; simp only [Bool.and_eq_true, decide_eq_true_eq] at h; exact h.1⟩
  clear h0
  have HX2 := Aside0.mk h2
  have HX3 := Aside0.mk h3
  clear h2 h3
  have hfl := fld0
  clear hf hG
  go_enter Tryd.func45, Tryd.ntmps45
  go_upto_region 1 with fail
  refine start_ (n := 33) (S := fun w' => w'.cell? ⟨g, 0, none⟩ = some (.int .i64 f.ty) ∧ w'.cell? ⟨g, 1, none⟩ = some (.int .i64 f.fl) ∧ w'.cell? ⟨g, 2, none⟩ = some (.int .i64 f.st) ∧ At w' g f A c ∧ GL w' ∧ Below w.heap.size w w') (ds := []) #[false, false, false, false, false, false, false, false, false, false, false, false, false, false, false, false, false, false, false, false, false, false, false, false, false, false, false, false, false, false, false, false, false] (by kernel_rfl) rfl rfl ⟨d0, d1, d2, d3, d4, d5⟩ (fun hHeld => ?_)
  refine pure_ (i := 0) (N := some 6) (v := ?_) (a' := ?_) #[true, false, false, false, false, false, false, false, false, false, false, false, false, false, false, false, false, false, false, false, false, false, false, false, false, false, false, false, false, false, false, false, false] rfl rfl (by kernel_rfl) (fun _ _ _ h => h) (Or.inl ⟨by rfl, ?_⟩) ?_ ?_
  rotate_left
  · intro w'
    go_simp
    with_reducible rfl
  rotate_left
  · simp only [Act.put, List.setIfInBounds_toArray, List.set_cons_zero, List.set_cons_succ, i64_w, i32_w]
    rfl
  refine pure_ (i := 1) (N := some 7) (v := ?_) (a' := ?_) #[true, true, false, false, false, false, false, false, false, false, false, false, false, false, false, false, false, false, false, false, false, false, false, false, false, false, false, false, false, false, false, false, false] rfl rfl (by kernel_rfl) (fun _ _ _ h => h) (Or.inl ⟨by rfl, ?_⟩) ?_ ?_
  rotate_left
  · intro w'
    go_simp
    with_reducible rfl
  rotate_left
  · simp only [Act.put, List.setIfInBounds_toArray, List.set_cons_zero, List.set_cons_succ, i64_w, i32_w]
    rfl
  refine pure_ (i := 2) (N := some 8) (v := ?_) (a' := ?_) #[true, true, true, false, false, false, false, false, false, false, false, false, false, false, false, false, false, false, false, false, false, false, false, false, false, false, false, false, false, false, false, false, false] rfl rfl (by kernel_rfl) (fun _ _ _ h => h) (Or.inl ⟨by rfl, ?_⟩) ?_ ?_
  rotate_left
  · intro w'
    go_simp
    with_reducible rfl
  rotate_left
  · simp only [Act.put, List.setIfInBounds_toArray, List.set_cons_zero, List.set_cons_succ, i64_w, i32_w]
    rfl
  refine take_ (i := 3) (N := some 9) (v := ?_) (a' := ?_) #[true, true, true, true, false, false, false, false, false, false, false, false, false, false, false, false, false, false, false, false, false, false, false, false, false, false, false, false, false, false, false, false, false] rfl rfl (by kernel_rfl) (fun _ _ _ h => h) (Or.inl ⟨by rfl, ?_⟩) hHeld ?_ ?_
  rotate_left
  · rintro w' ⟨s0, s1, s2, s3, s4, s5⟩
    go_simp
    with_reducible rfl
  rotate_left
  · simp only [Act.put, List.setIfInBounds_toArray, List.set_cons_zero, List.set_cons_succ, i64_w, i32_w]
    rfl
  refine one_ (i := 4) (N := some 10) #[true, true, true, true, true, false, false, false, false, false, false, false, false, false, false, false, false, false, false, false, false, false, false, false, false, false, false, false, false, false, false, false, false] rfl rfl (by kernel_rfl) (by decide) (fun K hK => ?_)
  refine goes_ Tryd.func71 (by kernel_rfl) rfl #[.int .i64 f.ty, .int .i64 0, .int .i64 255] (by rfl) rfl rfl (by simp only [List.map_toArray, List.map_cons, List.map_nil]; rfl) ?_
  with_reducible refine (within_calls f.ty 0 255 true _ HX0.out).mono ?_
  rintro e w3 ⟨rfl, hb⟩
  refine ⟨_, rfl, ?_⟩
  refine hK.out _ _ ⟨(hb.cell (World.block_lt_of_cell? _ _ hHeld.1)).trans hHeld.1, (hb.cell (World.block_lt_of_cell? _ _ hHeld.2.1)).trans hHeld.2.1, (hb.cell (World.block_lt_of_cell? _ _ hHeld.2.2.1)).trans hHeld.2.2.1, At.low hHeld.2.2.2.1 hb, GL.below hHeld.2.2.2.2.1 hb, below_then hHeld.2.2.2.2.2 (hHeld.2.2.2.2.2).size hb⟩ (fun hHeld => ?_)
  clear hK K
  refine norm_ (a' := ?_) ?_ ?_
  rotate_left
  · show Act.put _ (some 10) _ = _
    simp only [Act.put, List.setIfInBounds_toArray, List.set_cons_zero, List.set_cons_succ, i64_w, i32_w]
    rfl
  refine pure_ (i := 5) (N := some 11) (v := ?_) (a' := ?_) #[true, true, true, true, true, true, false, false, false, false, false, false, false, false, false, false, false, false, false, false, false, false, false, false, false, false, false, false, false, false, false, false, false] rfl rfl (by kernel_rfl) (fun _ _ _ h => h) (Or.inl ⟨by rfl, ?_⟩) ?_ ?_
  rotate_left
  · intro w'
    go_simp
    with_reducible rfl
  rotate_left
  · simp only [Act.put, List.setIfInBounds_toArray, List.set_cons_zero, List.set_cons_succ, i64_w, i32_w]
    rfl
  refine pure_ (i := 6) (N := some 12) (v := ?_) (a' := ?_) #[true, true, true, true, true, true, true, false, false, false, false, false, false, false, false, false, false, false, false, false, false, false, false, false, false, false, false, false, false, false, false, false, false] rfl rfl (by kernel_rfl) (fun _ _ _ h => h) (Or.inl ⟨by rfl, ?_⟩) ?_ ?_
  rotate_left
  · intro w'
    go_simp
    with_reducible rfl
  rotate_left
  · simp only [Act.put, List.setIfInBounds_toArray, List.set_cons_zero, List.set_cons_succ, i64_w, i32_w]
    rfl
  refine pure_ (i := 7) (N := some 13) (v := ?_) (a' := ?_) #[true, true, true, true, true, true, true, true, false, false, false, false, false, false, false, false, false, false, false, false, false, false, false, false, false, false, false, false, false, false, false, false, false] rfl rfl (by kernel_rfl) (fun _ _ _ h => h) (Or.inl ⟨by rfl, ?_⟩) ?_ ?_
  rotate_left
  · intro w'
    go_simp
    with_reducible rfl
  rotate_left
  · simp only [Act.put, List.setIfInBounds_toArray, List.set_cons_zero, List.set_cons_succ, i64_w, i32_w]
    rfl
  refine pure_ (i := 8) (N := some 14) (v := ?_) (a' := ?_) #[true, true, true, true, true, true, true, true, true, false, false, false, false, false, false, false, false, false, false, false, false, false, false, false, false, false, false, false, false, false, false, false, false] rfl rfl (by kernel_rfl) (fun _ _ _ h => h) (Or.inl ⟨by rfl, ?_⟩) ?_ ?_
  rotate_left
  · intro w'
    go_simp
    with_reducible rfl
  rotate_left
  · simp only [Act.put, List.setIfInBounds_toArray, List.set_cons_zero, List.set_cons_succ, i64_w, i32_w]
    rfl
  refine pure_ (i := 9) (N := some 15) (v := ?_) (a' := ?_) #[true, true, true, true, true, true, true, true, true, true, false, false, false, false, false, false, false, false, false, false, false, false, false, false, false, false, false, false, false, false, false, false, false] rfl rfl (by kernel_rfl) (fun _ _ _ h => h) (Or.inl ⟨by rfl, ?_⟩) ?_ ?_
  rotate_left
  · intro w'
    go_simp
    with_reducible rfl
  rotate_left
  · simp only [Act.put, List.setIfInBounds_toArray, List.set_cons_zero, List.set_cons_succ, i64_w, i32_w]
    rfl
  refine pure_ (i := 11) (N := some 17) (v := ?_) (a' := ?_) #[true, true, true, true, true, true, true, true, true, true, false, true, false, false, false, false, false, false, false, false, false, false, false, false, false, false, false, false, false, false, false, false, false] rfl rfl (by kernel_rfl) (fun _ _ _ h => h) (Or.inl ⟨by rfl, ?_⟩) ?_ ?_
  rotate_left
  · intro w'
    go_simp
    with_reducible rfl
  rotate_left
  · simp only [Act.put, List.setIfInBounds_toArray, List.set_cons_zero, List.set_cons_succ, i64_w, i32_w]
    rfl
  refine pure_ (i := 12) (N := some 18) (v := ?_) (a' := ?_) #[true, true, true, true, true, true, true, true, true, true, false, true, true, false, false, false, false, false, false, false, false, false, false, false, false, false, false, false, false, false, false, false, false] rfl rfl (by kernel_rfl) (fun _ _ _ h => h) (Or.inl ⟨by rfl, ?_⟩) ?_ ?_
  rotate_left
  · intro w'
    go_simp
    with_reducible rfl
  rotate_left
  · simp only [Act.put, List.setIfInBounds_toArray, List.set_cons_zero, List.set_cons_succ, i64_w, i32_w]
    rfl
  refine pure_ (i := 13) (N := some 19) (v := ?_) (a' := ?_) #[true, true, true, true, true, true, true, true, true, true, false, true, true, true, false, false, false, false, false, false, false, false, false, false, false, false, false, false, false, false, false, false, false] rfl rfl (by kernel_rfl) (fun _ _ _ h => h) (Or.inl ⟨by rfl, ?_⟩) ?_ ?_
  rotate_left
  · intro w'
    go_simp
    with_reducible rfl
  rotate_left
  · simp only [Act.put, List.setIfInBounds_toArray, List.set_cons_zero, List.set_cons_succ, i64_w, i32_w]
    rfl
  refine take_ (i := 10) (N := some 16) (v := ?_) (a' := ?_) #[true, true, true, true, true, true, true, true, true, true, true, true, true, true, false, false, false, false, false, false, false, false, false, false, false, false, false, false, false, false, false, false, false] rfl rfl (by kernel_rfl) (fun _ _ _ h => h) (Or.inl ⟨by rfl, ?_⟩) hHeld ?_ ?_
  rotate_left
  · rintro w' ⟨s0, s1, s2, s3, s4, s5⟩
    go_simp
    with_reducible rfl
  rotate_left
  · simp only [Act.put, List.setIfInBounds_toArray, List.set_cons_zero, List.set_cons_succ, i64_w, i32_w]
    rfl
  refine take_ (i := 14) (N := some 20) (v := ?_) (a' := ?_) #[true, true, true, true, true, true, true, true, true, true, true, true, true, true, true, false, false, false, false, false, false, false, false, false, false, false, false, false, false, false, false, false, false] rfl rfl (by kernel_rfl) (fun _ _ _ h => h) (Or.inl ⟨by rfl, ?_⟩) hHeld ?_ ?_
  rotate_left
  · rintro w' ⟨s0, s1, s2, s3, s4, s5⟩
    go_simp
    with_reducible rfl
  rotate_left
  · simp only [Act.put, List.setIfInBounds_toArray, List.set_cons_zero, List.set_cons_succ, i64_w, i32_w]
    rfl
  refine one_ (i := 15) (N := some 21) #[true, true, true, true, true, true, true, true, true, true, true, true, true, true, true, true, false, false, false, false, false, false, false, false, false, false, false, false, false, false, false, false, false] rfl rfl (by kernel_rfl) (by decide) (fun K hK => ?_)
  refine goes_ Tryd.func58 (by kernel_rfl) rfl #[.int .i64 f.ty] (by rfl) rfl rfl (by simp only [List.map_toArray, List.map_cons, List.map_nil]; rfl) ?_
  with_reducible refine (kindOf_calls f.ty _ _ _ hHeld.2.2.2.2.1 H0.out rfl rfl).mono ?_
  rintro e w3 ⟨rfl, hb⟩
  refine ⟨_, rfl, ?_⟩
  refine hK.out _ _ ⟨(hb.cell (World.block_lt_of_cell? _ _ hHeld.1)).trans hHeld.1, (hb.cell (World.block_lt_of_cell? _ _ hHeld.2.1)).trans hHeld.2.1, (hb.cell (World.block_lt_of_cell? _ _ hHeld.2.2.1)).trans hHeld.2.2.1, At.low hHeld.2.2.2.1 hb, GL.below hHeld.2.2.2.2.1 hb, below_then hHeld.2.2.2.2.2 (hHeld.2.2.2.2.2).size hb⟩ (fun hHeld => ?_)
  clear hK K
  refine norm_ (a' := ?_) ?_ ?_
  rotate_left
  · show Act.put _ (some 21) _ = _
    simp only [Act.put, List.setIfInBounds_toArray, List.set_cons_zero, List.set_cons_succ, i64_w, i32_w]
    rfl
  refine pure_ (i := 16) (N := some 22) (v := ?_) (a' := ?_) #[true, true, true, true, true, true, true, true, true, true, true, true, true, true, true, true, true, false, false, false, false, false, false, false, false, false, false, false, false, false, false, false, false] rfl rfl (by kernel_rfl) (fun _ _ _ h => h) (Or.inl ⟨by rfl, ?_⟩) ?_ ?_
  rotate_left
  · intro w'
    go_simp
    with_reducible rfl
  rotate_left
  · simp only [Act.put, List.setIfInBounds_toArray, List.set_cons_zero, List.set_cons_succ, i64_w, i32_w]
    rfl
  refine pure_ (i := 17) (N := some 23) (v := ?_) (a' := ?_) #[true, true, true, true, true, true, true, true, true, true, true, true, true, true, true, true, true, true, false, false, false, false, false, false, false, false, false, false, false, false, false, false, false] rfl rfl (by kernel_rfl) (fun _ _ _ h => h) (Or.inl ⟨by rfl, ?_⟩) ?_ ?_
  rotate_left
  · intro w'
    go_simp
    with_reducible rfl
  rotate_left
  · simp only [Act.put, List.setIfInBounds_toArray, List.set_cons_zero, List.set_cons_succ, i64_w, i32_w]
    rfl
  refine pure_ (i := 18) (N := some 24) (v := ?_) (a' := ?_) #[true, true, true, true, true, true, true, true, true, true, true, true, true, true, true, true, true, true, true, false, false, false, false, false, false, false, false, false, false, false, false, false, false] rfl rfl (by kernel_rfl) (fun _ _ _ h => h) (Or.inl ⟨by rfl, ?_⟩) ?_ ?_
  rotate_left
  · intro w'
    go_simp
    with_reducible rfl
  rotate_left
  · simp only [Act.put, List.setIfInBounds_toArray, List.set_cons_zero, List.set_cons_succ, i64_w, i32_w]
    rfl
  refine pure_ (i := 19) (N := some 25) (v := ?_) (a' := ?_) #[true, true, true, true, true, true, true, true, true, true, true, true, true, true, true, true, true, true, true, true, false, false, false, false, false, false, false, false, false, false, false, false, false] rfl rfl (by kernel_rfl) (fun _ _ _ h => h) (Or.inl ⟨by rfl, ?_⟩) ?_ ?_
  rotate_left
  · intro w'
    go_simp
    with_reducible rfl
  rotate_left
  · simp only [Act.put, List.setIfInBounds_toArray, List.set_cons_zero, List.set_cons_succ, i64_w, i32_w]
    rfl
  refine pure_ (i := 20) (N := some 26) (v := ?_) (a' := ?_) #[true, true, true, true, true, true, true, true, true, true, true, true, true, true, true, true, true, true, true, true, true, false, false, false, false, false, false, false, false, false, false, false, false] rfl rfl (by kernel_rfl) (fun _ _ _ h => h) (Or.inl ⟨by rfl, ?_⟩) ?_ ?_
  rotate_left
  · intro w'
    go_simp
    with_reducible rfl
  rotate_left
  · simp only [Act.put, List.setIfInBounds_toArray, List.set_cons_zero, List.set_cons_succ, i64_w, i32_w]
    rfl
  refine pure_ (i := 21) (N := some 27) (v := ?_) (a' := ?_) #[true, true, true, true, true, true, true, true, true, true, true, true, true, true, true, true, true, true, true, true, true, true, false, false, false, false, false, false, false, false, false, false, false] rfl rfl (by kernel_rfl) (fun _ _ _ h => h) (Or.inl ⟨by rfl, ?_⟩) ?_ ?_
  rotate_left
  · intro w'
    go_simp
    with_reducible rfl
  rotate_left
  · simp only [Act.put, List.setIfInBounds_toArray, List.set_cons_zero, List.set_cons_succ, i64_w, i32_w]
    rfl
  refine pure_ (i := 22) (N := some 28) (v := ?_) (a' := ?_) #[true, true, true, true, true, true, true, true, true, true, true, true, true, true, true, true, true, true, true, true, true, true, true, false, false, false, false, false, false, false, false, false, false] rfl rfl (by kernel_rfl) (fun _ _ _ h => h) (Or.inl ⟨by rfl, ?_⟩) ?_ ?_
  rotate_left
  · intro w'
    go_simp
    with_reducible rfl
  rotate_left
  · simp only [Act.put, List.setIfInBounds_toArray, List.set_cons_zero, List.set_cons_succ, i64_w, i32_w]
    rfl
  refine pure_ (i := 23) (N := some 29) (v := ?_) (a' := ?_) #[true, true, true, true, true, true, true, true, true, true, true, true, true, true, true, true, true, true, true, true, true, true, true, true, false, false, false, false, false, false, false, false, false] rfl rfl (by kernel_rfl) (fun _ _ _ h => h) (Or.inl ⟨by rfl, ?_⟩) ?_ ?_
  rotate_left
  · intro w'
    go_simp
    with_reducible rfl
  rotate_left
  · simp only [Act.put, List.setIfInBounds_toArray, List.set_cons_zero, List.set_cons_succ, i64_w, i32_w]
    rfl
  refine take_ (i := 24) (N := some 30) (v := ?_) (a' := ?_) #[true, true, true, true, true, true, true, true, true, true, true, true, true, true, true, true, true, true, true, true, true, true, true, true, true, false, false, false, false, false, false, false, false] rfl rfl (by kernel_rfl) (fun _ _ _ h => h) (Or.inl ⟨by rfl, ?_⟩) hHeld ?_ ?_
  rotate_left
  · rintro w' ⟨s0, s1, s2, s3, s4, s5⟩
    go_simp
    with_reducible rfl
  rotate_left
  · simp only [Act.put, List.setIfInBounds_toArray, List.set_cons_zero, List.set_cons_succ, i64_w, i32_w]
    rfl
  refine one_ (i := 25) (N := some 31) #[true, true, true, true, true, true, true, true, true, true, true, true, true, true, true, true, true, true, true, true, true, true, true, true, true, true, false, false, false, false, false, false, false] rfl rfl (by kernel_rfl) (by decide) (fun K hK => ?_)
  refine goes_ Tryd.func71 (by kernel_rfl) rfl #[.int .i64 f.st, .int .i64 0, .int .i64 2147483647] (by rfl) rfl rfl (by simp only [List.map_toArray, List.map_cons, List.map_nil]; rfl) ?_
  with_reducible refine (within_calls f.st 0 2147483647 true _ HX2.out).mono ?_
  rintro e w3 ⟨rfl, hb⟩
  refine ⟨_, rfl, ?_⟩
  refine hK.out _ _ ⟨(hb.cell (World.block_lt_of_cell? _ _ hHeld.1)).trans hHeld.1, (hb.cell (World.block_lt_of_cell? _ _ hHeld.2.1)).trans hHeld.2.1, (hb.cell (World.block_lt_of_cell? _ _ hHeld.2.2.1)).trans hHeld.2.2.1, At.low hHeld.2.2.2.1 hb, GL.below hHeld.2.2.2.2.1 hb, below_then hHeld.2.2.2.2.2 (hHeld.2.2.2.2.2).size hb⟩ (fun hHeld => ?_)
  clear hK K
  refine norm_ (a' := ?_) ?_ ?_
  rotate_left
  · show Act.put _ (some 31) _ = _
    simp only [Act.put, List.setIfInBounds_toArray, List.set_cons_zero, List.set_cons_succ, i64_w, i32_w]
    rfl
  refine pure_ (i := 26) (N := some 32) (v := ?_) (a' := ?_) #[true, true, true, true, true, true, true, true, true, true, true, true, true, true, true, true, true, true, true, true, true, true, true, true, true, true, true, false, false, false, false, false, false] rfl rfl (by kernel_rfl) (fun _ _ _ h => h) (Or.inl ⟨by rfl, ?_⟩) ?_ ?_
  rotate_left
  · intro w'
    go_simp
    with_reducible rfl
  rotate_left
  · simp only [Act.put, List.setIfInBounds_toArray, List.set_cons_zero, List.set_cons_succ, i64_w, i32_w]
    rfl
  refine pure_ (i := 27) (N := some 33) (v := ?_) (a' := ?_) #[true, true, true, true, true, true, true, true, true, true, true, true, true, true, true, true, true, true, true, true, true, true, true, true, true, true, true, true, false, false, false, false, false] rfl rfl (by kernel_rfl) (fun _ _ _ h => h) (Or.inl ⟨by rfl, ?_⟩) ?_ ?_
  rotate_left
  · intro w'
    go_simp
    with_reducible rfl
  rotate_left
  · simp only [Act.put, List.setIfInBounds_toArray, List.set_cons_zero, List.set_cons_succ, i64_w, i32_w]
    rfl
  refine pure_ (i := 28) (N := some 34) (v := ?_) (a' := ?_) #[true, true, true, true, true, true, true, true, true, true, true, true, true, true, true, true, true, true, true, true, true, true, true, true, true, true, true, true, true, false, false, false, false] rfl rfl (by kernel_rfl) (fun _ _ _ h => h) (Or.inl ⟨by rfl, ?_⟩) ?_ ?_
  rotate_left
  · intro w'
    go_simp
    with_reducible rfl
  rotate_left
  · simp only [Act.put, List.setIfInBounds_toArray, List.set_cons_zero, List.set_cons_succ, i64_w, i32_w]
    rfl
  refine pure_ (i := 29) (N := some 35) (v := ?_) (a' := ?_) #[true, true, true, true, true, true, true, true, true, true, true, true, true, true, true, true, true, true, true, true, true, true, true, true, true, true, true, true, true, true, false, false, false] rfl rfl (by kernel_rfl) (fun _ _ _ h => h) (Or.inl ⟨by rfl, ?_⟩) ?_ ?_
  rotate_left
  · intro w'
    go_simp
    with_reducible rfl
  rotate_left
  · simp only [Act.put, List.setIfInBounds_toArray, List.set_cons_zero, List.set_cons_succ, i64_w, i32_w]
    rfl
  refine one_ (i := 30) (N := some 36) #[true, true, true, true, true, true, true, true, true, true, true, true, true, true, true, true, true, true, true, true, true, true, true, true, true, true, true, true, true, true, true, false, false] rfl rfl (by kernel_rfl) (by decide) (fun K hK => ?_)
  refine goes_ Tryd.func59 (by kernel_rfl) rfl #[.pointer (some ⟨g, 0, none⟩)] (by rfl) rfl rfl (by simp only [List.map_toArray, List.map_cons, List.map_nil]; rfl) ?_
  with_reducible refine (stands_calls g f A c false _ hHeld.2.2.2.1 hHeld.2.2.2.2.1 H0.out HX3.out).mono ?_
  rintro e w3 ⟨rfl, hb⟩
  refine ⟨_, rfl, ?_⟩
  refine hK.out _ _ ⟨(hb.cell (World.block_lt_of_cell? _ _ hHeld.1)).trans hHeld.1, (hb.cell (World.block_lt_of_cell? _ _ hHeld.2.1)).trans hHeld.2.1, (hb.cell (World.block_lt_of_cell? _ _ hHeld.2.2.1)).trans hHeld.2.2.1, At.low hHeld.2.2.2.1 hb, GL.below hHeld.2.2.2.2.1 hb, below_then hHeld.2.2.2.2.2 (hHeld.2.2.2.2.2).size hb⟩ (fun hHeld => ?_)
  clear hK K
  refine norm_ (a' := ?_) ?_ ?_
  rotate_left
  · show Act.put _ (some 36) _ = _
    simp only [Act.put, List.setIfInBounds_toArray, List.set_cons_zero, List.set_cons_succ, i64_w, i32_w]
    rfl
  refine pure_ (i := 31) (N := some 37) (v := ?_) (a' := ?_) #[true, true, true, true, true, true, true, true, true, true, true, true, true, true, true, true, true, true, true, true, true, true, true, true, true, true, true, true, true, true, true, true, false] rfl rfl (by kernel_rfl) (fun _ _ _ h => h) (Or.inl ⟨by rfl, ?_⟩) ?_ ?_
  rotate_left
  · intro w'
    go_simp
    with_reducible rfl
  rotate_left
  · simp only [Act.put, List.setIfInBounds_toArray, List.set_cons_zero, List.set_cons_succ, i64_w, i32_w]
    rfl
  refine pure_ (i := 32) (N := some 38) (v := ?_) (a' := ?_) #[true, true, true, true, true, true, true, true, true, true, true, true, true, true, true, true, true, true, true, true, true, true, true, true, true, true, true, true, true, true, true, true, true] rfl rfl (by kernel_rfl) (fun _ _ _ h => h) (Or.inl ⟨by rfl, ?_⟩) ?_ ?_
  rotate_left
  · intro w'
    go_simp
    with_reducible rfl
  rotate_left
  · simp only [Act.put, List.setIfInBounds_toArray, List.set_cons_zero, List.set_cons_succ, i64_w, i32_w]
    rfl
  refine done_ (by kernel_rfl) ?_
  go_wp2_with fail
  go_ret
  exact ⟨rfl, hHeld.2.2.2.2.2⟩
end Go.Proofs.YtoffhlbdfhhhjaaDoor.Fr
namespace Go.Proofs.YtoffhlbdfhhhjaaDoor.Fr
open Go Go.RowKit Go.Proofs.YtoffhlbdfhhhjaaDoorW.PrintWords Go.Proofs.YtoffhlbdfhhhjaaDoorW.PrintLast Go.Proofs.YtoffhlbdfhhhjaaDoorW.PrintMore Go.Proofs.YtoffhlbdfhhhjaaDoor.QL
set_option linter.unusedSimpArgs false
set_option linter.unusedVariables false
set_option maxHeartbeats 40000000
set_option maxRecDepth 100000
/-- While the test runs: the frame at g, its own copy at bg. -/
structure RInv (w wc : World) (g bg : Nat) (f h : Fr) (A : Option Addr) (c : Nat) : Prop where
  fr : At wc g f A c
  own : At wc bg h none 0
  nil : h.ps = []
  low : Below w.heap.size w wc
  ge : w.heap.size ≤ bg
  lt : g < w.heap.size
theorem RInv.ne {w wc : World} {g bg : Nat} {f h : Fr} {A : Option Addr} {c : Nat} (r : RInv w wc g bg f h A c) : g ≠ bg := by have := r.ge; have := r.lt; omega
theorem RInv.below {w wc w1 : World} {g bg : Nat} {f h : Fr} {A : Option Addr} {c : Nat} (r : RInv w wc g bg f h A c) (hb : Below wc.heap.size wc w1) : RInv w w1 g bg f h A c :=
  ⟨r.fr.low hb, r.own.low hb, r.nil, below_then r.low r.low.size hb, r.ge, r.lt⟩
theorem RInv.put3 {w wc : World} {g bg : Nat} {f h : Fr} {A : Option Addr} {c : Nat} (r : RInv w wc g bg f h A c) (x : ByteArray) : RInv w (wc.setCell ⟨bg, 3, none⟩ (.string x)) g bg f { h with da := x } A c :=
  ⟨blk_far (p := ⟨bg, 3, none⟩) r.fr r.ne _, by have hb := blk_set r.own 3 (.string x); simpa [At, Fr.cells] using hb, r.nil, r.low.setCell (p := ⟨bg, 3, none⟩) r.ge _, r.ge, r.lt⟩
theorem RInv.put4 {w wc : World} {g bg : Nat} {f h : Fr} {A : Option Addr} {c : Nat} (r : RInv w wc g bg f h A c) (x : Int) : RInv w (wc.setCell ⟨bg, 4, none⟩ (.int .i64 x)) g bg f { h with pad := x } A c :=
  ⟨blk_far (p := ⟨bg, 4, none⟩) r.fr r.ne _, by have hb := blk_set r.own 4 (.int .i64 x); simpa [At, Fr.cells] using hb, r.nil, r.low.setCell (p := ⟨bg, 4, none⟩) r.ge _, r.ge, r.lt⟩
theorem RInv.put5 {w wc : World} {g bg : Nat} {f h : Fr} {A : Option Addr} {c : Nat} (r : RInv w wc g bg f h A c) (x : Int) : RInv w (wc.setCell ⟨bg, 5, none⟩ (.int .i64 x)) g bg f { h with dep := x } A c :=
  ⟨blk_far (p := ⟨bg, 5, none⟩) r.fr r.ne _, by have hb := blk_set r.own 5 (.int .i64 x); simpa [At, Fr.cells] using hb, r.nil, r.low.setCell (p := ⟨bg, 5, none⟩) r.ge _, r.ge, r.lt⟩
theorem RInv.put6 {w wc : World} {g bg : Nat} {f h : Fr} {A : Option Addr} {c : Nat} (r : RInv w wc g bg f h A c) (x : Bool) : RInv w (wc.setCell ⟨bg, 6, none⟩ (.bool x)) g bg f { h with ex := x } A c :=
  ⟨blk_far (p := ⟨bg, 6, none⟩) r.fr r.ne _, by have hb := blk_set r.own 6 (.bool x); simpa [At, Fr.cells] using hb, r.nil, r.low.setCell (p := ⟨bg, 6, none⟩) r.ge _, r.ge, r.lt⟩
theorem RInv.put7 {w wc : World} {g bg : Nat} {f h : Fr} {A : Option Addr} {c : Nat} (r : RInv w wc g bg f h A c) (x : Int) : RInv w (wc.setCell ⟨bg, 7, none⟩ (.int .i64 x)) g bg f { h with wt := x } A c :=
  ⟨blk_far (p := ⟨bg, 7, none⟩) r.fr r.ne _, by have hb := blk_set r.own 7 (.int .i64 x); simpa [At, Fr.cells] using hb, r.nil, r.low.setCell (p := ⟨bg, 7, none⟩) r.ge _, r.ge, r.lt⟩
theorem RInv.put8 {w wc : World} {g bg : Nat} {f h : Fr} {A : Option Addr} {c : Nat} (r : RInv w wc g bg f h A c) (x : Int) : RInv w (wc.setCell ⟨bg, 8, none⟩ (.int .i64 x)) g bg f { h with co := x } A c :=
  ⟨blk_far (p := ⟨bg, 8, none⟩) r.fr r.ne _, by have hb := blk_set r.own 8 (.int .i64 x); simpa [At, Fr.cells] using hb, r.nil, r.low.setCell (p := ⟨bg, 8, none⟩) r.ge _, r.ge, r.lt⟩
theorem RInv.put9 {w wc : World} {g bg : Nat} {f h : Fr} {A : Option Addr} {c : Nat} (r : RInv w wc g bg f h A c) (x : Int) : RInv w (wc.setCell ⟨bg, 9, none⟩ (.int .i64 x)) g bg f { h with la := x } A c :=
  ⟨blk_far (p := ⟨bg, 9, none⟩) r.fr r.ne _, by have hb := blk_set r.own 9 (.int .i64 x); simpa [At, Fr.cells] using hb, r.nil, r.low.setCell (p := ⟨bg, 9, none⟩) r.ge _, r.ge, r.lt⟩
/-- Is a param in its ranges? -/
def parOk (p : S32) : Bool := inR p.f0 0 65535 && inR p.f1 0 4294967295
theorem parOk_step (ps : List S32) (k : Nat) (h : k < ps.length) : (ps.drop k).all parOk = (parOk (rd_T32 ps (k : Int)) && (ps.drop (k + 1)).all parOk) := by
  have e : rd_T32 ps (k : Int) = ps[k] := by simp [rd_T32, h]
  rw [List.drop_eq_getElem_cons h, e]
  rfl
theorem right_yes (g : Nat) (f : Fr) (A : Option Addr) (c : Nat) (w : World) (hf : At w g f A c) (hG : GL w) (hps : Kd.C k32 w A f.ps.length f.ps) (h0 : inR f.ty 0 255 = true) (h1 : (Go.bits .andNot .i64 f.fl (kFl f.ty) != 0) = false) (h2 : inR f.st 0 2147483647 = true) (h3 : stB f.ty f.st = true) :
    Calls Tryd.prog 45 #[.pointer (some ⟨g, 0, none⟩)] w fun e w' => e = .returned (.bool ((!prioB f || inR f.wt 1 256) && (f.ty != 4 || parB f) && lenB f && numB f && sameB f)) ∧ Below w.heap.size w w' := by
  have d0 : w.drew.cell? ⟨g, 0, none⟩ = some (.int .i64 f.ty) := hf.c0
  have d1 : w.drew.cell? ⟨g, 1, none⟩ = some (.int .i64 f.fl) := hf.c1
  have d2 : w.drew.cell? ⟨g, 2, none⟩ = some (.int .i64 f.st) := hf.c2
  have d3 : At w.drew g f A c := hf
  have d4 : GL w.drew := hG
  have d5 : Below w.heap.size w w.drew := below_drew (Below.refl _ _)
  have HX0 := Aside0.mk h0
  have H0 : Aside0 (0 ≤ f.ty) := ⟨by have h := h0; unfold inR at h; simp only [Bool.and_eq_true, decide_eq_true_eq] at h; exact h.1⟩
  have HX2 := Aside0.mk h2
  have HX3 := Aside0.mk h3
  have hfl := fld0
  have HLT : Aside0 (g < w.heap.size) := ⟨blk_lt hf⟩
  have HPS := Aside0.mk hps
  clear h0 h2 h3 hf hG hps
  go_enter Tryd.func45, Tryd.ntmps45
  go_upto_region 1 with fail
  refine start_ (n := 33) (S := fun w' => w'.cell? ⟨g, 0, none⟩ = some (.int .i64 f.ty) ∧ w'.cell? ⟨g, 1, none⟩ = some (.int .i64 f.fl) ∧ w'.cell? ⟨g, 2, none⟩ = some (.int .i64 f.st) ∧ At w' g f A c ∧ GL w' ∧ Below w.heap.size w w') (ds := []) #[false, false, false, false, false, false, false, false, false, false, false, false, false, false, false, false, false, false, false, false, false, false, false, false, false, false, false, false, false, false, false, false, false] (by kernel_rfl) rfl rfl ⟨d0, d1, d2, d3, d4, d5⟩ (fun hHeld => ?_)
  refine pure_ (i := 0) (N := some 6) (v := ?_) (a' := ?_) #[true, false, false, false, false, false, false, false, false, false, false, false, false, false, false, false, false, false, false, false, false, false, false, false, false, false, false, false, false, false, false, false, false] rfl rfl (by kernel_rfl) (fun _ _ _ h => h) (Or.inl ⟨by rfl, ?_⟩) ?_ ?_
  rotate_left
  · intro w'
    go_simp
    with_reducible rfl
  rotate_left
  · simp only [Act.put, List.setIfInBounds_toArray, List.set_cons_zero, List.set_cons_succ, i64_w, i32_w]
    rfl
  refine pure_ (i := 1) (N := some 7) (v := ?_) (a' := ?_) #[true, true, false, false, false, false, false, false, false, false, false, false, false, false, false, false, false, false, false, false, false, false, false, false, false, false, false, false, false, false, false, false, false] rfl rfl (by kernel_rfl) (fun _ _ _ h => h) (Or.inl ⟨by rfl, ?_⟩) ?_ ?_
  rotate_left
  · intro w'
    go_simp
    with_reducible rfl
  rotate_left
  · simp only [Act.put, List.setIfInBounds_toArray, List.set_cons_zero, List.set_cons_succ, i64_w, i32_w]
    rfl
  refine pure_ (i := 2) (N := some 8) (v := ?_) (a' := ?_) #[true, true, true, false, false, false, false, false, false, false, false, false, false, false, false, false, false, false, false, false, false, false, false, false, false, false, false, false, false, false, false, false, false] rfl rfl (by kernel_rfl) (fun _ _ _ h => h) (Or.inl ⟨by rfl, ?_⟩) ?_ ?_
  rotate_left
  · intro w'
    go_simp
    with_reducible rfl
  rotate_left
  · simp only [Act.put, List.setIfInBounds_toArray, List.set_cons_zero, List.set_cons_succ, i64_w, i32_w]
    rfl
  refine take_ (i := 3) (N := some 9) (v := ?_) (a' := ?_) #[true, true, true, true, false, false, false, false, false, false, false, false, false, false, false, false, false, false, false, false, false, false, false, false, false, false, false, false, false, false, false, false, false] rfl rfl (by kernel_rfl) (fun _ _ _ h => h) (Or.inl ⟨by rfl, ?_⟩) hHeld ?_ ?_
  rotate_left
  · rintro w' ⟨s0, s1, s2, s3, s4, s5⟩
    go_simp
    with_reducible rfl
  rotate_left
  · simp only [Act.put, List.setIfInBounds_toArray, List.set_cons_zero, List.set_cons_succ, i64_w, i32_w]
    rfl
  refine one_ (i := 4) (N := some 10) #[true, true, true, true, true, false, false, false, false, false, false, false, false, false, false, false, false, false, false, false, false, false, false, false, false, false, false, false, false, false, false, false, false] rfl rfl (by kernel_rfl) (by decide) (fun K hK => ?_)
  refine goes_ Tryd.func71 (by kernel_rfl) rfl #[.int .i64 f.ty, .int .i64 0, .int .i64 255] (by rfl) rfl rfl (by simp only [List.map_toArray, List.map_cons, List.map_nil]; rfl) ?_
  with_reducible refine (within_calls f.ty 0 255 true _ HX0.out).mono ?_
  rintro e w3 ⟨rfl, hb⟩
  refine ⟨_, rfl, ?_⟩
  refine hK.out _ _ ⟨(hb.cell (World.block_lt_of_cell? _ _ hHeld.1)).trans hHeld.1, (hb.cell (World.block_lt_of_cell? _ _ hHeld.2.1)).trans hHeld.2.1, (hb.cell (World.block_lt_of_cell? _ _ hHeld.2.2.1)).trans hHeld.2.2.1, At.low hHeld.2.2.2.1 hb, GL.below hHeld.2.2.2.2.1 hb, below_then hHeld.2.2.2.2.2 (hHeld.2.2.2.2.2).size hb⟩ (fun hHeld => ?_)
  clear hK K
  refine norm_ (a' := ?_) ?_ ?_
  rotate_left
  · show Act.put _ (some 10) _ = _
    simp only [Act.put, List.setIfInBounds_toArray, List.set_cons_zero, List.set_cons_succ, i64_w, i32_w]
    rfl
  refine pure_ (i := 5) (N := some 11) (v := ?_) (a' := ?_) #[true, true, true, true, true, true, false, false, false, false, false, false, false, false, false, false, false, false, false, false, false, false, false, false, false, false, false, false, false, false, false, false, false] rfl rfl (by kernel_rfl) (fun _ _ _ h => h) (Or.inl ⟨by rfl, ?_⟩) ?_ ?_
  rotate_left
  · intro w'
    go_simp
    with_reducible rfl
  rotate_left
  · simp only [Act.put, List.setIfInBounds_toArray, List.set_cons_zero, List.set_cons_succ, i64_w, i32_w]
    rfl
  refine pure_ (i := 6) (N := some 12) (v := ?_) (a' := ?_) #[true, true, true, true, true, true, true, false, false, false, false, false, false, false, false, false, false, false, false, false, false, false, false, false, false, false, false, false, false, false, false, false, false] rfl rfl (by kernel_rfl) (fun _ _ _ h => h) (Or.inl ⟨by rfl, ?_⟩) ?_ ?_
  rotate_left
  · intro w'
    go_simp
    with_reducible rfl
  rotate_left
  · simp only [Act.put, List.setIfInBounds_toArray, List.set_cons_zero, List.set_cons_succ, i64_w, i32_w]
    rfl
  refine pure_ (i := 7) (N := some 13) (v := ?_) (a' := ?_) #[true, true, true, true, true, true, true, true, false, false, false, false, false, false, false, false, false, false, false, false, false, false, false, false, false, false, false, false, false, false, false, false, false] rfl rfl (by kernel_rfl) (fun _ _ _ h => h) (Or.inl ⟨by rfl, ?_⟩) ?_ ?_
  rotate_left
  · intro w'
    go_simp
    with_reducible rfl
  rotate_left
  · simp only [Act.put, List.setIfInBounds_toArray, List.set_cons_zero, List.set_cons_succ, i64_w, i32_w]
    rfl
  refine pure_ (i := 8) (N := some 14) (v := ?_) (a' := ?_) #[true, true, true, true, true, true, true, true, true, false, false, false, false, false, false, false, false, false, false, false, false, false, false, false, false, false, false, false, false, false, false, false, false] rfl rfl (by kernel_rfl) (fun _ _ _ h => h) (Or.inl ⟨by rfl, ?_⟩) ?_ ?_
  rotate_left
  · intro w'
    go_simp
    with_reducible rfl
  rotate_left
  · simp only [Act.put, List.setIfInBounds_toArray, List.set_cons_zero, List.set_cons_succ, i64_w, i32_w]
    rfl
  refine pure_ (i := 9) (N := some 15) (v := ?_) (a' := ?_) #[true, true, true, true, true, true, true, true, true, true, false, false, false, false, false, false, false, false, false, false, false, false, false, false, false, false, false, false, false, false, false, false, false] rfl rfl (by kernel_rfl) (fun _ _ _ h => h) (Or.inl ⟨by rfl, ?_⟩) ?_ ?_
  rotate_left
  · intro w'
    go_simp
    with_reducible rfl
  rotate_left
  · simp only [Act.put, List.setIfInBounds_toArray, List.set_cons_zero, List.set_cons_succ, i64_w, i32_w]
    rfl
  refine pure_ (i := 11) (N := some 17) (v := ?_) (a' := ?_) #[true, true, true, true, true, true, true, true, true, true, false, true, false, false, false, false, false, false, false, false, false, false, false, false, false, false, false, false, false, false, false, false, false] rfl rfl (by kernel_rfl) (fun _ _ _ h => h) (Or.inl ⟨by rfl, ?_⟩) ?_ ?_
  rotate_left
  · intro w'
    go_simp
    with_reducible rfl
  rotate_left
  · simp only [Act.put, List.setIfInBounds_toArray, List.set_cons_zero, List.set_cons_succ, i64_w, i32_w]
    rfl
  refine pure_ (i := 12) (N := some 18) (v := ?_) (a' := ?_) #[true, true, true, true, true, true, true, true, true, true, false, true, true, false, false, false, false, false, false, false, false, false, false, false, false, false, false, false, false, false, false, false, false] rfl rfl (by kernel_rfl) (fun _ _ _ h => h) (Or.inl ⟨by rfl, ?_⟩) ?_ ?_
  rotate_left
  · intro w'
    go_simp
    with_reducible rfl
  rotate_left
  · simp only [Act.put, List.setIfInBounds_toArray, List.set_cons_zero, List.set_cons_succ, i64_w, i32_w]
    rfl
  refine pure_ (i := 13) (N := some 19) (v := ?_) (a' := ?_) #[true, true, true, true, true, true, true, true, true, true, false, true, true, true, false, false, false, false, false, false, false, false, false, false, false, false, false, false, false, false, false, false, false] rfl rfl (by kernel_rfl) (fun _ _ _ h => h) (Or.inl ⟨by rfl, ?_⟩) ?_ ?_
  rotate_left
  · intro w'
    go_simp
    with_reducible rfl
  rotate_left
  · simp only [Act.put, List.setIfInBounds_toArray, List.set_cons_zero, List.set_cons_succ, i64_w, i32_w]
    rfl
  refine take_ (i := 10) (N := some 16) (v := ?_) (a' := ?_) #[true, true, true, true, true, true, true, true, true, true, true, true, true, true, false, false, false, false, false, false, false, false, false, false, false, false, false, false, false, false, false, false, false] rfl rfl (by kernel_rfl) (fun _ _ _ h => h) (Or.inl ⟨by rfl, ?_⟩) hHeld ?_ ?_
  rotate_left
  · rintro w' ⟨s0, s1, s2, s3, s4, s5⟩
    go_simp
    with_reducible rfl
  rotate_left
  · simp only [Act.put, List.setIfInBounds_toArray, List.set_cons_zero, List.set_cons_succ, i64_w, i32_w]
    rfl
  refine take_ (i := 14) (N := some 20) (v := ?_) (a' := ?_) #[true, true, true, true, true, true, true, true, true, true, true, true, true, true, true, false, false, false, false, false, false, false, false, false, false, false, false, false, false, false, false, false, false] rfl rfl (by kernel_rfl) (fun _ _ _ h => h) (Or.inl ⟨by rfl, ?_⟩) hHeld ?_ ?_
  rotate_left
  · rintro w' ⟨s0, s1, s2, s3, s4, s5⟩
    go_simp
    with_reducible rfl
  rotate_left
  · simp only [Act.put, List.setIfInBounds_toArray, List.set_cons_zero, List.set_cons_succ, i64_w, i32_w]
    rfl
  refine one_ (i := 15) (N := some 21) #[true, true, true, true, true, true, true, true, true, true, true, true, true, true, true, true, false, false, false, false, false, false, false, false, false, false, false, false, false, false, false, false, false] rfl rfl (by kernel_rfl) (by decide) (fun K hK => ?_)
  refine goes_ Tryd.func58 (by kernel_rfl) rfl #[.int .i64 f.ty] (by rfl) rfl rfl (by simp only [List.map_toArray, List.map_cons, List.map_nil]; rfl) ?_
  with_reducible refine (kindOf_calls f.ty _ _ _ hHeld.2.2.2.2.1 H0.out rfl rfl).mono ?_
  rintro e w3 ⟨rfl, hb⟩
  refine ⟨_, rfl, ?_⟩
  refine hK.out _ _ ⟨(hb.cell (World.block_lt_of_cell? _ _ hHeld.1)).trans hHeld.1, (hb.cell (World.block_lt_of_cell? _ _ hHeld.2.1)).trans hHeld.2.1, (hb.cell (World.block_lt_of_cell? _ _ hHeld.2.2.1)).trans hHeld.2.2.1, At.low hHeld.2.2.2.1 hb, GL.below hHeld.2.2.2.2.1 hb, below_then hHeld.2.2.2.2.2 (hHeld.2.2.2.2.2).size hb⟩ (fun hHeld => ?_)
  clear hK K
  refine norm_ (a' := ?_) ?_ ?_
  rotate_left
  · show Act.put _ (some 21) _ = _
    simp only [Act.put, List.setIfInBounds_toArray, List.set_cons_zero, List.set_cons_succ, i64_w, i32_w]
    rfl
  refine pure_ (i := 16) (N := some 22) (v := ?_) (a' := ?_) #[true, true, true, true, true, true, true, true, true, true, true, true, true, true, true, true, true, false, false, false, false, false, false, false, false, false, false, false, false, false, false, false, false] rfl rfl (by kernel_rfl) (fun _ _ _ h => h) (Or.inl ⟨by rfl, ?_⟩) ?_ ?_
  rotate_left
  · intro w'
    go_simp
    with_reducible rfl
  rotate_left
  · simp only [Act.put, List.setIfInBounds_toArray, List.set_cons_zero, List.set_cons_succ, i64_w, i32_w]
    rfl
  refine pure_ (i := 17) (N := some 23) (v := ?_) (a' := ?_) #[true, true, true, true, true, true, true, true, true, true, true, true, true, true, true, true, true, true, false, false, false, false, false, false, false, false, false, false, false, false, false, false, false] rfl rfl (by kernel_rfl) (fun _ _ _ h => h) (Or.inl ⟨by rfl, ?_⟩) ?_ ?_
  rotate_left
  · intro w'
    go_simp
    with_reducible rfl
  rotate_left
  · simp only [Act.put, List.setIfInBounds_toArray, List.set_cons_zero, List.set_cons_succ, i64_w, i32_w]
    rfl
  refine pure_ (i := 18) (N := some 24) (v := ?_) (a' := ?_) #[true, true, true, true, true, true, true, true, true, true, true, true, true, true, true, true, true, true, true, false, false, false, false, false, false, false, false, false, false, false, false, false, false] rfl rfl (by kernel_rfl) (fun _ _ _ h => h) (Or.inl ⟨by rfl, ?_⟩) ?_ ?_
  rotate_left
  · intro w'
    go_simp
    with_reducible rfl
  rotate_left
  · simp only [Act.put, List.setIfInBounds_toArray, List.set_cons_zero, List.set_cons_succ, i64_w, i32_w]
    rfl
  refine pure_ (i := 19) (N := some 25) (v := ?_) (a' := ?_) #[true, true, true, true, true, true, true, true, true, true, true, true, true, true, true, true, true, true, true, true, false, false, false, false, false, false, false, false, false, false, false, false, false] rfl rfl (by kernel_rfl) (fun _ _ _ h => h) (Or.inl ⟨by rfl, ?_⟩) ?_ ?_
  rotate_left
  · intro w'
    go_simp
    with_reducible rfl
  rotate_left
  · simp only [Act.put, List.setIfInBounds_toArray, List.set_cons_zero, List.set_cons_succ, i64_w, i32_w]
    rfl
  refine pure_ (i := 20) (N := some 26) (v := ?_) (a' := ?_) #[true, true, true, true, true, true, true, true, true, true, true, true, true, true, true, true, true, true, true, true, true, false, false, false, false, false, false, false, false, false, false, false, false] rfl rfl (by kernel_rfl) (fun _ _ _ h => h) (Or.inl ⟨by rfl, ?_⟩) ?_ ?_
  rotate_left
  · intro w'
    go_simp
    with_reducible rfl
  rotate_left
  · simp only [Act.put, List.setIfInBounds_toArray, List.set_cons_zero, List.set_cons_succ, i64_w, i32_w]
    rfl
  refine pure_ (i := 21) (N := some 27) (v := ?_) (a' := ?_) #[true, true, true, true, true, true, true, true, true, true, true, true, true, true, true, true, true, true, true, true, true, true, false, false, false, false, false, false, false, false, false, false, false] rfl rfl (by kernel_rfl) (fun _ _ _ h => h) (Or.inl ⟨by rfl, ?_⟩) ?_ ?_
  rotate_left
  · intro w'
    go_simp
    with_reducible rfl
  rotate_left
  · simp only [Act.put, List.setIfInBounds_toArray, List.set_cons_zero, List.set_cons_succ, i64_w, i32_w]
    rfl
  refine pure_ (i := 22) (N := some 28) (v := ?_) (a' := ?_) #[true, true, true, true, true, true, true, true, true, true, true, true, true, true, true, true, true, true, true, true, true, true, true, false, false, false, false, false, false, false, false, false, false] rfl rfl (by kernel_rfl) (fun _ _ _ h => h) (Or.inl ⟨by rfl, ?_⟩) ?_ ?_
  rotate_left
  · intro w'
    go_simp
    with_reducible rfl
  rotate_left
  · simp only [Act.put, List.setIfInBounds_toArray, List.set_cons_zero, List.set_cons_succ, i64_w, i32_w]
    rfl
  refine pure_ (i := 23) (N := some 29) (v := ?_) (a' := ?_) #[true, true, true, true, true, true, true, true, true, true, true, true, true, true, true, true, true, true, true, true, true, true, true, true, false, false, false, false, false, false, false, false, false] rfl rfl (by kernel_rfl) (fun _ _ _ h => h) (Or.inl ⟨by rfl, ?_⟩) ?_ ?_
  rotate_left
  · intro w'
    go_simp
    with_reducible rfl
  rotate_left
  · simp only [Act.put, List.setIfInBounds_toArray, List.set_cons_zero, List.set_cons_succ, i64_w, i32_w]
    rfl
  refine take_ (i := 24) (N := some 30) (v := ?_) (a' := ?_) #[true, true, true, true, true, true, true, true, true, true, true, true, true, true, true, true, true, true, true, true, true, true, true, true, true, false, false, false, false, false, false, false, false] rfl rfl (by kernel_rfl) (fun _ _ _ h => h) (Or.inl ⟨by rfl, ?_⟩) hHeld ?_ ?_
  rotate_left
  · rintro w' ⟨s0, s1, s2, s3, s4, s5⟩
    go_simp
    with_reducible rfl
  rotate_left
  · simp only [Act.put, List.setIfInBounds_toArray, List.set_cons_zero, List.set_cons_succ, i64_w, i32_w]
    rfl
  refine one_ (i := 25) (N := some 31) #[true, true, true, true, true, true, true, true, true, true, true, true, true, true, true, true, true, true, true, true, true, true, true, true, true, true, false, false, false, false, false, false, false] rfl rfl (by kernel_rfl) (by decide) (fun K hK => ?_)
  refine goes_ Tryd.func71 (by kernel_rfl) rfl #[.int .i64 f.st, .int .i64 0, .int .i64 2147483647] (by rfl) rfl rfl (by simp only [List.map_toArray, List.map_cons, List.map_nil]; rfl) ?_
  with_reducible refine (within_calls f.st 0 2147483647 true _ HX2.out).mono ?_
  rintro e w3 ⟨rfl, hb⟩
  refine ⟨_, rfl, ?_⟩
  refine hK.out _ _ ⟨(hb.cell (World.block_lt_of_cell? _ _ hHeld.1)).trans hHeld.1, (hb.cell (World.block_lt_of_cell? _ _ hHeld.2.1)).trans hHeld.2.1, (hb.cell (World.block_lt_of_cell? _ _ hHeld.2.2.1)).trans hHeld.2.2.1, At.low hHeld.2.2.2.1 hb, GL.below hHeld.2.2.2.2.1 hb, below_then hHeld.2.2.2.2.2 (hHeld.2.2.2.2.2).size hb⟩ (fun hHeld => ?_)
  clear hK K
  refine norm_ (a' := ?_) ?_ ?_
  rotate_left
  · show Act.put _ (some 31) _ = _
    simp only [Act.put, List.setIfInBounds_toArray, List.set_cons_zero, List.set_cons_succ, i64_w, i32_w]
    rfl
  refine pure_ (i := 26) (N := some 32) (v := ?_) (a' := ?_) #[true, true, true, true, true, true, true, true, true, true, true, true, true, true, true, true, true, true, true, true, true, true, true, true, true, true, true, false, false, false, false, false, false] rfl rfl (by kernel_rfl) (fun _ _ _ h => h) (Or.inl ⟨by rfl, ?_⟩) ?_ ?_
  rotate_left
  · intro w'
    go_simp
    with_reducible rfl
  rotate_left
  · simp only [Act.put, List.setIfInBounds_toArray, List.set_cons_zero, List.set_cons_succ, i64_w, i32_w]
    rfl
  refine pure_ (i := 27) (N := some 33) (v := ?_) (a' := ?_) #[true, true, true, true, true, true, true, true, true, true, true, true, true, true, true, true, true, true, true, true, true, true, true, true, true, true, true, true, false, false, false, false, false] rfl rfl (by kernel_rfl) (fun _ _ _ h => h) (Or.inl ⟨by rfl, ?_⟩) ?_ ?_
  rotate_left
  · intro w'
    go_simp
    with_reducible rfl
  rotate_left
  · simp only [Act.put, List.setIfInBounds_toArray, List.set_cons_zero, List.set_cons_succ, i64_w, i32_w]
    rfl
  refine pure_ (i := 28) (N := some 34) (v := ?_) (a' := ?_) #[true, true, true, true, true, true, true, true, true, true, true, true, true, true, true, true, true, true, true, true, true, true, true, true, true, true, true, true, true, false, false, false, false] rfl rfl (by kernel_rfl) (fun _ _ _ h => h) (Or.inl ⟨by rfl, ?_⟩) ?_ ?_
  rotate_left
  · intro w'
    go_simp
    with_reducible rfl
  rotate_left
  · simp only [Act.put, List.setIfInBounds_toArray, List.set_cons_zero, List.set_cons_succ, i64_w, i32_w]
    rfl
  refine pure_ (i := 29) (N := some 35) (v := ?_) (a' := ?_) #[true, true, true, true, true, true, true, true, true, true, true, true, true, true, true, true, true, true, true, true, true, true, true, true, true, true, true, true, true, true, false, false, false] rfl rfl (by kernel_rfl) (fun _ _ _ h => h) (Or.inl ⟨by rfl, ?_⟩) ?_ ?_
  rotate_left
  · intro w'
    go_simp
    with_reducible rfl
  rotate_left
  · simp only [Act.put, List.setIfInBounds_toArray, List.set_cons_zero, List.set_cons_succ, i64_w, i32_w]
    rfl
  refine one_ (i := 30) (N := some 36) #[true, true, true, true, true, true, true, true, true, true, true, true, true, true, true, true, true, true, true, true, true, true, true, true, true, true, true, true, true, true, true, false, false] rfl rfl (by kernel_rfl) (by decide) (fun K hK => ?_)
  refine goes_ Tryd.func59 (by kernel_rfl) rfl #[.pointer (some ⟨g, 0, none⟩)] (by rfl) rfl rfl (by simp only [List.map_toArray, List.map_cons, List.map_nil]; rfl) ?_
  with_reducible refine (stands_calls g f A c true _ hHeld.2.2.2.1 hHeld.2.2.2.2.1 H0.out HX3.out).mono ?_
  rintro e w3 ⟨rfl, hb⟩
  refine ⟨_, rfl, ?_⟩
  refine hK.out _ _ ⟨(hb.cell (World.block_lt_of_cell? _ _ hHeld.1)).trans hHeld.1, (hb.cell (World.block_lt_of_cell? _ _ hHeld.2.1)).trans hHeld.2.1, (hb.cell (World.block_lt_of_cell? _ _ hHeld.2.2.1)).trans hHeld.2.2.1, At.low hHeld.2.2.2.1 hb, GL.below hHeld.2.2.2.2.1 hb, below_then hHeld.2.2.2.2.2 (hHeld.2.2.2.2.2).size hb⟩ (fun hHeld => ?_)
  clear hK K
  refine norm_ (a' := ?_) ?_ ?_
  rotate_left
  · show Act.put _ (some 36) _ = _
    simp only [Act.put, List.setIfInBounds_toArray, List.set_cons_zero, List.set_cons_succ, i64_w, i32_w]
    rfl
  refine pure_ (i := 31) (N := some 37) (v := ?_) (a' := ?_) #[true, true, true, true, true, true, true, true, true, true, true, true, true, true, true, true, true, true, true, true, true, true, true, true, true, true, true, true, true, true, true, true, false] rfl rfl (by kernel_rfl) (fun _ _ _ h => h) (Or.inl ⟨by rfl, ?_⟩) ?_ ?_
  rotate_left
  · intro w'
    go_simp
    with_reducible rfl
  rotate_left
  · simp only [Act.put, List.setIfInBounds_toArray, List.set_cons_zero, List.set_cons_succ, i64_w, i32_w]
    rfl
  refine pure_ (i := 32) (N := some 38) (v := ?_) (a' := ?_) #[true, true, true, true, true, true, true, true, true, true, true, true, true, true, true, true, true, true, true, true, true, true, true, true, true, true, true, true, true, true, true, true, true] rfl rfl (by kernel_rfl) (fun _ _ _ h => h) (Or.inl ⟨by rfl, ?_⟩) ?_ ?_
  rotate_left
  · intro w'
    go_simp
    with_reducible rfl
  rotate_left
  · simp only [Act.put, List.setIfInBounds_toArray, List.set_cons_zero, List.set_cons_succ, i64_w, i32_w]
    rfl
  refine done_ (by kernel_rfl) ?_
  have e0 := hHeld.1
  have e1 := hHeld.2.1
  have e2 := hHeld.2.2.1
  have e3 := hHeld.2.2.2.1
  have e4 : Below w.heap.size w _ := hHeld.2.2.2.2.2
  clear hHeld d0 d1 d2 d3 d4 d5 hfl h1
  go_upto_region 3 with fail
  refine start_ (n := 15) (S := fun w' => w'.cell? ⟨g, 0, none⟩ = some (.int .i64 f.ty) ∧ w'.cell? ⟨g, 1, none⟩ = some (.int .i64 f.fl) ∧ w'.cell? ⟨g, 2, none⟩ = some (.int .i64 f.st) ∧ At w' g f A c ∧ Below w.heap.size w w') (ds := [14]) #[false, false, false, false, false, false, false, false, false, false, false, false, false, false, false] (by kernel_rfl) rfl rfl ⟨e0, e1, e2, e3, below_drew e4⟩ (fun hHeld => ?_)
  refine pure_ (i := 0) (N := some 39) (v := ?_) (a' := ?_) #[true, false, false, false, false, false, false, false, false, false, false, false, false, false, false] rfl rfl (by kernel_rfl) (fun _ _ _ h => h) (Or.inl ⟨by rfl, ?_⟩) ?_ ?_
  rotate_left
  · intro w'
    go_simp
    with_reducible rfl
  rotate_left
  · simp only [Act.put, List.setIfInBounds_toArray, List.set_cons_zero, List.set_cons_succ, i64_w, i32_w]
    rfl
  refine pure_ (i := 1) (N := some 40) (v := ?_) (a' := ?_) #[true, true, false, false, false, false, false, false, false, false, false, false, false, false, false] rfl rfl (by kernel_rfl) (fun _ _ _ h => h) (Or.inl ⟨by rfl, ?_⟩) ?_ ?_
  rotate_left
  · intro w'
    go_simp
    with_reducible rfl
  rotate_left
  · simp only [Act.put, List.setIfInBounds_toArray, List.set_cons_zero, List.set_cons_succ, i64_w, i32_w]
    rfl
  refine pure_ (i := 2) (N := some 41) (v := ?_) (a' := ?_) #[true, true, true, false, false, false, false, false, false, false, false, false, false, false, false] rfl rfl (by kernel_rfl) (fun _ _ _ h => h) (Or.inl ⟨by rfl, ?_⟩) ?_ ?_
  rotate_left
  · intro w'
    go_simp
    with_reducible rfl
  rotate_left
  · simp only [Act.put, List.setIfInBounds_toArray, List.set_cons_zero, List.set_cons_succ, i64_w, i32_w]
    rfl
  refine pure_ (i := 4) (N := some 43) (v := ?_) (a' := ?_) #[true, true, true, false, true, false, false, false, false, false, false, false, false, false, false] rfl rfl (by kernel_rfl) (fun _ _ _ h => h) (Or.inl ⟨by rfl, ?_⟩) ?_ ?_
  rotate_left
  · intro w'
    go_simp
    with_reducible rfl
  rotate_left
  · simp only [Act.put, List.setIfInBounds_toArray, List.set_cons_zero, List.set_cons_succ, i64_w, i32_w]
    rfl
  refine pure_ (i := 5) (N := some 44) (v := ?_) (a' := ?_) #[true, true, true, false, true, true, false, false, false, false, false, false, false, false, false] rfl rfl (by kernel_rfl) (fun _ _ _ h => h) (Or.inl ⟨by rfl, ?_⟩) ?_ ?_
  rotate_left
  · intro w'
    go_simp
    with_reducible rfl
  rotate_left
  · simp only [Act.put, List.setIfInBounds_toArray, List.set_cons_zero, List.set_cons_succ, i64_w, i32_w]
    rfl
  refine pure_ (i := 6) (N := some 45) (v := ?_) (a' := ?_) #[true, true, true, false, true, true, true, false, false, false, false, false, false, false, false] rfl rfl (by kernel_rfl) (fun _ _ _ h => h) (Or.inl ⟨by rfl, ?_⟩) ?_ ?_
  rotate_left
  · intro w'
    go_simp
    with_reducible rfl
  rotate_left
  · simp only [Act.put, List.setIfInBounds_toArray, List.set_cons_zero, List.set_cons_succ, i64_w, i32_w]
    rfl
  refine pure_ (i := 8) (N := some 47) (v := ?_) (a' := ?_) #[true, true, true, false, true, true, true, false, true, false, false, false, false, false, false] rfl rfl (by kernel_rfl) (fun _ _ _ h => h) (Or.inl ⟨by rfl, ?_⟩) ?_ ?_
  rotate_left
  · intro w'
    go_simp
    with_reducible rfl
  rotate_left
  · simp only [Act.put, List.setIfInBounds_toArray, List.set_cons_zero, List.set_cons_succ, i64_w, i32_w]
    rfl
  refine pure_ (i := 9) (N := some 48) (v := ?_) (a' := ?_) #[true, true, true, false, true, true, true, false, true, true, false, false, false, false, false] rfl rfl (by kernel_rfl) (fun _ _ _ h => h) (Or.inl ⟨by rfl, ?_⟩) ?_ ?_
  rotate_left
  · intro w'
    go_simp
    with_reducible rfl
  rotate_left
  · simp only [Act.put, List.setIfInBounds_toArray, List.set_cons_zero, List.set_cons_succ, i64_w, i32_w]
    rfl
  refine pure_ (i := 10) (N := some 49) (v := ?_) (a' := ?_) #[true, true, true, false, true, true, true, false, true, true, true, false, false, false, false] rfl rfl (by kernel_rfl) (fun _ _ _ h => h) (Or.inl ⟨by rfl, ?_⟩) ?_ ?_
  rotate_left
  · intro w'
    go_simp
    with_reducible rfl
  rotate_left
  · simp only [Act.put, List.setIfInBounds_toArray, List.set_cons_zero, List.set_cons_succ, i64_w, i32_w]
    rfl
  refine take_ (i := 3) (N := some 42) (v := ?_) (a' := ?_) #[true, true, true, true, true, true, true, false, true, true, true, false, false, false, false] rfl rfl (by kernel_rfl) (fun _ _ _ h => h) (Or.inl ⟨by rfl, ?_⟩) hHeld ?_ ?_
  rotate_left
  · rintro w' ⟨s0, s1, s2, s3, s4⟩
    go_simp
    with_reducible rfl
  rotate_left
  · simp only [Act.put, List.setIfInBounds_toArray, List.set_cons_zero, List.set_cons_succ, i64_w, i32_w]
    rfl
  refine take_ (i := 7) (N := some 46) (v := ?_) (a' := ?_) #[true, true, true, true, true, true, true, true, true, true, true, false, false, false, false] rfl rfl (by kernel_rfl) (fun _ _ _ h => h) (Or.inl ⟨by rfl, ?_⟩) hHeld ?_ ?_
  rotate_left
  · rintro w' ⟨s0, s1, s2, s3, s4⟩
    go_simp
    with_reducible rfl
  rotate_left
  · simp only [Act.put, List.setIfInBounds_toArray, List.set_cons_zero, List.set_cons_succ, i64_w, i32_w]
    rfl
  refine take_ (i := 11) (N := some 50) (v := ?_) (a' := ?_) #[true, true, true, true, true, true, true, true, true, true, true, true, false, false, false] rfl rfl (by kernel_rfl) (fun _ _ _ h => h) (Or.inl ⟨by rfl, ?_⟩) hHeld ?_ ?_
  rotate_left
  · rintro w' ⟨s0, s1, s2, s3, s4⟩
    go_simp
    with_reducible rfl
  rotate_left
  · simp only [Act.put, List.setIfInBounds_toArray, List.set_cons_zero, List.set_cons_succ, i64_w, i32_w]
    rfl
  refine pure_ (i := 12) (N := some 51) (v := ?_) (a' := ?_) #[true, true, true, true, true, true, true, true, true, true, true, true, true, false, false] rfl rfl (by kernel_rfl) (fun _ _ _ h => h) (Or.inl ⟨by rfl, ?_⟩) ?_ ?_
  rotate_left
  · intro w'
    go_simp
    with_reducible rfl
  rotate_left
  · simp only [Act.put, List.setIfInBounds_toArray, List.set_cons_zero, List.set_cons_succ, i64_w, i32_w]
    rfl
  refine one_ (i := 13) (N := some 3) #[true, true, true, true, true, true, true, true, true, true, true, true, true, true, false] rfl rfl (by kernel_rfl) (by decide) (fun K hK => ?_)
  refine value_ (w1 := ?_) (v := ?_) (by rfl) rfl ?_ ?_
  rotate_left 2
  · go_simp
    constructor
    · rfl
    · rfl
  refine hK.out _ _ ⟨((below_alloc (Below.refl _ _) _).cell (World.block_lt_of_cell? _ _ hHeld.1)).trans hHeld.1, ((below_alloc (Below.refl _ _) _).cell (World.block_lt_of_cell? _ _ hHeld.2.1)).trans hHeld.2.1, ((below_alloc (Below.refl _ _) _).cell (World.block_lt_of_cell? _ _ hHeld.2.2.1)).trans hHeld.2.2.1, At.low hHeld.2.2.2.1 (below_alloc (Below.refl _ _) _), below_then hHeld.2.2.2.2 (hHeld.2.2.2.2).size (below_alloc (Below.refl _ _) _)⟩ (fun hHeld => ?_)
  clear hK K
  refine norm_ (a' := ?_) ?_ ?_
  rotate_left
  · show Act.put _ (some 3) _ = _
    simp only [Act.put, List.setIfInBounds_toArray, List.set_cons_zero, List.set_cons_succ, i64_w, i32_w]
    rfl
  refine last_ (i := 14) (N := none) #[true, true, true, true, true, true, true, true, true, true, true, true, true, true, true] rfl rfl (by kernel_rfl) (by decide) (fun K hK => ?_)
  refine skip_ (w1 := ?_) (by rfl) rfl ?_ ?_
  rotate_left
  · go_simp
    rfl
  refine hK.out _ _ ?_
  clear hK K
  refine done_ (by kernel_rfl) ?_
  obtain ⟨W1, hW1⟩ : ∃ W, (w3.alloc (.cells #[.int .i64 f.ty, .int .i64 f.fl, .int .i64 f.st, .string ⟨#[]⟩, .int .i64 0, .int .i64 0, .bool false, .int .i64 0, .int .i64 0, .int .i64 0, .slice none 0 0] 24)).drew = W := ⟨_, rfl⟩
  obtain ⟨bg, hbg⟩ : ∃ x, w3.heap.size = x := ⟨_, rfl⟩
  have R1 : Aside0 (RInv w W1 g bg f ⟨f.ty, f.fl, f.st, ByteArray.empty, 0, 0, false, 0, 0, 0, []⟩ A c) := ⟨by
    rw [← hW1, ← hbg]
    exact ⟨e3.low (below_drew (below_alloc (Below.refl _ _) _)), blk_new w3 _, rfl, below_drew (below_then e4 e4.size (below_alloc (Below.refl _ _) _)), e4.size, HLT.out⟩⟩
  rw [hW1, hbg]
  clear hW1 hbg e0 e1 e2 e3 e4
  repeat (rename World.cell? _ _ = _ ∧ _ => hh; clear hh)
  repeat (rename Below _ _ _ => hh; clear hh)
  obtain ⟨pb, hpb⟩ : ∃ x, padB f = x := ⟨_, rfl⟩
  have HPB := Aside0.mk hpb
  clear hpb
  go_upto_if 53 with (go_at_call 46; refine (padded_calls g f A c pb _ R1.out.fr HPB.out).mono ?_; rintro e w8 ⟨rfl, rfl⟩)
  go_cut [2] from 54 to 58 (fun v2 wc => v2 = .bool false ∧ Aside0 (RInv w wc g bg f ⟨f.ty, f.fl, f.st, ByteArray.empty, ownPad f, 0, false, 0, 0, 0, []⟩ A c))
  case first =>
    as_aux_lemma =>
      cases pb
      · go_wp2_with fail
        go_meet
        case rel => exact ⟨rfl, ⟨by have h := R1.out; unfold ownPad; rw [HPB.out]; exact h⟩⟩
      · have z4 := R1.out.fr.c4
        have y4 := R1.out.own.c4
        have yf : W1.frozen? ⟨bg, 4, none⟩ = false := blk_frozen R1.out.own 4
        have e : ownPad f = f.pad := if_pos HPB.out
        have HE := Aside0.mk e
        clear e
        go_wp2_with fail
        go_meet
        case rel => exact ⟨rfl, ⟨by rw [HE.out]; exact R1.out.put4 f.pad⟩⟩
  case rest =>
    obtain ⟨rfl, R2⟩ := hcut
    clear R1
    go_upto_region 6 with fail
    go_cut [2, 78] from 59 to 77 (fun v2 v78 wc => v2 = .bool false ∧ v78 = .bool (prioB f) ∧ Aside0 (RInv w wc g bg f ⟨f.ty, f.fl, f.st, ByteArray.empty, ownPad f, 0, false, 0, 0, 0, []⟩ A c))
    case first =>
      as_aux_lemma =>
        have z0 := R2.out.fr.c0
        have z1 := R2.out.fr.c1
        cases t2 : (f.ty == 2)
        · cases t1 : (f.ty == 1)
          · have e : prioB f = false := by unfold prioB; rw [t2, t1]; rfl
            have HE := Aside0.mk e
            clear e
            go_wp2_with fail
            go_meet
            case rel => exact ⟨rfl, by rw [HE.out], R2⟩
          · have e : prioB f = (Go.bits .and .i64 f.fl 32 != 0) := by unfold prioB has; rw [t2, t1]; rfl
            have HE := Aside0.mk e
            clear e
            go_wp2_with fail
            go_meet
            case rel => exact ⟨rfl, by rw [HE.out], R2⟩
        · have e : prioB f = true := by unfold prioB; rw [t2]; rfl
          have HE := Aside0.mk e
          clear e
          go_wp2_with fail
          go_meet
          case rel => exact ⟨rfl, by rw [HE.out], R2⟩
    case rest =>
      obtain ⟨rfl, rfl, R2'⟩ := hcut
      clear R2
      have R2 := R2'
      clear R2'
      obtain ⟨pr, hpr⟩ : ∃ x, prioB f = x := ⟨_, rfl⟩
      have HP := Aside0.mk hpr
      rw [hpr]
      clear hpr
      go_upto_if 78 with fail
      go_cut [2] from 79 to 99 (fun v2 wc => v2 = .bool false ∧ Aside0 ((!prioB f || inR f.wt 1 256) = true) ∧ Aside0 (RInv w wc g bg f ⟨f.ty, f.fl, f.st, ByteArray.empty, ownPad f, ownDep f, ownEx f, ownWt f, 0, 0, []⟩ A c))
      case first =>
        as_aux_lemma =>
          cases pr
          · have R3 : Aside0 (RInv w wc g bg f ⟨f.ty, f.fl, f.st, ByteArray.empty, ownPad f, ownDep f, ownEx f, ownWt f, 0, 0, []⟩ A c) := ⟨by unfold ownDep ownEx ownWt; rw [HP.out]; exact R2.out⟩
            go_wp2_with fail
            go_meet
            case rel => exact ⟨rfl, ⟨by rw [HP.out]; rfl⟩, R3⟩
          · have R3 : ∀ W, RInv w W g bg f ⟨f.ty, f.fl, f.st, ByteArray.empty, ownPad f, f.dep, f.ex, f.wt, 0, 0, []⟩ A c → RInv w W g bg f ⟨f.ty, f.fl, f.st, ByteArray.empty, ownPad f, ownDep f, ownEx f, ownWt f, 0, 0, []⟩ A c := fun W h => by
              rw [show ownDep f = f.dep from if_pos HP.out, show ownEx f = f.ex from if_pos HP.out, show ownWt f = f.wt from if_pos HP.out]; exact h
            have HR3 := Aside0.mk R3
            clear R3
            go_upto_region 7 with fail
            refine start_ (n := 18) (S := fun w' => w'.cell? ⟨g, 5, none⟩ = some (.int .i64 f.dep) ∧ w'.cell? ⟨g, 6, none⟩ = some (.bool f.ex) ∧ w'.cell? ⟨g, 7, none⟩ = some (.int .i64 f.wt) ∧ ∃ h', RInv w w' g bg f h' A c) (ds := [17]) #[false, false, false, false, false, false, false, false, false, false, false, false, false, false, false, false, false, false] (by kernel_rfl) rfl rfl ⟨R2.out.fr.c5, R2.out.fr.c6, R2.out.fr.c7, ⟨_, R2.out.below (below_drew (Below.refl _ _))⟩⟩ (fun hHeld => ?_)
            refine pure_ (i := 0) (N := some 79) (v := ?_) (a' := ?_) #[true, false, false, false, false, false, false, false, false, false, false, false, false, false, false, false, false, false] rfl rfl (by kernel_rfl) (fun _ _ _ h => h) (Or.inl ⟨by rfl, ?_⟩) ?_ ?_
            rotate_left
            · intro w'
              go_simp
              with_reducible rfl
            rotate_left
            · simp only [Act.put, List.setIfInBounds_toArray, List.set_cons_zero, List.set_cons_succ, i64_w, i32_w]
              rfl
            refine pure_ (i := 1) (N := some 80) (v := ?_) (a' := ?_) #[true, true, false, false, false, false, false, false, false, false, false, false, false, false, false, false, false, false] rfl rfl (by kernel_rfl) (fun _ _ _ h => h) (Or.inl ⟨by rfl, ?_⟩) ?_ ?_
            rotate_left
            · intro w'
              go_simp
              with_reducible rfl
            rotate_left
            · simp only [Act.put, List.setIfInBounds_toArray, List.set_cons_zero, List.set_cons_succ, i64_w, i32_w]
              rfl
            refine pure_ (i := 2) (N := some 81) (v := ?_) (a' := ?_) #[true, true, true, false, false, false, false, false, false, false, false, false, false, false, false, false, false, false] rfl rfl (by kernel_rfl) (fun _ _ _ h => h) (Or.inl ⟨by rfl, ?_⟩) ?_ ?_
            rotate_left
            · intro w'
              go_simp
              with_reducible rfl
            rotate_left
            · simp only [Act.put, List.setIfInBounds_toArray, List.set_cons_zero, List.set_cons_succ, i64_w, i32_w]
              rfl
            refine pure_ (i := 4) (N := some 83) (v := ?_) (a' := ?_) #[true, true, true, false, true, false, false, false, false, false, false, false, false, false, false, false, false, false] rfl rfl (by kernel_rfl) (fun _ _ _ h => h) (Or.inl ⟨by rfl, ?_⟩) ?_ ?_
            rotate_left
            · intro w'
              go_simp
              with_reducible rfl
            rotate_left
            · simp only [Act.put, List.setIfInBounds_toArray, List.set_cons_zero, List.set_cons_succ, i64_w, i32_w]
              rfl
            refine pure_ (i := 5) (N := some 84) (v := ?_) (a' := ?_) #[true, true, true, false, true, true, false, false, false, false, false, false, false, false, false, false, false, false] rfl rfl (by kernel_rfl) (fun _ _ _ h => h) (Or.inl ⟨by rfl, ?_⟩) ?_ ?_
            rotate_left
            · intro w'
              go_simp
              with_reducible rfl
            rotate_left
            · simp only [Act.put, List.setIfInBounds_toArray, List.set_cons_zero, List.set_cons_succ, i64_w, i32_w]
              rfl
            refine pure_ (i := 6) (N := some 85) (v := ?_) (a' := ?_) #[true, true, true, false, true, true, true, false, false, false, false, false, false, false, false, false, false, false] rfl rfl (by kernel_rfl) (fun _ _ _ h => h) (Or.inl ⟨by rfl, ?_⟩) ?_ ?_
            rotate_left
            · intro w'
              go_simp
              with_reducible rfl
            rotate_left
            · simp only [Act.put, List.setIfInBounds_toArray, List.set_cons_zero, List.set_cons_succ, i64_w, i32_w]
              rfl
            refine pure_ (i := 8) (N := some 87) (v := ?_) (a' := ?_) #[true, true, true, false, true, true, true, false, true, false, false, false, false, false, false, false, false, false] rfl rfl (by kernel_rfl) (fun _ _ _ h => h) (Or.inl ⟨by rfl, ?_⟩) ?_ ?_
            rotate_left
            · intro w'
              go_simp
              with_reducible rfl
            rotate_left
            · simp only [Act.put, List.setIfInBounds_toArray, List.set_cons_zero, List.set_cons_succ, i64_w, i32_w]
              rfl
            refine pure_ (i := 9) (N := some 88) (v := ?_) (a' := ?_) #[true, true, true, false, true, true, true, false, true, true, false, false, false, false, false, false, false, false] rfl rfl (by kernel_rfl) (fun _ _ _ h => h) (Or.inl ⟨by rfl, ?_⟩) ?_ ?_
            rotate_left
            · intro w'
              go_simp
              with_reducible rfl
            rotate_left
            · simp only [Act.put, List.setIfInBounds_toArray, List.set_cons_zero, List.set_cons_succ, i64_w, i32_w]
              rfl
            refine pure_ (i := 10) (N := some 89) (v := ?_) (a' := ?_) #[true, true, true, false, true, true, true, false, true, true, true, false, false, false, false, false, false, false] rfl rfl (by kernel_rfl) (fun _ _ _ h => h) (Or.inl ⟨by rfl, ?_⟩) ?_ ?_
            rotate_left
            · intro w'
              go_simp
              with_reducible rfl
            rotate_left
            · simp only [Act.put, List.setIfInBounds_toArray, List.set_cons_zero, List.set_cons_succ, i64_w, i32_w]
              rfl
            refine take_ (i := 3) (N := some 82) (v := ?_) (a' := ?_) #[true, true, true, true, true, true, true, false, true, true, true, false, false, false, false, false, false, false] rfl rfl (by kernel_rfl) (fun _ _ _ h => h) (Or.inl ⟨by rfl, ?_⟩) hHeld ?_ ?_
            rotate_left
            · rintro w' ⟨s0, s1, s2, s3⟩
              go_simp
              with_reducible rfl
            rotate_left
            · simp only [Act.put, List.setIfInBounds_toArray, List.set_cons_zero, List.set_cons_succ, i64_w, i32_w]
              rfl
            refine pure_ (i := 12) (N := some 91) (v := ?_) (a' := ?_) #[true, true, true, true, true, true, true, false, true, true, true, false, true, false, false, false, false, false] rfl rfl (by kernel_rfl) (fun _ _ _ h => h) (Or.inl ⟨by rfl, ?_⟩) ?_ ?_
            rotate_left
            · intro w'
              go_simp
              with_reducible rfl
            rotate_left
            · simp only [Act.put, List.setIfInBounds_toArray, List.set_cons_zero, List.set_cons_succ, i64_w, i32_w]
              rfl
            refine take_ (i := 7) (N := some 86) (v := ?_) (a' := ?_) #[true, true, true, true, true, true, true, true, true, true, true, false, true, false, false, false, false, false] rfl rfl (by kernel_rfl) (fun _ _ _ h => h) (Or.inl ⟨by rfl, ?_⟩) hHeld ?_ ?_
            rotate_left
            · rintro w' ⟨s0, s1, s2, s3⟩
              go_simp
              with_reducible rfl
            rotate_left
            · simp only [Act.put, List.setIfInBounds_toArray, List.set_cons_zero, List.set_cons_succ, i64_w, i32_w]
              rfl
            refine take_ (i := 11) (N := some 90) (v := ?_) (a' := ?_) #[true, true, true, true, true, true, true, true, true, true, true, true, true, false, false, false, false, false] rfl rfl (by kernel_rfl) (fun _ _ _ h => h) (Or.inl ⟨by rfl, ?_⟩) hHeld ?_ ?_
            rotate_left
            · rintro w' ⟨s0, s1, s2, s3⟩
              go_simp
              with_reducible rfl
            rotate_left
            · simp only [Act.put, List.setIfInBounds_toArray, List.set_cons_zero, List.set_cons_succ, i64_w, i32_w]
              rfl
            refine one_ (i := 13) (N := none) #[true, true, true, true, true, true, true, true, true, true, true, true, true, true, false, false, false, false] rfl rfl (by kernel_rfl) (by decide) (fun K hK => ?_)
            obtain ⟨h1, r1⟩ := hHeld.2.2.2
            have y1 := r1.own.c5
            have yf1 := blk_frozen r1.own 5
            refine skip_ (w1 := ?_) (by rfl) rfl ?_ ?_
            rotate_left
            · go_simp
              rfl
            clear y1 yf1
            refine hK.out _ _ ⟨(r1.put5 _).fr.c5, (r1.put5 _).fr.c6, (r1.put5 _).fr.c7, ⟨_, r1.put5 _⟩⟩ (fun hHeld => ?_)
            clear hK K
            refine pure_ (i := 14) (N := some 92) (v := ?_) (a' := ?_) #[true, true, true, true, true, true, true, true, true, true, true, true, true, true, true, false, false, false] rfl rfl (by kernel_rfl) (fun _ _ _ h => h) (Or.inl ⟨by rfl, ?_⟩) ?_ ?_
            rotate_left
            · intro w'
              go_simp
              with_reducible rfl
            rotate_left
            · simp only [Act.put, List.setIfInBounds_toArray, List.set_cons_zero, List.set_cons_succ, i64_w, i32_w]
              rfl
            refine one_ (i := 15) (N := none) #[true, true, true, true, true, true, true, true, true, true, true, true, true, true, true, true, false, false] rfl rfl (by kernel_rfl) (by decide) (fun K hK => ?_)
            obtain ⟨h1, r1⟩ := hHeld.2.2.2
            have y1 := r1.own.c6
            have yf1 := blk_frozen r1.own 6
            refine skip_ (w1 := ?_) (by rfl) rfl ?_ ?_
            rotate_left
            · go_simp
              rfl
            clear y1 yf1
            refine hK.out _ _ ⟨(r1.put6 _).fr.c5, (r1.put6 _).fr.c6, (r1.put6 _).fr.c7, ⟨_, r1.put6 _⟩⟩ (fun hHeld => ?_)
            clear hK K
            refine pure_ (i := 16) (N := some 93) (v := ?_) (a' := ?_) #[true, true, true, true, true, true, true, true, true, true, true, true, true, true, true, true, true, false] rfl rfl (by kernel_rfl) (fun _ _ _ h => h) (Or.inl ⟨by rfl, ?_⟩) ?_ ?_
            rotate_left
            · intro w'
              go_simp
              with_reducible rfl
            rotate_left
            · simp only [Act.put, List.setIfInBounds_toArray, List.set_cons_zero, List.set_cons_succ, i64_w, i32_w]
              rfl
            refine last_ (i := 17) (N := none) #[true, true, true, true, true, true, true, true, true, true, true, true, true, true, true, true, true, true] rfl rfl (by kernel_rfl) (by decide) (fun K hK => ?_)
            obtain ⟨h1, r1⟩ := hHeld.2.2.2
            have y1 := r1.own.c7
            have yf1 := blk_frozen r1.own 7
            refine skip_ (w1 := ?_) (by rfl) rfl ?_ ?_
            rotate_left
            · go_simp
              rfl
            clear y1 yf1 r1
            refine hK.out _ _ ?_
            clear hK K
            refine done_ (by kernel_rfl) ?_
            clear hHeld
            repeat (rename World.cell? _ _ = _ ∧ _ => hh; clear hh)
            obtain ⟨W7, hW7⟩ : ∃ W, (((wc.setCell ⟨bg, 5, none⟩ (.int .i64 f.dep)).setCell ⟨bg, 6, none⟩ (.bool f.ex)).setCell ⟨bg, 7, none⟩ (.int .i64 f.wt)).drew = W := ⟨_, rfl⟩
            have R7 : Aside0 (RInv w W7 g bg f ⟨f.ty, f.fl, f.st, ByteArray.empty, ownPad f, ownDep f, ownEx f, ownWt f, 0, 0, []⟩ A c) := ⟨by rw [← hW7]; exact HR3.out _ ((((R2.out.put5 f.dep).put6 f.ex).put7 f.wt).below (below_drew (Below.refl _ _)))⟩
            rw [hW7]
            clear hW7
            have z7 := R7.out.fr.c7
            cases hw : inR f.wt 1 256
            · have HW := Aside0.mk hw
              clear hw
              go_wp2_with (go_at_call 71; refine (within_calls f.wt 1 256 false _ HW.out).mono ?_; rintro e w9 ⟨rfl, hb9⟩; have HB9 := Aside0.mk hb9; clear hb9)
              go_ret
              exact ⟨by rw [HP.out, HW.out]; rfl, (R7.out.below HB9.out).low⟩
            · have HW := Aside0.mk hw
              clear hw
              go_wp2_with (go_at_call 71; refine (within_calls f.wt 1 256 true _ HW.out).mono ?_; rintro e w9 ⟨rfl, hb9⟩; have HB9 := Aside0.mk hb9; clear hb9)
              go_meet
              case rel => exact ⟨rfl, ⟨by rw [HP.out, HW.out]; rfl⟩, ⟨R7.out.below HB9.out⟩⟩
      case rest =>
        obtain ⟨rfl, HPR, R3⟩ := hcut
        clear R2
        have z0 := R3.out.fr.c0
        go_upto_block 0 with fail
        clear z0
        go_cut [2] from 104 to 189 (fun v2 wc => v2 = .bool false ∧ Aside0 ((f.ty != 4 || parB f) = true) ∧ Aside0 (RInv w wc g bg f ⟨f.ty, f.fl, f.st, ownDa f, ownPad f, ownDep f, ownEx f, ownWt f, ownCo f, ownLa f, []⟩ A c))
        case first =>
          as_aux_lemma =>
            by_cases h3 : f.ty = 3
            · skip
              have H := Aside0.mk h3
              clear h3
              have t3 : (f.ty == 3) = true := by rw [H.out]; rfl
              have E : Aside0 (ownCo f = f.co ∧ ownLa f = 0 ∧ ownDa f = ByteArray.empty) := ⟨by unfold ownCo ownLa ownDa; rw [H.out]; exact ⟨by simp, by simp, by simp⟩⟩
              have z8 := R3.out.fr.c8
              have y8 := R3.out.own.c8
              have yf8 : wc.frozen? ⟨bg, 8, none⟩ = false := blk_frozen R3.out.own 8
              go_wp2_with fail
              go_meet
              case rel => exact ⟨rfl, ⟨by rw [H.out]; rfl⟩, ⟨by rw [E.out.1, E.out.2.1, E.out.2.2]; exact R3.out.put8 f.co⟩⟩
            · skip
              by_cases h4 : f.ty = 4
              · skip
                have H := Aside0.mk h4
                clear h4
                have t3 : (f.ty == 3) = false := by rw [H.out]; rfl
                have t4 : (f.ty == 4) = true := by rw [H.out]; rfl
                have E : Aside0 (ownCo f = 0 ∧ ownLa f = 0 ∧ ownDa f = ByteArray.empty) := ⟨by unfold ownCo ownLa ownDa; rw [H.out]; exact ⟨by simp, by simp, by simp⟩⟩
                have z1 := R3.out.fr.c1
                have z10 := R3.out.fr.c10
                have RR : Aside0 (∀ W, RInv w W g bg f ⟨f.ty, f.fl, f.st, ByteArray.empty, ownPad f, ownDep f, ownEx f, ownWt f, 0, 0, []⟩ A c → RInv w W g bg f ⟨f.ty, f.fl, f.st, ownDa f, ownPad f, ownDep f, ownEx f, ownWt f, ownCo f, ownLa f, []⟩ A c) := ⟨fun W h => by rw [E.out.1, E.out.2.1, E.out.2.2]; exact h⟩
                obtain ⟨b1, hb1⟩ : ∃ b, (Go.bits .and .i64 f.fl 1 != 0) = b := ⟨_, rfl⟩
                have HPB : Aside0 (parB f = (!(b1 && decide (0 < f.ps.length)) && f.ps.all parOk)) := ⟨by rw [← hb1]; rfl⟩
                obtain ⟨ps, hpsq⟩ : ∃ ps, f.ps = ps := ⟨_, rfl⟩
                have hC := HPS.out
                rw [hpsq] at hC z10
                have HPB2 : Aside0 (parB f = (!(b1 && decide (0 < ps.length)) && ps.all parOk)) := ⟨by rw [HPB.out, hpsq]⟩
                have hl63 : ps.length ≤ 9223372036854775807 := hC.2.1
                have HC := Aside0.mk hC
                clear hC hpsq HPB
                by_cases hbad : b1 = true ∧ 0 < ps.length
                · obtain ⟨rfl, hpos⟩ := hbad
                  have hp1 : decide ((0 : Int) < (ps.length : Int)) = true := decide_eq_true (by omega)
                  have hp2 : decide (0 < ps.length) = true := decide_eq_true hpos
                  have HV : Aside0 (parB f = false) := ⟨by rw [HPB2.out, hp2]; rfl⟩
                  clear hpos
                  go_wp2_with fail
                  go_ret
                  exact ⟨by rw [HV.out, H.out, HPR.out]; rfl, R3.out.low⟩
                · have HV : Aside0 (parB f = ps.all parOk) := ⟨by
                    rw [HPB2.out]
                    cases b1
                    · rfl
                    · have : ¬ 0 < ps.length := fun h => hbad ⟨rfl, h⟩
                      rw [decide_eq_false this]; rfl⟩
                  have hgo : b1 = false ∨ (b1 = true ∧ ps.length = 0) := by
                    cases b1
                    · exact .inl rfl
                    · exact .inr ⟨rfl, by have : ¬ 0 < ps.length := fun h => hbad ⟨rfl, h⟩; omega⟩
                  clear hbad
                  have stepL : ∃ q : Nat, q = 0 := ⟨0, rfl⟩
                  clear stepL
                  rcases hgo with rfl | ⟨rfl, hz⟩
                  all_goals
                    first
                      | (have hp1 : decide ((0 : Int) < (ps.length : Int)) = false := decide_eq_false (by omega); have hp2 : decide (0 < ps.length) = false := decide_eq_false (by omega); have HZ := Aside0.mk hz; clear hz)
                      | skip
                    go_wp2_with fail
                    first
                      | clear hp1 hp2
                      | skip
                    go_loopw [2, 137] (fun v2 i w' => ∃ (k : Nat), k ≤ ps.length ∧ v2 = .bool false ∧ i = .int .i64 k ∧ Aside0 ((ps.drop k).all parOk = ps.all parOk) ∧ Aside0 (RInv w w' g bg f ⟨f.ty, f.fl, f.st, ByteArray.empty, ownPad f, ownDep f, ownEx f, ownWt f, 0, 0, []⟩ A c)) (fun _ i _ => ps.length - (intOf i).toNat)
                    case atStart => exact ⟨0, Nat.zero_le _, rfl, rfl, ⟨rfl⟩, R3⟩
                    case round =>
                      obtain ⟨k, hk, rfl, rfl, HA, RK⟩ := hrel
                      by_cases hlt : k < ps.length
                      · have p0 : (0 : Int) ≤ k := by omega
                        have q0 : (k : Int) < (ps.length : Int) := by omega
                        have hst := parOk_step ps k hlt
                        obtain ⟨ad, e0, y0, y1⟩ := at_T32 (Kd.C_below HC.out RK.out.low) k p0 q0
                        cases e0
                        obtain ⟨id, hid⟩ : ∃ K, (rd_T32 ps (k : Int)).f0 = K := ⟨_, rfl⟩
                        obtain ⟨x, hx⟩ : ∃ K, (rd_T32 ps (k : Int)).f1 = K := ⟨_, rfl⟩
                        simp only [Int.toNat_natCast] at y0 y1
                        unfold parOk at hst
                        rw [hid, hx] at hst
                        rw [hid] at y0
                        rw [hx] at y1
                        have HST : Aside0 ((ps.drop k).all parOk = ((inR id 0 65535 && inR x 0 4294967295) && (ps.drop (k + 1)).all parOk)) := ⟨hst⟩
                        clear hid hx hst
                        go_upto_region 20 with fail
                        obtain ⟨W5, hW5⟩ : ∃ W, wr.alloc (.cells #[.int .i64 id, .int .i64 x] 32) = W := ⟨_, rfl⟩
                        obtain ⟨b5, hb5⟩ : ∃ b, wr.heap.size = b := ⟨_, rfl⟩
                        have X5 : Aside0 (W5.heap[b5]? = some (.cells #[.int .i64 id, .int .i64 x] 32 (0, 0))) := ⟨by rw [← hW5, ← hb5]; exact blk_new wr _⟩
                        have K5 : Aside0 (RInv w W5 g bg f ⟨f.ty, f.fl, f.st, ByteArray.empty, ownPad f, ownDep f, ownEx f, ownWt f, 0, 0, []⟩ (some ad) c) := ⟨by rw [← hW5]; exact RK.out.below (below_alloc (Below.refl _ _) _)⟩
                        rw [hW5, hb5]
                        clear hW5 hb5 y0 y1
                        have x0 : W5.cell? ⟨b5, 0, none⟩ = some (.int .i64 id) := blk_cell X5.out 0
                        cases hi : inR id 0 65535
                        · have HI := Aside0.mk hi
                          clear hi
                          go_wp2_with (go_at_call 71; refine (within_calls id 0 65535 false _ HI.out).mono ?_; rintro e w9 ⟨rfl, hb9⟩; have HB9 := Aside0.mk hb9; clear hb9)
                          go_ret
                          exact ⟨by rw [HV.out, H.out, ← HA.out, HST.out, HI.out, HPR.out]; rfl, (K5.out.below HB9.out).low⟩
                        · have HI := Aside0.mk hi
                          clear hi
                          cases hj : inR x 0 4294967295
                          · have HJ := Aside0.mk hj
                            clear hj
                            go_wp2_with (first
                              | (go_at_call 71; (with_reducible refine (within_calls id 0 65535 true _ HI.out).mono ?_); rintro e w9 ⟨rfl, hb9⟩; have HB9 := Aside0.mk hb9; have x1 : w9.cell? ⟨b5, 1, none⟩ = some (.int .i64 x) := blk_cell (blk_below X5.out hb9) 1; clear hb9)
                              | (go_at_call 71; (with_reducible refine (within_calls x 0 4294967295 false _ HJ.out).mono ?_); rintro e w10 ⟨rfl, hb9⟩; have HB10 := Aside0.mk hb9; clear hb9))
                            go_ret
                            exact ⟨by rw [HV.out, H.out, ← HA.out, HST.out, HI.out, HJ.out, HPR.out]; rfl, ((K5.out.below HB9.out).below HB10.out).low⟩
                          · have HJ := Aside0.mk hj
                            clear hj
                            go_wp2_with (first
                              | (go_at_call 71; (with_reducible refine (within_calls id 0 65535 true _ HI.out).mono ?_); rintro e w9 ⟨rfl, hb9⟩; have HB9 := Aside0.mk hb9; have x1 : w9.cell? ⟨b5, 1, none⟩ = some (.int .i64 x) := blk_cell (blk_below X5.out hb9) 1; clear hb9)
                              | (go_at_call 71; (with_reducible refine (within_calls x 0 4294967295 true _ HJ.out).mono ?_); rintro e w10 ⟨rfl, hb9⟩; have HB10 := Aside0.mk hb9; clear hb9))
                            go_roundw
                            case rel => exact ⟨k + 1, by omega, rfl, by go_num, ⟨by rw [← HA.out, HST.out, HI.out, HJ.out]; rfl⟩, ⟨(K5.out.below HB9.out).below HB10.out⟩⟩
                            case measure => simp [intOf]; omega
                      · have hlt2 : decide ((k : Int) < (ps.length : Int)) = false := decide_eq_false (by omega)
                        have HT : Aside0 (ps.all parOk = true) := ⟨by rw [← HA.out, List.drop_eq_nil_of_le (by omega)]; rfl⟩
                        go_wp2_with fail
                        go_meet
                        case rel => exact ⟨rfl, ⟨by rw [HV.out, HT.out]; simp⟩, ⟨RR.out _ RK.out⟩⟩

              · skip
                by_cases h2 : f.ty = 2
                · skip
                  have H := Aside0.mk h2
                  clear h2
                  have t3 : (f.ty == 3) = false := by rw [H.out]; rfl
                  have t4 : (f.ty == 4) = false := by rw [H.out]; rfl
                  have t2 : (f.ty == 2) = true := by rw [H.out]; rfl
                  have E : Aside0 (ownCo f = 0 ∧ ownLa f = 0 ∧ ownDa f = ByteArray.empty) := ⟨by unfold ownCo ownLa ownDa; rw [H.out]; exact ⟨by simp, by simp, by simp⟩⟩
                  go_wp2_with fail
                  go_meet
                  case rel => exact ⟨rfl, ⟨by rw [H.out]; rfl⟩, ⟨by rw [E.out.1, E.out.2.1, E.out.2.2]; exact R3.out⟩⟩
                · skip
                  by_cases h8 : f.ty = 8
                  · skip
                    have H := Aside0.mk h8
                    clear h8
                    have t3 : (f.ty == 3) = false := by rw [H.out]; rfl
                    have t4 : (f.ty == 4) = false := by rw [H.out]; rfl
                    have t2 : (f.ty == 2) = false := by rw [H.out]; rfl
                    have t8 : (f.ty == 8) = true := by rw [H.out]; rfl
                    have E : Aside0 (ownCo f = 0 ∧ ownLa f = f.la ∧ ownDa f = ByteArray.empty) := ⟨by unfold ownCo ownLa ownDa; rw [H.out]; exact ⟨by simp, by simp, by simp⟩⟩
                    have z9 := R3.out.fr.c9
                    have y9 := R3.out.own.c9
                    have yf9 : wc.frozen? ⟨bg, 9, none⟩ = false := blk_frozen R3.out.own 9
                    go_wp2_with fail
                    go_meet
                    case rel => exact ⟨rfl, ⟨by rw [H.out]; rfl⟩, ⟨by rw [E.out.1, E.out.2.1, E.out.2.2]; exact R3.out.put9 f.la⟩⟩
                  · skip
                    by_cases h7 : f.ty = 7
                    · skip
                      have H := Aside0.mk h7
                      clear h7
                      have t3 : (f.ty == 3) = false := by rw [H.out]; rfl
                      have t4 : (f.ty == 4) = false := by rw [H.out]; rfl
                      have t2 : (f.ty == 2) = false := by rw [H.out]; rfl
                      have t8 : (f.ty == 8) = false := by rw [H.out]; rfl
                      have t7 : (f.ty == 7) = true := by rw [H.out]; rfl
                      have E : Aside0 (ownCo f = f.co ∧ ownLa f = f.la ∧ ownDa f = f.da) := ⟨by unfold ownCo ownLa ownDa; rw [H.out]; exact ⟨by simp, by simp, by simp⟩⟩
                      go_upto_region 27 with fail
                      refine start_ (n := 18) (S := fun w' => w'.cell? ⟨g, 9, none⟩ = some (.int .i64 f.la) ∧ w'.cell? ⟨g, 8, none⟩ = some (.int .i64 f.co) ∧ w'.cell? ⟨g, 3, none⟩ = some (.string f.da) ∧ ∃ h', RInv w w' g bg f h' A c) (ds := [17]) #[false, false, false, false, false, false, false, false, false, false, false, false, false, false, false, false, false, false] (by kernel_rfl) rfl rfl ⟨R3.out.fr.c9, R3.out.fr.c8, R3.out.fr.c3, ⟨_, R3.out.below (below_drew (Below.refl _ _))⟩⟩ (fun hHeld => ?_)
                      refine pure_ (i := 0) (N := some 163) (v := ?_) (a' := ?_) #[true, false, false, false, false, false, false, false, false, false, false, false, false, false, false, false, false, false] rfl rfl (by kernel_rfl) (fun _ _ _ h => h) (Or.inl ⟨by rfl, ?_⟩) ?_ ?_
                      rotate_left
                      · intro w'
                        go_simp
                        with_reducible rfl
                      rotate_left
                      · simp only [Act.put, List.setIfInBounds_toArray, List.set_cons_zero, List.set_cons_succ, i64_w, i32_w]
                        rfl
                      refine pure_ (i := 1) (N := some 164) (v := ?_) (a' := ?_) #[true, true, false, false, false, false, false, false, false, false, false, false, false, false, false, false, false, false] rfl rfl (by kernel_rfl) (fun _ _ _ h => h) (Or.inl ⟨by rfl, ?_⟩) ?_ ?_
                      rotate_left
                      · intro w'
                        go_simp
                        with_reducible rfl
                      rotate_left
                      · simp only [Act.put, List.setIfInBounds_toArray, List.set_cons_zero, List.set_cons_succ, i64_w, i32_w]
                        rfl
                      refine pure_ (i := 2) (N := some 165) (v := ?_) (a' := ?_) #[true, true, true, false, false, false, false, false, false, false, false, false, false, false, false, false, false, false] rfl rfl (by kernel_rfl) (fun _ _ _ h => h) (Or.inl ⟨by rfl, ?_⟩) ?_ ?_
                      rotate_left
                      · intro w'
                        go_simp
                        with_reducible rfl
                      rotate_left
                      · simp only [Act.put, List.setIfInBounds_toArray, List.set_cons_zero, List.set_cons_succ, i64_w, i32_w]
                        rfl
                      refine pure_ (i := 4) (N := some 167) (v := ?_) (a' := ?_) #[true, true, true, false, true, false, false, false, false, false, false, false, false, false, false, false, false, false] rfl rfl (by kernel_rfl) (fun _ _ _ h => h) (Or.inl ⟨by rfl, ?_⟩) ?_ ?_
                      rotate_left
                      · intro w'
                        go_simp
                        with_reducible rfl
                      rotate_left
                      · simp only [Act.put, List.setIfInBounds_toArray, List.set_cons_zero, List.set_cons_succ, i64_w, i32_w]
                        rfl
                      refine pure_ (i := 5) (N := some 168) (v := ?_) (a' := ?_) #[true, true, true, false, true, true, false, false, false, false, false, false, false, false, false, false, false, false] rfl rfl (by kernel_rfl) (fun _ _ _ h => h) (Or.inl ⟨by rfl, ?_⟩) ?_ ?_
                      rotate_left
                      · intro w'
                        go_simp
                        with_reducible rfl
                      rotate_left
                      · simp only [Act.put, List.setIfInBounds_toArray, List.set_cons_zero, List.set_cons_succ, i64_w, i32_w]
                        rfl
                      refine pure_ (i := 6) (N := some 169) (v := ?_) (a' := ?_) #[true, true, true, false, true, true, true, false, false, false, false, false, false, false, false, false, false, false] rfl rfl (by kernel_rfl) (fun _ _ _ h => h) (Or.inl ⟨by rfl, ?_⟩) ?_ ?_
                      rotate_left
                      · intro w'
                        go_simp
                        with_reducible rfl
                      rotate_left
                      · simp only [Act.put, List.setIfInBounds_toArray, List.set_cons_zero, List.set_cons_succ, i64_w, i32_w]
                        rfl
                      refine pure_ (i := 8) (N := some 171) (v := ?_) (a' := ?_) #[true, true, true, false, true, true, true, false, true, false, false, false, false, false, false, false, false, false] rfl rfl (by kernel_rfl) (fun _ _ _ h => h) (Or.inl ⟨by rfl, ?_⟩) ?_ ?_
                      rotate_left
                      · intro w'
                        go_simp
                        with_reducible rfl
                      rotate_left
                      · simp only [Act.put, List.setIfInBounds_toArray, List.set_cons_zero, List.set_cons_succ, i64_w, i32_w]
                        rfl
                      refine pure_ (i := 9) (N := some 172) (v := ?_) (a' := ?_) #[true, true, true, false, true, true, true, false, true, true, false, false, false, false, false, false, false, false] rfl rfl (by kernel_rfl) (fun _ _ _ h => h) (Or.inl ⟨by rfl, ?_⟩) ?_ ?_
                      rotate_left
                      · intro w'
                        go_simp
                        with_reducible rfl
                      rotate_left
                      · simp only [Act.put, List.setIfInBounds_toArray, List.set_cons_zero, List.set_cons_succ, i64_w, i32_w]
                        rfl
                      refine pure_ (i := 10) (N := some 173) (v := ?_) (a' := ?_) #[true, true, true, false, true, true, true, false, true, true, true, false, false, false, false, false, false, false] rfl rfl (by kernel_rfl) (fun _ _ _ h => h) (Or.inl ⟨by rfl, ?_⟩) ?_ ?_
                      rotate_left
                      · intro w'
                        go_simp
                        with_reducible rfl
                      rotate_left
                      · simp only [Act.put, List.setIfInBounds_toArray, List.set_cons_zero, List.set_cons_succ, i64_w, i32_w]
                        rfl
                      refine take_ (i := 3) (N := some 166) (v := ?_) (a' := ?_) #[true, true, true, true, true, true, true, false, true, true, true, false, false, false, false, false, false, false] rfl rfl (by kernel_rfl) (fun _ _ _ h => h) (Or.inl ⟨by rfl, ?_⟩) hHeld ?_ ?_
                      rotate_left
                      · rintro w' ⟨s0, s1, s2, s3⟩
                        go_simp
                        with_reducible rfl
                      rotate_left
                      · simp only [Act.put, List.setIfInBounds_toArray, List.set_cons_zero, List.set_cons_succ, i64_w, i32_w]
                        rfl
                      refine pure_ (i := 12) (N := some 175) (v := ?_) (a' := ?_) #[true, true, true, true, true, true, true, false, true, true, true, false, true, false, false, false, false, false] rfl rfl (by kernel_rfl) (fun _ _ _ h => h) (Or.inl ⟨by rfl, ?_⟩) ?_ ?_
                      rotate_left
                      · intro w'
                        go_simp
                        with_reducible rfl
                      rotate_left
                      · simp only [Act.put, List.setIfInBounds_toArray, List.set_cons_zero, List.set_cons_succ, i64_w, i32_w]
                        rfl
                      refine take_ (i := 7) (N := some 170) (v := ?_) (a' := ?_) #[true, true, true, true, true, true, true, true, true, true, true, false, true, false, false, false, false, false] rfl rfl (by kernel_rfl) (fun _ _ _ h => h) (Or.inl ⟨by rfl, ?_⟩) hHeld ?_ ?_
                      rotate_left
                      · rintro w' ⟨s0, s1, s2, s3⟩
                        go_simp
                        with_reducible rfl
                      rotate_left
                      · simp only [Act.put, List.setIfInBounds_toArray, List.set_cons_zero, List.set_cons_succ, i64_w, i32_w]
                        rfl
                      refine take_ (i := 11) (N := some 174) (v := ?_) (a' := ?_) #[true, true, true, true, true, true, true, true, true, true, true, true, true, false, false, false, false, false] rfl rfl (by kernel_rfl) (fun _ _ _ h => h) (Or.inl ⟨by rfl, ?_⟩) hHeld ?_ ?_
                      rotate_left
                      · rintro w' ⟨s0, s1, s2, s3⟩
                        go_simp
                        with_reducible rfl
                      rotate_left
                      · simp only [Act.put, List.setIfInBounds_toArray, List.set_cons_zero, List.set_cons_succ, i64_w, i32_w]
                        rfl
                      refine one_ (i := 13) (N := none) #[true, true, true, true, true, true, true, true, true, true, true, true, true, true, false, false, false, false] rfl rfl (by kernel_rfl) (by decide) (fun K hK => ?_)
                      obtain ⟨h1, r1⟩ := hHeld.2.2.2
                      have y1 := r1.own.c9
                      have yf1 := blk_frozen r1.own 9
                      refine skip_ (w1 := ?_) (by rfl) rfl ?_ ?_
                      rotate_left
                      · go_simp
                        rfl
                      clear y1 yf1
                      refine hK.out _ _ ⟨(r1.put9 _).fr.c9, (r1.put9 _).fr.c8, (r1.put9 _).fr.c3, ⟨_, r1.put9 _⟩⟩ (fun hHeld => ?_)
                      clear hK K
                      refine pure_ (i := 14) (N := some 176) (v := ?_) (a' := ?_) #[true, true, true, true, true, true, true, true, true, true, true, true, true, true, true, false, false, false] rfl rfl (by kernel_rfl) (fun _ _ _ h => h) (Or.inl ⟨by rfl, ?_⟩) ?_ ?_
                      rotate_left
                      · intro w'
                        go_simp
                        with_reducible rfl
                      rotate_left
                      · simp only [Act.put, List.setIfInBounds_toArray, List.set_cons_zero, List.set_cons_succ, i64_w, i32_w]
                        rfl
                      refine one_ (i := 15) (N := none) #[true, true, true, true, true, true, true, true, true, true, true, true, true, true, true, true, false, false] rfl rfl (by kernel_rfl) (by decide) (fun K hK => ?_)
                      obtain ⟨h1, r1⟩ := hHeld.2.2.2
                      have y1 := r1.own.c8
                      have yf1 := blk_frozen r1.own 8
                      refine skip_ (w1 := ?_) (by rfl) rfl ?_ ?_
                      rotate_left
                      · go_simp
                        rfl
                      clear y1 yf1
                      refine hK.out _ _ ⟨(r1.put8 _).fr.c9, (r1.put8 _).fr.c8, (r1.put8 _).fr.c3, ⟨_, r1.put8 _⟩⟩ (fun hHeld => ?_)
                      clear hK K
                      refine pure_ (i := 16) (N := some 177) (v := ?_) (a' := ?_) #[true, true, true, true, true, true, true, true, true, true, true, true, true, true, true, true, true, false] rfl rfl (by kernel_rfl) (fun _ _ _ h => h) (Or.inl ⟨by rfl, ?_⟩) ?_ ?_
                      rotate_left
                      · intro w'
                        go_simp
                        with_reducible rfl
                      rotate_left
                      · simp only [Act.put, List.setIfInBounds_toArray, List.set_cons_zero, List.set_cons_succ, i64_w, i32_w]
                        rfl
                      refine last_ (i := 17) (N := none) #[true, true, true, true, true, true, true, true, true, true, true, true, true, true, true, true, true, true] rfl rfl (by kernel_rfl) (by decide) (fun K hK => ?_)
                      obtain ⟨h1, r1⟩ := hHeld.2.2.2
                      have y1 := r1.own.c3
                      have yf1 := blk_frozen r1.own 3
                      refine skip_ (w1 := ?_) (by rfl) rfl ?_ ?_
                      rotate_left
                      · go_simp
                        rfl
                      clear y1 yf1 r1
                      refine hK.out _ _ ?_
                      clear hK K
                      refine done_ (by kernel_rfl) ?_
                      clear hHeld
                      repeat (rename World.cell? _ _ = _ ∧ _ => hh; clear hh)
                      go_wp2_with fail
                      go_meet
                      case rel => exact ⟨rfl, ⟨by rw [H.out]; rfl⟩, ⟨by rw [E.out.1, E.out.2.1, E.out.2.2]; exact (((R3.out.put9 f.la).put8 f.co).put3 f.da).below (below_drew (Below.refl _ _))⟩⟩
                    · skip
                      by_cases h5 : f.ty = 5
                      · skip
                        have H := Aside0.mk h5
                        clear h5
                        have t3 : (f.ty == 3) = false := by rw [H.out]; rfl
                        have t4 : (f.ty == 4) = false := by rw [H.out]; rfl
                        have t2 : (f.ty == 2) = false := by rw [H.out]; rfl
                        have t8 : (f.ty == 8) = false := by rw [H.out]; rfl
                        have t7 : (f.ty == 7) = false := by rw [H.out]; rfl
                        have t5 : (f.ty == 5) = true := by rw [H.out]; rfl
                        have E : Aside0 (ownCo f = 0 ∧ ownLa f = f.la ∧ ownDa f = f.da) := ⟨by unfold ownCo ownLa ownDa; rw [H.out]; exact ⟨by simp, by simp, by simp⟩⟩
                        go_upto_region 29 with fail
                        refine start_ (n := 12) (S := fun w' => w'.cell? ⟨g, 9, none⟩ = some (.int .i64 f.la) ∧ w'.cell? ⟨g, 3, none⟩ = some (.string f.da) ∧ ∃ h', RInv w w' g bg f h' A c) (ds := [11]) #[false, false, false, false, false, false, false, false, false, false, false, false] (by kernel_rfl) rfl rfl ⟨R3.out.fr.c9, R3.out.fr.c3, ⟨_, R3.out.below (below_drew (Below.refl _ _))⟩⟩ (fun hHeld => ?_)
                        refine pure_ (i := 0) (N := some 180) (v := ?_) (a' := ?_) #[true, false, false, false, false, false, false, false, false, false, false, false] rfl rfl (by kernel_rfl) (fun _ _ _ h => h) (Or.inl ⟨by rfl, ?_⟩) ?_ ?_
                        rotate_left
                        · intro w'
                          go_simp
                          with_reducible rfl
                        rotate_left
                        · simp only [Act.put, List.setIfInBounds_toArray, List.set_cons_zero, List.set_cons_succ, i64_w, i32_w]
                          rfl
                        refine pure_ (i := 1) (N := some 181) (v := ?_) (a' := ?_) #[true, true, false, false, false, false, false, false, false, false, false, false] rfl rfl (by kernel_rfl) (fun _ _ _ h => h) (Or.inl ⟨by rfl, ?_⟩) ?_ ?_
                        rotate_left
                        · intro w'
                          go_simp
                          with_reducible rfl
                        rotate_left
                        · simp only [Act.put, List.setIfInBounds_toArray, List.set_cons_zero, List.set_cons_succ, i64_w, i32_w]
                          rfl
                        refine pure_ (i := 2) (N := some 182) (v := ?_) (a' := ?_) #[true, true, true, false, false, false, false, false, false, false, false, false] rfl rfl (by kernel_rfl) (fun _ _ _ h => h) (Or.inl ⟨by rfl, ?_⟩) ?_ ?_
                        rotate_left
                        · intro w'
                          go_simp
                          with_reducible rfl
                        rotate_left
                        · simp only [Act.put, List.setIfInBounds_toArray, List.set_cons_zero, List.set_cons_succ, i64_w, i32_w]
                          rfl
                        refine pure_ (i := 4) (N := some 184) (v := ?_) (a' := ?_) #[true, true, true, false, true, false, false, false, false, false, false, false] rfl rfl (by kernel_rfl) (fun _ _ _ h => h) (Or.inl ⟨by rfl, ?_⟩) ?_ ?_
                        rotate_left
                        · intro w'
                          go_simp
                          with_reducible rfl
                        rotate_left
                        · simp only [Act.put, List.setIfInBounds_toArray, List.set_cons_zero, List.set_cons_succ, i64_w, i32_w]
                          rfl
                        refine pure_ (i := 5) (N := some 185) (v := ?_) (a' := ?_) #[true, true, true, false, true, true, false, false, false, false, false, false] rfl rfl (by kernel_rfl) (fun _ _ _ h => h) (Or.inl ⟨by rfl, ?_⟩) ?_ ?_
                        rotate_left
                        · intro w'
                          go_simp
                          with_reducible rfl
                        rotate_left
                        · simp only [Act.put, List.setIfInBounds_toArray, List.set_cons_zero, List.set_cons_succ, i64_w, i32_w]
                          rfl
                        refine pure_ (i := 6) (N := some 186) (v := ?_) (a' := ?_) #[true, true, true, false, true, true, true, false, false, false, false, false] rfl rfl (by kernel_rfl) (fun _ _ _ h => h) (Or.inl ⟨by rfl, ?_⟩) ?_ ?_
                        rotate_left
                        · intro w'
                          go_simp
                          with_reducible rfl
                        rotate_left
                        · simp only [Act.put, List.setIfInBounds_toArray, List.set_cons_zero, List.set_cons_succ, i64_w, i32_w]
                          rfl
                        refine take_ (i := 3) (N := some 183) (v := ?_) (a' := ?_) #[true, true, true, true, true, true, true, false, false, false, false, false] rfl rfl (by kernel_rfl) (fun _ _ _ h => h) (Or.inl ⟨by rfl, ?_⟩) hHeld ?_ ?_
                        rotate_left
                        · rintro w' ⟨s0, s1, s2⟩
                          go_simp
                          with_reducible rfl
                        rotate_left
                        · simp only [Act.put, List.setIfInBounds_toArray, List.set_cons_zero, List.set_cons_succ, i64_w, i32_w]
                          rfl
                        refine pure_ (i := 8) (N := some 188) (v := ?_) (a' := ?_) #[true, true, true, true, true, true, true, false, true, false, false, false] rfl rfl (by kernel_rfl) (fun _ _ _ h => h) (Or.inl ⟨by rfl, ?_⟩) ?_ ?_
                        rotate_left
                        · intro w'
                          go_simp
                          with_reducible rfl
                        rotate_left
                        · simp only [Act.put, List.setIfInBounds_toArray, List.set_cons_zero, List.set_cons_succ, i64_w, i32_w]
                          rfl
                        refine take_ (i := 7) (N := some 187) (v := ?_) (a' := ?_) #[true, true, true, true, true, true, true, true, true, false, false, false] rfl rfl (by kernel_rfl) (fun _ _ _ h => h) (Or.inl ⟨by rfl, ?_⟩) hHeld ?_ ?_
                        rotate_left
                        · rintro w' ⟨s0, s1, s2⟩
                          go_simp
                          with_reducible rfl
                        rotate_left
                        · simp only [Act.put, List.setIfInBounds_toArray, List.set_cons_zero, List.set_cons_succ, i64_w, i32_w]
                          rfl
                        refine one_ (i := 9) (N := none) #[true, true, true, true, true, true, true, true, true, true, false, false] rfl rfl (by kernel_rfl) (by decide) (fun K hK => ?_)
                        obtain ⟨h1, r1⟩ := hHeld.2.2
                        have y1 := r1.own.c9
                        have yf1 := blk_frozen r1.own 9
                        refine skip_ (w1 := ?_) (by rfl) rfl ?_ ?_
                        rotate_left
                        · go_simp
                          rfl
                        clear y1 yf1
                        refine hK.out _ _ ⟨(r1.put9 _).fr.c9, (r1.put9 _).fr.c3, ⟨_, r1.put9 _⟩⟩ (fun hHeld => ?_)
                        clear hK K
                        refine pure_ (i := 10) (N := some 189) (v := ?_) (a' := ?_) #[true, true, true, true, true, true, true, true, true, true, true, false] rfl rfl (by kernel_rfl) (fun _ _ _ h => h) (Or.inl ⟨by rfl, ?_⟩) ?_ ?_
                        rotate_left
                        · intro w'
                          go_simp
                          with_reducible rfl
                        rotate_left
                        · simp only [Act.put, List.setIfInBounds_toArray, List.set_cons_zero, List.set_cons_succ, i64_w, i32_w]
                          rfl
                        refine last_ (i := 11) (N := none) #[true, true, true, true, true, true, true, true, true, true, true, true] rfl rfl (by kernel_rfl) (by decide) (fun K hK => ?_)
                        obtain ⟨h1, r1⟩ := hHeld.2.2
                        have y1 := r1.own.c3
                        have yf1 := blk_frozen r1.own 3
                        refine skip_ (w1 := ?_) (by rfl) rfl ?_ ?_
                        rotate_left
                        · go_simp
                          rfl
                        clear y1 yf1 r1
                        refine hK.out _ _ ?_
                        clear hK K
                        refine done_ (by kernel_rfl) ?_
                        clear hHeld
                        repeat (rename World.cell? _ _ = _ ∧ _ => hh; clear hh)
                        go_wp2_with fail
                        go_meet
                        case rel => exact ⟨rfl, ⟨by rw [H.out]; rfl⟩, ⟨by rw [E.out.1, E.out.2.1, E.out.2.2]; exact ((R3.out.put9 f.la).put3 f.da).below (below_drew (Below.refl _ _))⟩⟩
                      · skip
                        have E : Aside0 (ownCo f = 0 ∧ ownLa f = 0 ∧ ownDa f = f.da) := ⟨by unfold ownCo ownLa ownDa; exact ⟨if_neg (by omega), if_neg (by omega), if_neg (by omega)⟩⟩
                        have t3 : (f.ty == 3) = false := beq_eq_false_iff_ne.mpr h3
                        have t4 : (f.ty == 4) = false := beq_eq_false_iff_ne.mpr h4
                        have t2 : (f.ty == 2) = false := beq_eq_false_iff_ne.mpr h2
                        have t8 : (f.ty == 8) = false := beq_eq_false_iff_ne.mpr h8
                        have t7 : (f.ty == 7) = false := beq_eq_false_iff_ne.mpr h7
                        have t5 : (f.ty == 5) = false := beq_eq_false_iff_ne.mpr h5
                        have H4 := Aside0.mk h4
                        clear h3 h4 h2 h8 h7 h5
                        have z3 := R3.out.fr.c3
                        have y3 := R3.out.own.c3
                        have yf3 : wc.frozen? ⟨bg, 3, none⟩ = false := blk_frozen R3.out.own 3
                        go_wp2_with fail
                        go_meet
                        case rel => exact ⟨rfl, ⟨by rw [bne_iff_ne.mpr H4.out]; rfl⟩, ⟨by rw [E.out.1, E.out.2.1, E.out.2.2]; exact R3.out.put3 f.da⟩⟩
        case rest =>
          obtain ⟨rfl, HPA, R4⟩ := hcut
          clear R3
          have z0 := R4.out.fr.c0
          have z3 := R4.out.fr.c3
          have z10 := R4.out.fr.c10
          go_upto_region 30 with fail
          go_cut [2, 217] from 190 to 216 (fun v2 v217 wc => v2 = .bool false ∧ v217 = .bool (!lenB f) ∧ Aside0 (RInv w wc g bg f ⟨f.ty, f.fl, f.st, ownDa f, ownPad f, ownDep f, ownEx f, ownWt f, ownCo f, ownLa f, []⟩ A c))
          case first =>
            as_aux_lemma =>
              have z0 := R4.out.fr.c0
              have z3 := R4.out.fr.c3
              have z10 := R4.out.fr.c10
              have hpl : (decide ((0 : Int) < (f.ps.length : Int)) = true ∧ decide (0 < f.ps.length) = true) ∨ (decide ((0 : Int) < (f.ps.length : Int)) = false ∧ decide (0 < f.ps.length) = false) := by
                by_cases h : 0 < f.ps.length
                · exact .inl ⟨decide_eq_true (by omega), decide_eq_true h⟩
                · exact .inr ⟨decide_eq_false (by omega), decide_eq_false h⟩
              have hdl : (((f.da.size : Int) != 8) = true ∧ (f.da.size != 8) = true) ∨ (((f.da.size : Int) != 8) = false ∧ (f.da.size != 8) = false) := by
                by_cases h : f.da.size = 8
                · exact .inr ⟨by rw [h]; rfl, by rw [h]; rfl⟩
                · exact .inl ⟨bne_iff_ne.mpr (by omega), bne_iff_ne.mpr h⟩
              cases t6 : (f.ty == 6)
              · cases t4 : (f.ty != 4)
                · have HE : Aside0 (lenB f = true) := ⟨by unfold lenB; rw [t6, t4]; rfl⟩
                  clear hpl hdl
                  go_wp2_with fail
                  go_meet
                  case rel => exact ⟨rfl, by rw [HE.out]; rfl, R4⟩
                · rcases hpl with ⟨hp1, hp2⟩ | ⟨hp1, hp2⟩
                  · have HE : Aside0 (lenB f = false) := ⟨by unfold lenB; rw [t6, t4, hp2]; rfl⟩
                    clear hdl
                    go_wp2_with fail
                    go_meet
                    case rel => exact ⟨rfl, by rw [HE.out]; rfl, R4⟩
                  · have HE : Aside0 (lenB f = true) := ⟨by unfold lenB; rw [t6, t4, hp2]; rfl⟩
                    clear hdl
                    go_wp2_with fail
                    go_meet
                    case rel => exact ⟨rfl, by rw [HE.out]; rfl, R4⟩
              · have t4 : (f.ty != 4) = true := by rw [beq_iff_eq.mp t6]; rfl
                rcases hdl with ⟨hd1, hd2⟩ | ⟨hd1, hd2⟩
                · have HE : Aside0 (lenB f = false) := ⟨by unfold lenB; rw [t6, hd2]; rfl⟩
                  clear hpl
                  go_wp2_with fail
                  go_meet
                  case rel => exact ⟨rfl, by rw [HE.out]; rfl, R4⟩
                · rcases hpl with ⟨hp1, hp2⟩ | ⟨hp1, hp2⟩
                  · have HE : Aside0 (lenB f = false) := ⟨by unfold lenB; rw [t6, hd2, t4, hp2]; rfl⟩
                    go_wp2_with fail
                    go_meet
                    case rel => exact ⟨rfl, by rw [HE.out]; rfl, R4⟩
                  · have HE : Aside0 (lenB f = true) := ⟨by unfold lenB; rw [t6, hd2, t4, hp2]; rfl⟩
                    go_wp2_with fail
                    go_meet
                    case rel => exact ⟨rfl, by rw [HE.out]; rfl, R4⟩
          case rest =>
            obtain ⟨rfl, rfl, R5⟩ := hcut
            clear R4
            go_upto_if 217 with fail
            cases hl : lenB f
            · have HL := Aside0.mk hl
              clear hl
              go_wp2_with fail
              go_ret
              exact ⟨by rw [HPR.out, HPA.out, HL.out]; rfl, R5.out.low⟩
            · have HL := Aside0.mk hl
              clear hl
              have z4 := R5.out.fr.c4
              go_upto_region 32 with fail
              go_cut [2, 247] from 218 to 246 (fun v2 v247 wc => v2 = .bool false ∧ v247 = .bool (!numB f) ∧ Aside0 (RInv w wc g bg f ⟨f.ty, f.fl, f.st, ownDa f, ownPad f, ownDep f, ownEx f, ownWt f, ownCo f, ownLa f, []⟩ A c))
              case first =>
                as_aux_lemma =>
                  have z4 := R5.out.fr.c4
                  cases hc0 : inR f.pad 0 255
                  · have HC0 := Aside0.mk hc0
                    clear hc0
                    have HE : Aside0 (numB f = false) := ⟨by unfold numB; rw [HC0.out]; rfl⟩
                    go_wp2_with (first
                      | (go_at_call 71; (with_reducible refine (within_calls f.pad 0 255 false _ HC0.out).mono ?_); rintro e w20 ⟨rfl, hb9⟩; have RN0 := Aside0.mk (RInv.below R5.out hb9); clear hb9))
                    go_meet
                    case rel => exact ⟨rfl, by rw [HE.out]; rfl, RN0⟩
                  · have HC0 := Aside0.mk hc0
                    clear hc0
                    cases hc1 : inR f.dep 0 2147483647
                    · have HC1 := Aside0.mk hc1
                      clear hc1
                      have HE : Aside0 (numB f = false) := ⟨by unfold numB; rw [HC0.out, HC1.out]; rfl⟩
                      go_wp2_with (first
                        | (go_at_call 71; (with_reducible refine (within_calls f.pad 0 255 true _ HC0.out).mono ?_); rintro e w20 ⟨rfl, hb9⟩; have RN0 := Aside0.mk (RInv.below R5.out hb9); clear hb9; have z5 := RN0.out.fr.c5)
                        | (go_at_call 71; (with_reducible refine (within_calls f.dep 0 2147483647 false _ HC1.out).mono ?_); rintro e w21 ⟨rfl, hb9⟩; have RN1 := Aside0.mk (RInv.below RN0.out hb9); clear hb9))
                      go_meet
                      case rel => exact ⟨rfl, by rw [HE.out]; rfl, RN1⟩
                    · have HC1 := Aside0.mk hc1
                      clear hc1
                      cases hc2 : inR f.co 0 4294967295
                      · have HC2 := Aside0.mk hc2
                        clear hc2
                        have HE : Aside0 (numB f = false) := ⟨by unfold numB; rw [HC0.out, HC1.out, HC2.out]; rfl⟩
                        go_wp2_with (first
                          | (go_at_call 71; (with_reducible refine (within_calls f.pad 0 255 true _ HC0.out).mono ?_); rintro e w20 ⟨rfl, hb9⟩; have RN0 := Aside0.mk (RInv.below R5.out hb9); clear hb9; have z5 := RN0.out.fr.c5)
                          | (go_at_call 71; (with_reducible refine (within_calls f.dep 0 2147483647 true _ HC1.out).mono ?_); rintro e w21 ⟨rfl, hb9⟩; have RN1 := Aside0.mk (RInv.below RN0.out hb9); clear hb9; have z8 := RN1.out.fr.c8)
                          | (go_at_call 71; (with_reducible refine (within_calls f.co 0 4294967295 false _ HC2.out).mono ?_); rintro e w22 ⟨rfl, hb9⟩; have RN2 := Aside0.mk (RInv.below RN1.out hb9); clear hb9))
                        go_meet
                        case rel => exact ⟨rfl, by rw [HE.out]; rfl, RN2⟩
                      · have HC2 := Aside0.mk hc2
                        clear hc2
                        cases hc3 : inR f.la 0 2147483647
                        · have HC3 := Aside0.mk hc3
                          clear hc3
                          have HE : Aside0 (numB f = false) := ⟨by unfold numB; rw [HC0.out, HC1.out, HC2.out, HC3.out]; rfl⟩
                          go_wp2_with (first
                            | (go_at_call 71; (with_reducible refine (within_calls f.pad 0 255 true _ HC0.out).mono ?_); rintro e w20 ⟨rfl, hb9⟩; have RN0 := Aside0.mk (RInv.below R5.out hb9); clear hb9; have z5 := RN0.out.fr.c5)
                            | (go_at_call 71; (with_reducible refine (within_calls f.dep 0 2147483647 true _ HC1.out).mono ?_); rintro e w21 ⟨rfl, hb9⟩; have RN1 := Aside0.mk (RInv.below RN0.out hb9); clear hb9; have z8 := RN1.out.fr.c8)
                            | (go_at_call 71; (with_reducible refine (within_calls f.co 0 4294967295 true _ HC2.out).mono ?_); rintro e w22 ⟨rfl, hb9⟩; have RN2 := Aside0.mk (RInv.below RN1.out hb9); clear hb9; have z9 := RN2.out.fr.c9)
                            | (go_at_call 71; (with_reducible refine (within_calls f.la 0 2147483647 false _ HC3.out).mono ?_); rintro e w23 ⟨rfl, hb9⟩; have RN3 := Aside0.mk (RInv.below RN2.out hb9); clear hb9))
                          go_meet
                          case rel => exact ⟨rfl, by rw [HE.out]; rfl, RN3⟩
                        · have HC3 := Aside0.mk hc3
                          clear hc3
                          have HE : Aside0 (numB f = true) := ⟨by unfold numB; rw [HC0.out, HC1.out, HC2.out, HC3.out]; rfl⟩
                          go_wp2_with (first
                            | (go_at_call 71; (with_reducible refine (within_calls f.pad 0 255 true _ HC0.out).mono ?_); rintro e w20 ⟨rfl, hb9⟩; have RN0 := Aside0.mk (RInv.below R5.out hb9); clear hb9; have z5 := RN0.out.fr.c5)
                            | (go_at_call 71; (with_reducible refine (within_calls f.dep 0 2147483647 true _ HC1.out).mono ?_); rintro e w21 ⟨rfl, hb9⟩; have RN1 := Aside0.mk (RInv.below RN0.out hb9); clear hb9; have z8 := RN1.out.fr.c8)
                            | (go_at_call 71; (with_reducible refine (within_calls f.co 0 4294967295 true _ HC2.out).mono ?_); rintro e w22 ⟨rfl, hb9⟩; have RN2 := Aside0.mk (RInv.below RN1.out hb9); clear hb9; have z9 := RN2.out.fr.c9)
                            | (go_at_call 71; (with_reducible refine (within_calls f.la 0 2147483647 true _ HC3.out).mono ?_); rintro e w23 ⟨rfl, hb9⟩; have RN3 := Aside0.mk (RInv.below RN2.out hb9); clear hb9))
                          go_meet
                          case rel => exact ⟨rfl, by rw [HE.out]; rfl, RN3⟩
              case rest =>
                obtain ⟨rfl, rfl, R6⟩ := hcut
                clear R5 z4
                go_upto_if 247 with fail
                cases hn : numB f
                · have HN := Aside0.mk hn
                  clear hn
                  go_wp2_with fail
                  go_ret
                  exact ⟨by rw [HPR.out, HPA.out, HL.out, HN.out]; rfl, R6.out.low⟩
                · have HN := Aside0.mk hn
                  clear hn
                  have y4 := R6.out.own.c4
                  have y5 := R6.out.own.c5
                  have y6 := R6.out.own.c6
                  have y7 := R6.out.own.c7
                  have y8 := R6.out.own.c8
                  have y9 := R6.out.own.c9
                  have y3 := R6.out.own.c3
                  have z4 := R6.out.fr.c4
                  have z5 := R6.out.fr.c5
                  have z6 := R6.out.fr.c6
                  have z7 := R6.out.fr.c7
                  have z8 := R6.out.fr.c8
                  have z9 := R6.out.fr.c9
                  have z3 := R6.out.fr.c3
                  have HSD : Aside0 (sameB f = (ownPad f == f.pad && ownDep f == f.dep && ownEx f == f.ex && ownWt f == f.wt && ownCo f == f.co && ownLa f == f.la && (ownDa f).toList == f.da.toList)) := ⟨rfl⟩
                  generalize ownPad f = o4 at *
                  generalize ownDep f = o5 at *
                  generalize ownEx f = o6 at *
                  generalize ownWt f = o7 at *
                  generalize ownCo f = o8 at *
                  generalize ownLa f = o9 at *
                  generalize ownDa f = o3 at *
                  cases q0 : (o4 == f.pad)
                  · skip
                    have HE : Aside0 (sameB f = false) := ⟨by rw [HSD.out, q0]; rfl⟩
                    go_upto_region 34 with fail
                    go_quiet (fail)
                    go_wp2_with fail
                    go_ret
                    exact ⟨by rw [HPR.out, HPA.out, HL.out, HN.out, HE.out]; rfl, pw_below_drewN R6.out.low _⟩
                  · skip
                    cases q1 : (o5 == f.dep)
                    · skip
                      have HE : Aside0 (sameB f = false) := ⟨by rw [HSD.out, q0, q1]; rfl⟩
                      go_upto_region 34 with fail
                      go_quiet (fail)
                      go_wp2_with fail
                      go_ret
                      exact ⟨by rw [HPR.out, HPA.out, HL.out, HN.out, HE.out]; rfl, pw_below_drewN R6.out.low _⟩
                    · skip
                      cases q2 : (o6 == f.ex)
                      · skip
                        have HE : Aside0 (sameB f = false) := ⟨by rw [HSD.out, q0, q1, q2]; rfl⟩
                        go_upto_region 34 with fail
                        go_quiet (fail)
                        go_wp2_with fail
                        go_ret
                        exact ⟨by rw [HPR.out, HPA.out, HL.out, HN.out, HE.out]; rfl, pw_below_drewN R6.out.low _⟩
                      · skip
                        cases q3 : (o7 == f.wt)
                        · skip
                          have HE : Aside0 (sameB f = false) := ⟨by rw [HSD.out, q0, q1, q2, q3]; rfl⟩
                          go_upto_region 34 with fail
                          go_quiet (fail)
                          go_wp2_with fail
                          go_ret
                          exact ⟨by rw [HPR.out, HPA.out, HL.out, HN.out, HE.out]; rfl, pw_below_drewN R6.out.low _⟩
                        · skip
                          cases q4 : (o8 == f.co)
                          · skip
                            have HE : Aside0 (sameB f = false) := ⟨by rw [HSD.out, q0, q1, q2, q3, q4]; rfl⟩
                            go_upto_region 34 with fail
                            go_quiet (fail)
                            go_wp2_with fail
                            go_ret
                            exact ⟨by rw [HPR.out, HPA.out, HL.out, HN.out, HE.out]; rfl, pw_below_drewN R6.out.low _⟩
                          · skip
                            cases q5 : (o9 == f.la)
                            · skip
                              have HE : Aside0 (sameB f = false) := ⟨by rw [HSD.out, q0, q1, q2, q3, q4, q5]; rfl⟩
                              go_upto_region 34 with fail
                              go_quiet (fail)
                              go_wp2_with fail
                              go_ret
                              exact ⟨by rw [HPR.out, HPA.out, HL.out, HN.out, HE.out]; rfl, pw_below_drewN R6.out.low _⟩
                            · skip
                              cases q6 : (o3.toList == f.da.toList)
                              · skip
                                have HE : Aside0 (sameB f = false) := ⟨by rw [HSD.out, q0, q1, q2, q3, q4, q5, q6]; rfl⟩
                                go_upto_region 34 with fail
                                go_quiet (fail)
                                go_wp2_with fail
                                go_ret
                                exact ⟨by rw [HPR.out, HPA.out, HL.out, HN.out, HE.out]; rfl, pw_below_drewN R6.out.low _⟩
                              · skip
                                have HE : Aside0 (sameB f = true) := ⟨by rw [HSD.out, q0, q1, q2, q3, q4, q5, q6]; rfl⟩
                                go_upto_region 34 with fail
                                go_quiet (fail)
                                go_wp2_with fail
                                go_ret
                                exact ⟨by rw [HPR.out, HPA.out, HL.out, HN.out, HE.out]; rfl, pw_below_drewN R6.out.low _⟩
end Go.Proofs.YtoffhlbdfhhhjaaDoor.Fr
