/- FrameApart: always true. The package's variable holds what the program lays; the list fits in memory. -/
import Derived.Test.YtoffhlbdfhhhjaaDoorMFkF
import Derived.LoopN
namespace Go.Proofs.YtoffhlbdfhhhjaaDoor.Fr
open Go Go.RowKit Go.Proofs.YtoffhlbdfhhhjaaDoorW.PrintWords Go.Proofs.YtoffhlbdfhhhjaaDoorW.PrintLast Go.Proofs.YtoffhlbdfhhhjaaDoorW.PrintMore Go.Proofs.YtoffhlbdfhhhjaaDoor.QL
set_option linter.unusedSimpArgs false
set_option linter.unusedVariables false
set_option maxHeartbeats 40000000
set_option maxRecDepth 100000
theorem few_ex (A : Option Addr) (c : Nat) (l P : List S32) (hP : fewL l = P) (W : World) (h1 : Kd.C k32 W A l.length l) (h2 : l.length ≤ c) (hl : l.length ≤ 8796093022208) : Calls Tryd.prog 23 #[.slice A l.length c] W fun e w' => ∃ A1 c1, e = .returned (.slice A1 P.length c1) ∧ P.length ≤ c1 ∧ Kd.C k32 w' A1 P.length P ∧ Below W.heap.size W w' := by
  subst hP
  refine (few_calls A c l hl W h1 h2).mono ?_
  rintro e w' ⟨v, rfl, hv, hb⟩
  obtain ⟨A1, c1, rfl, h1, h2⟩ := Kd.R_reads hv
  exact ⟨A1, c1, rfl, h1, h2, hb⟩
theorem lend_f (P : List S32) (h : P.length ≤ 2730) : heraldlaw06_lend.f P = some P := by
  unfold heraldlaw06_lend.f
  rw [if_pos (by simp only [List.length_nil]; omega), Option.bind_some, List.nil_append, if_pos (by omega), Option.bind_some, if_pos (by omega), if_pos (by rw [List.length_append, List.length_singleton]; omega), Int.toNat_natCast, List.take_left]
theorem lend_ex (A : Option Addr) (c : Nat) (P : List S32) (W : World) (h1 : Kd.C k32 W A P.length P) (h2 : P.length ≤ c) (hl : P.length ≤ 2730) : Calls Tryd.prog 15 #[.slice A P.length c] W fun e w' => ∃ A1 c1, e = .returned (.slice A1 P.length c1) ∧ P.length ≤ c1 ∧ Kd.C k32 w' A1 P.length P ∧ Below W.heap.size W w' := by
  refine (heraldlaw06_lend.calls A c P P W h1 h2 (lend_f P hl)).mono ?_
  rintro e w' ⟨v, rfl, hv, hb⟩
  obtain ⟨A1, c1, rfl, h1, h2⟩ := Kd.R_reads hv
  exact ⟨A1, c1, rfl, h1, h2, hb⟩
attribute [local go_sem high] eqA32
theorem apart6_calls (A : Option Addr) (c : Nat) (l : List S32) (w : World) (hG : GL w) (hr : Kd.C k32 w A l.length l) (hc : l.length ≤ c) (hl : l.length ≤ 8796093022208) :
    Calls Tryd.prog 5 #[.slice A l.length c] w fun e w' => e = .returned (.bool true) ∧ Below w.heap.size w w' := by
  have HG := Aside0.mk hG
  have HR := Aside0.mk hr
  have HC := Aside0.mk hc
  have HL := Aside0.mk hl
  have L0 := Aside0.mk (Below.refl w.heap.size w)
  obtain ⟨P, hP⟩ : ∃ P, fewL l = P := ⟨_, rfl⟩
  have HP := Aside0.mk hP
  have HPL : Aside0 (P.length ≤ 2730) := ⟨by rw [← hP]; unfold fewL; rw [List.length_map, List.length_take]; omega⟩
  have HPAR : Aside0 (ParL P) := ⟨by rw [← hP]; exact fewL_par l⟩
  obtain ⟨sb, hsb⟩ : ∃ s, setB P = s := ⟨_, rfl⟩
  have HSB := Aside0.mk hsb
  clear hG hr hc hl hP hsb
  go_enter Tryd.func5, Tryd.ntmps5
  go_upto_region 3 with (first
    | (go_at_call 23; refine (few_ex A c l P HP.out _ HR.out HC.out HL.out).mono ?_; rintro e w1 ⟨A3, c3, rfl, h1, h2, hb⟩; have R1 := Aside0.mk (And.intro h1 h2); have L1 := Aside0.mk hb; clear h1 h2 hb)
    | (go_at_call 15; refine (lend_ex A3 c3 P _ R1.out.2 R1.out.1 HPL.out).mono ?_; rintro e w2 ⟨A4, c4, rfl, h1, h2, hb⟩; have R2 := Aside0.mk (And.intro h1 h2); have L2 := Aside0.mk (below_then L1.out L1.out.size hb); clear h1 h2 hb)
    | (go_at_call 16; refine (write_set P HPAR.out HPL.out A4 c4 _ (HG.out.below L2.out) R2.out.2).mono ?_; rintro e w3 ⟨rfl, hb⟩; rw [HSB.out]; have L3 := Aside0.mk (below_then L2.out L2.out.size hb); clear hb))
  clear R1 R2 L0 L1 L2
  go_upto_region 5 with (go_at_call 19; refine (first_calls _ (HG.out.below L3.out)).mono ?_; rintro e w4 ⟨rfl, hb⟩; have L4 := Aside0.mk (below_then L3.out L3.out.size hb); clear hb)
  clear L3
  go_upto_region 6 with (go_at_call 20; refine (read_set P HPAR.out HPL.out sb HSB.out _ (HG.out.below L4.out)).mono ?_; rintro e wr0 ⟨A0, c0, rfl, hr, hb⟩; have hr2 := Kd.R_lower hr L4.out.size; have L1_ := Aside0.mk (below_then L4.out L4.out.size hb); have V02_ := Aside0.mk hr2; clear hr hr2 hb)
  obtain ⟨Wa, hW⟩ : ∃ W, (wr0.alloc (.cells #[.int .i64 4, .int .i64 0, .int .i64 0, .string ByteArray.empty, .int .i64 0, .int .i64 0, .bool false, .int .i64 0, .int .i64 0, .int .i64 0, .slice A0 P.length c0] 24)).alloc (.cells #[.int .i64 0, .int .i64 0] 35) = W := ⟨_, rfl⟩
  obtain ⟨xa, hx⟩ : ∃ g, wr0.heap.size = g := ⟨_, rfl⟩
  obtain ⟨ya, hy⟩ : ∃ g, xa + 1 = g := ⟨_, rfl⟩
  have hb : Below wr0.heap.size wr0 Wa := by rw [← hW]; exact below_alloc (below_alloc (Below.refl _ _) _) _
  have V03_ := Aside0.mk (Kd.R_below V02_.out hb)
  have L4_ := Aside0.mk (below_then L1_.out L1_.out.size hb)
  have X05_ : Aside0 (Wa.heap[xa]? = some (.cells #[.int .i64 4, .int .i64 0, .int .i64 0, .string ByteArray.empty, .int .i64 0, .int .i64 0, .bool false, .int .i64 0, .int .i64 0, .int .i64 0, .slice A0 P.length c0] 24 (0, 0))) := ⟨by rw [← hW, ← hx]; exact heap_alloc2_old _ _ _⟩
  rw [hW, hx, hy]
  clear hW hx hy hb
  go_upto_region 7 with (go_at_call 20; refine (read_set P HPAR.out HPL.out sb HSB.out _ (HG.out.below L4_.out)).mono ?_; rintro e wr1 ⟨A1, c1, rfl, hr, hb⟩; have AP_V0_V1 : Aside0 (Ap (.slice A0 P.length c0) (.slice A1 P.length c1)) := ⟨ap_new V03_.out hr⟩; have AP_V1_V0 := Aside0.mk AP_V0_V1.out.symm; have hr2 := Kd.R_lower hr L4_.out.size; have V06_ := Aside0.mk (Kd.R_below V03_.out hb); have X07_ := Aside0.mk (blk_below X05_.out hb); have L8_ := Aside0.mk (below_then L4_.out L4_.out.size hb); have V19_ := Aside0.mk hr2; clear hr hr2 hb)
  obtain ⟨Wb, hW⟩ : ∃ W, (wr1.alloc (.cells #[.int .i64 4, .int .i64 0, .int .i64 0, .string ByteArray.empty, .int .i64 0, .int .i64 0, .bool false, .int .i64 0, .int .i64 0, .int .i64 0, .slice A1 P.length c1] 24)).alloc (.cells #[.int .i64 0, .int .i64 0] 35) = W := ⟨_, rfl⟩
  obtain ⟨xb, hx⟩ : ∃ g, wr1.heap.size = g := ⟨_, rfl⟩
  obtain ⟨yb, hy⟩ : ∃ g, xb + 1 = g := ⟨_, rfl⟩
  have hb : Below wr1.heap.size wr1 Wb := by rw [← hW]; exact below_alloc (below_alloc (Below.refl _ _) _) _
  have V010_ := Aside0.mk (Kd.R_below V06_.out hb)
  have X011_ := Aside0.mk (blk_below X07_.out hb)
  have V112_ := Aside0.mk (Kd.R_below V19_.out hb)
  have L13_ := Aside0.mk (below_then L8_.out L8_.out.size hb)
  have X114_ : Aside0 (Wb.heap[xb]? = some (.cells #[.int .i64 4, .int .i64 0, .int .i64 0, .string ByteArray.empty, .int .i64 0, .int .i64 0, .bool false, .int .i64 0, .int .i64 0, .int .i64 0, .slice A1 P.length c1] 24 (0, 0))) := ⟨by rw [← hW, ← hx]; exact heap_alloc2_old _ _ _⟩
  rw [hW, hx, hy]
  clear hW hx hy hb
  go_upto_region 8 with (go_at_call 20; refine (read_set hL hL_par (by decide) ⟨#[0, 0, 6, 4, 0, 0, 0, 0, 0, 0, 3, 0, 0, 0, 1]⟩ hL_b _ (HG.out.below L13_.out)).mono ?_; rintro e wr2 ⟨A2, c2, rfl, hr, hb⟩; have AP_V0_V2 : Aside0 (Ap (.slice A0 P.length c0) (.slice A2 hL.length c2)) := ⟨ap_new V010_.out hr⟩; have AP_V2_V0 := Aside0.mk AP_V0_V2.out.symm; have AP_V1_V2 : Aside0 (Ap (.slice A1 P.length c1) (.slice A2 hL.length c2)) := ⟨ap_new V112_.out hr⟩; have AP_V2_V1 := Aside0.mk AP_V1_V2.out.symm; have hr2 := Kd.R_lower hr L13_.out.size; have V015_ := Aside0.mk (Kd.R_below V010_.out hb); have X016_ := Aside0.mk (blk_below X011_.out hb); have V117_ := Aside0.mk (Kd.R_below V112_.out hb); have X118_ := Aside0.mk (blk_below X114_.out hb); have L19_ := Aside0.mk (below_then L13_.out L13_.out.size hb); have V220_ := Aside0.mk hr2; clear hr hr2 hb)
  obtain ⟨Wc, hW⟩ : ∃ W, (wr2.alloc (.cells #[.int .i64 4, .int .i64 0, .int .i64 0, .string ByteArray.empty, .int .i64 0, .int .i64 0, .bool false, .int .i64 0, .int .i64 0, .int .i64 0, .slice A2 hL.length c2] 24)).alloc (.cells #[.int .i64 0, .int .i64 0] 35) = W := ⟨_, rfl⟩
  obtain ⟨xc, hx⟩ : ∃ g, wr2.heap.size = g := ⟨_, rfl⟩
  obtain ⟨yc, hy⟩ : ∃ g, xc + 1 = g := ⟨_, rfl⟩
  have hb : Below wr2.heap.size wr2 Wc := by rw [← hW]; exact below_alloc (below_alloc (Below.refl _ _) _) _
  have V021_ := Aside0.mk (Kd.R_below V015_.out hb)
  have X022_ := Aside0.mk (blk_below X016_.out hb)
  have V123_ := Aside0.mk (Kd.R_below V117_.out hb)
  have X124_ := Aside0.mk (blk_below X118_.out hb)
  have V225_ := Aside0.mk (Kd.R_below V220_.out hb)
  have L26_ := Aside0.mk (below_then L19_.out L19_.out.size hb)
  have X227_ : Aside0 (Wc.heap[xc]? = some (.cells #[.int .i64 4, .int .i64 0, .int .i64 0, .string ByteArray.empty, .int .i64 0, .int .i64 0, .bool false, .int .i64 0, .int .i64 0, .int .i64 0, .slice A2 hL.length c2] 24 (0, 0))) := ⟨by rw [← hW, ← hx]; exact heap_alloc2_old _ _ _⟩
  rw [hW, hx, hy]
  clear hW hx hy hb
  go_upto_region 8 with fail
  have W8e : Wc = Wc := rfl
  have BX0 := X022_
  have BX1 := X124_
  have BX2 := X227_
  have RV0 := V021_
  have RV1 := V123_
  have RV2 := V225_
  have LW8 := L26_
  have hL1 : ((hL.length : Int) != 1) = false := rfl
  have hL2 : (hL.length != 1) = false := rfl
  have hsz : (((⟨#[0, 0, 6, 4, 0, 0, 0, 0, 0, 0, 3, 0, 0, 0, 1]⟩ : ByteArray).size : Nat) : Int) = 15 := rfl
  refine start_ (n := 35) (S := fun w' => w'.cell? ⟨xa, 10, none⟩ = some (.slice A0 P.length c0) ∧ w'.cell? ⟨xb, 10, none⟩ = some (.slice A1 P.length c1) ∧ w'.cell? ⟨xc, 10, none⟩ = some (.slice A2 hL.length c2) ∧ Below Wc.heap.size Wc w') (ds := []) #[false, false, false, false, false, false, false, false, false, false, false, false, false, false, false, false, false, false, false, false, false, false, false, false, false, false, false, false, false, false, false, false, false, false, false] (by kernel_rfl) rfl rfl ⟨blk_cell (blk_below BX0.out (below_drew (Below.refl _ _))) 10, blk_cell (blk_below BX1.out (below_drew (Below.refl _ _))) 10, blk_cell (blk_below BX2.out (below_drew (Below.refl _ _))) 10, below_drew (Below.refl _ _)⟩ (fun hHeld => ?_)
  refine pure_ (i := 0) (N := some 52) (v := ?_) (a' := ?_) #[true, false, false, false, false, false, false, false, false, false, false, false, false, false, false, false, false, false, false, false, false, false, false, false, false, false, false, false, false, false, false, false, false, false, false] rfl rfl (by kernel_rfl) (fun _ _ _ h => h) (Or.inl ⟨by rfl, ?_⟩) ?_ ?_
  rotate_left
  · intro w'
    go_simp
    with_reducible rfl
  rotate_left
  · simp only [Act.put, List.setIfInBounds_toArray, List.set_cons_zero, List.set_cons_succ, i64_w, i32_w]
    rfl
  refine pure_ (i := 1) (N := some 53) (v := ?_) (a' := ?_) #[true, true, false, false, false, false, false, false, false, false, false, false, false, false, false, false, false, false, false, false, false, false, false, false, false, false, false, false, false, false, false, false, false, false, false] rfl rfl (by kernel_rfl) (fun _ _ _ h => h) (Or.inl ⟨by rfl, ?_⟩) ?_ ?_
  rotate_left
  · intro w'
    go_simp
    with_reducible rfl
  rotate_left
  · simp only [Act.put, List.setIfInBounds_toArray, List.set_cons_zero, List.set_cons_succ, i64_w, i32_w]
    rfl
  refine pure_ (i := 2) (N := some 54) (v := ?_) (a' := ?_) #[true, true, true, false, false, false, false, false, false, false, false, false, false, false, false, false, false, false, false, false, false, false, false, false, false, false, false, false, false, false, false, false, false, false, false] rfl rfl (by kernel_rfl) (fun _ _ _ h => h) (Or.inl ⟨by rfl, ?_⟩) ?_ ?_
  rotate_left
  · intro w'
    go_simp
    with_reducible rfl
  rotate_left
  · simp only [Act.put, List.setIfInBounds_toArray, List.set_cons_zero, List.set_cons_succ, i64_w, i32_w]
    rfl
  refine pure_ (i := 3) (N := some 55) (v := ?_) (a' := ?_) #[true, true, true, true, false, false, false, false, false, false, false, false, false, false, false, false, false, false, false, false, false, false, false, false, false, false, false, false, false, false, false, false, false, false, false] rfl rfl (by kernel_rfl) (fun _ _ _ h => h) (Or.inl ⟨by rfl, ?_⟩) ?_ ?_
  rotate_left
  · intro w'
    go_simp
    with_reducible rfl
  rotate_left
  · simp only [Act.put, List.setIfInBounds_toArray, List.set_cons_zero, List.set_cons_succ, i64_w, i32_w]
    rfl
  refine pure_ (i := 4) (N := some 56) (v := ?_) (a' := ?_) #[true, true, true, true, true, false, false, false, false, false, false, false, false, false, false, false, false, false, false, false, false, false, false, false, false, false, false, false, false, false, false, false, false, false, false] rfl rfl (by kernel_rfl) (fun _ _ _ h => h) (Or.inl ⟨by rfl, ?_⟩) ?_ ?_
  rotate_left
  · intro w'
    go_simp
    with_reducible rfl
  rotate_left
  · simp only [Act.put, List.setIfInBounds_toArray, List.set_cons_zero, List.set_cons_succ, i64_w, i32_w]
    rfl
  refine pure_ (i := 5) (N := some 57) (v := ?_) (a' := ?_) #[true, true, true, true, true, true, false, false, false, false, false, false, false, false, false, false, false, false, false, false, false, false, false, false, false, false, false, false, false, false, false, false, false, false, false] rfl rfl (by kernel_rfl) (fun _ _ _ h => h) (Or.inl ⟨by rfl, ?_⟩) ?_ ?_
  rotate_left
  · intro w'
    go_simp
    with_reducible rfl
  rotate_left
  · simp only [Act.put, List.setIfInBounds_toArray, List.set_cons_zero, List.set_cons_succ, i64_w, i32_w]
    rfl
  refine pure_ (i := 6) (N := some 58) (v := ?_) (a' := ?_) #[true, true, true, true, true, true, true, false, false, false, false, false, false, false, false, false, false, false, false, false, false, false, false, false, false, false, false, false, false, false, false, false, false, false, false] rfl rfl (by kernel_rfl) (fun _ _ _ h => h) (Or.inl ⟨by rfl, ?_⟩) ?_ ?_
  rotate_left
  · intro w'
    go_simp
    with_reducible rfl
  rotate_left
  · simp only [Act.put, List.setIfInBounds_toArray, List.set_cons_zero, List.set_cons_succ, i64_w, i32_w]
    rfl
  refine pure_ (i := 7) (N := some 59) (v := ?_) (a' := ?_) #[true, true, true, true, true, true, true, true, false, false, false, false, false, false, false, false, false, false, false, false, false, false, false, false, false, false, false, false, false, false, false, false, false, false, false] rfl rfl (by kernel_rfl) (fun _ _ _ h => h) (Or.inl ⟨by rfl, ?_⟩) ?_ ?_
  rotate_left
  · intro w'
    go_simp
    with_reducible rfl
  rotate_left
  · simp only [Act.put, List.setIfInBounds_toArray, List.set_cons_zero, List.set_cons_succ, i64_w, i32_w]
    rfl
  refine pure_ (i := 8) (N := some 60) (v := ?_) (a' := ?_) #[true, true, true, true, true, true, true, true, true, false, false, false, false, false, false, false, false, false, false, false, false, false, false, false, false, false, false, false, false, false, false, false, false, false, false] rfl rfl (by kernel_rfl) (fun _ _ _ h => h) (Or.inl ⟨by rfl, ?_⟩) ?_ ?_
  rotate_left
  · intro w'
    go_simp
    with_reducible rfl
  rotate_left
  · simp only [Act.put, List.setIfInBounds_toArray, List.set_cons_zero, List.set_cons_succ, i64_w, i32_w]
    rfl
  refine pure_ (i := 9) (N := some 61) (v := ?_) (a' := ?_) #[true, true, true, true, true, true, true, true, true, true, false, false, false, false, false, false, false, false, false, false, false, false, false, false, false, false, false, false, false, false, false, false, false, false, false] rfl rfl (by kernel_rfl) (fun _ _ _ h => h) (Or.inl ⟨by rfl, ?_⟩) ?_ ?_
  rotate_left
  · intro w'
    go_simp
    with_reducible rfl
  rotate_left
  · simp only [Act.put, List.setIfInBounds_toArray, List.set_cons_zero, List.set_cons_succ, i64_w, i32_w]
    rfl
  refine pure_ (i := 10) (N := some 62) (v := ?_) (a' := ?_) #[true, true, true, true, true, true, true, true, true, true, true, false, false, false, false, false, false, false, false, false, false, false, false, false, false, false, false, false, false, false, false, false, false, false, false] rfl rfl (by kernel_rfl) (fun _ _ _ h => h) (Or.inl ⟨by rfl, ?_⟩) ?_ ?_
  rotate_left
  · intro w'
    go_simp
    with_reducible rfl
  rotate_left
  · simp only [Act.put, List.setIfInBounds_toArray, List.set_cons_zero, List.set_cons_succ, i64_w, i32_w]
    rfl
  refine pure_ (i := 11) (N := some 63) (v := ?_) (a' := ?_) #[true, true, true, true, true, true, true, true, true, true, true, true, false, false, false, false, false, false, false, false, false, false, false, false, false, false, false, false, false, false, false, false, false, false, false] rfl rfl (by kernel_rfl) (fun _ _ _ h => h) (Or.inl ⟨by rfl, ?_⟩) ?_ ?_
  rotate_left
  · intro w'
    go_simp
    with_reducible rfl
  rotate_left
  · simp only [Act.put, List.setIfInBounds_toArray, List.set_cons_zero, List.set_cons_succ, i64_w, i32_w]
    rfl
  refine pure_ (i := 12) (N := some 64) (v := ?_) (a' := ?_) #[true, true, true, true, true, true, true, true, true, true, true, true, true, false, false, false, false, false, false, false, false, false, false, false, false, false, false, false, false, false, false, false, false, false, false] rfl rfl (by kernel_rfl) (fun _ _ _ h => h) (Or.inl ⟨by rfl, ?_⟩) ?_ ?_
  rotate_left
  · intro w'
    go_simp
    with_reducible rfl
  rotate_left
  · simp only [Act.put, List.setIfInBounds_toArray, List.set_cons_zero, List.set_cons_succ, i64_w, i32_w]
    rfl
  refine pure_ (i := 13) (N := some 65) (v := ?_) (a' := ?_) #[true, true, true, true, true, true, true, true, true, true, true, true, true, true, false, false, false, false, false, false, false, false, false, false, false, false, false, false, false, false, false, false, false, false, false] rfl rfl (by kernel_rfl) (fun _ _ _ h => h) (Or.inl ⟨by rfl, ?_⟩) ?_ ?_
  rotate_left
  · intro w'
    go_simp
    with_reducible rfl
  rotate_left
  · simp only [Act.put, List.setIfInBounds_toArray, List.set_cons_zero, List.set_cons_succ, i64_w, i32_w]
    rfl
  refine pure_ (i := 14) (N := some 66) (v := ?_) (a' := ?_) #[true, true, true, true, true, true, true, true, true, true, true, true, true, true, true, false, false, false, false, false, false, false, false, false, false, false, false, false, false, false, false, false, false, false, false] rfl rfl (by kernel_rfl) (fun _ _ _ h => h) (Or.inl ⟨by rfl, ?_⟩) ?_ ?_
  rotate_left
  · intro w'
    go_simp
    with_reducible rfl
  rotate_left
  · simp only [Act.put, List.setIfInBounds_toArray, List.set_cons_zero, List.set_cons_succ, i64_w, i32_w]
    rfl
  refine pure_ (i := 16) (N := some 68) (v := ?_) (a' := ?_) #[true, true, true, true, true, true, true, true, true, true, true, true, true, true, true, false, true, false, false, false, false, false, false, false, false, false, false, false, false, false, false, false, false, false, false] rfl rfl (by kernel_rfl) (fun _ _ _ h => h) (Or.inl ⟨by rfl, ?_⟩) ?_ ?_
  rotate_left
  · intro w'
    go_simp
    with_reducible rfl
  rotate_left
  · simp only [Act.put, List.setIfInBounds_toArray, List.set_cons_zero, List.set_cons_succ, i64_w, i32_w]
    rfl
  refine take_ (i := 15) (N := some 67) (v := ?_) (a' := ?_) #[true, true, true, true, true, true, true, true, true, true, true, true, true, true, true, true, true, false, false, false, false, false, false, false, false, false, false, false, false, false, false, false, false, false, false] rfl rfl (by kernel_rfl) (fun _ _ _ h => h) (Or.inl ⟨by rfl, ?_⟩) hHeld ?_ ?_
  rotate_left
  · rintro w' ⟨s0, s1, s2, s3⟩
    go_simp
    with_reducible rfl
  rotate_left
  · simp only [Act.put, List.setIfInBounds_toArray, List.set_cons_zero, List.set_cons_succ, i64_w, i32_w]
    rfl
  refine one_ (i := 17) (N := some 69) #[true, true, true, true, true, true, true, true, true, true, true, true, true, true, true, true, true, true, false, false, false, false, false, false, false, false, false, false, false, false, false, false, false, false, false] rfl rfl (by kernel_rfl) (by decide) (fun K hK => ?_)
  refine goes_ Tryd.func23 (by kernel_rfl) rfl #[.slice A l.length c] (by rfl) rfl rfl (by simp only [List.map_toArray, List.map_cons, List.map_nil]; rfl) ?_
  with_reducible refine (few_ex A c l P HP.out _ (Kd.C_below HR.out (below_then LW8.out LW8.out.size hHeld.2.2.2)) HC.out HL.out).mono ?_
  rintro e w5 ⟨A5, c5, rfl, h1, h2, hb⟩
  refine ⟨_, rfl, ?_⟩
  have HA5 := Aside0.mk (And.intro h1 h2)
  clear h1 h2
  refine hK.out _ _ ⟨(hb.cell (World.block_lt_of_cell? _ _ hHeld.1)).trans hHeld.1, (hb.cell (World.block_lt_of_cell? _ _ hHeld.2.1)).trans hHeld.2.1, (hb.cell (World.block_lt_of_cell? _ _ hHeld.2.2.1)).trans hHeld.2.2.1, below_then hHeld.2.2.2 hHeld.2.2.2.size hb⟩ (fun hHeld => ?_)
  clear hK K
  refine norm_ (a' := ?_) ?_ ?_
  rotate_left
  · show Act.put _ (some 69) _ = _
    simp only [Act.put, List.setIfInBounds_toArray, List.set_cons_zero, List.set_cons_succ, i64_w, i32_w]
    rfl
  refine one_ (i := 18) (N := some 70) #[true, true, true, true, true, true, true, true, true, true, true, true, true, true, true, true, true, true, true, false, false, false, false, false, false, false, false, false, false, false, false, false, false, false, false] rfl rfl (by kernel_rfl) (by decide) (fun K hK => ?_)
  refine goes_ Tryd.func24 (by kernel_rfl) rfl #[.slice A0 P.length c0, .slice A5 P.length c5] (by rfl) rfl rfl (by simp only [List.map_toArray, List.map_cons, List.map_nil]; rfl) ?_
  with_reducible refine (samep_calls A0 A5 c0 c5 P (by have := HPL.out; omega) _ (Kd.C_below (Kd.R_reads' RV0.out).2.2 hHeld.2.2.2) (Kd.R_reads' RV0.out).2.1 HA5.out.2 HA5.out.1).mono ?_
  rintro e w6 ⟨rfl, hb⟩
  refine ⟨_, rfl, ?_⟩
  refine hK.out _ _ ⟨(hb.cell (World.block_lt_of_cell? _ _ hHeld.1)).trans hHeld.1, (hb.cell (World.block_lt_of_cell? _ _ hHeld.2.1)).trans hHeld.2.1, (hb.cell (World.block_lt_of_cell? _ _ hHeld.2.2.1)).trans hHeld.2.2.1, below_then hHeld.2.2.2 hHeld.2.2.2.size hb⟩ (fun hHeld => ?_)
  clear hK K
  refine norm_ (a' := ?_) ?_ ?_
  rotate_left
  · show Act.put _ (some 70) _ = _
    simp only [Act.put, List.setIfInBounds_toArray, List.set_cons_zero, List.set_cons_succ, i64_w, i32_w]
    rfl
  refine pure_ (i := 19) (N := some 71) (v := ?_) (a' := ?_) #[true, true, true, true, true, true, true, true, true, true, true, true, true, true, true, true, true, true, true, true, false, false, false, false, false, false, false, false, false, false, false, false, false, false, false] rfl rfl (by kernel_rfl) (fun _ _ _ h => h) (Or.inl ⟨by rfl, ?_⟩) ?_ ?_
  rotate_left
  · intro w'
    go_simp
    with_reducible rfl
  rotate_left
  · simp only [Act.put, List.setIfInBounds_toArray, List.set_cons_zero, List.set_cons_succ, i64_w, i32_w]
    rfl
  refine pure_ (i := 20) (N := some 72) (v := ?_) (a' := ?_) #[true, true, true, true, true, true, true, true, true, true, true, true, true, true, true, true, true, true, true, true, true, false, false, false, false, false, false, false, false, false, false, false, false, false, false] rfl rfl (by kernel_rfl) (fun _ _ _ h => h) (Or.inl ⟨by rfl, ?_⟩) ?_ ?_
  rotate_left
  · intro w'
    go_simp
    with_reducible rfl
  rotate_left
  · simp only [Act.put, List.setIfInBounds_toArray, List.set_cons_zero, List.set_cons_succ, i64_w, i32_w]
    rfl
  refine pure_ (i := 21) (N := some 73) (v := ?_) (a' := ?_) #[true, true, true, true, true, true, true, true, true, true, true, true, true, true, true, true, true, true, true, true, true, true, false, false, false, false, false, false, false, false, false, false, false, false, false] rfl rfl (by kernel_rfl) (fun _ _ _ h => h) (Or.inl ⟨by rfl, ?_⟩) ?_ ?_
  rotate_left
  · intro w'
    go_simp
    with_reducible rfl
  rotate_left
  · simp only [Act.put, List.setIfInBounds_toArray, List.set_cons_zero, List.set_cons_succ, i64_w, i32_w]
    rfl
  refine pure_ (i := 22) (N := some 74) (v := ?_) (a' := ?_) #[true, true, true, true, true, true, true, true, true, true, true, true, true, true, true, true, true, true, true, true, true, true, true, false, false, false, false, false, false, false, false, false, false, false, false] rfl rfl (by kernel_rfl) (fun _ _ _ h => h) (Or.inl ⟨by rfl, ?_⟩) ?_ ?_
  rotate_left
  · intro w'
    go_simp
    with_reducible rfl
  rotate_left
  · simp only [Act.put, List.setIfInBounds_toArray, List.set_cons_zero, List.set_cons_succ, i64_w, i32_w]
    rfl
  refine pure_ (i := 24) (N := some 76) (v := ?_) (a' := ?_) #[true, true, true, true, true, true, true, true, true, true, true, true, true, true, true, true, true, true, true, true, true, true, true, false, true, false, false, false, false, false, false, false, false, false, false] rfl rfl (by kernel_rfl) (fun _ _ _ h => h) (Or.inl ⟨by rfl, ?_⟩) ?_ ?_
  rotate_left
  · intro w'
    go_simp
    with_reducible rfl
  rotate_left
  · simp only [Act.put, List.setIfInBounds_toArray, List.set_cons_zero, List.set_cons_succ, i64_w, i32_w]
    rfl
  refine take_ (i := 23) (N := some 75) (v := ?_) (a' := ?_) #[true, true, true, true, true, true, true, true, true, true, true, true, true, true, true, true, true, true, true, true, true, true, true, true, true, false, false, false, false, false, false, false, false, false, false] rfl rfl (by kernel_rfl) (fun _ _ _ h => h) (Or.inl ⟨by rfl, ?_⟩) hHeld ?_ ?_
  rotate_left
  · rintro w' ⟨s0, s1, s2, s3⟩
    go_simp
    with_reducible rfl
  rotate_left
  · simp only [Act.put, List.setIfInBounds_toArray, List.set_cons_zero, List.set_cons_succ, i64_w, i32_w]
    rfl
  refine one_ (i := 25) (N := some 77) #[true, true, true, true, true, true, true, true, true, true, true, true, true, true, true, true, true, true, true, true, true, true, true, true, true, true, false, false, false, false, false, false, false, false, false] rfl rfl (by kernel_rfl) (by decide) (fun K hK => ?_)
  refine goes_ Tryd.func23 (by kernel_rfl) rfl #[.slice A l.length c] (by rfl) rfl rfl (by simp only [List.map_toArray, List.map_cons, List.map_nil]; rfl) ?_
  with_reducible refine (few_ex A c l P HP.out _ (Kd.C_below HR.out (below_then LW8.out LW8.out.size hHeld.2.2.2)) HC.out HL.out).mono ?_
  rintro e w7 ⟨A6, c6, rfl, h1, h2, hb⟩
  refine ⟨_, rfl, ?_⟩
  have HA6 := Aside0.mk (And.intro h1 h2)
  clear h1 h2
  refine hK.out _ _ ⟨(hb.cell (World.block_lt_of_cell? _ _ hHeld.1)).trans hHeld.1, (hb.cell (World.block_lt_of_cell? _ _ hHeld.2.1)).trans hHeld.2.1, (hb.cell (World.block_lt_of_cell? _ _ hHeld.2.2.1)).trans hHeld.2.2.1, below_then hHeld.2.2.2 hHeld.2.2.2.size hb⟩ (fun hHeld => ?_)
  clear hK K
  refine norm_ (a' := ?_) ?_ ?_
  rotate_left
  · show Act.put _ (some 77) _ = _
    simp only [Act.put, List.setIfInBounds_toArray, List.set_cons_zero, List.set_cons_succ, i64_w, i32_w]
    rfl
  refine one_ (i := 26) (N := some 78) #[true, true, true, true, true, true, true, true, true, true, true, true, true, true, true, true, true, true, true, true, true, true, true, true, true, true, true, false, false, false, false, false, false, false, false] rfl rfl (by kernel_rfl) (by decide) (fun K hK => ?_)
  refine goes_ Tryd.func24 (by kernel_rfl) rfl #[.slice A1 P.length c1, .slice A6 P.length c6] (by rfl) rfl rfl (by simp only [List.map_toArray, List.map_cons, List.map_nil]; rfl) ?_
  with_reducible refine (samep_calls A1 A6 c1 c6 P (by have := HPL.out; omega) _ (Kd.C_below (Kd.R_reads' RV1.out).2.2 hHeld.2.2.2) (Kd.R_reads' RV1.out).2.1 HA6.out.2 HA6.out.1).mono ?_
  rintro e w9 ⟨rfl, hb⟩
  refine ⟨_, rfl, ?_⟩
  refine hK.out _ _ ⟨(hb.cell (World.block_lt_of_cell? _ _ hHeld.1)).trans hHeld.1, (hb.cell (World.block_lt_of_cell? _ _ hHeld.2.1)).trans hHeld.2.1, (hb.cell (World.block_lt_of_cell? _ _ hHeld.2.2.1)).trans hHeld.2.2.1, below_then hHeld.2.2.2 hHeld.2.2.2.size hb⟩ (fun hHeld => ?_)
  clear hK K
  refine norm_ (a' := ?_) ?_ ?_
  rotate_left
  · show Act.put _ (some 78) _ = _
    simp only [Act.put, List.setIfInBounds_toArray, List.set_cons_zero, List.set_cons_succ, i64_w, i32_w]
    rfl
  refine pure_ (i := 27) (N := some 79) (v := ?_) (a' := ?_) #[true, true, true, true, true, true, true, true, true, true, true, true, true, true, true, true, true, true, true, true, true, true, true, true, true, true, true, true, false, false, false, false, false, false, false] rfl rfl (by kernel_rfl) (fun _ _ _ h => h) (Or.inl ⟨by rfl, ?_⟩) ?_ ?_
  rotate_left
  · intro w'
    go_simp
    with_reducible rfl
  rotate_left
  · simp only [Act.put, List.setIfInBounds_toArray, List.set_cons_zero, List.set_cons_succ, i64_w, i32_w]
    rfl
  refine pure_ (i := 28) (N := some 80) (v := ?_) (a' := ?_) #[true, true, true, true, true, true, true, true, true, true, true, true, true, true, true, true, true, true, true, true, true, true, true, true, true, true, true, true, true, false, false, false, false, false, false] rfl rfl (by kernel_rfl) (fun _ _ _ h => h) (Or.inl ⟨by rfl, ?_⟩) ?_ ?_
  rotate_left
  · intro w'
    go_simp
    with_reducible rfl
  rotate_left
  · simp only [Act.put, List.setIfInBounds_toArray, List.set_cons_zero, List.set_cons_succ, i64_w, i32_w]
    rfl
  refine pure_ (i := 29) (N := some 81) (v := ?_) (a' := ?_) #[true, true, true, true, true, true, true, true, true, true, true, true, true, true, true, true, true, true, true, true, true, true, true, true, true, true, true, true, true, true, false, false, false, false, false] rfl rfl (by kernel_rfl) (fun _ _ _ h => h) (Or.inl ⟨by rfl, ?_⟩) ?_ ?_
  rotate_left
  · intro w'
    go_simp
    with_reducible rfl
  rotate_left
  · simp only [Act.put, List.setIfInBounds_toArray, List.set_cons_zero, List.set_cons_succ, i64_w, i32_w]
    rfl
  refine pure_ (i := 30) (N := some 82) (v := ?_) (a' := ?_) #[true, true, true, true, true, true, true, true, true, true, true, true, true, true, true, true, true, true, true, true, true, true, true, true, true, true, true, true, true, true, true, false, false, false, false] rfl rfl (by kernel_rfl) (fun _ _ _ h => h) (Or.inl ⟨by rfl, ?_⟩) ?_ ?_
  rotate_left
  · intro w'
    go_simp
    with_reducible rfl
  rotate_left
  · simp only [Act.put, List.setIfInBounds_toArray, List.set_cons_zero, List.set_cons_succ, i64_w, i32_w]
    rfl
  refine take_ (i := 31) (N := some 83) (v := ?_) (a' := ?_) #[true, true, true, true, true, true, true, true, true, true, true, true, true, true, true, true, true, true, true, true, true, true, true, true, true, true, true, true, true, true, true, true, false, false, false] rfl rfl (by kernel_rfl) (fun _ _ _ h => h) (Or.inl ⟨by rfl, ?_⟩) hHeld ?_ ?_
  rotate_left
  · rintro w' ⟨s0, s1, s2, s3⟩
    go_simp
    with_reducible rfl
  rotate_left
  · simp only [Act.put, List.setIfInBounds_toArray, List.set_cons_zero, List.set_cons_succ, i64_w, i32_w]
    rfl
  refine pure_ (i := 32) (N := some 84) (v := ?_) (a' := ?_) #[true, true, true, true, true, true, true, true, true, true, true, true, true, true, true, true, true, true, true, true, true, true, true, true, true, true, true, true, true, true, true, true, true, false, false] rfl rfl (by kernel_rfl) (fun _ _ _ h => h) (Or.inl ⟨by rfl, ?_⟩) ?_ ?_
  rotate_left
  · intro w'
    go_simp
    with_reducible rfl
  rotate_left
  · simp only [Act.put, List.setIfInBounds_toArray, List.set_cons_zero, List.set_cons_succ, i64_w, i32_w]
    rfl
  refine pure_ (i := 33) (N := some 85) (v := ?_) (a' := ?_) #[true, true, true, true, true, true, true, true, true, true, true, true, true, true, true, true, true, true, true, true, true, true, true, true, true, true, true, true, true, true, true, true, true, true, false] rfl rfl (by kernel_rfl) (fun _ _ _ h => h) (Or.inl ⟨by rfl, ?_⟩) ?_ ?_
  rotate_left
  · intro w'
    go_simp
    with_reducible rfl
  rotate_left
  · simp only [Act.put, List.setIfInBounds_toArray, List.set_cons_zero, List.set_cons_succ, i64_w, i32_w]
    rfl
  refine pure_ (i := 34) (N := some 86) (v := ?_) (a' := ?_) #[true, true, true, true, true, true, true, true, true, true, true, true, true, true, true, true, true, true, true, true, true, true, true, true, true, true, true, true, true, true, true, true, true, true, true] rfl rfl (by kernel_rfl) (fun _ _ _ h => h) (Or.inl ⟨by rfl, ?_⟩) ?_ ?_
  rotate_left
  · intro w'
    go_simp
    with_reducible rfl
  rotate_left
  · simp only [Act.put, List.setIfInBounds_toArray, List.set_cons_zero, List.set_cons_succ, i64_w, i32_w]
    rfl
  refine done_ (by kernel_rfl) ?_
  have hb := hHeld.2.2.2
  have V028_ := Aside0.mk (Kd.R_below V021_.out hb)
  have X029_ := Aside0.mk (blk_below X022_.out hb)
  have V130_ := Aside0.mk (Kd.R_below V123_.out hb)
  have X131_ := Aside0.mk (blk_below X124_.out hb)
  have V232_ := Aside0.mk (Kd.R_below V225_.out hb)
  have X233_ := Aside0.mk (blk_below X227_.out hb)
  have L34_ := Aside0.mk (below_then L26_.out L26_.out.size hb)
  clear hb hHeld BX0 BX1 BX2 RV0 RV1 RV2 LW8 W8e
  have z0 := blk_cell X029_.out 10
  have z1 := blk_cell X131_.out 10
  have z2 := blk_cell X233_.out 10
  go_upto_region 11 with fail
  obtain ⟨Wd, hW⟩ : ∃ W, w9.alloc (.cells #[.slice A0 P.length c0, .slice A1 P.length c1, .slice A2 hL.length c2] 40) = W := ⟨_, rfl⟩
  obtain ⟨ar, hx⟩ : ∃ g, w9.heap.size = g := ⟨_, rfl⟩
  have hb : Below w9.heap.size w9 Wd := by rw [← hW]; exact below_alloc (Below.refl _ _) _
  have V035_ := Aside0.mk (Kd.R_below V028_.out hb)
  have V136_ := Aside0.mk (Kd.R_below V130_.out hb)
  have V237_ := Aside0.mk (Kd.R_below V232_.out hb)
  have L38_ := Aside0.mk (below_then L34_.out L34_.out.size hb)
  have AR39_ : Aside0 (Wd.heap[ar]? = some (.cells #[.slice A0 P.length c0, .slice A1 P.length c1, .slice A2 hL.length c2] 40 (0, 0))) := ⟨by rw [← hW, ← hx]; exact blk_new _ _⟩
  rw [hW, hx]
  clear hW hx hb z0 z1 z2 hL1 hL2 hsz
  go_upto_if 12 with fail
  refine wp_loop_rounds 4 ?_
  rw [rounds_succ]
  have e0 : ow 100 P 0 = P := rfl
  go_upto_if 15 with fail
  go_loopw [16] (fun v w' => ∃ j : Nat, v = .int .i64 (j : Int) ∧ Aside0 (j ≤ P.length) ∧ Aside0 (Kd.R k32 32 w' w.heap.size (fun _ => True) (.slice A0 P.length c0) (ow 100 P j)) ∧ Aside0 (Kd.R k32 32 w' w.heap.size (fun _ => True) (.slice A1 P.length c1) (P)) ∧ Aside0 (Kd.R k32 32 w' w.heap.size (fun _ => True) (.slice A2 hL.length c2) (hL)) ∧ Aside0 (w'.heap[ar]? = some (.cells #[.slice A0 P.length c0, .slice A1 P.length c1, .slice A2 hL.length c2] 40 (0, 0))) ∧ Aside0 (Below w.heap.size w w')) (fun v _ => ((P.length : Int) - intOf v).toNat)
  case atStart => exact ⟨0, rfl, ⟨Nat.zero_le _⟩, V035_, V136_, V237_, AR39_, L38_⟩
  case round =>
    clear e0 V035_ V136_ V237_ AR39_ L38_
    obtain ⟨j, rfl, HJ, V0i0_, V1i0_, V2i0_, ARi0_, Li0_⟩ := hrel
    have zA := blk_cell ARi0_.out 0
    by_cases hjl : j < P.length
    · have d1 : decide ((j : Int) < (P.length : Int)) = true := decide_eq_true (by omega)
      have d2 : decide (j < P.length) = true := decide_eq_true (by omega)
      obtain ⟨m, hm⟩ : ∃ m, j + 1 = m := ⟨_, rfl⟩
      have hw1 : wrap64 ((j : Int) + 1) = (m : Int) := by have := HPL.out; unfold wrap64; omega
      have HJM : Aside0 (j < P.length ∧ j + 1 = m) := ⟨hjl, hm⟩
      have p0 : (0 : Int) ≤ (j : Int) := by omega
      have p1 : (j : Int) < (P.length : Int) := by omega
      obtain ⟨g, cg, eg, _⟩ := Kd.R_form V0i0_.out (by rw [ow_len _ _ _ (by omega)]; omega)
      injection eg with eg1 _ eg2
      subst eg1; subst eg2
      obtain ⟨cc, hcl, hcM, hcc, hcf⟩ := Kd.R_elem V0i0_.out z32 (j : Int) p0 p1
      have HCE := Aside0.mk (k32_openM hcM)
      have HCL := Aside0.mk hcl
      have HCC := Aside0.mk hcc
      clear hcl hcM hcc hcf hm hjl
      go_wp2_with ((with_reducible refine gate_ (.store 32 (.tmp 114) (.tmp 113)) rfl ?_); refine Kd.R_store k32 (w0 := w) w.heap.size rfl rfl 32 (.tmp 114) (.tmp 113) rfl 32 (g := g) (n := P.length) (cap := c0) (j : Int) 0 (ow 100 P j) ⟨100, (j : Int)⟩ (.agg #[.int .i64 100, .int .i64 (j : Int)]) [.int .i64 100, .int .i64 (j : Int)] cc (fun _ => True) (fun _ => False) rfl ?off rfl rfl (by kernel_rfl) ?one V0i0_.out p0 p1 HCL.out HCC.out (Nat.le_refl 2) ?M (fun _ h => h.elim) Li0_.out ?_; (case off => rw [Int.toNat_natCast]; rfl); (case one => intro q hq; simp only [List.mem_cons, List.not_mem_nil, or_false] at hq; rcases hq with rfl | rfl <;> rfl); (case M => rw [HCE.out]; exact k32_mkM _ _ _ (⟨100, (j : Int)⟩ : S32)); intro w9 ho hb hg; have V140_ := Aside0.mk (row_other rfl V1i0_.out hg AP_V0_V1.out); have V241_ := Aside0.mk (row_other rfl V2i0_.out hg AP_V0_V2.out); have AR42_ := Aside0.mk (blk_grown ARi0_.out hg (Kd.R_ne V0i0_.out ARi0_.out (by decide))); have L43_ := Aside0.mk hb; have V044_ : Aside0 (Kd.R k32 32 _ w.heap.size (fun _ => True) (.slice (some ⟨g, 0, none⟩) P.length c0) (ow 100 P m)) := ⟨by rw [← HJM.out.2, ← ow_set 100 P j HJM.out.1]; exact ho⟩; clear ho hb hg)
      go_roundw
      case rel => exact ⟨m, congrArg (Value.int .i64) hw1, ⟨by have := HJM.out; omega⟩, V044_, V140_, V241_, AR42_, L43_⟩
      case measure =>
        rw [hw1]
        show ((P.length : Int) - (m : Int)).toNat < ((P.length : Int) - (j : Int)).toNat
        have := HJM.out
        omega
    · have d1 : decide ((j : Int) < (P.length : Int)) = false := decide_eq_false (by omega)
      have d2 : decide (j < P.length) = false := decide_eq_false (by omega)
      have hje : j = P.length := by have := HJ.out; omega
      subst hje
      clear hjl HJ
      go_wp2_with fail
      rw [rounds_succ]
      have e0 : ow 101 P 0 = P := rfl
      go_upto_if 15 with fail
      go_loopw [16] (fun v w' => ∃ j : Nat, v = .int .i64 (j : Int) ∧ Aside0 (j ≤ P.length) ∧ Aside0 (Kd.R k32 32 w' w.heap.size (fun _ => True) (.slice A0 P.length c0) (ow 100 P P.length)) ∧ Aside0 (Kd.R k32 32 w' w.heap.size (fun _ => True) (.slice A1 P.length c1) (ow 101 P j)) ∧ Aside0 (Kd.R k32 32 w' w.heap.size (fun _ => True) (.slice A2 hL.length c2) (hL)) ∧ Aside0 (w'.heap[ar]? = some (.cells #[.slice A0 P.length c0, .slice A1 P.length c1, .slice A2 hL.length c2] 40 (0, 0))) ∧ Aside0 (Below w.heap.size w w')) (fun v _ => ((P.length : Int) - intOf v).toNat)
      case atStart => exact ⟨0, rfl, ⟨Nat.zero_le _⟩, V0i0_, V1i0_, V2i0_, ARi0_, Li0_⟩
      case round =>
        clear e0 V0i0_ V1i0_ V2i0_ ARi0_ Li0_
        obtain ⟨j, rfl, HJ, V0i1_, V1i1_, V2i1_, ARi1_, Li1_⟩ := hrel
        have zA := blk_cell ARi1_.out 1
        by_cases hjl : j < P.length
        · have d1 : decide ((j : Int) < (P.length : Int)) = true := decide_eq_true (by omega)
          have d2 : decide (j < P.length) = true := decide_eq_true (by omega)
          obtain ⟨m, hm⟩ : ∃ m, j + 1 = m := ⟨_, rfl⟩
          have hw1 : wrap64 ((j : Int) + 1) = (m : Int) := by have := HPL.out; unfold wrap64; omega
          have HJM : Aside0 (j < P.length ∧ j + 1 = m) := ⟨hjl, hm⟩
          have p0 : (0 : Int) ≤ (j : Int) := by omega
          have p1 : (j : Int) < (P.length : Int) := by omega
          obtain ⟨g, cg, eg, _⟩ := Kd.R_form V1i1_.out (by rw [ow_len _ _ _ (by omega)]; omega)
          injection eg with eg1 _ eg2
          subst eg1; subst eg2
          obtain ⟨cc, hcl, hcM, hcc, hcf⟩ := Kd.R_elem V1i1_.out z32 (j : Int) p0 p1
          have HCE := Aside0.mk (k32_openM hcM)
          have HCL := Aside0.mk hcl
          have HCC := Aside0.mk hcc
          clear hcl hcM hcc hcf hm hjl
          go_wp2_with ((with_reducible refine gate_ (.store 32 (.tmp 114) (.tmp 113)) rfl ?_); refine Kd.R_store k32 (w0 := w) w.heap.size rfl rfl 32 (.tmp 114) (.tmp 113) rfl 32 (g := g) (n := P.length) (cap := c1) (j : Int) 0 (ow 101 P j) ⟨101, (j : Int)⟩ (.agg #[.int .i64 101, .int .i64 (j : Int)]) [.int .i64 101, .int .i64 (j : Int)] cc (fun _ => True) (fun _ => False) rfl ?off rfl rfl (by kernel_rfl) ?one V1i1_.out p0 p1 HCL.out HCC.out (Nat.le_refl 2) ?M (fun _ h => h.elim) Li1_.out ?_; (case off => rw [Int.toNat_natCast]; rfl); (case one => intro q hq; simp only [List.mem_cons, List.not_mem_nil, or_false] at hq; rcases hq with rfl | rfl <;> rfl); (case M => rw [HCE.out]; exact k32_mkM _ _ _ (⟨101, (j : Int)⟩ : S32)); intro w9 ho hb hg; have V045_ := Aside0.mk (row_other rfl V0i1_.out hg AP_V1_V0.out); have V246_ := Aside0.mk (row_other rfl V2i1_.out hg AP_V1_V2.out); have AR47_ := Aside0.mk (blk_grown ARi1_.out hg (Kd.R_ne V1i1_.out ARi1_.out (by decide))); have L48_ := Aside0.mk hb; have V149_ : Aside0 (Kd.R k32 32 _ w.heap.size (fun _ => True) (.slice (some ⟨g, 0, none⟩) P.length c1) (ow 101 P m)) := ⟨by rw [← HJM.out.2, ← ow_set 101 P j HJM.out.1]; exact ho⟩; clear ho hb hg)
          go_roundw
          case rel => exact ⟨m, congrArg (Value.int .i64) hw1, ⟨by have := HJM.out; omega⟩, V045_, V149_, V246_, AR47_, L48_⟩
          case measure =>
            rw [hw1]
            show ((P.length : Int) - (m : Int)).toNat < ((P.length : Int) - (j : Int)).toNat
            have := HJM.out
            omega
        · have d1 : decide ((j : Int) < (P.length : Int)) = false := decide_eq_false (by omega)
          have d2 : decide (j < P.length) = false := decide_eq_false (by omega)
          have hje : j = P.length := by have := HJ.out; omega
          subst hje
          clear hjl HJ
          go_wp2_with fail
          rw [rounds_succ]
          have e0 : ow 102 hL 0 = hL := rfl
          go_upto_if 15 with fail
          go_loopw [16] (fun v w' => ∃ j : Nat, v = .int .i64 (j : Int) ∧ Aside0 (j ≤ hL.length) ∧ Aside0 (Kd.R k32 32 w' w.heap.size (fun _ => True) (.slice A0 P.length c0) (ow 100 P P.length)) ∧ Aside0 (Kd.R k32 32 w' w.heap.size (fun _ => True) (.slice A1 P.length c1) (ow 101 P P.length)) ∧ Aside0 (Kd.R k32 32 w' w.heap.size (fun _ => True) (.slice A2 hL.length c2) (ow 102 hL j)) ∧ Aside0 (w'.heap[ar]? = some (.cells #[.slice A0 P.length c0, .slice A1 P.length c1, .slice A2 hL.length c2] 40 (0, 0))) ∧ Aside0 (Below w.heap.size w w')) (fun v _ => ((hL.length : Int) - intOf v).toNat)
          case atStart => exact ⟨0, rfl, ⟨Nat.zero_le _⟩, V0i1_, V1i1_, V2i1_, ARi1_, Li1_⟩
          case round =>
            clear e0 V0i1_ V1i1_ V2i1_ ARi1_ Li1_
            obtain ⟨j, rfl, HJ, V0i2_, V1i2_, V2i2_, ARi2_, Li2_⟩ := hrel
            have zA := blk_cell ARi2_.out 2
            by_cases hjl : j < hL.length
            · have d1 : decide ((j : Int) < (hL.length : Int)) = true := decide_eq_true (by omega)
              have d2 : decide (j < hL.length) = true := decide_eq_true (by omega)
              obtain ⟨m, hm⟩ : ∃ m, j + 1 = m := ⟨_, rfl⟩
              have hw1 : wrap64 ((j : Int) + 1) = (m : Int) := by have := HPL.out; have : hL.length = 1 := rfl; unfold wrap64; omega
              have HJM : Aside0 (j < hL.length ∧ j + 1 = m) := ⟨hjl, hm⟩
              have p0 : (0 : Int) ≤ (j : Int) := by omega
              have p1 : (j : Int) < (hL.length : Int) := by omega
              obtain ⟨g, cg, eg, _⟩ := Kd.R_form V2i2_.out (by rw [ow_len _ _ _ (by omega)]; omega)
              injection eg with eg1 _ eg2
              subst eg1; subst eg2
              obtain ⟨cc, hcl, hcM, hcc, hcf⟩ := Kd.R_elem V2i2_.out z32 (j : Int) p0 p1
              have HCE := Aside0.mk (k32_openM hcM)
              have HCL := Aside0.mk hcl
              have HCC := Aside0.mk hcc
              clear hcl hcM hcc hcf hm hjl
              go_wp2_with ((with_reducible refine gate_ (.store 32 (.tmp 114) (.tmp 113)) rfl ?_); refine Kd.R_store k32 (w0 := w) w.heap.size rfl rfl 32 (.tmp 114) (.tmp 113) rfl 32 (g := g) (n := hL.length) (cap := c2) (j : Int) 0 (ow 102 hL j) ⟨102, (j : Int)⟩ (.agg #[.int .i64 102, .int .i64 (j : Int)]) [.int .i64 102, .int .i64 (j : Int)] cc (fun _ => True) (fun _ => False) rfl ?off rfl rfl (by kernel_rfl) ?one V2i2_.out p0 p1 HCL.out HCC.out (Nat.le_refl 2) ?M (fun _ h => h.elim) Li2_.out ?_; (case off => rw [Int.toNat_natCast]; rfl); (case one => intro q hq; simp only [List.mem_cons, List.not_mem_nil, or_false] at hq; rcases hq with rfl | rfl <;> rfl); (case M => rw [HCE.out]; exact k32_mkM _ _ _ (⟨102, (j : Int)⟩ : S32)); intro w9 ho hb hg; have V050_ := Aside0.mk (row_other rfl V0i2_.out hg AP_V2_V0.out); have V151_ := Aside0.mk (row_other rfl V1i2_.out hg AP_V2_V1.out); have AR52_ := Aside0.mk (blk_grown ARi2_.out hg (Kd.R_ne V2i2_.out ARi2_.out (by decide))); have L53_ := Aside0.mk hb; have V254_ : Aside0 (Kd.R k32 32 _ w.heap.size (fun _ => True) (.slice (some ⟨g, 0, none⟩) hL.length c2) (ow 102 hL m)) := ⟨by rw [← HJM.out.2, ← ow_set 102 hL j HJM.out.1]; exact ho⟩; clear ho hb hg)
              go_roundw
              case rel => exact ⟨m, congrArg (Value.int .i64) hw1, ⟨by have := HJM.out; omega⟩, V050_, V151_, V254_, AR52_, L53_⟩
              case measure =>
                rw [hw1]
                show ((hL.length : Int) - (m : Int)).toNat < ((hL.length : Int) - (j : Int)).toNat
                have := HJM.out
                omega
            · have d1 : decide ((j : Int) < (hL.length : Int)) = false := decide_eq_false (by omega)
              have d2 : decide (j < hL.length) = false := decide_eq_false (by omega)
              have hje : j = hL.length := by have := HJ.out; omega
              subst hje
              clear hjl HJ
              go_wp2_with fail
              rw [rounds_succ]
              go_upto_region 18 with fail
              clear zA
              exact apart_mid w P HPL A0 c0 A1 c1 A2 c2 ar wr V0i2_ V1i2_ V2i2_ ARi2_ Li2_ AP_V0_V1 AP_V0_V2 AP_V1_V0 AP_V1_V2 AP_V2_V0 AP_V2_V1 _ (by assumption) _ _ _ _ _ _ _ _ _ _ _ _ _ _ _ _ _ _ _ _ _ _ _ _ _ _ _ _ _ _ _ _ _ _ _ _ _ _ _ _ _ _ _ _ _ _ _ _ _ _ _ _ _ _ _ _ _ _ _ _ _ _ _ _ _ _ _ _ _ _ _ _ _ _ _ _ _ _ _ _ _ _ _ _ _ _ _ _ _ _ _ _ _ _ _ _ _ _ _ _ _ _ _ _ _ _ _ _ _ _ _ _ _ _ _ _ _ _ _ _ _ _ _ _ _ _ _ _ _ _ _ _ _ _ _ _ _ _ _ _ _ _ _ _ _ _ _ _ _ _ _ _ _ _ _ _ _ _ _ _ _ _ _ _ _ _ _ _ _ _ _ _ _ _ _ _ _ _ _
end Go.Proofs.YtoffhlbdfhhhjaaDoor.Fr
