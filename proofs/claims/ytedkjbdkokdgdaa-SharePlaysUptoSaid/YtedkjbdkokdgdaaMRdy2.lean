/- SharePlays: both sides' Ready (fn 25). The lists fit in memory. -/
import Derived.Test.YtedkjbdkokdgdaaMRdy1
import Derived.BigQuiet
import Derived.WalkSpells
namespace Go.Proofs.Ytedkjbdkokdgdaa.Sh
open Go Go.RowKit Go.Proofs.YtedkjbdkokdgdaaW.PrintWords Go.Proofs.YtedkjbdkokdgdaaW.PrintLast Go.Proofs.YtedkjbdkokdgdaaW.PrintMore Go.Proofs.Ytedkjbdkokdgdaa.QL
set_option linter.unusedSimpArgs false
set_option linter.unusedVariables false
set_option maxHeartbeats 2000000
set_option maxRecDepth 100000
theorem info50s : ∃ i0, Try.prog.info? 50 = some i0 := by
  have h := info50
  cases e : Try.prog.info? 50 with
  | none => rw [e] at h; cases h
  | some i0 => exact ⟨i0, rfl⟩
theorem ready25 : ReadyOk := by
  intro p mb n q B v D m x A8 c8 w hB hn hl h8 hc8 hC
  obtain ⟨l, hll⟩ : ∃ l, x.f8 = l := ⟨_, rfl⟩
  obtain ⟨conn, hcn⟩ : ∃ c, x.f5 = c := ⟨_, rfl⟩
  rw [hll] at h8 hc8 hC ⊢
  rw [hcn]
  clear hll hcn
  have HBO := Aside0.mk hB
  have HN := Aside0.mk hn
  have HL := Aside0.mk hl
  have H8 := Aside0.mk h8
  have HC8 := Aside0.mk hc8
  have HC := Aside0.mk hC
  clear hB hn hl h8 hc8 hC
  go_enter Try.func25, Try.ntmps25
  go_upto_region 2 with fail
  obtain ⟨W, hW⟩ : ∃ W, (w.alloc (.cells #[.int .i64 x.f0, .int .i64 x.f1, .int .i64 x.f2, .string x.f3, .bool x.f4, .int .i64 conn, .int .i64 x.f6, .int .i64 x.f7, .slice A8 l.length c8] 37)).alloc (.cells #[.int .i64 (-7), .int .i64 (-7)] 50) = W := ⟨_, rfl⟩
  rw [hW]
  have hbx : W.heap[w.heap.size]? = some (.cells #[.int .i64 x.f0, .int .i64 x.f1, .int .i64 x.f2, .string x.f3, .bool x.f4, .int .i64 conn, .int .i64 x.f6, .int .i64 x.f7, .slice A8 l.length c8] 37 (0, 0)) := by rw [← hW]; exact blk_below (blk_new _ _) (below_alloc (Below.refl _ _) _)
  obtain ⟨g5, hg5⟩ : ∃ g, w.heap.size = g := ⟨_, rfl⟩
  have hmk : W.heap[w.heap.size + 1]? = some (.cells #[.int .i64 (-7), .int .i64 (-7)] 50 (0, 0)) := by
    have h := blk_new (w.alloc (.cells #[.int .i64 x.f0, .int .i64 x.f1, .int .i64 x.f2, .string x.f3, .bool x.f4, .int .i64 conn, .int .i64 x.f6, .int .i64 x.f7, .slice A8 l.length c8] 37)) (.cells #[.int .i64 (-7), .int .i64 (-7)] 50)
    rw [World.size_alloc, hW] at h
    exact h
  have hbe : Below w.heap.size w W := by rw [← hW]; exact below_alloc (below_alloc (Below.refl _ _) _) _
  rw [hg5] at hbx hmk ⊢
  obtain ⟨g7, hg7⟩ : ∃ g, g5 + 1 = g := ⟨_, rfl⟩
  rw [hg7] at hmk ⊢
  have HG5 := Aside0.mk hg5
  have HG7 := Aside0.mk hg7
  have BX := Aside0.mk hbx
  have MKB := Aside0.mk hmk
  have BE := Aside0.mk hbe
  have CL : Aside0 (∀ W1, Below W.heap.size W W1 → Kd.C k50 W1 A8 l.length l) := ⟨fun W1 h => Kd.C_below (Kd.C_below HC.out BE.out) h⟩
  have e8 : W.cell? ⟨g5, 8, none⟩ = some (.slice A8 l.length c8) := blk_cell hbx 8
  have m0 : W.cell? ⟨g7, 0, none⟩ = some (.int .i64 (-7)) := blk_cell hmk 0
  have m1 : W.cell? ⟨g7, 1, none⟩ = some (.int .i64 (-7)) := blk_cell hmk 1
  clear hW hbx hmk hbe hg5 hg7
  refine start_ (n := 8) (S := fun w' => w'.cell? ⟨g5, 8, none⟩ = some (.slice A8 l.length c8) ∧ w'.cell? ⟨g7, 0, none⟩ = some (.int .i64 (-7)) ∧ w'.cell? ⟨g7, 1, none⟩ = some (.int .i64 (-7)) ∧ Below W.heap.size W w') (ds := [6]) #[false, false, false, false, false, false, false, false] (by kernel_rfl) rfl rfl ⟨e8, m0, m1, (below_drew (Below.refl _ _))⟩ (fun hHeld => ?_)
  refine pure_ (i := 1) (N := some 22) (v := ?_) (a' := ?_) #[false, true, false, false, false, false, false, false] rfl rfl (by kernel_rfl) (fun _ _ _ h => h) (Or.inl ⟨by rfl, ?_⟩) ?_ ?_
  rotate_left
  · intro w'
    go_simp
    with_reducible rfl
  rotate_left
  · simp only [Act.put, List.setIfInBounds_toArray, List.set_cons_zero, List.set_cons_succ, i64_w, i32_w]
    rfl
  refine take_ (i := 2) (N := some 23) (v := ?_) (a' := ?_) #[false, true, true, false, false, false, false, false] rfl rfl (by kernel_rfl) (fun _ _ _ h => h) (Or.inl ⟨by rfl, ?_⟩) hHeld ?_ ?_
  rotate_left
  · rintro w' ⟨s0, s1, s2, s3⟩
    go_simp
    with_reducible rfl
  rotate_left
  · simp only [Act.put, List.setIfInBounds_toArray, List.set_cons_zero, List.set_cons_succ, i64_w, i32_w]
    rfl
  refine take_ (i := 4) (N := some 25) (v := ?_) (a' := ?_) #[false, true, true, false, true, false, false, false] rfl rfl (by kernel_rfl) (fun _ _ _ h => h) (Or.inl ⟨by rfl, ?_⟩) hHeld ?_ ?_
  rotate_left
  · rintro w' ⟨s0, s1, s2, s3⟩
    go_simp
    with_reducible rfl
  rotate_left
  · simp only [Act.put, List.setIfInBounds_toArray, List.set_cons_zero, List.set_cons_succ, i64_w, i32_w]
    rfl
  refine join_ (σ := Value × Value × Nat) 2 #[true, true, true, true, true, true, false, false] (fun s => [(21, s.1), (24, s.2.1), (26, .slice (some ⟨s.2.2, 0, none⟩) 1 1)]) (fun s w' => Kd.R k50 50 w' W.heap.size (fun _ => True) s.2.1 l ∧ w'.heap[s.2.2]? = some (.cells #[.int .i64 (-7), .int .i64 (-7)] 50 (0, 0)) ∧ w'.cell? ⟨g5, 8, none⟩ = some (.slice A8 l.length c8) ∧ w'.cell? ⟨g7, 0, none⟩ = some (.int .i64 (-7)) ∧ w'.cell? ⟨g7, 1, none⟩ = some (.int .i64 (-7)) ∧ Below W.heap.size W w') ?_ ?_
  rotate_left
  · intro hCont
    refine two_ (i := 0) (j := 5) (Ni := some 21) (Nj := some 26) #[true, true, true, false, true, false, false, false] #[false, true, true, false, true, true, false, false] rfl rfl rfl rfl (by kernel_rfl) (by decide) (by decide) (fun K hK => ?_) (fun K hK => ?_)
    · skip
      refine Kd.R_lit_step k50 (w0 := W) W.heap.size 50 (by rfl) rfl (xs := []) (inner := []) (ok := fun _ => True) (okp := fun _ => False) ?aR ?aP (fun _ h => h.elim) trivial ?aB ?aS ?aM ?_
      (case aR => first | rfl | kernel_rfl | (go_simp; rfl))
      (case aP => exact Reps.none _ _)
      (case aB => exact hHeld.2.2.2)
      (case aS => exact hHeld.2.2.2.size)
      (case aM => exact Nat.zero_le _)
      intro v21 w0 ho hb hg hat
      have HO0 := Aside0.mk ho
      have HB0 := Aside0.mk hb
      clear ho hg hat hb
      refine hK.out _ _ ⟨(HB0.out.cell (World.block_lt_of_cell? _ _ e8)).trans e8, (HB0.out.cell (World.block_lt_of_cell? _ _ m0)).trans m0, (HB0.out.cell (World.block_lt_of_cell? _ _ m1)).trans m1, HB0.out⟩ (fun hHeld => ?_)
      clear hK K
      refine norm_ (a' := ?_) ?_ ?_
      rotate_left
      · show Act.put _ (some 21) _ = _
        simp only [Act.put, List.setIfInBounds_toArray, List.set_cons_zero, List.set_cons_succ, i64_w, i32_w]
        rfl
      refine two_ (i := 3) (j := 5) (Ni := some 24) (Nj := some 26) #[true, true, true, true, true, false, false, false] #[true, true, true, false, true, true, false, false] rfl rfl rfl rfl (by kernel_rfl) (by decide) (by decide) (fun K hK => ?_) (fun K hK => ?_)
      · skip
        refine Kd.R_append_rows_step k50 (Rr := k50.K W) (w0 := W) W.heap.size (by rfl) (.tmp 21) (.tmp 23) 35 50 (.agg #[.int .i64 0, .int .i64 0]) 16 rfl Try.underlying35 info50 rfl (by decide) (by omega) v21 [] l A8 l.length c8 (fun _ => True) (fun _ => False) rfl rfl ?aO ?aR ?aK (fun _ h => h.elim) (fun _ _ => trivial) ?aB ?aS ?aL ?_
        (case aO => exact HO0.out)
        (case aR => exact CL.out _ hHeld.2.2.2)
        (case aK => exact fun x cs h => by obtain rfl := k50_open h; exact k50_mkM _ _ _ x)
        (case aB => exact hHeld.2.2.2)
        (case aS => exact hHeld.2.2.2.size)
        (case aL => have := H8.out; simp; omega)
        intro v24 w3 ho hb hg hat
        rw [List.nil_append] at ho
        have HO3 := Aside0.mk ho
        have HB3 := Aside0.mk hb
        clear ho hb hg hat
        refine hK.out _ _ ⟨(HB3.out.cell (World.block_lt_of_cell? _ _ e8)).trans e8, (HB3.out.cell (World.block_lt_of_cell? _ _ m0)).trans m0, (HB3.out.cell (World.block_lt_of_cell? _ _ m1)).trans m1, HB3.out⟩ (fun hHeld => ?_)
        clear hK K
        refine norm_ (a' := ?_) ?_ ?_
        rotate_left
        · show Act.put _ (some 24) _ = _
          simp only [Act.put, List.setIfInBounds_toArray, List.set_cons_zero, List.set_cons_succ, i64_w, i32_w]
          rfl
        refine one_ (i := 5) (N := some 26) #[true, true, true, true, true, true, false, false] rfl rfl (by kernel_rfl) (by decide) (fun K hK => ?_)
        refine value_ (w1 := ?_) (v := ?_) (by rfl) rfl ?_ ?_
        rotate_left 2
        · go_simp
          constructor
          · rfl
          · rfl
        have HO3b := Aside0.mk (Kd.R_below HO3.out (below_alloc (Below.refl _ _) (.cells #[.int .i64 (-7), .int .i64 (-7)] 50)))
        have C5 : Aside0 ((World.alloc (w3) (.cells #[.int .i64 (-7), .int .i64 (-7)] 50)).heap[w3.heap.size]? = some (.cells #[.int .i64 (-7), .int .i64 (-7)] 50 (0, 0))) := ⟨blk_new (w3) (.cells #[.int .i64 (-7), .int .i64 (-7)] 50)⟩
        refine hK.out _ _ ⟨((below_then hHeld.2.2.2 hHeld.2.2.2.size (below_alloc (Below.refl _ _) (.cells #[.int .i64 (-7), .int .i64 (-7)] 50))).cell (World.block_lt_of_cell? _ _ e8)).trans e8, ((below_then hHeld.2.2.2 hHeld.2.2.2.size (below_alloc (Below.refl _ _) (.cells #[.int .i64 (-7), .int .i64 (-7)] 50))).cell (World.block_lt_of_cell? _ _ m0)).trans m0, ((below_then hHeld.2.2.2 hHeld.2.2.2.size (below_alloc (Below.refl _ _) (.cells #[.int .i64 (-7), .int .i64 (-7)] 50))).cell (World.block_lt_of_cell? _ _ m1)).trans m1, (below_then hHeld.2.2.2 hHeld.2.2.2.size (below_alloc (Below.refl _ _) (.cells #[.int .i64 (-7), .int .i64 (-7)] 50)))⟩ (fun hHeld => ?_)
        clear hK K
        refine norm_ (a' := ?_) ?_ ?_
        rotate_left
        · show Act.put _ (some 26) _ = _
          simp only [Act.put, List.setIfInBounds_toArray, List.set_cons_zero, List.set_cons_succ, i64_w, i32_w]
          rfl
        exact norm_ (by simp only [putAll, Act.put, List.setIfInBounds_toArray, List.set_cons_zero, List.set_cons_succ]) (hCont (v21, v24, w3.heap.size) _ ⟨HO3b.out, C5.out, hHeld⟩)
      · skip
        refine value_ (w1 := ?_) (v := ?_) (by rfl) rfl ?_ ?_
        rotate_left 2
        · go_simp
          constructor
          · rfl
          · rfl
        have HO0b := Aside0.mk (Kd.R_below HO0.out (below_alloc (Below.refl _ _) (.cells #[.int .i64 (-7), .int .i64 (-7)] 50)))
        have E0 : Aside0 (some w0.heap.size ≠ v21.ownBlock) := ⟨fun e => by have := Kd.R_lt HO0.out _ e.symm; omega⟩
        have C5 : Aside0 ((World.alloc (w0) (.cells #[.int .i64 (-7), .int .i64 (-7)] 50)).heap[w0.heap.size]? = some (.cells #[.int .i64 (-7), .int .i64 (-7)] 50 (0, 0))) := ⟨blk_new (w0) (.cells #[.int .i64 (-7), .int .i64 (-7)] 50)⟩
        refine hK.out _ _ ⟨((below_then hHeld.2.2.2 hHeld.2.2.2.size (below_alloc (Below.refl _ _) (.cells #[.int .i64 (-7), .int .i64 (-7)] 50))).cell (World.block_lt_of_cell? _ _ e8)).trans e8, ((below_then hHeld.2.2.2 hHeld.2.2.2.size (below_alloc (Below.refl _ _) (.cells #[.int .i64 (-7), .int .i64 (-7)] 50))).cell (World.block_lt_of_cell? _ _ m0)).trans m0, ((below_then hHeld.2.2.2 hHeld.2.2.2.size (below_alloc (Below.refl _ _) (.cells #[.int .i64 (-7), .int .i64 (-7)] 50))).cell (World.block_lt_of_cell? _ _ m1)).trans m1, (below_then hHeld.2.2.2 hHeld.2.2.2.size (below_alloc (Below.refl _ _) (.cells #[.int .i64 (-7), .int .i64 (-7)] 50)))⟩ (fun hHeld => ?_)
        clear hK K
        refine norm_ (a' := ?_) ?_ ?_
        rotate_left
        · show Act.put _ (some 26) _ = _
          simp only [Act.put, List.setIfInBounds_toArray, List.set_cons_zero, List.set_cons_succ, i64_w, i32_w]
          rfl
        refine one_ (i := 3) (N := some 24) #[true, true, true, true, true, true, false, false] rfl rfl (by kernel_rfl) (by decide) (fun K hK => ?_)
        refine Kd.R_append_rows_step k50 (Rr := k50.K W) (w0 := W) W.heap.size (by rfl) (.tmp 21) (.tmp 23) 35 50 (.agg #[.int .i64 0, .int .i64 0]) 16 rfl Try.underlying35 info50 rfl (by decide) (by omega) v21 [] l A8 l.length c8 (fun _ => True) (fun _ => False) rfl rfl ?aO ?aR ?aK (fun _ h => h.elim) (fun _ _ => trivial) ?aB ?aS ?aL ?_
        (case aO => exact HO0b.out)
        (case aR => exact CL.out _ hHeld.2.2.2)
        (case aK => exact fun x cs h => by obtain rfl := k50_open h; exact k50_mkM _ _ _ x)
        (case aB => exact hHeld.2.2.2)
        (case aS => exact hHeld.2.2.2.size)
        (case aL => have := H8.out; simp; omega)
        intro v24 w3 ho hb hg hat
        rw [List.nil_append] at ho
        have C5c := Aside0.mk (blk_grown C5.out hg E0.out)
        have HO3 := Aside0.mk ho
        have HB3 := Aside0.mk hb
        clear ho hb hg hat
        refine hK.out _ _ ⟨(HB3.out.cell (World.block_lt_of_cell? _ _ e8)).trans e8, (HB3.out.cell (World.block_lt_of_cell? _ _ m0)).trans m0, (HB3.out.cell (World.block_lt_of_cell? _ _ m1)).trans m1, HB3.out⟩ (fun hHeld => ?_)
        clear hK K
        refine norm_ (a' := ?_) ?_ ?_
        rotate_left
        · show Act.put _ (some 24) _ = _
          simp only [Act.put, List.setIfInBounds_toArray, List.set_cons_zero, List.set_cons_succ, i64_w, i32_w]
          rfl
        exact norm_ (by simp only [putAll, Act.put, List.setIfInBounds_toArray, List.set_cons_zero, List.set_cons_succ]) (hCont (v21, v24, w0.heap.size) _ ⟨HO3.out, C5c.out, hHeld⟩)
    · skip
      refine value_ (w1 := ?_) (v := ?_) (by rfl) rfl ?_ ?_
      rotate_left 2
      · go_simp
        constructor
        · rfl
        · rfl
      have C5 : Aside0 ((World.alloc (W.drew) (.cells #[.int .i64 (-7), .int .i64 (-7)] 50)).heap[W.heap.size]? = some (.cells #[.int .i64 (-7), .int .i64 (-7)] 50 (0, 0))) := ⟨blk_new (W.drew) (.cells #[.int .i64 (-7), .int .i64 (-7)] 50)⟩
      refine hK.out _ _ ⟨((below_then hHeld.2.2.2 hHeld.2.2.2.size (below_alloc (Below.refl _ _) (.cells #[.int .i64 (-7), .int .i64 (-7)] 50))).cell (World.block_lt_of_cell? _ _ e8)).trans e8, ((below_then hHeld.2.2.2 hHeld.2.2.2.size (below_alloc (Below.refl _ _) (.cells #[.int .i64 (-7), .int .i64 (-7)] 50))).cell (World.block_lt_of_cell? _ _ m0)).trans m0, ((below_then hHeld.2.2.2 hHeld.2.2.2.size (below_alloc (Below.refl _ _) (.cells #[.int .i64 (-7), .int .i64 (-7)] 50))).cell (World.block_lt_of_cell? _ _ m1)).trans m1, (below_then hHeld.2.2.2 hHeld.2.2.2.size (below_alloc (Below.refl _ _) (.cells #[.int .i64 (-7), .int .i64 (-7)] 50)))⟩ (fun hHeld => ?_)
      clear hK K
      refine norm_ (a' := ?_) ?_ ?_
      rotate_left
      · show Act.put _ (some 26) _ = _
        simp only [Act.put, List.setIfInBounds_toArray, List.set_cons_zero, List.set_cons_succ, i64_w, i32_w]
        rfl
      refine one_ (i := 0) (N := some 21) #[true, true, true, false, true, true, false, false] rfl rfl (by kernel_rfl) (by decide) (fun K hK => ?_)
      refine Kd.R_lit_step k50 (w0 := W) W.heap.size 50 (by rfl) rfl (xs := []) (inner := []) (ok := fun _ => True) (okp := fun _ => False) ?aR ?aP (fun _ h => h.elim) trivial ?aB ?aS ?aM ?_
      (case aR => first | rfl | kernel_rfl | (go_simp; rfl))
      (case aP => exact Reps.none _ _)
      (case aB => exact hHeld.2.2.2)
      (case aS => exact hHeld.2.2.2.size)
      (case aM => exact Nat.zero_le _)
      intro v21 w0 ho hb hg hat
      have E0 : Aside0 (some W.heap.size ≠ v21.ownBlock) := ⟨fun e => by obtain ⟨b, h1, h2⟩ := hat; rw [h1] at e; have h3 := Option.some.inj e; have h4 := blk_lt C5.out; exact absurd h2 (by rw [← h3]; exact Nat.not_le.mpr h4)⟩
      have C5a := Aside0.mk (blk_grown C5.out hg (by simp))
      have HO0 := Aside0.mk ho
      have HB0 := Aside0.mk hb
      clear ho hg hat hb
      refine hK.out _ _ ⟨(HB0.out.cell (World.block_lt_of_cell? _ _ e8)).trans e8, (HB0.out.cell (World.block_lt_of_cell? _ _ m0)).trans m0, (HB0.out.cell (World.block_lt_of_cell? _ _ m1)).trans m1, HB0.out⟩ (fun hHeld => ?_)
      clear hK K
      refine norm_ (a' := ?_) ?_ ?_
      rotate_left
      · show Act.put _ (some 21) _ = _
        simp only [Act.put, List.setIfInBounds_toArray, List.set_cons_zero, List.set_cons_succ, i64_w, i32_w]
        rfl
      refine one_ (i := 3) (N := some 24) #[true, true, true, true, true, true, false, false] rfl rfl (by kernel_rfl) (by decide) (fun K hK => ?_)
      refine Kd.R_append_rows_step k50 (Rr := k50.K W) (w0 := W) W.heap.size (by rfl) (.tmp 21) (.tmp 23) 35 50 (.agg #[.int .i64 0, .int .i64 0]) 16 rfl Try.underlying35 info50 rfl (by decide) (by omega) v21 [] l A8 l.length c8 (fun _ => True) (fun _ => False) rfl rfl ?aO ?aR ?aK (fun _ h => h.elim) (fun _ _ => trivial) ?aB ?aS ?aL ?_
      (case aO => exact HO0.out)
      (case aR => exact CL.out _ hHeld.2.2.2)
      (case aK => exact fun x cs h => by obtain rfl := k50_open h; exact k50_mkM _ _ _ x)
      (case aB => exact hHeld.2.2.2)
      (case aS => exact hHeld.2.2.2.size)
      (case aL => have := H8.out; simp; omega)
      intro v24 w3 ho hb hg hat
      rw [List.nil_append] at ho
      have C5c := Aside0.mk (blk_grown C5a.out hg E0.out)
      have HO3 := Aside0.mk ho
      have HB3 := Aside0.mk hb
      clear ho hb hg hat
      refine hK.out _ _ ⟨(HB3.out.cell (World.block_lt_of_cell? _ _ e8)).trans e8, (HB3.out.cell (World.block_lt_of_cell? _ _ m0)).trans m0, (HB3.out.cell (World.block_lt_of_cell? _ _ m1)).trans m1, HB3.out⟩ (fun hHeld => ?_)
      clear hK K
      refine norm_ (a' := ?_) ?_ ?_
      rotate_left
      · show Act.put _ (some 24) _ = _
        simp only [Act.put, List.setIfInBounds_toArray, List.set_cons_zero, List.set_cons_succ, i64_w, i32_w]
        rfl
      exact norm_ (by simp only [putAll, Act.put, List.setIfInBounds_toArray, List.set_cons_zero, List.set_cons_succ]) (hCont (v21, v24, W.heap.size) _ ⟨HO3.out, C5c.out, hHeld⟩)
  rintro ⟨v21, v24, a5⟩ w5 ⟨hR5, hC5, hHeld⟩
  have HR5 := Aside0.mk hR5
  have HC5 := Aside0.mk hC5
  clear hR5 hC5
  refine norm_ (a' := ?_) ?_ ?_
  rotate_left
  · simp only [putAll, Act.put, List.setIfInBounds_toArray, List.set_cons_zero, List.set_cons_succ]
    rfl
  refine last_ (i := 6) (N := some 27) #[true, true, true, true, true, true, true, false] rfl rfl (by kernel_rfl) (by decide) (fun K hK => ?_)
  refine Kd.R_append_rows_step k50 (Rr := k50.K w5) (w0 := W) W.heap.size (by rfl) (.tmp 24) (.tmp 26) 35 50 (.agg #[.int .i64 0, .int .i64 0]) 16 rfl Try.underlying35 info50 rfl (by decide) (by omega) v24 l [⟨-7, -7⟩] (some ⟨a5, 0, none⟩) 1 1 (fun _ => True) (fun _ => False) rfl rfl ?aO ?aR ?aK (fun _ h => h.elim) (fun _ _ => trivial) ?aB ?aS ?aL ?_
  (case aO => exact HR5.out)
  (case aR => exact C_50_one HC5.out)
  (case aK => exact fun x cs h => by obtain rfl := k50_open h; exact k50_mkM _ _ _ x)
  (case aB => exact hHeld.2.2.2)
  (case aS => exact hHeld.2.2.2.size)
  (case aL => have := H8.out; omega)
  intro v27 w6 ho hb hg hat
  have HR6 := Aside0.mk ho
  have HB6 := Aside0.mk hb
  clear ho hb hg hat
  refine hK.out _ _ ?_
  clear hK K
  refine norm_ (a' := ?_) ?_ ?_
  rotate_left
  · show Act.put _ (some 27) _ = _
    simp only [Act.put, List.setIfInBounds_toArray, List.set_cons_zero, List.set_cons_succ, i64_w, i32_w]
    rfl
  refine pure_ (i := 7) (N := some 8) (v := ?_) (a' := ?_) #[true, true, true, true, true, true, true, true] rfl rfl (by kernel_rfl) (fun _ _ _ h => h) (Or.inl ⟨by rfl, ?_⟩) ?_ ?_
  rotate_left
  · intro w'
    go_simp
    with_reducible rfl
  rotate_left
  · simp only [Act.put, List.setIfInBounds_toArray, List.set_cons_zero, List.set_cons_succ, i64_w, i32_w]
    rfl
  refine done_ (by kernel_rfl) ?_

  clear e8 m0 m1
  obtain ⟨room, hroom⟩ : ∃ r, l ++ [(⟨-7, -7⟩ : S50)] = r := ⟨_, rfl⟩
  have HRM := Aside0.mk hroom
  have HRL : Aside0 (room.length = l.length + 1) := ⟨by rw [← hroom, List.length_append]; rfl⟩
  rw [hroom] at HR6
  clear hroom
  obtain ⟨g8, cr, rfl, hge, hlt, _⟩ := Kd.R_form HR6.out (by rw [HRL.out]; omega)
  have RA1 : Aside0 (RA w w6 g5 g7 W.heap.size w6.heap.size g8 room.length cr #[.int .i64 x.f0, .int .i64 x.f1, .int .i64 x.f2, .string x.f3, .bool x.f4, .int .i64 conn, .int .i64 x.f6, .int .i64 x.f7, .slice A8 l.length c8] room) := ⟨blk_below BX.out HB6.out, blk_below MKB.out HB6.out, below_then BE.out BE.out.size HB6.out, Kd.R_mono (Kd.R_bound HR6.out) (fun k hk => hk.2.2.1), by have := HG5.out; have := blk_lt BX.out; have := blk_lt MKB.out; omega⟩
  have HCR : Aside0 (room.length ≤ cr) := ⟨(Kd.R_reads' HR6.out).2.1⟩
  clear HR6 BX MKB HB6 hge hlt
  have hsl : ∀ W1, (Instr.slice 35 (.slice (some ⟨g8, 0, none⟩) room.length cr) none (some (.int .i64 (l.length : Int))) none).run Try.prog W1 = .ok (.slice (some ⟨g8, 0, none⟩) l.length cr) W1 := by
    obtain ⟨i0, hi0⟩ := info50s
    have h := cut_to (P := Try.prog) 35 50 .i64 Try.underlying35 hi0 (some ⟨g8, 0, none⟩) room.length cr (l.length : Int) (by omega) (by have := HRL.out; omega) HCR.out
    rwa [Int.toNat_natCast] at h
  have x8 := blk_cell RA1.out.bx 8
  have x5 := blk_cell RA1.out.bx 5
  have PR0 : Aside0 (Pr w6 w6.heap.size (fun _ => True) (.slice none 0 0) [] (.slice none 0 0) []) := ⟨Pr.nil _ _ _⟩
  clear CL BE HG5 HG7 
  go_upto_if 37 with fail
  clear x8 x5
  go_loopw [10, 11, 12] (fun v10 v11 v12 w' => ∃ k : Nat, v12 = .int .i64 (k : Int) ∧ Aside0 (k ≤ l.length) ∧ Aside0 (Pr w' w6.heap.size (fun _ => True) v10 ((l.take k).map (·.f0)) v11 ((l.take k).map (·.f1))) ∧ Aside0 (Below w6.heap.size w6 w')) (fun _ _ v _ => ((l.length : Int) - intOf v).toNat)
  case atStart => exact ⟨0, rfl, ⟨Nat.zero_le _⟩, PR0, ⟨Below.refl _ _⟩⟩
  case round =>
    clear PR0
    obtain ⟨k, rfl, HK, PR1, L1⟩ := hrel
    have RA2 := Aside0.mk (RA1.out.low L1.out)
    have x8 := blk_cell RA2.out.bx 8
    by_cases hk : k < l.length
    · have d1 : decide ((k : Int) < (l.length : Int)) = true := decide_eq_true (by omega)
      have d2 : decide (k < l.length) = true := decide_eq_true hk
      have hw1 : wrap64 ((k : Int) + 1) = ((k + 1 : Nat) : Int) := by have := H8.out; unfold wrap64; omega
      have q0 : (0 : Int) ≤ (k : Int) := by omega
      have q1 : (k : Int) < (l.length : Int) := by omega
      have HKM := Aside0.mk hk
      obtain ⟨ad, rfl, y0, y1⟩ := at_T50 (Kd.C_below HC.out RA2.out.be) (k : Int) q0 q1
      rw [Int.toNat_natCast] at y0 y1
      obtain ⟨y, hy⟩ : ∃ y, rd_T50 l (k : Int) = y := ⟨_, rfl⟩
      have HY : Aside0 (l[k] = y) := ⟨by rw [← hy]; unfold rd_T50; rw [Int.toNat_natCast, List.getD_eq_getElem?_getD, List.getElem?_eq_getElem hk]; rfl⟩
      rw [hy] at y0 y1
      have HYC : Aside0 (∀ W1, Below w.heap.size w W1 → W1.cell? ⟨g5, 8, none⟩ = some (.slice (some ad) l.length c8) → W1.cell? ⟨(ad.add (k * 2)).block, (ad.add (k * 2)).off + 1, none⟩ = some (.int .i64 y.f1)) := ⟨fun W1 h _ => by
        obtain ⟨ad', e, _, z1⟩ := at_T50 (Kd.C_below HC.out h) (k : Int) (by omega) (by have := HKM.out; omega)
        injection e with e
        rw [hy, Int.toNat_natCast, ← e] at z1
        exact z1⟩
      have HLN : Aside0 ((((l.take k).map (·.f0)).length + 1) * 8 ≤ 140737488355328 ∧ (((l.take k).map (·.f1)).length + 1) * 8 ≤ 140737488355328) := ⟨by have := H8.out; rw [List.length_map, List.length_map, List.length_take]; omega⟩
      have HT0 : Aside0 ((l.take (k + 1)).map (·.f0) = (l.take k).map (·.f0) ++ [y.f0]) := ⟨by rw [List.take_succ_eq_append_getElem hk, List.map_append, ← HY.out]; rfl⟩
      have HT1 : Aside0 ((l.take (k + 1)).map (·.f1) = (l.take k).map (·.f1) ++ [y.f1]) := ⟨by rw [List.take_succ_eq_append_getElem hk, List.map_append, ← HY.out]; rfl⟩
      clear HY hy hk y1
      go_upto_region 9 with ((with_reducible refine gate_builtin (b := .append) (xs := #[.tmp 40, .tmp 47]) rfl ?_); at_builtin; refine Kd.R_append (Kd.int .i64) (w0 := w6) w6.heap.size rfl (.tmp 40) (.tmp 47) 22 2 _ 8 rfl Try.underlying22 info2 rfl (Nat.succ_pos 0) (Nat.succ_pos 7) u10 ((l.take k).map (·.f0)) y.f0 [.int .i64 y.f0] (fun k => some k ≠ u11.ownBlock) (fun _ => False) rfl rfl rfl (fun _ h => h.elim) (Kd.fresh_ok PR1.out.b) (Kd.R_mono PR1.out.a (fun _ h => h.2)) L1.out L1.out.size (by have := HLN.out; first | exact this.1 | exact this.2) ?_; intro v9 w9 ho hb hg hat; have PR9 := Aside0.mk (PR1.out.put ho hg hat); have LP9 := Aside0.mk hb; clear ho hb hg hat)
      have RA3 := Aside0.mk (RA1.out.low LP9.out)
      clear x8 y0 RA2
      have x8 := blk_cell RA3.out.bx 8
      have y1 := HYC.out _ RA3.out.be x8
      go_wp2_with ((with_reducible refine gate_builtin (b := .append) (xs := #[.tmp 49, .tmp 56]) rfl ?_); at_builtin; refine Kd.R_append (Kd.int .i64) (w0 := w6) w6.heap.size rfl (.tmp 49) (.tmp 56) 22 2 _ 8 rfl Try.underlying22 info2 rfl (Nat.succ_pos 0) (Nat.succ_pos 7) u11 ((l.take k).map (·.f1)) y.f1 [.int .i64 y.f1] (fun k => some k ≠ v9.ownBlock) (fun _ => False) rfl rfl rfl (fun _ h => h.elim) (Kd.fresh_ok PR9.out.a) (Kd.R_mono PR9.out.b (fun _ h => h.2)) LP9.out LP9.out.size (by have := HLN.out; first | exact this.1 | exact this.2) ?_; intro v8 w8 ho hb hg hat; have PR8 := Aside0.mk (PR9.out.swap.put ho hg hat).swap; have LP8 := Aside0.mk hb; clear ho hb hg hat)
      go_roundw
      case rel => exact ⟨k + 1, congrArg (Value.int .i64) hw1, ⟨by have := HKM.out; omega⟩, ⟨by rw [HT0.out, HT1.out]; exact PR8.out⟩, LP8⟩
      case measure =>
        rw [hw1]
        show ((l.length : Int) - ((k + 1 : Nat) : Int)).toNat < ((l.length : Int) - (k : Int)).toNat
        have := HKM.out
        omega
    · have d1 : decide ((k : Int) < (l.length : Int)) = false := decide_eq_false (by omega)
      have d2 : decide (k < l.length) = false := decide_eq_false hk
      have HKE : k = l.length := by have := HK.out; omega
      rw [HKE, List.take_length] at PR1
      rw [HKE] at d1 d2 ⊢
      clear hk HKE HK k
      obtain ⟨A10, c10, e10, hc10, hC10⟩ := R_slice_int PR1.out.a
      obtain ⟨A11, c11, e11, hc11, hC11⟩ := R_slice_int PR1.out.b
      rw [List.length_map] at e10 e11 hC10 hC11
      subst e10
      subst e11
      have x5 := blk_cell RA2.out.bx 5
      have PR2 := Aside0.mk PR1.out.bound
      have H36 : Aside0 (w6.heap.size ≤ wr.heap.size) := ⟨L1.out.size⟩
      clear PR1 L1 hc10 hc11
      go_upto_region 11 with (go_at_call 32; refine (readyd_calls q B v D m conn A10 c10 A11 c11 l _ (HBO.out.low RA2.out.be).doc HBO.out.dr HL.out (by have := H8.out; omega) hC10 hC11).mono ?_; rintro e w7 hR; obtain ⟨v13, I, rfl, hR, hI, hb⟩ := hR; have WA7 := Aside0.mk hR; have HI := Aside0.mk hI; have RA7 := Aside0.mk (RA2.out.low hb); have PR7 := Aside0.mk (PR2.out.low hb); have H47 : Aside0 (wr.heap.size ≤ w7.heap.size) := ⟨hb.size⟩; clear hR hI hb)
      clear x5 x8 RA2 PR2 hC10 hC11
      have x5 := blk_cell RA7.out.bx 5
      have CO7 : Aside0 (Kd.C k50 w7 (some ⟨g8, 0, none⟩) l.length l) := ⟨by have h := (Kd.R_reads' RA7.out.rm).2.2; rw [← HRM.out] at h; exact C_cut h⟩
      go_upto_region 12 with (go_at_call 18; refine (ready_calls p mb n m conn (some ⟨g8, 0, none⟩) cr l _ (HBO.out.low RA7.out.be).sh HN.out (by have := H8.out; omega) CO7.out).mono ?_; rintro e w8 hR; obtain ⟨va, Ia, rfl, hR, hI, hb⟩ := hR; have A8x := Aside0.mk hR; have HIa := Aside0.mk hI; have RA8 := Aside0.mk (RA7.out.low hb); have PR8 := Aside0.mk (PR7.out.low hb); have WA8 := Aside0.mk (Kd.R_below (Kd.R_mono (Kd.R_bound WA7.out) (fun k hk => hk.2.2.1)) hb); have CO8 := Aside0.mk (Kd.C_below CO7.out hb); have H58 : Aside0 (w7.heap.size ≤ w8.heap.size) := ⟨hb.size⟩; clear hR hI hb)
      clear x5 RA7 PR7 CO7 WA7
      obtain rfl := HI.out.uniq HIa.out
      have x5 := blk_cell RA8.out.bx 5
      go_upto_region 13 with (go_at_call 18; refine (ready_calls p mb n m conn (some ⟨g8, 0, none⟩) cr l _ (HBO.out.low RA8.out.be).sh HN.out (by have := H8.out; omega) CO8.out).mono ?_; rintro e w9 hR; obtain ⟨vb, Ib, rfl, hR, hI, hb⟩ := hR; have HIb := Aside0.mk hI; have RC9 : Aside0 (RC w w9 g5 g7 W.heap.size w6.heap.size g8 room.length cr #[.int .i64 x.f0, .int .i64 x.f1, .int .i64 x.f2, .string x.f3, .bool x.f4, .int .i64 conn, .int .i64 x.f6, .int .i64 x.f7, .slice A8 l.length c8] room wr.heap.size (.slice A10 l.length c10) (l.map (·.f0)) (.slice A11 l.length c11) (l.map (·.f1)) w7.heap.size v13 I w8.heap.size vb Ib) := ⟨RA8.out.low hb, PR8.out.low hb, Kd.R_below WA8.out hb, hR, H36.out, H47.out, H58.out, hb.size⟩; have A9 := Aside0.mk (Kd.R_below (Kd.R_mono (Kd.R_bound A8x.out) (fun k hk => hk.2.2.1)) hb); clear hR hI hb)
      clear x5 RA8 PR8 CO8 WA8 A8x HIa
      obtain rfl := HI.out.uniq HIb.out
      obtain ⟨A13, c13, rfl, hc13, hC13⟩ := R_slice_int RC9.out.wa
      obtain ⟨A14, c14, rfl, hc14, hC14⟩ := R_slice_int A9.out
      obtain ⟨A15, c15, rfl, hc15, hC15⟩ := R_slice_int RC9.out.b
      obtain ⟨h4, hh4⟩ : ∃ h, wr.heap.size = h := ⟨_, rfl⟩
      rw [hh4] at RC9
      clear hh4
      have SQ1 : Aside0 (∀ k, Calls Try.prog 11 #[.slice A14 I.length c14, .slice A13 I.length c13] (w9.drewN k) fun e w'' => e = .returned (.bool true) ∧ ∃ m, w'' = w9.drewN m) := ⟨fun k => same_q A14 A13 c14 c13 I w9 k hC14 hc14 hC13 hc13⟩
      have SQ2 : Aside0 (∀ k, Calls Try.prog 11 #[.slice A15 I.length c15, .slice A13 I.length c13] (w9.drewN k) fun e w'' => e = .returned (.bool true) ∧ ∃ m, w'' = w9.drewN m) := ⟨fun k => same_q A15 A13 c15 c13 I w9 k hC15 hc15 hC13 hc13⟩
      have HIL : Aside0 (I.length ≤ D.length) := ⟨rdyL_len HBO.out.dr HI.out⟩
      clear hC13 hC14 hC15 hc13 hc14 hc15 HIb
      have HGD : Aside0 (room.getD l.length z50 = ⟨-7, -7⟩) := ⟨by rw [← HRM.out, List.getD_eq_getElem?_getD, List.getElem?_append_right (Nat.le_refl _), Nat.sub_self]; rfl⟩
      obtain ⟨z0, z1, _⟩ := room_elem RC9.out.ra.rm (i := l.length) (by rw [HRL.out]; omega) HGD.out
      have m0 : w9.cell? ⟨g7, 0, none⟩ = some (.int .i64 (-7)) := blk_cell RC9.out.ra.km 0
      have m1 : w9.cell? ⟨g7, 1, none⟩ = some (.int .i64 (-7)) := blk_cell RC9.out.ra.km 1
      have x8 := blk_cell RC9.out.ra.bx 8
      have qa : (0 : Int) ≤ (l.length : Int) := by omega
      have qb : (l.length : Int) < (room.length : Int) := by rw [HRL.out]; omega
      go_quiet (first
        | (go_at_call 11; with_reducible exact SQ1.out _)
        | (go_at_call 11; with_reducible exact SQ2.out _))
      obtain ⟨Wq, hWq⟩ : ∃ X, w9.drewN nq = X := ⟨_, rfl⟩
      have RC0 : Aside0 (RC w Wq g5 g7 W.heap.size w6.heap.size g8 room.length cr #[.int .i64 x.f0, .int .i64 x.f1, .int .i64 x.f2, .string x.f3, .bool x.f4, .int .i64 conn, .int .i64 x.f6, .int .i64 x.f7, .slice A8 l.length c8] (zl l 0 ++ [(⟨-7, -7⟩ : S50)]) h4 (.slice A10 l.length c10) (l.map (·.f0)) (.slice A11 l.length c11) (l.map (·.f1)) w7.heap.size (.slice A13 I.length c13) I w8.heap.size (.slice A15 I.length c15) I) := ⟨by rw [← hWq, zl_zero, HRM.out]; exact RC9.out.low (pw_below_drewN (Below.refl _ _) nq)⟩
      have AA0 : Aside0 (Kd.R (Kd.int .i64) 2 Wq w7.heap.size (fun k => k < w8.heap.size) (.slice A14 I.length c14) I) := ⟨by rw [← hWq]; exact Kd.R_below A9.out (pw_below_drewN (Below.refl _ _) nq)⟩
      rw [hWq]
      clear hWq SQ1 SQ2 z0 z1 m0 m1 x8 qa qb RC9 A9 HGD
      go_upto_if 98 with fail
      go_loopw [16] (fun v16 w' => ∃ k : Nat, v16 = .int .i64 (k : Int) ∧ Aside0 (k ≤ l.length) ∧ Aside0 (RC w w' g5 g7 W.heap.size w6.heap.size g8 room.length cr #[.int .i64 x.f0, .int .i64 x.f1, .int .i64 x.f2, .string x.f3, .bool x.f4, .int .i64 conn, .int .i64 x.f6, .int .i64 x.f7, .slice A8 l.length c8] (zl l k ++ [(⟨-7, -7⟩ : S50)]) h4 (.slice A10 l.length c10) (l.map (·.f0)) (.slice A11 l.length c11) (l.map (·.f1)) w7.heap.size (.slice A13 I.length c13) I w8.heap.size (.slice A15 I.length c15) I) ∧ Aside0 (Kd.R (Kd.int .i64) 2 w' w7.heap.size (fun k => k < w8.heap.size) (.slice A14 I.length c14) I)) (fun v _ => ((l.length : Int) - intOf v).toNat)
      case atStart => exact ⟨0, rfl, ⟨Nat.zero_le _⟩, RC0, AA0⟩
      case round =>
        clear RC0 AA0
        obtain ⟨k, rfl, HK, RC1, AA1⟩ := hrel
        have x8 := blk_cell RC1.out.ra.bx 8
        by_cases hk : k < l.length
        · have d1 : decide ((k : Int) < (l.length : Int)) = true := decide_eq_true (by omega)
          have d2 : decide (k < l.length) = true := decide_eq_true hk
          have hw1 : wrap64 ((k : Int) + 1) = ((k + 1 : Nat) : Int) := by have := H8.out; unfold wrap64; omega
          have q0 : (0 : Int) ≤ (k : Int) := by omega
          have q1 : (k : Int) < (l.length : Int) := by omega
          have HKM := Aside0.mk hk
          obtain ⟨ad, rfl, y0, y1⟩ := at_T50 (Kd.C_below HC.out RC1.out.ra.be) (k : Int) q0 q1
          rw [Int.toNat_natCast] at y0 y1
          obtain ⟨y, hy⟩ : ∃ y, rd_T50 l (k : Int) = y := ⟨_, rfl⟩
          have hy2 : l[k] = y := by rw [← hy]; unfold rd_T50; rw [Int.toNat_natCast, List.getD_eq_getElem?_getD, List.getElem?_eq_getElem hk]; rfl
          rw [hy] at y0 y1
          have HZG : Aside0 ((zl l k ++ [(⟨-7, -7⟩ : S50)]).getD k z50 = y) := ⟨by rw [List.getD_eq_getElem?_getD, List.getElem?_append_left (by rw [zl_len]; exact hk), zl_getElem l k hk, hy2]; rfl⟩
          have HZS : Aside0 ((zl l k ++ [(⟨-7, -7⟩ : S50)]).set k ⟨y.f0, 0⟩ = zl l (k + 1) ++ [(⟨-7, -7⟩ : S50)]) := ⟨by rw [← hy2]; exact zl_set l k hk _⟩
          obtain ⟨r0, r1, _⟩ := room_elem RC1.out.ra.rm (i := k) (by rw [HRL.out]; omega) HZG.out
          have b0 : (y.f0 == y.f0) = true := by simp
          have b1 : (y.f1 == y.f1) = true := by simp
          clear hy hy2 hk
          go_upto_region 18 with fail
          go_quiet (fail)
          obtain ⟨Wq1, hWq1⟩ : ∃ X, wr.drewN nq = X := ⟨_, rfl⟩
          have RC2 : Aside0 (RC w Wq1 g5 g7 W.heap.size w6.heap.size g8 room.length cr #[.int .i64 x.f0, .int .i64 x.f1, .int .i64 x.f2, .string x.f3, .bool x.f4, .int .i64 conn, .int .i64 x.f6, .int .i64 x.f7, .slice (some ad) l.length c8] (zl l k ++ [(⟨-7, -7⟩ : S50)]) h4 (.slice A10 l.length c10) (l.map (·.f0)) (.slice A11 l.length c11) (l.map (·.f1)) w7.heap.size (.slice A13 I.length c13) I w8.heap.size (.slice A15 I.length c15) I) := ⟨by rw [← hWq1]; exact RC1.out.low (pw_below_drewN (Below.refl _ _) nq)⟩
          have AA2 : Aside0 (Kd.R (Kd.int .i64) 2 Wq1 w7.heap.size (fun k => k < w8.heap.size) (.slice A14 I.length c14) I) := ⟨by rw [← hWq1]; exact Kd.R_below AA1.out (pw_below_drewN (Below.refl _ _) nq)⟩
          rw [hWq1]
          clear hWq1 y0 y1 r0 r1 b0 b1 x8 RC1 AA1
          obtain ⟨_, r1, rf⟩ := room_elem RC2.out.ra.rm (i := k) (by rw [HRL.out]; have := HKM.out; omega) HZG.out
          have rf1 := rf 1
          clear rf
          go_upto_region 17 with fail
          generalize hWn : World.setCell _ _ _ = Wn
          obtain ⟨hR, hg⟩ := room_set (u := 0) RC2.out.ra.rm (by rw [HRL.out]; have := HKM.out; omega) HZG.out hWn
          have RC3 : Aside0 (RC w Wn g5 g7 W.heap.size w6.heap.size g8 room.length cr #[.int .i64 x.f0, .int .i64 x.f1, .int .i64 x.f2, .string x.f3, .bool x.f4, .int .i64 conn, .int .i64 x.f6, .int .i64 x.f7, .slice (some ad) l.length c8] (zl l (k + 1) ++ [(⟨-7, -7⟩ : S50)]) h4 (.slice A10 l.length c10) (l.map (·.f0)) (.slice A11 l.length c11) (l.map (·.f1)) w7.heap.size (.slice A13 I.length c13) I w8.heap.size (.slice A15 I.length c15) I) := ⟨by rw [← HZS.out]; exact RC2.out.own hR hg⟩
          have AA3 : Aside0 (Kd.R (Kd.int .i64) 2 Wn w7.heap.size (fun k => k < w8.heap.size) (.slice A14 I.length c14) I) := ⟨Kd.R_mono (Kd.R_grown (Kd.R_bound AA2.out) hg (fun k hk e => by have := Option.some.inj e; have := RC2.out.lt; have := RC2.out.ra.lt; have := hk.2.1; omega)) (fun _ hk => hk.1)⟩
          clear hR hg hWn RC2 AA2 r1 rf1
          go_wp2_with fail
          go_roundw
          case rel => exact ⟨k + 1, congrArg (Value.int .i64) hw1, ⟨by have := HKM.out; omega⟩, RC3, AA3⟩
          case measure =>
            rw [hw1]
            show ((l.length : Int) - ((k + 1 : Nat) : Int)).toNat < ((l.length : Int) - (k : Int)).toNat
            have := HKM.out
            omega
        · have d1 : decide ((k : Int) < (l.length : Int)) = false := decide_eq_false (by omega)
          have d2 : decide (k < l.length) = false := decide_eq_false hk
          have HKE : k = l.length := by have := HK.out; omega
          rw [HKE] at RC1 d1 d2 ⊢
          clear hk HKE HK k
          have RC0 : Aside0 (RC w wr g5 g7 W.heap.size w6.heap.size g8 room.length cr #[.int .i64 x.f0, .int .i64 x.f1, .int .i64 x.f2, .string x.f3, .bool x.f4, .int .i64 conn, .int .i64 x.f6, .int .i64 x.f7, .slice A8 l.length c8] (zl l l.length ++ [(⟨-7, -7⟩ : S50)]) h4 (.slice A10 l.length c10) (l.map (·.f0)) (.slice A11 l.length c11) (l.map (·.f1)) w7.heap.size (.slice A13 I.length c13) I w8.heap.size (.slice A15 I.length c15) I) := RC1
          have AA0 : Aside0 (∃ Q, Q.length = I.length ∧ Kd.R (Kd.int .i64) 2 wr w7.heap.size (fun k => k < w8.heap.size) (.slice A14 I.length c14) Q) := ⟨_, rfl, AA1.out⟩
          clear RC1 AA1 RA1
          go_upto_if 118 with fail
          clear x8 d1 d2
          go_loopw [17] (fun v17 w' => ∃ k : Nat, v17 = .int .i64 (k : Int) ∧ Aside0 (k ≤ I.length) ∧ Aside0 (RC w w' g5 g7 W.heap.size w6.heap.size g8 room.length cr #[.int .i64 x.f0, .int .i64 x.f1, .int .i64 x.f2, .string x.f3, .bool x.f4, .int .i64 conn, .int .i64 x.f6, .int .i64 x.f7, .slice A8 l.length c8] (zl l l.length ++ [(⟨-7, -7⟩ : S50)]) h4 (.slice A10 l.length c10) (l.map (·.f0)) (.slice A11 l.length c11) (l.map (·.f1)) w7.heap.size (.slice A13 I.length c13) I w8.heap.size (.slice A15 I.length c15) I) ∧ Aside0 (∃ Q, Q.length = I.length ∧ Kd.R (Kd.int .i64) 2 w' w7.heap.size (fun k => k < w8.heap.size) (.slice A14 I.length c14) Q)) (fun v _ => ((I.length : Int) - intOf v).toNat)
          case atStart => exact ⟨0, rfl, ⟨Nat.zero_le _⟩, RC0, AA0⟩
          case round =>
            clear RC0 AA0
            obtain ⟨k, rfl, HK, RC1, AA1⟩ := hrel
            obtain ⟨Q, hQ, hA⟩ := AA1.out
            have HQ := Aside0.mk hQ
            have AA2 := Aside0.mk hA
            clear AA1 hQ hA
            by_cases hk : k < I.length
            · have d1 : decide ((k : Int) < (I.length : Int)) = true := decide_eq_true (by omega)
              have d2 : decide (k < I.length) = true := decide_eq_true hk
              have hw1 : wrap64 ((k : Int) + 1) = ((k + 1 : Nat) : Int) := by have := HIL.out; have := HL.out; unfold wrap64; omega
              have q0 : (0 : Int) ≤ (k : Int) := by omega
              have q1 : (k : Int) < (I.length : Int) := by omega
              have HKM := Aside0.mk hk
              obtain ⟨ga, cq, e, _, _, _⟩ := Kd.R_form AA2.out (by rw [HQ.out]; omega)
              injection e with e1 e2 e3
              subst e1
              obtain ⟨⟨y, r1⟩, rf⟩ := int_elem AA2.out hk
              clear e2 e3 hk cq
              go_upto_region 23 with fail
              generalize hWn : World.setCell _ _ _ = Wn
              obtain ⟨hR, hg⟩ := int_set (u := -1) AA2.out hWn
              have RC3 := Aside0.mk (RC1.out.a hg (fun k e => by have e := Option.some.inj e; subst e; exact ⟨Kd.R_base AA2.out _ rfl, AA2.out.1 _ rfl⟩))
              have AA3 : Aside0 (∃ Q, Q.length = I.length ∧ Kd.R (Kd.int .i64) 2 Wn w7.heap.size (fun k => k < w8.heap.size) (.slice (some ⟨ga, 0, none⟩) I.length c14) Q) := ⟨_, by rw [List.length_set]; exact HQ.out, hR⟩
              clear hR hg hWn r1 rf
              go_wp2_with fail
              go_roundw
              case rel => exact ⟨k + 1, congrArg (Value.int .i64) hw1, ⟨by have := HKM.out; omega⟩, RC3, AA3⟩
              case measure =>
                rw [hw1]
                show ((I.length : Int) - ((k + 1 : Nat) : Int)).toNat < ((I.length : Int) - (k : Int)).toNat
                have := HKM.out
                omega
            · have d1 : decide ((k : Int) < (I.length : Int)) = false := decide_eq_false (by omega)
              have d2 : decide (k < I.length) = false := decide_eq_false hk
              have HKE : k = I.length := by have := HK.out; omega
              rw [HKE] at d1 d2 ⊢
              clear hk HKE HK k
              go_upto_region 26 with ((with_reducible refine gate_builtin (b := .append) (xs := #[.tmp 124, .tmp 125]) rfl ?_); at_builtin; refine Kd.R_append (Kd.int .i64) (w0 := wr) w7.heap.size rfl (.tmp 124) (.tmp 125) 22 2 _ 8 rfl Try.underlying22 info2 rfl (Nat.succ_pos 0) (Nat.succ_pos 7) (.slice A14 I.length c14) Q (-2) [.int .i64 (-2)] (fun _ => True) (fun _ => False) rfl rfl rfl (fun _ h => h.elim) (fun _ _ => trivial) (Kd.R_mono AA2.out (fun _ _ => trivial)) (Below.refl _ _) (by have := RC1.out.lt; omega) (by have := HIL.out; have := HL.out; rw [HQ.out]; omega) ?_; intro v18 w10 ho hb hg hat; have RC2 := Aside0.mk (RC1.out.a hg (fun k e => ⟨Kd.R_base AA2.out k e, AA2.out.1 k e⟩)); have LO := Aside0.mk ho; clear ho hb hg hat)
              obtain ⟨N, hN⟩ : ∃ N, I.length + 1 = N := ⟨_, rfl⟩
              have HNI := Aside0.mk hN
              obtain ⟨A18, c18, e18, _, _⟩ := R_slice_int LO.out
              rw [List.length_append, List.length_singleton, HQ.out, hN] at e18
              subst e18
              clear LO AA2 HQ RC1 d1 d2 hN
              have RC0 : Aside0 (∃ Q, Q.length = l.length ∧ (∀ j, j < 0 → Q[j]? = some 0) ∧ RC w w10 g5 g7 W.heap.size w6.heap.size g8 room.length cr #[.int .i64 x.f0, .int .i64 x.f1, .int .i64 x.f2, .string x.f3, .bool x.f4, .int .i64 conn, .int .i64 x.f6, .int .i64 x.f7, .slice A8 l.length c8] (zl l l.length ++ [(⟨-7, -7⟩ : S50)]) h4 (.slice A10 l.length c10) (l.map (·.f0)) (.slice A11 l.length c11) Q w7.heap.size (.slice A13 I.length c13) I w8.heap.size (.slice A15 I.length c15) I) := ⟨_, by rw [List.length_map], fun j hj => absurd hj (Nat.not_lt_zero j), RC2.out⟩
              clear RC2
              go_upto_if 130 with fail
              go_loopw [19] (fun v19 w' => ∃ k : Nat, v19 = .int .i64 (k : Int) ∧ Aside0 (k ≤ l.length) ∧ Aside0 (∃ Q, Q.length = l.length ∧ (∀ j, j < k → Q[j]? = some 0) ∧ RC w w' g5 g7 W.heap.size w6.heap.size g8 room.length cr #[.int .i64 x.f0, .int .i64 x.f1, .int .i64 x.f2, .string x.f3, .bool x.f4, .int .i64 conn, .int .i64 x.f6, .int .i64 x.f7, .slice A8 l.length c8] (zl l l.length ++ [(⟨-7, -7⟩ : S50)]) h4 (.slice A10 l.length c10) (l.map (·.f0)) (.slice A11 l.length c11) Q w7.heap.size (.slice A13 I.length c13) I w8.heap.size (.slice A15 I.length c15) I)) (fun v _ => ((l.length : Int) - intOf v).toNat)
              case atStart => exact ⟨0, rfl, ⟨Nat.zero_le _⟩, RC0⟩
              case round =>
                clear RC0
                obtain ⟨k, rfl, HK, RCx⟩ := hrel
                obtain ⟨Q, hQ, hz, hA⟩ := RCx.out
                have HQ := Aside0.mk hQ
                have HZ := Aside0.mk hz
                have RC1 := Aside0.mk hA
                clear RCx hQ hA hz
                by_cases hk : k < l.length
                · have d1 : decide ((k : Int) < (l.length : Int)) = true := decide_eq_true (by omega)
                  have d2 : decide (k < l.length) = true := decide_eq_true hk
                  have hw1 : wrap64 ((k : Int) + 1) = ((k + 1 : Nat) : Int) := by have := H8.out; unfold wrap64; omega
                  have q0 : (0 : Int) ≤ (k : Int) := by omega
                  have q1 : (k : Int) < (l.length : Int) := by omega
                  have HKM := Aside0.mk hk
                  obtain ⟨ga, cq, e, _, _, _⟩ := Kd.R_form RC1.out.pr.b (by rw [HQ.out]; omega)
                  injection e with e1 e2 e3
                  subst e1
                  obtain ⟨⟨y, r1⟩, rf⟩ := int_elem RC1.out.pr.b hk
                  clear e2 e3 hk cq
                  go_upto_region 28 with fail
                  generalize hWn : World.setCell _ _ _ = Wn
                  obtain ⟨hR, hg⟩ := int_set (u := 0) RC1.out.pr.b hWn
                  have RC3 := Aside0.mk (RC1.out.left hR hg)
                  have HZ2 : Aside0 (∀ j, j < k + 1 → (Q.set k 0)[j]? = some 0) := ⟨fun j hj => by
                    rcases Nat.lt_or_ge j k with h | h
                    · rw [List.getElem?_set_ne (by omega)]; exact HZ.out j h
                    · obtain rfl : j = k := by omega
                      rw [List.getElem?_set_self (by rw [HQ.out]; exact HKM.out)]⟩
                  clear hR hg hWn r1 rf
                  go_wp2_with fail
                  go_roundw
                  case rel => exact ⟨k + 1, congrArg (Value.int .i64) hw1, ⟨by have := HKM.out; omega⟩, ⟨_, by rw [List.length_set]; exact HQ.out, HZ2.out, RC3.out⟩⟩
                  case measure =>
                    rw [hw1]
                    show ((l.length : Int) - ((k + 1 : Nat) : Int)).toNat < ((l.length : Int) - (k : Int)).toNat
                    have := HKM.out
                    omega
                · have d1 : decide ((k : Int) < (l.length : Int)) = false := decide_eq_false (by omega)
                  have d2 : decide (k < l.length) = false := decide_eq_false hk
                  have HKE : k = l.length := by have := HK.out; omega
                  rw [HKE] at HZ d1 d2 ⊢
                  clear hk HKE HK k
                  obtain ⟨l', hl'⟩ : ∃ l', zl l l.length = l' := ⟨_, rfl⟩
                  have hlen : l'.length = l.length := by rw [← hl']; exact zl_len _ _
                  have hQ0 : Q = l'.map (·.f1) := by rw [← hl', zl_f1]; exact zrep Q _ HQ.out HZ.out
                  have hL0 : l.map (·.f0) = l'.map (·.f0) := by rw [← hl', zl_f0]
                  rw [hQ0, hL0, hl'] at RC1
                  have RQ : Aside0 (∀ W1, RC w W1 g5 g7 W.heap.size w6.heap.size g8 room.length cr #[.int .i64 x.f0, .int .i64 x.f1, .int .i64 x.f2, .string x.f3, .bool x.f4, .int .i64 conn, .int .i64 x.f6, .int .i64 x.f7, .slice A8 l.length c8] (l' ++ [(⟨-7, -7⟩ : S50)]) h4 (.slice A10 l.length c10) (l'.map (·.f0)) (.slice A11 l.length c11) (l'.map (·.f1)) w7.heap.size (.slice A13 I.length c13) I w8.heap.size (.slice A15 I.length c15) I → Calls Try.prog 18 #[.pointer (some ⟨p, 0, none⟩), .int .i64 conn, .slice (some ⟨g8, 0, none⟩) l.length cr] W1 (RdyPost m conn l' W1)) := ⟨fun W1 h => by
                    have h9 := (Kd.R_reads' h.ra.rm).2.2
                    have h1 := ready_calls p mb n m conn (some ⟨g8, 0, none⟩) cr l' W1 (HBO.out.low h.ra.be).sh HN.out (by rw [hlen]; have := H8.out; omega) (C_cut h9)
                    rwa [hlen] at h1⟩
                  have DQ : Aside0 (∀ W1, RC w W1 g5 g7 W.heap.size w6.heap.size g8 room.length cr #[.int .i64 x.f0, .int .i64 x.f1, .int .i64 x.f2, .string x.f3, .bool x.f4, .int .i64 conn, .int .i64 x.f6, .int .i64 x.f7, .slice A8 l.length c8] (l' ++ [(⟨-7, -7⟩ : S50)]) h4 (.slice A10 l.length c10) (l'.map (·.f0)) (.slice A11 l.length c11) (l'.map (·.f1)) w7.heap.size (.slice A13 I.length c13) I w8.heap.size (.slice A15 I.length c15) I → Calls Try.prog 32 #[.pointer (some ⟨q, 0, none⟩), .int .i64 conn, .slice A10 l.length c10, .slice A11 l.length c11] W1 (RdyPost m conn l' W1)) := ⟨fun W1 h => by
                    have h1 := (Kd.R_reads' h.pr.a).2.2
                    have h2 := (Kd.R_reads' h.pr.b).2.2
                    rw [List.length_map] at h1 h2
                    have h3 := readyd_calls q B v D m conn A10 c10 A11 c11 l' W1 (HBO.out.low h.ra.be).doc HBO.out.dr HL.out (by rw [hlen]; have := H8.out; omega) h1 h2
                    rwa [hlen] at h3⟩
                  have SQ : Aside0 (∀ W1, RC w W1 g5 g7 W.heap.size w6.heap.size g8 room.length cr #[.int .i64 x.f0, .int .i64 x.f1, .int .i64 x.f2, .string x.f3, .bool x.f4, .int .i64 conn, .int .i64 x.f6, .int .i64 x.f7, .slice A8 l.length c8] (l' ++ [(⟨-7, -7⟩ : S50)]) h4 (.slice A10 l.length c10) (l'.map (·.f0)) (.slice A11 l.length c11) (l'.map (·.f1)) w7.heap.size (.slice A13 I.length c13) I w8.heap.size (.slice A15 I.length c15) I → Calls Try.prog 11 #[.slice A15 I.length c15, .slice A13 I.length c13] W1 fun e w' => e = .returned (.bool true) ∧ Below W1.heap.size W1 w') := ⟨fun W1 h => same_calls A15 A13 c15 c13 I W1 (Kd.R_reads' h.b).2.2 (Kd.R_reads' h.b).2.1 (Kd.R_reads' h.wa).2.2 (Kd.R_reads' h.wa).2.1⟩
                  clear hl' hlen hQ0 hL0 HZ HQ
                  have x5 : wr.cell? ⟨g5, 5, none⟩ = some (.int .i64 conn) := blk_cell RC1.out.ra.bx 5
                  have hwN : wrap64 ((I.length : Int) + 1) = (N : Int) := by have := HNI.out; have := HIL.out; have := HL.out; unfold wrap64; omega
                  have hNN : ((N : Int) == (N : Int)) = true := by simp
                  go_upto_region 30 with fail
                  refine start_ (n := 26) (S := fun w' => w'.cell? ⟨g5, 5, none⟩ = some (.int .i64 conn) ∧ RC w w' g5 g7 W.heap.size w6.heap.size g8 room.length cr #[.int .i64 x.f0, .int .i64 x.f1, .int .i64 x.f2, .string x.f3, .bool x.f4, .int .i64 conn, .int .i64 x.f6, .int .i64 x.f7, .slice A8 l.length c8] (l' ++ [(⟨-7, -7⟩ : S50)]) h4 (.slice A10 l.length c10) (l'.map (·.f0)) (.slice A11 l.length c11) (l'.map (·.f1)) w7.heap.size (.slice A13 I.length c13) I w8.heap.size (.slice A15 I.length c15) I) (ds := []) #[false, false, false, false, false, false, false, false, false, false, false, false, false, false, false, false, false, false, false, false, false, false, false, false, false, false] (by kernel_rfl) rfl rfl ⟨x5, RC1.out.low (below_drew (Below.refl _ _))⟩ (fun hHeld => ?_)
                  refine pure_ (i := 0) (N := some 136) (v := ?_) (a' := ?_) #[true, false, false, false, false, false, false, false, false, false, false, false, false, false, false, false, false, false, false, false, false, false, false, false, false, false] rfl rfl (by kernel_rfl) (fun _ _ _ h => h) (Or.inl ⟨by rfl, ?_⟩) ?_ ?_
                  rotate_left
                  · intro w'
                    go_simp
                    with_reducible rfl
                  rotate_left
                  · simp only [Act.put, List.setIfInBounds_toArray, List.set_cons_zero, List.set_cons_succ, i64_w, i32_w]
                    rfl
                  refine pure_ (i := 1) (N := some 137) (v := ?_) (a' := ?_) #[true, true, false, false, false, false, false, false, false, false, false, false, false, false, false, false, false, false, false, false, false, false, false, false, false, false] rfl rfl (by kernel_rfl) (fun _ _ _ h => h) (Or.inl ⟨by rfl, ?_⟩) ?_ ?_
                  rotate_left
                  · intro w'
                    go_simp
                    with_reducible rfl
                  rotate_left
                  · simp only [Act.put, List.setIfInBounds_toArray, List.set_cons_zero, List.set_cons_succ, i64_w, i32_w]
                    rfl
                  refine pure_ (i := 2) (N := some 138) (v := ?_) (a' := ?_) #[true, true, true, false, false, false, false, false, false, false, false, false, false, false, false, false, false, false, false, false, false, false, false, false, false, false] rfl rfl (by kernel_rfl) (fun _ _ _ h => h) (Or.inl ⟨by rfl, ?_⟩) ?_ ?_
                  rotate_left
                  · intro w'
                    go_simp
                    with_reducible rfl
                  rotate_left
                  · simp only [Act.put, List.setIfInBounds_toArray, List.set_cons_zero, List.set_cons_succ, i64_w, i32_w]
                    rfl
                  refine pure_ (i := 3) (N := some 139) (v := ?_) (a' := ?_) #[true, true, true, true, false, false, false, false, false, false, false, false, false, false, false, false, false, false, false, false, false, false, false, false, false, false] rfl rfl (by kernel_rfl) (fun _ _ _ h => h) (Or.inl ⟨by rfl, ?_⟩) ?_ ?_
                  rotate_left
                  · intro w'
                    go_simp
                    with_reducible rfl
                  rotate_left
                  · simp only [Act.put, List.setIfInBounds_toArray, List.set_cons_zero, List.set_cons_succ, i64_w, i32_w]
                    rfl
                  refine pure_ (i := 4) (N := some 140) (v := ?_) (a' := ?_) #[true, true, true, true, true, false, false, false, false, false, false, false, false, false, false, false, false, false, false, false, false, false, false, false, false, false] rfl rfl (by kernel_rfl) (fun _ _ _ h => h) (Or.inl ⟨by rfl, ?_⟩) ?_ ?_
                  rotate_left
                  · intro w'
                    go_simp
                    with_reducible rfl
                  rotate_left
                  · simp only [Act.put, List.setIfInBounds_toArray, List.set_cons_zero, List.set_cons_succ, i64_w, i32_w]
                    rfl
                  refine pure_ (i := 5) (N := some 141) (v := ?_) (a' := ?_) #[true, true, true, true, true, true, false, false, false, false, false, false, false, false, false, false, false, false, false, false, false, false, false, false, false, false] rfl rfl (by kernel_rfl) (fun _ _ _ h => h) (Or.inl ⟨by rfl, ?_⟩) ?_ ?_
                  rotate_left
                  · intro w'
                    go_simp
                    with_reducible rfl
                  rotate_left
                  · simp only [Act.put, List.setIfInBounds_toArray, List.set_cons_zero, List.set_cons_succ, i64_w, i32_w]
                    rfl
                  refine pure_ (i := 6) (N := some 142) (v := ?_) (a' := ?_) #[true, true, true, true, true, true, true, false, false, false, false, false, false, false, false, false, false, false, false, false, false, false, false, false, false, false] rfl rfl (by kernel_rfl) (fun _ _ _ h => h) (Or.inl ⟨by rfl, ?_⟩) ?_ ?_
                  rotate_left
                  · intro w'
                    go_simp
                    with_reducible rfl
                  rotate_left
                  · simp only [Act.put, List.setIfInBounds_toArray, List.set_cons_zero, List.set_cons_succ, i64_w, i32_w]
                    rfl
                  refine pure_ (i := 7) (N := some 143) (v := ?_) (a' := ?_) #[true, true, true, true, true, true, true, true, false, false, false, false, false, false, false, false, false, false, false, false, false, false, false, false, false, false] rfl rfl (by kernel_rfl) (fun _ _ _ h => h) (Or.inl ⟨by rfl, ?_⟩) ?_ ?_
                  rotate_left
                  · intro w'
                    go_simp
                    with_reducible rfl
                  rotate_left
                  · simp only [Act.put, List.setIfInBounds_toArray, List.set_cons_zero, List.set_cons_succ, i64_w, i32_w]
                    rfl
                  refine pure_ (i := 8) (N := some 144) (v := ?_) (a' := ?_) #[true, true, true, true, true, true, true, true, true, false, false, false, false, false, false, false, false, false, false, false, false, false, false, false, false, false] rfl rfl (by kernel_rfl) (fun _ _ _ h => h) (Or.inl ⟨by rfl, ?_⟩) ?_ ?_
                  rotate_left
                  · intro w'
                    go_simp
                    with_reducible rfl
                  rotate_left
                  · simp only [Act.put, List.setIfInBounds_toArray, List.set_cons_zero, List.set_cons_succ, i64_w, i32_w]
                    rfl
                  refine one_ (i := 9) (N := some 145) #[true, true, true, true, true, true, true, true, true, true, false, false, false, false, false, false, false, false, false, false, false, false, false, false, false, false] rfl rfl (by kernel_rfl) (by decide) (fun K hK => ?_)
                  refine goes_ Try.func11 (by kernel_rfl) rfl #[.slice A15 I.length c15, .slice A13 I.length c13] (by rfl) rfl rfl (by simp only [List.map_toArray, List.map_cons, List.map_nil]; rfl) ?_
                  with_reducible refine (SQ.out _ hHeld.2).mono ?_
                  rintro e w20 ⟨rfl, hb⟩
                  refine ⟨_, rfl, ?_⟩
                  refine hK.out _ _ ⟨(hb.cell (World.block_lt_of_cell? _ _ hHeld.1)).trans hHeld.1, hHeld.2.low hb⟩ (fun hHeld => ?_)
                  clear hK K
                  refine norm_ (a' := ?_) ?_ ?_
                  rotate_left
                  · show Act.put _ (some 145) _ = _
                    simp only [Act.put, List.setIfInBounds_toArray, List.set_cons_zero, List.set_cons_succ, i64_w, i32_w]
                    rfl
                  refine pure_ (i := 10) (N := some 146) (v := ?_) (a' := ?_) #[true, true, true, true, true, true, true, true, true, true, true, false, false, false, false, false, false, false, false, false, false, false, false, false, false, false] rfl rfl (by kernel_rfl) (fun _ _ _ h => h) (Or.inl ⟨by rfl, ?_⟩) ?_ ?_
                  rotate_left
                  · intro w'
                    go_simp
                    with_reducible rfl
                  rotate_left
                  · simp only [Act.put, List.setIfInBounds_toArray, List.set_cons_zero, List.set_cons_succ, i64_w, i32_w]
                    rfl
                  refine pure_ (i := 11) (N := some 147) (v := ?_) (a' := ?_) #[true, true, true, true, true, true, true, true, true, true, true, true, false, false, false, false, false, false, false, false, false, false, false, false, false, false] rfl rfl (by kernel_rfl) (fun _ _ _ h => h) (Or.inl ⟨by rfl, ?_⟩) ?_ ?_
                  rotate_left
                  · intro w'
                    go_simp
                    with_reducible rfl
                  rotate_left
                  · simp only [Act.put, List.setIfInBounds_toArray, List.set_cons_zero, List.set_cons_succ, i64_w, i32_w]
                    rfl
                  refine pure_ (i := 12) (N := some 148) (v := ?_) (a' := ?_) #[true, true, true, true, true, true, true, true, true, true, true, true, true, false, false, false, false, false, false, false, false, false, false, false, false, false] rfl rfl (by kernel_rfl) (fun _ _ _ h => h) (Or.inl ⟨by rfl, ?_⟩) ?_ ?_
                  rotate_left
                  · intro w'
                    go_simp
                    with_reducible rfl
                  rotate_left
                  · simp only [Act.put, List.setIfInBounds_toArray, List.set_cons_zero, List.set_cons_succ, i64_w, i32_w]
                    rfl
                  refine pure_ (i := 13) (N := some 149) (v := ?_) (a' := ?_) #[true, true, true, true, true, true, true, true, true, true, true, true, true, true, false, false, false, false, false, false, false, false, false, false, false, false] rfl rfl (by kernel_rfl) (fun _ _ _ h => h) (Or.inl ⟨by rfl, ?_⟩) ?_ ?_
                  rotate_left
                  · intro w'
                    go_simp
                    with_reducible rfl
                  rotate_left
                  · simp only [Act.put, List.setIfInBounds_toArray, List.set_cons_zero, List.set_cons_succ, i64_w, i32_w]
                    rfl
                  refine pure_ (i := 15) (N := some 151) (v := ?_) (a' := ?_) #[true, true, true, true, true, true, true, true, true, true, true, true, true, true, false, true, false, false, false, false, false, false, false, false, false, false] rfl rfl (by kernel_rfl) (fun _ _ _ h => h) (Or.inl ⟨by rfl, ?_⟩) ?_ ?_
                  rotate_left
                  · intro w'
                    go_simp
                    with_reducible rfl
                  rotate_left
                  · simp only [Act.put, List.setIfInBounds_toArray, List.set_cons_zero, List.set_cons_succ, i64_w, i32_w]
                    rfl
                  refine pure_ (i := 17) (N := some 153) (v := ?_) (a' := ?_) #[true, true, true, true, true, true, true, true, true, true, true, true, true, true, false, true, false, true, false, false, false, false, false, false, false, false] rfl rfl (by kernel_rfl) (fun _ _ _ h => h) (Or.inl ⟨by rfl, ?_⟩) ?_ ?_
                  rotate_left
                  · intro w'
                    go_simp
                    with_reducible rfl
                  rotate_left
                  · simp only [Act.put, List.setIfInBounds_toArray, List.set_cons_zero, List.set_cons_succ, i64_w, i32_w]
                    rfl
                  refine pure_ (i := 18) (N := some 154) (v := ?_) (a' := ?_) #[true, true, true, true, true, true, true, true, true, true, true, true, true, true, false, true, false, true, true, false, false, false, false, false, false, false] rfl rfl (by kernel_rfl) (fun _ _ _ h => h) (Or.inl ⟨by rfl, ?_⟩) ?_ ?_
                  rotate_left
                  · intro w'
                    go_simp
                    with_reducible rfl
                  rotate_left
                  · simp only [Act.put, List.setIfInBounds_toArray, List.set_cons_zero, List.set_cons_succ, i64_w, i32_w]
                    rfl
                  refine pure_ (i := 20) (N := some 156) (v := ?_) (a' := ?_) #[true, true, true, true, true, true, true, true, true, true, true, true, true, true, false, true, false, true, true, false, true, false, false, false, false, false] rfl rfl (by kernel_rfl) (fun _ _ _ h => h) (Or.inl ⟨by rfl, ?_⟩) ?_ ?_
                  rotate_left
                  · intro w'
                    go_simp
                    with_reducible rfl
                  rotate_left
                  · simp only [Act.put, List.setIfInBounds_toArray, List.set_cons_zero, List.set_cons_succ, i64_w, i32_w]
                    rfl
                  refine pure_ (i := 21) (N := some 157) (v := ?_) (a' := ?_) #[true, true, true, true, true, true, true, true, true, true, true, true, true, true, false, true, false, true, true, false, true, true, false, false, false, false] rfl rfl (by kernel_rfl) (fun _ _ _ h => h) (Or.inl ⟨by rfl, ?_⟩) ?_ ?_
                  rotate_left
                  · intro w'
                    go_simp
                    with_reducible rfl
                  rotate_left
                  · simp only [Act.put, List.setIfInBounds_toArray, List.set_cons_zero, List.set_cons_succ, i64_w, i32_w]
                    rfl
                  refine take_ (i := 14) (N := some 150) (v := ?_) (a' := ?_) #[true, true, true, true, true, true, true, true, true, true, true, true, true, true, true, true, false, true, true, false, true, true, false, false, false, false] rfl rfl (by kernel_rfl) (fun _ _ _ h => h) (Or.inl ⟨by rfl, ?_⟩) hHeld ?_ ?_
                  rotate_left
                  · rintro w' ⟨s0, s1⟩
                    go_simp
                    with_reducible rfl
                  rotate_left
                  · simp only [Act.put, List.setIfInBounds_toArray, List.set_cons_zero, List.set_cons_succ, i64_w, i32_w]
                    rfl
                  refine take_ (i := 19) (N := some 155) (v := ?_) (a' := ?_) #[true, true, true, true, true, true, true, true, true, true, true, true, true, true, true, true, false, true, true, true, true, true, false, false, false, false] rfl rfl (by kernel_rfl) (fun _ _ _ h => h) (Or.inl ⟨by rfl, ?_⟩) hHeld ?_ ?_
                  rotate_left
                  · rintro w' ⟨s0, s1⟩
                    go_simp
                    with_reducible rfl
                  rotate_left
                  · simp only [Act.put, List.setIfInBounds_toArray, List.set_cons_zero, List.set_cons_succ, i64_w, i32_w]
                    rfl
                  refine one_ (i := 16) (N := some 152) #[true, true, true, true, true, true, true, true, true, true, true, true, true, true, true, true, true, true, true, true, true, true, false, false, false, false] rfl rfl (by kernel_rfl) (by decide) (fun K hK => ?_)
                  refine goes_ Try.func18 (by kernel_rfl) rfl #[.pointer (some ⟨p, 0, none⟩), .int .i64 conn, .slice (some ⟨g8, 0, none⟩) l.length cr] (by rfl) rfl rfl (by simp only [List.map_toArray, List.map_cons, List.map_nil]; rfl) ?_
                  with_reducible refine (RQ.out _ hHeld.2).mono ?_
                  rintro e w21 ⟨vc, Ic, rfl, hRc, hIc, hb⟩
                  refine ⟨_, rfl, ?_⟩
                  obtain ⟨Ac, cc, rfl, hcc, hCc⟩ := R_slice_int hRc
                  have HCC := Aside0.mk hCc
                  have HCL := Aside0.mk hcc
                  have HIC := Aside0.mk hIc
                  clear hRc hCc hcc hIc
                  refine hK.out _ _ ⟨(hb.cell (World.block_lt_of_cell? _ _ hHeld.1)).trans hHeld.1, hHeld.2.low hb⟩ (fun hHeld => ?_)
                  clear hK K
                  refine norm_ (a' := ?_) ?_ ?_
                  rotate_left
                  · show Act.put _ (some 152) _ = _
                    simp only [Act.put, List.setIfInBounds_toArray, List.set_cons_zero, List.set_cons_succ, i64_w, i32_w]
                    rfl
                  refine one_ (i := 22) (N := some 158) #[true, true, true, true, true, true, true, true, true, true, true, true, true, true, true, true, true, true, true, true, true, true, true, false, false, false] rfl rfl (by kernel_rfl) (by decide) (fun K hK => ?_)
                  refine goes_ Try.func32 (by kernel_rfl) rfl #[.pointer (some ⟨q, 0, none⟩), .int .i64 conn, .slice A10 l.length c10, .slice A11 l.length c11] (by rfl) rfl rfl (by simp only [List.map_toArray, List.map_cons, List.map_nil]; rfl) ?_
                  with_reducible refine (DQ.out _ hHeld.2).mono ?_
                  rintro e w22 ⟨vd, Id, rfl, hRd, hId, hb⟩
                  refine ⟨_, rfl, ?_⟩
                  obtain rfl := HIC.out.uniq hId
                  obtain ⟨Ad, cd, rfl, hcd, hCd⟩ := R_slice_int hRd
                  have HCD := Aside0.mk hCd
                  have HDL := Aside0.mk hcd
                  have HCE := Aside0.mk (Kd.C_below HCC.out hb)
                  clear hRd hCd hcd hId
                  refine hK.out _ _ ⟨(hb.cell (World.block_lt_of_cell? _ _ hHeld.1)).trans hHeld.1, hHeld.2.low hb⟩ (fun hHeld => ?_)
                  clear hK K
                  refine norm_ (a' := ?_) ?_ ?_
                  rotate_left
                  · show Act.put _ (some 158) _ = _
                    simp only [Act.put, List.setIfInBounds_toArray, List.set_cons_zero, List.set_cons_succ, i64_w, i32_w]
                    rfl
                  refine one_ (i := 23) (N := some 159) #[true, true, true, true, true, true, true, true, true, true, true, true, true, true, true, true, true, true, true, true, true, true, true, true, false, false] rfl rfl (by kernel_rfl) (by decide) (fun K hK => ?_)
                  refine goes_ Try.func11 (by kernel_rfl) rfl #[.slice Ac Ic.length cc, .slice Ad Ic.length cd] (by rfl) rfl rfl (by simp only [List.map_toArray, List.map_cons, List.map_nil]; rfl) ?_
                  with_reducible refine (same_calls Ac Ad cc cd Ic _ HCE.out HCL.out HCD.out HDL.out).mono ?_
                  rintro e w23 ⟨rfl, hb⟩
                  refine ⟨_, rfl, ?_⟩
                  have RC30 := Aside0.mk (hHeld.2.low hb)
                  refine hK.out _ _ ⟨(hb.cell (World.block_lt_of_cell? _ _ hHeld.1)).trans hHeld.1, hHeld.2.low hb⟩ (fun hHeld => ?_)
                  clear hK K
                  refine norm_ (a' := ?_) ?_ ?_
                  rotate_left
                  · show Act.put _ (some 159) _ = _
                    simp only [Act.put, List.setIfInBounds_toArray, List.set_cons_zero, List.set_cons_succ, i64_w, i32_w]
                    rfl
                  refine pure_ (i := 24) (N := some 160) (v := ?_) (a' := ?_) #[true, true, true, true, true, true, true, true, true, true, true, true, true, true, true, true, true, true, true, true, true, true, true, true, true, false] rfl rfl (by kernel_rfl) (fun _ _ _ h => h) (Or.inl ⟨by rfl, ?_⟩) ?_ ?_
                  rotate_left
                  · intro w'
                    go_simp
                    with_reducible rfl
                  rotate_left
                  · simp only [Act.put, List.setIfInBounds_toArray, List.set_cons_zero, List.set_cons_succ, i64_w, i32_w]
                    rfl
                  refine pure_ (i := 25) (N := some 6) (v := ?_) (a' := ?_) #[true, true, true, true, true, true, true, true, true, true, true, true, true, true, true, true, true, true, true, true, true, true, true, true, true, true] rfl rfl (by kernel_rfl) (fun _ _ _ h => h) (Or.inl ⟨by rfl, ?_⟩) ?_ ?_
                  rotate_left
                  · intro w'
                    go_simp
                    with_reducible rfl
                  rotate_left
                  · simp only [Act.put, List.setIfInBounds_toArray, List.set_cons_zero, List.set_cons_succ, i64_w, i32_w]
                    rfl
                  refine done_ (by kernel_rfl) ?_

                  go_wp2_with fail
                  go_ret
                  exact ⟨rfl, RC30.out.ra.be⟩





end Go.Proofs.Ytedkjbdkokdgdaa.Sh
