/- A feed's Next. The feed lies in a block of its own; its texts fit. -/
import Derived.Test.YtoffhlbdfhhhjaaDoorMFdB
namespace Go.Proofs.YtoffhlbdfhhhjaaDoor.Fr
open Go Go.RowKit Go.Proofs.YtoffhlbdfhhhjaaDoorW.PrintWords Go.Proofs.YtoffhlbdfhhhjaaDoorW.PrintLast Go.Proofs.YtoffhlbdfhhhjaaDoorW.PrintMore Go.Proofs.YtoffhlbdfhhhjaaDoor.QL
set_option linter.unusedSimpArgs false
set_option linter.unusedVariables false
set_option maxHeartbeats 40000000
set_option maxRecDepth 100000
theorem leaves_tmps {P : Program} {fn : Func} {tmps tmps' : Array Value} {R : Ending → World → Prop} (h : results fn tmps' = results fn tmps) : ∀ (ds : List Deferred) (u : FrameMode) (w : World), Leaves P fn tmps R ds u w → Leaves P fn tmps' R ds u w
  | [], .returning, _, ⟨v, h1, h2⟩ => ⟨v, by rw [h]; exact h1, h2⟩
  | [], .panicking _, _, hh => hh
  | [], .run, _, hh => hh
  | _ :: ds, _, _, ⟨hu, fv, cap, f, args, h1, h2, h3⟩ => ⟨hu, fv, cap, f, args, h1, h2, h3.mono (by
      rintro e u' w' hh
      cases e with
      | returned v => exact leaves_tmps h ds _ _ hh
      | panicked c => exact leaves_tmps h ds _ _ hh
      | outgrown => exact hh)⟩
theorem puts_door {R : Ending → World → Prop} (n : Nat) (v : Value) (hn : n ≠ 2 ∧ n ≠ 3 ∧ n ≠ 4) : ∀ c a w, bodyPostD Tryd.prog Tryd.f36 R (.panic c) (a.put (some n) v) w → bodyPostD Tryd.prog Tryd.f36 R (.panic c) a w := by
  intro c a w h
  refine leaves_tmps ?_ _ _ _ h
  have e : Tryd.f36.results = #[.cell 2 24, .cell 3 4, .cell 4 35] := rfl
  have hp : (a.put (some n) v).tmps = a.tmps.setIfInBounds n v := rfl
  simp only [results, e, hp]
  have g (k : Nat) (hk : n ≠ k) : (a.tmps.setIfInBounds n v).getD k undef = a.tmps.getD k undef := by
    simp only [Array.getD_eq_getD_getElem?]
    rw [Array.getElem?_setIfInBounds_ne hk]
  simp [g 2 hn.1, g 3 hn.2.1, g 4 hn.2.2, ← Array.getD_eq_getD_getElem?]
theorem puts_then {K : Act → World → Prop} {Q : Exit → Act → World → Prop} {o : Option Tmp} {v : Value} (h : ∀ c a w, Q (.panic c) (a.put o v) w → Q (.panic c) a w) : ∀ c a w, Exit.then K Q (.panic c) (a.put o v) w → Exit.then K Q (.panic c) a w := h
theorem next_calls (g : Nat) (f : Fd) (w : World) (hG : GL w) (h : FAt w g f) (hs : f.wt.size ≤ 9223372036854775807) (hp : f.pf.size ≤ 9223372036854775807) : Calls Tryd.prog 36 #[.pointer (some ⟨g, 0, none⟩)] w fun e w' => NxPost g w (nextF f) e w' := by
  have HG := Aside0.mk hG
  have HFA := Aside0.mk h
  have HS := Aside0.mk hs
  have HP := Aside0.mk hp
  clear hG h hs hp
  obtain ⟨y, hy⟩ : ∃ y, brB f = y := ⟨_, rfl⟩
  have HY := Aside0.mk hy
  obtain ⟨F, hF⟩ : ∃ F, nextF f = F := ⟨_, rfl⟩
  have HF := Aside0.mk hF
  rw [hF]
  clear hy hF
  have hmf : ∀ (fn : Fn) (first cap : Array Value) (w : World), (Instr.makeFunc fn first cap).run Tryd.prog w = .ok (.func fn first cap) w := fun _ _ _ _ => rfl
  go_enter_defers Tryd.func36, Tryd.ntmps36
  go_upto_region 1 with fail
  obtain ⟨W0, hW⟩ : ∃ W, (((w.alloc (.cells #[.pointer (some ⟨g, 0, none⟩)] 50)).alloc (.cells #[.int .i64 0, .int .i64 0, .int .i64 0, .string ⟨#[]⟩, .int .i64 0, .int .i64 0, .bool false, .int .i64 0, .int .i64 0, .int .i64 0, .slice none 0 0] 24)).alloc (.cells #[.bool false] 4)).alloc (.cells #[.int .i64 0, .int .i64 0] 35) = W := ⟨_, rfl⟩
  have I : Aside0 (NI w W0 g w.heap.size (w.heap.size + 1) (w.heap.size + 1 + 1) (w.heap.size + 1 + 1 + 1) f Fr.zero none 0 false 0 0) := ⟨by rw [← hW]; exact ni_new w g f HFA.out⟩
  obtain ⟨g1, hg1⟩ : ∃ g, w.heap.size = g := ⟨_, rfl⟩
  obtain ⟨g2, hg2⟩ : ∃ g, g1 + 1 = g := ⟨_, rfl⟩
  obtain ⟨g3, hg3⟩ : ∃ g, g2 + 1 = g := ⟨_, rfl⟩
  obtain ⟨g4, hg4⟩ : ∃ g, g3 + 1 = g := ⟨_, rfl⟩
  rw [hg1, hg2, hg3, hg4] at I
  rw [hW, hg1, hg2, hg3, hg4]
  clear hW hg1 hg2 hg3 hg4
  have z1 := blk_cell I.out.b1 0
  cases y
  · skip
    obtain ⟨yb, fb, hb⟩ : ∃ y f', begunF f = (y, f') := ⟨_, _, rfl⟩
    have HBE := Aside0.mk hb
    clear hb
    go_upto_if 13 with (first
      | (go_at_call 67; refine (broken_calls g f false _ I.out.fd HY.out).mono ?_; rintro e w3 ⟨rfl, hb⟩; have I3 := Aside0.mk (I.out.below hb); have z1 := blk_cell I3.out.b1 0; clear hb)
      | (go_at_call 69; refine (begun_is g f yb fb _ I3.out.fd HS.out HP.out HBE.out).mono ?_; rintro e w5 ⟨rfl, hf, hc⟩; have I5 := Aside0.mk (I3.out.feed hf hc); clear hf hc))
    clear I I3
    repeat (rename World.cell? _ _ = _ => hh; clear hh)
    cases yb
    · have HD : Aside0 (doneF fb ⟨Fr.zero, false, 0, 0⟩ = F) := ⟨by rw [← HF.out]; unfold nextF; rw [if_neg (by rw [HY.out]; decide), HBE.out]; rfl⟩
      go_wp2_with (first
        | (refine wpList_store_row rfl 24 _ _ rfl g2 (#[.int .i64 0, .int .i64 0, .int .i64 0, .string ⟨#[]⟩, .int .i64 0, .int .i64 0, .bool false, .int .i64 0, .int .i64 0, .int .i64 0, .slice none 0 0]) rfl rfl 24 _ I5.out.b2 (by kernel_rfl) (by kernel_rfl) (by kernel_rfl) ?_; obtain ⟨W8, e8, q4, qo, qb⟩ := row_store _ g2 (#[.int .i64 0, .int .i64 0, .int .i64 0, .string ⟨#[]⟩, .int .i64 0, .int .i64 0, .bool false, .int .i64 0, .int .i64 0, .int .i64 0, .slice none 0 0]) 24 _ I5.out.b2; rw [e8]; have I20 := Aside0.mk (I5.out.row2 (x' := Fr.zero) (A' := none) (c' := 0) q4 qo qb); have k3 := blk_cell I20.out.b3 0; have kf3 := blk_frozen I20.out.b3 0; clear q4 qo qb e8)
        | (refine wpList_store_row rfl 35 _ _ rfl g4 #[.int .i64 0, .int .i64 0] rfl rfl 35 _ (I20.out.put3 false).b4 (by kernel_rfl) (by kernel_rfl) (by kernel_rfl) ?_; obtain ⟨W9, e9, p6, po, pb⟩ := row_store _ g4 #[.int .i64 0, .int .i64 0] 35 _ (I20.out.put3 false).b4; rw [e9]; have I21 := Aside0.mk (NI.row4 (I20.out.put3 false) p6 po pb); clear p6 po pb e9))
      exact door_calls w _ g g1 g2 g3 g4 (fb) (Fr.zero) (none) (0) (false) (0) (0) I21.out (Kd.R_nil _ _ _ _ _) _ HD.out _ rfl rfl rfl rfl
    · skip
      have HFS : Aside0 (fb.wt.size ≤ 9223372036854775807) := ⟨by
        have h := HBE.out
        unfold begunF at h
        repeat' split at h
        all_goals
          have h2 := congrArg Prod.snd h
          simp only at h2
          subst h2
          first
            | exact HS.out
            | (have := HS.out; show (f.wt.extract _ _).size ≤ _; rw [ByteArray.size_extract]; omega)⟩
      obtain ⟨R, hR⟩ : ∃ R, rdF fb.wt fb.most = R := ⟨_, rfl⟩
      have HRD := Aside0.mk hR
      have HNO := Aside0.mk (rdF_no fb.wt fb.most)
      rw [hR] at HNO
      have HNF : Aside0 (F = if R.code ≠ 0 ∧ R.st = 0 then doneF { fb with code := R.code, st := 0 } ⟨Fr.zero, false, R.code, 0⟩ else if R.code ≠ 0 then doneF { fb with wt := fb.wt.extract R.no.toNat fb.wt.size } ⟨Fr.zero, false, R.code, R.st⟩ else doneF { fb with wt := fb.wt.extract R.no.toNat fb.wt.size } ⟨R.fr, decide (0 < R.no), 0, 0⟩) := ⟨by
        rw [← HF.out]
        unfold nextF
        rw [if_neg (by rw [HY.out]; decide), HBE.out, ← hR]
        rfl⟩
      clear hR
      go_upto_region 4 with fail
      refine start_ (n := 16) (S := fun w' => w'.cell? ⟨g1, 0, none⟩ = some (.pointer (some ⟨g, 0, none⟩)) ∧ w'.cell? ⟨g, 1, none⟩ = some (.string fb.wt) ∧ w'.cell? ⟨g, 0, none⟩ = some (.int .i64 fb.most) ∧ NI w w' g g1 g2 g3 g4 fb Fr.zero none 0 false 0 0) (ds := [13, 15]) #[false, false, false, false, false, false, false, false, false, false, false, false, false, false, false, false] (by kernel_rfl) rfl rfl ⟨blk_cell (I5.out.below (below_drew (Below.refl _ _))).b1 0, (I5.out.below (below_drew (Below.refl _ _))).fd.c1, (I5.out.below (below_drew (Below.refl _ _))).fd.c0, (I5.out.below (below_drew (Below.refl _ _)))⟩ (fun hHeld => ?_)
      refine take_ (i := 0) (N := some 17) (v := ?_) (a' := ?_) #[true, false, false, false, false, false, false, false, false, false, false, false, false, false, false, false] rfl rfl (by kernel_rfl) (by first | exact puts_door 17 _ (by decide) | exact puts_then (puts_door 17 _ (by decide)) | exact puts_then (puts_then (puts_door 17 _ (by decide)))) (Or.inl ⟨by rfl, ?_⟩) hHeld ?_ ?_
      rotate_left
      · rintro w' ⟨s0, s1, s2, s3⟩
        go_simp
        with_reducible rfl
      rotate_left
      · simp only [Act.put, List.setIfInBounds_toArray, List.set_cons_zero, List.set_cons_succ, i64_w, i32_w]
        rfl
      refine pure_ (i := 1) (N := some 18) (v := ?_) (a' := ?_) #[true, true, false, false, false, false, false, false, false, false, false, false, false, false, false, false] rfl rfl (by kernel_rfl) (by first | exact puts_door 18 _ (by decide) | exact puts_then (puts_door 18 _ (by decide)) | exact puts_then (puts_then (puts_door 18 _ (by decide)))) (Or.inl ⟨by rfl, ?_⟩) ?_ ?_
      rotate_left
      · intro w'
        go_simp
        with_reducible rfl
      rotate_left
      · simp only [Act.put, List.setIfInBounds_toArray, List.set_cons_zero, List.set_cons_succ, i64_w, i32_w]
        rfl
      refine pure_ (i := 2) (N := some 19) (v := ?_) (a' := ?_) #[true, true, true, false, false, false, false, false, false, false, false, false, false, false, false, false] rfl rfl (by kernel_rfl) (by first | exact puts_door 19 _ (by decide) | exact puts_then (puts_door 19 _ (by decide)) | exact puts_then (puts_then (puts_door 19 _ (by decide)))) (Or.inl ⟨by rfl, ?_⟩) ?_ ?_
      rotate_left
      · intro w'
        go_simp
        with_reducible rfl
      rotate_left
      · simp only [Act.put, List.setIfInBounds_toArray, List.set_cons_zero, List.set_cons_succ, i64_w, i32_w]
        rfl
      refine take_ (i := 3) (N := some 20) (v := ?_) (a' := ?_) #[true, true, true, true, false, false, false, false, false, false, false, false, false, false, false, false] rfl rfl (by kernel_rfl) (by first | exact puts_door 20 _ (by decide) | exact puts_then (puts_door 20 _ (by decide)) | exact puts_then (puts_then (puts_door 20 _ (by decide)))) (Or.inl ⟨by rfl, ?_⟩) hHeld ?_ ?_
      rotate_left
      · rintro w' ⟨s0, s1, s2, s3⟩
        go_simp
        with_reducible rfl
      rotate_left
      · simp only [Act.put, List.setIfInBounds_toArray, List.set_cons_zero, List.set_cons_succ, i64_w, i32_w]
        rfl
      refine take_ (i := 4) (N := some 21) (v := ?_) (a' := ?_) #[true, true, true, true, true, false, false, false, false, false, false, false, false, false, false, false] rfl rfl (by kernel_rfl) (by first | exact puts_door 21 _ (by decide) | exact puts_then (puts_door 21 _ (by decide)) | exact puts_then (puts_then (puts_door 21 _ (by decide)))) (Or.inl ⟨by rfl, ?_⟩) hHeld ?_ ?_
      rotate_left
      · rintro w' ⟨s0, s1, s2, s3⟩
        go_simp
        with_reducible rfl
      rotate_left
      · simp only [Act.put, List.setIfInBounds_toArray, List.set_cons_zero, List.set_cons_succ, i64_w, i32_w]
        rfl
      refine pure_ (i := 5) (N := some 22) (v := ?_) (a' := ?_) #[true, true, true, true, true, true, false, false, false, false, false, false, false, false, false, false] rfl rfl (by kernel_rfl) (by first | exact puts_door 22 _ (by decide) | exact puts_then (puts_door 22 _ (by decide)) | exact puts_then (puts_then (puts_door 22 _ (by decide)))) (Or.inl ⟨by rfl, ?_⟩) ?_ ?_
      rotate_left
      · intro w'
        go_simp
        with_reducible rfl
      rotate_left
      · simp only [Act.put, List.setIfInBounds_toArray, List.set_cons_zero, List.set_cons_succ, i64_w, i32_w]
        rfl
      refine pure_ (i := 6) (N := some 23) (v := ?_) (a' := ?_) #[true, true, true, true, true, true, true, false, false, false, false, false, false, false, false, false] rfl rfl (by kernel_rfl) (by first | exact puts_door 23 _ (by decide) | exact puts_then (puts_door 23 _ (by decide)) | exact puts_then (puts_then (puts_door 23 _ (by decide)))) (Or.inl ⟨by rfl, ?_⟩) ?_ ?_
      rotate_left
      · intro w'
        go_simp
        with_reducible rfl
      rotate_left
      · simp only [Act.put, List.setIfInBounds_toArray, List.set_cons_zero, List.set_cons_succ, i64_w, i32_w]
        rfl
      refine take_ (i := 7) (N := some 24) (v := ?_) (a' := ?_) #[true, true, true, true, true, true, true, true, false, false, false, false, false, false, false, false] rfl rfl (by kernel_rfl) (by first | exact puts_door 24 _ (by decide) | exact puts_then (puts_door 24 _ (by decide)) | exact puts_then (puts_then (puts_door 24 _ (by decide)))) (Or.inl ⟨by rfl, ?_⟩) hHeld ?_ ?_
      rotate_left
      · rintro w' ⟨s0, s1, s2, s3⟩
        go_simp
        with_reducible rfl
      rotate_left
      · simp only [Act.put, List.setIfInBounds_toArray, List.set_cons_zero, List.set_cons_succ, i64_w, i32_w]
        rfl
      refine one_ (i := 8) (N := some 25) #[true, true, true, true, true, true, true, true, true, false, false, false, false, false, false, false] rfl rfl (by kernel_rfl) (by decide) (fun K hK => ?_)
      refine goes_ Tryd.func20 (by kernel_rfl) rfl #[.string fb.wt, .int .i64 fb.most] (by rfl) rfl rfl (by simp only [List.map_toArray, List.map_cons, List.map_nil]; rfl) ?_
      with_reducible refine (read_calls fb.wt fb.most _ (HG.out.chg (fat_ne HG.out HFA.out) hHeld.2.2.2.chg) HFS.out).mono ?_
      rintro e w7 hrd
      rw [HRD.out] at hrd
      obtain ⟨A7, c7, rfl, hr7, hb⟩ := hrd
      have KR7 := Aside0.mk (Kd.R_lower (Kd.R_mono (ok' := fun k => g4 < k) (Kd.R_bound hr7) (fun k hk => by have h1 := hk.2.1; have h2 := blk_lt hHeld.2.2.2.b4; omega)) hHeld.2.2.2.chg.size)
      unfold Fr.cells
      refine ⟨_, rfl, ?_⟩
      have I7 := Aside0.mk (hHeld.2.2.2.below hb)
      clear hb hr7
      refine hK.out _ _ ⟨blk_cell I7.out.b1 0, I7.out.fd.c1, I7.out.fd.c0, I7.out⟩ (fun hHeld => ?_)
      clear hK K
      refine norm_ (a' := ?_) ?_ ?_
      rotate_left
      · show Act.put _ (some 25) _ = _
        simp only [Act.put, List.setIfInBounds_toArray, List.set_cons_zero, List.set_cons_succ, i64_w, i32_w]
        rfl
      refine pure_ (i := 9) (N := some 16) (v := ?_) (a' := ?_) #[true, true, true, true, true, true, true, true, true, true, false, false, false, false, false, false] rfl rfl (by kernel_rfl) (by first | exact puts_door 16 _ (by decide) | exact puts_then (puts_door 16 _ (by decide)) | exact puts_then (puts_then (puts_door 16 _ (by decide)))) (Or.inl ⟨by rfl, ?_⟩) ?_ ?_
      rotate_left
      · intro w'
        go_simp
        with_reducible rfl
      rotate_left
      · simp only [Act.put, List.setIfInBounds_toArray, List.set_cons_zero, List.set_cons_succ, i64_w, i32_w]
        rfl
      refine pure_ (i := 10) (N := some 26) (v := ?_) (a' := ?_) #[true, true, true, true, true, true, true, true, true, true, true, false, false, false, false, false] rfl rfl (by kernel_rfl) (by first | exact puts_door 26 _ (by decide) | exact puts_then (puts_door 26 _ (by decide)) | exact puts_then (puts_then (puts_door 26 _ (by decide)))) (Or.inl ⟨by rfl, ?_⟩) ?_ ?_
      rotate_left
      · intro w'
        go_simp
        with_reducible rfl
      rotate_left
      · simp only [Act.put, List.setIfInBounds_toArray, List.set_cons_zero, List.set_cons_succ, i64_w, i32_w]
        rfl
      refine pure_ (i := 11) (N := some 27) (v := ?_) (a' := ?_) #[true, true, true, true, true, true, true, true, true, true, true, true, false, false, false, false] rfl rfl (by kernel_rfl) (by first | exact puts_door 27 _ (by decide) | exact puts_then (puts_door 27 _ (by decide)) | exact puts_then (puts_then (puts_door 27 _ (by decide)))) (Or.inl ⟨by rfl, ?_⟩) ?_ ?_
      rotate_left
      · intro w'
        go_simp
        with_reducible rfl
      rotate_left
      · simp only [Act.put, List.setIfInBounds_toArray, List.set_cons_zero, List.set_cons_succ, i64_w, i32_w]
        rfl
      refine pure_ (i := 12) (N := some 28) (v := ?_) (a' := ?_) #[true, true, true, true, true, true, true, true, true, true, true, true, true, false, false, false] rfl rfl (by kernel_rfl) (by first | exact puts_door 28 _ (by decide) | exact puts_then (puts_door 28 _ (by decide)) | exact puts_then (puts_then (puts_door 28 _ (by decide)))) (Or.inl ⟨by rfl, ?_⟩) ?_ ?_
      rotate_left
      · intro w'
        go_simp
        with_reducible rfl
      rotate_left
      · simp only [Act.put, List.setIfInBounds_toArray, List.set_cons_zero, List.set_cons_succ, i64_w, i32_w]
        rfl
      refine last_ (i := 13) (N := none) #[true, true, true, true, true, true, true, true, true, true, true, true, true, true, false, false] rfl rfl (by kernel_rfl) (by decide) (fun K hK => ?_)
      refine skip_row 24 _ _ rfl (by rfl) rfl g2 #[.int .i64 R.fr.ty, .int .i64 R.fr.fl, .int .i64 R.fr.st, .string R.fr.da, .int .i64 R.fr.pad, .int .i64 R.fr.dep, .bool R.fr.ex, .int .i64 R.fr.wt, .int .i64 R.fr.co, .int .i64 R.fr.la, .slice A7 R.fr.ps.length c7] rfl rfl 24 _ I7.out.b2 (by kernel_rfl) (by kernel_rfl) (by kernel_rfl) ?_
      obtain ⟨W8, e8, q4, qo, qb⟩ := row_store _ g2 #[.int .i64 R.fr.ty, .int .i64 R.fr.fl, .int .i64 R.fr.st, .string R.fr.da, .int .i64 R.fr.pad, .int .i64 R.fr.dep, .bool R.fr.ex, .int .i64 R.fr.wt, .int .i64 R.fr.co, .int .i64 R.fr.la, .slice A7 R.fr.ps.length c7] 24 _ I7.out.b2
      rw [e8]
      have I8 := Aside0.mk (I7.out.row2 (x' := R.fr) (A' := A7) (c' := c7) q4 qo qb)
      have KR8 := Aside0.mk (Kd.R_step KR7.out (fun k hk _ => qo k (by have := I7.out.ne; omega)))
      clear q4 qo qb e8 KR7
      refine hK.out _ _ ?_
      clear hK K
      refine pure_ (i := 14) (N := some 5) (v := ?_) (a' := ?_) #[true, true, true, true, true, true, true, true, true, true, true, true, true, true, true, false] rfl rfl (by kernel_rfl) (by first | exact puts_door 5 _ (by decide) | exact puts_then (puts_door 5 _ (by decide)) | exact puts_then (puts_then (puts_door 5 _ (by decide)))) (Or.inl ⟨by rfl, ?_⟩) ?_ ?_
      rotate_left
      · intro w'
        go_simp
        with_reducible rfl
      rotate_left
      · simp only [Act.put, List.setIfInBounds_toArray, List.set_cons_zero, List.set_cons_succ, i64_w, i32_w]
        rfl
      refine last_ (i := 15) (N := none) #[true, true, true, true, true, true, true, true, true, true, true, true, true, true, true, true] rfl rfl (by kernel_rfl) (by decide) (fun K hK => ?_)
      refine skip_row 35 _ _ rfl (by rfl) rfl g4 #[.int .i64 R.code, .int .i64 R.st] rfl rfl 35 _ I8.out.b4 (by kernel_rfl) (by kernel_rfl) (by kernel_rfl) ?_
      obtain ⟨W9, e9, p6, po, pb⟩ := row_store _ g4 #[.int .i64 R.code, .int .i64 R.st] 35 _ I8.out.b4
      rw [e9]
      have I9 := Aside0.mk (NI.row4 I8.out p6 po pb)
      have KR9 := Aside0.mk (Kd.R_step KR8.out (fun k hk _ => po k (by omega)))
      clear p6 po pb e9 KR8
      refine hK.out _ _ ?_
      clear hK K
      refine done_ (by kernel_rfl) ?_
      clear hHeld
      repeat (rename World.cell? _ _ = _ => hh; clear hh)
      obtain ⟨q, hq⟩ : ∃ q : Nat, R.no = q := ⟨R.no.toNat, by have := HNO.out; omega⟩
      have HQ := Aside0.mk hq
      have hq1 : (q : Int) ≤ (fb.wt.size : Int) := by have := HNO.out; omega
      have hq0 : (0 : Int) ≤ (q : Int) := by omega
      rw [hq]
      clear hq
      have k0 := blk_cell I9.out.b4 0
      have k1 := blk_cell I9.out.b4 1
      by_cases hc : R.code = 0
      · have bc : (R.code != 0) = false := by rw [hc]; rfl
        have HC := Aside0.mk hc
        clear hc
        go_upto_region 8 with fail
        clear k0 k1
        refine start_ (n := 10) (S := fun w' => w'.cell? ⟨g1, 0, none⟩ = some (.pointer (some ⟨g, 0, none⟩)) ∧ w'.cell? ⟨g, 1, none⟩ = some (.string fb.wt) ∧ w'.frozen? ⟨g, 1, none⟩ = false) (ds := [9]) #[false, false, false, false, false, false, false, false, false, false] (by kernel_rfl) rfl rfl ⟨blk_cell (I9.out.below (below_drew (Below.refl _ _))).b1 0, (I9.out.below (below_drew (Below.refl _ _))).fd.c1, (I9.out.below (below_drew (Below.refl _ _))).fd.fz 1⟩ (fun hHeld => ?_)
        refine pure_ (i := 5) (N := some 48) (v := ?_) (a' := ?_) #[false, false, false, false, false, true, false, false, false, false] rfl rfl (by kernel_rfl) (by first | exact puts_door 48 _ (by decide) | exact puts_then (puts_door 48 _ (by decide)) | exact puts_then (puts_then (puts_door 48 _ (by decide)))) (Or.inl ⟨by rfl, ?_⟩) ?_ ?_
        rotate_left
        · intro w'
          go_simp
          with_reducible rfl
        rotate_left
        · simp only [Act.put, List.setIfInBounds_toArray, List.set_cons_zero, List.set_cons_succ, i64_w, i32_w]
          rfl
        refine take_ (i := 0) (N := some 43) (v := ?_) (a' := ?_) #[true, false, false, false, false, true, false, false, false, false] rfl rfl (by kernel_rfl) (by first | exact puts_door 43 _ (by decide) | exact puts_then (puts_door 43 _ (by decide)) | exact puts_then (puts_then (puts_door 43 _ (by decide)))) (Or.inl ⟨by rfl, ?_⟩) hHeld ?_ ?_
        rotate_left
        · rintro w' ⟨s0, s1, s2⟩
          go_simp
          with_reducible rfl
        rotate_left
        · simp only [Act.put, List.setIfInBounds_toArray, List.set_cons_zero, List.set_cons_succ, i64_w, i32_w]
          rfl
        refine take_ (i := 1) (N := some 44) (v := ?_) (a' := ?_) #[true, true, false, false, false, true, false, false, false, false] rfl rfl (by kernel_rfl) (by first | exact puts_door 44 _ (by decide) | exact puts_then (puts_door 44 _ (by decide)) | exact puts_then (puts_then (puts_door 44 _ (by decide)))) (Or.inl ⟨by rfl, ?_⟩) hHeld ?_ ?_
        rotate_left
        · rintro w' ⟨s0, s1, s2⟩
          go_simp
          with_reducible rfl
        rotate_left
        · simp only [Act.put, List.setIfInBounds_toArray, List.set_cons_zero, List.set_cons_succ, i64_w, i32_w]
          rfl
        refine pure_ (i := 2) (N := some 45) (v := ?_) (a' := ?_) #[true, true, true, false, false, true, false, false, false, false] rfl rfl (by kernel_rfl) (by first | exact puts_door 45 _ (by decide) | exact puts_then (puts_door 45 _ (by decide)) | exact puts_then (puts_then (puts_door 45 _ (by decide)))) (Or.inl ⟨by rfl, ?_⟩) ?_ ?_
        rotate_left
        · intro w'
          go_simp
          with_reducible rfl
        rotate_left
        · simp only [Act.put, List.setIfInBounds_toArray, List.set_cons_zero, List.set_cons_succ, i64_w, i32_w]
          rfl
        refine pure_ (i := 3) (N := some 46) (v := ?_) (a' := ?_) #[true, true, true, true, false, true, false, false, false, false] rfl rfl (by kernel_rfl) (by first | exact puts_door 46 _ (by decide) | exact puts_then (puts_door 46 _ (by decide)) | exact puts_then (puts_then (puts_door 46 _ (by decide)))) (Or.inl ⟨by rfl, ?_⟩) ?_ ?_
        rotate_left
        · intro w'
          go_simp
          with_reducible rfl
        rotate_left
        · simp only [Act.put, List.setIfInBounds_toArray, List.set_cons_zero, List.set_cons_succ, i64_w, i32_w]
          rfl
        refine take_ (i := 4) (N := some 47) (v := ?_) (a' := ?_) #[true, true, true, true, true, true, false, false, false, false] rfl rfl (by kernel_rfl) (by first | exact puts_door 47 _ (by decide) | exact puts_then (puts_door 47 _ (by decide)) | exact puts_then (puts_then (puts_door 47 _ (by decide)))) (Or.inl ⟨by rfl, ?_⟩) hHeld ?_ ?_
        rotate_left
        · rintro w' ⟨s0, s1, s2⟩
          go_simp
          with_reducible rfl
        rotate_left
        · simp only [Act.put, List.setIfInBounds_toArray, List.set_cons_zero, List.set_cons_succ, i64_w, i32_w]
          rfl
        refine pure_ (i := 6) (N := some 49) (v := ?_) (a' := ?_) #[true, true, true, true, true, true, true, false, false, false] rfl rfl (by kernel_rfl) (by first | exact puts_door 49 _ (by decide) | exact puts_then (puts_door 49 _ (by decide)) | exact puts_then (puts_then (puts_door 49 _ (by decide)))) (Or.inl ⟨by rfl, ?_⟩) ?_ ?_
        rotate_left
        · intro w'
          go_simp
          with_reducible rfl
        rotate_left
        · simp only [Act.put, List.setIfInBounds_toArray, List.set_cons_zero, List.set_cons_succ, i64_w, i32_w]
          rfl
        refine pure_ (i := 7) (N := some 50) (v := ?_) (a' := ?_) #[true, true, true, true, true, true, true, true, false, false] rfl rfl (by kernel_rfl) (by first | exact puts_door 50 _ (by decide) | exact puts_then (puts_door 50 _ (by decide)) | exact puts_then (puts_then (puts_door 50 _ (by decide)))) (Or.inl ⟨by rfl, ?_⟩) ?_ ?_
        rotate_left
        · intro w'
          go_simp
          with_reducible rfl
        rotate_left
        · simp only [Act.put, List.setIfInBounds_toArray, List.set_cons_zero, List.set_cons_succ, i64_w, i32_w]
          rfl
        refine pure_ (i := 8) (N := some 51) (v := ?_) (a' := ?_) #[true, true, true, true, true, true, true, true, true, false] rfl rfl (by kernel_rfl) (by first | exact puts_door 51 _ (by decide) | exact puts_then (puts_door 51 _ (by decide)) | exact puts_then (puts_then (puts_door 51 _ (by decide)))) (Or.inl ⟨by rfl, ?_⟩) ?_ ?_
        rotate_left
        · intro w'
          go_simp
          with_reducible rfl
        rotate_left
        · simp only [Act.put, List.setIfInBounds_toArray, List.set_cons_zero, List.set_cons_succ, i64_w, i32_w]
          rfl
        refine last_ (i := 9) (N := none) #[true, true, true, true, true, true, true, true, true, true] rfl rfl (by kernel_rfl) (by decide) (fun K hK => ?_)
        have c1 := hHeld.2.1
        have f1 := hHeld.2.2
        refine skip_ (w1 := ?_) (by rfl) rfl ?_ ?_
        rotate_left
        · go_simp
          rfl
        refine hK.out _ _ ?_
        clear hK K
        refine done_ (by kernel_rfl) ?_
        clear hHeld
        go_upto_region 9 with fail
        obtain ⟨W10, hW⟩ : ∃ W, (W9.setCell ⟨g, 1, none⟩ (.string (fb.wt.extract q fb.wt.size))).drew = W := ⟨_, rfl⟩
        have I10 : Aside0 (NI w W10 g g1 g2 g3 g4 { fb with wt := fb.wt.extract q fb.wt.size } R.fr A7 c7 false R.code R.st) := ⟨by rw [← hW]; exact (I9.out.feed (I9.out.fd.put1 _) (Chg.set _ _ _)).below (below_drew (Below.refl _ _))⟩
        have KR10 : Aside0 (Kd.R k32 32 W10 w.heap.size (fun k => g4 < k) (.slice A7 R.fr.ps.length c7) R.fr.ps) := ⟨by rw [← hW]; exact Kd.R_below (Kd.R_far KR9.out (p := ⟨g, 1, none⟩) (fun k hk => by have h1 := I9.out.ne; have h2 := I9.out.gw; show k ≠ g; omega) _) (below_drew (Below.refl _ _))⟩
        rw [hW]
        clear hW I9 KR9
        have k0 := blk_cell I10.out.b4 0
        go_upto_region 11 with fail
        clear k0
        obtain ⟨p, hp⟩ : ∃ p, decide ((0 : Int) < (q : Int)) = p := ⟨_, rfl⟩
        have HPP := Aside0.mk hp
        have hp2 : decide (0 < q) = p := by rw [← hp]; exact decide_eq_decide.mpr (by omega)
        go_wp2_with (first
          | (refine wpList_load_row rfl 24 _ rfl g2 rfl 24 #[.int .i64 R.fr.ty, .int .i64 R.fr.fl, .int .i64 R.fr.st, .string R.fr.da, .int .i64 R.fr.pad, .int .i64 R.fr.dep, .bool R.fr.ex, .int .i64 R.fr.wt, .int .i64 R.fr.co, .int .i64 R.fr.la, .slice A7 R.fr.ps.length c7] (0, 0) _ I10.out.b2 Tryd.underlying24 (by rfl) (by kernel_rfl) ?_)
          | (refine wpList_store_row rfl 24 _ _ rfl g2 (#[.int .i64 R.fr.ty, .int .i64 R.fr.fl, .int .i64 R.fr.st, .string R.fr.da, .int .i64 R.fr.pad, .int .i64 R.fr.dep, .bool R.fr.ex, .int .i64 R.fr.wt, .int .i64 R.fr.co, .int .i64 R.fr.la, .slice A7 R.fr.ps.length c7]) rfl rfl 24 _ I10.out.b2 (by kernel_rfl) (by kernel_rfl) (by kernel_rfl) ?_; obtain ⟨W8, e8, q4, qo, qb⟩ := row_store _ g2 (#[.int .i64 R.fr.ty, .int .i64 R.fr.fl, .int .i64 R.fr.st, .string R.fr.da, .int .i64 R.fr.pad, .int .i64 R.fr.dep, .bool R.fr.ex, .int .i64 R.fr.wt, .int .i64 R.fr.co, .int .i64 R.fr.la, .slice A7 R.fr.ps.length c7]) 24 _ I10.out.b2; rw [e8]; have I20 := Aside0.mk (I10.out.row2 (x' := R.fr) (A' := A7) (c' := c7) q4 qo qb); have k3 := blk_cell I20.out.b3 0; have kf3 := blk_frozen I20.out.b3 0; have KR20 := Aside0.mk (Kd.R_step KR10.out (fun k hk _ => qo k (by have := I10.out.ne; omega))); clear q4 qo qb e8)
          | (refine wpList_store_row rfl 35 _ _ rfl g4 #[.int .i64 0, .int .i64 0] rfl rfl 35 _ (I20.out.put3 p).b4 (by kernel_rfl) (by kernel_rfl) (by kernel_rfl) ?_; obtain ⟨W9, e9, p6, po, pb⟩ := row_store _ g4 #[.int .i64 0, .int .i64 0] 35 _ (I20.out.put3 p).b4; rw [e9]; have I21 := Aside0.mk (NI.row4 (I20.out.put3 p) p6 po pb); have KR21 := Aside0.mk (Kd.R_step (Kd.R_far KR20.out (p := ⟨g3, 0, none⟩) (fun k hk => by have := I20.out.ne; show k ≠ g3; omega) _) (fun k hk _ => po k (by omega))); clear p6 po pb e9))
        have HD : Aside0 (doneF { fb with wt := fb.wt.extract q fb.wt.size } ⟨R.fr, p, 0, 0⟩ = F) := ⟨by rw [HNF.out, if_neg (fun h => h.1 HC.out), if_neg (fun h => h HC.out), HQ.out, Int.toNat_natCast, HPP.out]⟩
        exact door_calls w _ g g1 g2 g3 g4 ({ fb with wt := fb.wt.extract q fb.wt.size }) (R.fr) (A7) (c7) (p) (0) (0) I21.out (KR21.out) _ HD.out _ rfl rfl rfl rfl
      · have bc : (R.code != 0) = true := bne_iff_ne.mpr hc
        have HC := Aside0.mk hc
        clear hc
        by_cases hs : R.st = 0
        · have bs : (R.st == 0) = true := beq_iff_eq.mpr hs
          have HST := Aside0.mk hs
          clear hs
          have z1 := blk_cell I9.out.b1 0
          have c3 := I9.out.fd.c3
          have c4 := I9.out.fd.c4
          have f3 := I9.out.fd.fz 3
          have f4 := I9.out.fd.fz 4
          go_upto_region 7 with fail
          clear z1 c3 c4 f3 f4 k0 k1 bc bs
          obtain ⟨W10, hW⟩ : ∃ W, (W9.setCell ⟨g, 3, none⟩ (.int .i64 R.code)).setCell ⟨g, 4, none⟩ (.int .i64 R.st) = W := ⟨_, rfl⟩
          obtain ⟨fe, hfe⟩ : ∃ fe : Fd, { fb with code := R.code, st := R.st } = fe := ⟨_, rfl⟩
          have HFE := Aside0.mk hfe
          have I10 : Aside0 (NI w W10 g g1 g2 g3 g4 fe R.fr A7 c7 false R.code R.st) := ⟨by rw [← hW, ← hfe]; exact I9.out.feed ((I9.out.fd.put3 _).put4 _) ((Chg.set _ _ _).trans (Chg.set _ _ _))⟩
          rw [hW]
          clear hW hfe I9 KR9
          refine start_ (n := 5) (S := fun w' => w'.cell? ⟨g4, 0, none⟩ = some (.int .i64 R.code) ∧ w'.cell? ⟨g4, 1, none⟩ = some (.int .i64 R.st) ∧ (∃ x A c ok, NI w w' g g1 g2 g3 g4 fe x A c ok R.code R.st)) (ds := [4]) #[false, false, false, false, false] (by kernel_rfl) rfl rfl ⟨blk_cell (I10.out.below (below_drew (Below.refl _ _))).b4 0, blk_cell (I10.out.below (below_drew (Below.refl _ _))).b4 1, ⟨_, _, _, _, (I10.out.below (below_drew (Below.refl _ _)))⟩⟩ (fun hHeld => ?_)
          refine pure_ (i := 0) (N := some 41) (v := ?_) (a' := ?_) #[true, false, false, false, false] rfl rfl (by kernel_rfl) (by first | exact puts_door 41 _ (by decide) | exact puts_then (puts_door 41 _ (by decide)) | exact puts_then (puts_then (puts_door 41 _ (by decide)))) (Or.inl ⟨by rfl, ?_⟩) ?_ ?_
          rotate_left
          · intro w'
            go_simp
            with_reducible rfl
          rotate_left
          · simp only [Act.put, List.setIfInBounds_toArray, List.set_cons_zero, List.set_cons_succ, i64_w, i32_w]
            rfl
          refine take_ (i := 1) (N := some 42) (v := ?_) (a' := ?_) #[true, true, false, false, false] rfl rfl (by kernel_rfl) (by first | exact puts_door 42 _ (by decide) | exact puts_then (puts_door 42 _ (by decide)) | exact puts_then (puts_then (puts_door 42 _ (by decide)))) (Or.inl ⟨by rfl, ?_⟩) hHeld ?_ ?_
          rotate_left
          · rintro w' ⟨s0, s1, s2⟩
            go_simp
            with_reducible rfl
          rotate_left
          · simp only [Act.put, List.setIfInBounds_toArray, List.set_cons_zero, List.set_cons_succ, i64_w, i32_w]
            rfl
          refine one_ (i := 2) (N := none) #[true, true, true, false, false] rfl rfl (by kernel_rfl) (by decide) (fun K hK => ?_)
          obtain ⟨x0, A0, c0, ok0, hI⟩ := hHeld.2.2
          refine skip_row 24 _ _ rfl (by rfl) rfl g2 #[.int .i64 0, .int .i64 0, .int .i64 0, .string ⟨#[]⟩, .int .i64 0, .int .i64 0, .bool false, .int .i64 0, .int .i64 0, .int .i64 0, .slice none 0 0] rfl rfl 24 _ hI.b2 (by kernel_rfl) (by kernel_rfl) (by kernel_rfl) ?_
          obtain ⟨W8, e8, q4, qo, qb⟩ := row_store _ g2 #[.int .i64 0, .int .i64 0, .int .i64 0, .string ⟨#[]⟩, .int .i64 0, .int .i64 0, .bool false, .int .i64 0, .int .i64 0, .int .i64 0, .slice none 0 0] 24 _ hI.b2
          rw [e8]
          have I11 := Aside0.mk (hI.row2 (x' := Fr.zero) (A' := none) (c' := 0) q4 qo qb)
          clear q4 qo qb e8
          refine hK.out _ _ ⟨blk_cell I11.out.b4 0, blk_cell I11.out.b4 1, ⟨_, _, _, _, I11.out⟩⟩ (fun hHeld => ?_)
          clear hK K
          refine one_ (i := 3) (N := none) #[true, true, true, true, false] rfl rfl (by kernel_rfl) (by decide) (fun K hK => ?_)
          have k3 := blk_cell I11.out.b3 0
          have kf3 := blk_frozen I11.out.b3 0
          refine skip_ (w1 := ?_) (by rfl) rfl ?_ ?_
          rotate_left
          · go_simp
            rfl
          have I12 := Aside0.mk (I11.out.put3 false)
          clear k3 kf3
          refine hK.out _ _ ⟨blk_cell I12.out.b4 0, blk_cell I12.out.b4 1, ⟨_, _, _, _, I12.out⟩⟩ (fun hHeld => ?_)
          clear hK K
          refine last_ (i := 4) (N := none) #[true, true, true, true, true] rfl rfl (by kernel_rfl) (by decide) (fun K hK => ?_)
          refine skip_row 35 _ _ rfl (by rfl) rfl g4 #[.int .i64 R.code, .int .i64 R.st] rfl rfl 35 _ I12.out.b4 (by kernel_rfl) (by kernel_rfl) (by kernel_rfl) ?_
          obtain ⟨W9, e9, p6, po, pb⟩ := row_store _ g4 #[.int .i64 R.code, .int .i64 R.st] 35 _ I12.out.b4
          rw [e9]
          have I13 := Aside0.mk (NI.row4 I12.out p6 po pb)
          clear p6 po pb e9
          refine hK.out _ _ ?_
          clear hK K
          refine done_ (by kernel_rfl) ?_
          clear hHeld
          go_wp2_with fail
          have HD : Aside0 (doneF fe ⟨Fr.zero, false, R.code, R.st⟩ = F) := ⟨by rw [HNF.out, if_pos ⟨HC.out, HST.out⟩, ← HFE.out, HST.out]⟩
          exact door_calls w _ g g1 g2 g3 g4 (fe) (Fr.zero) (none) (0) (false) (R.code) (R.st) I13.out (Kd.R_nil _ _ _ _ _) _ HD.out _ rfl rfl rfl rfl
        · have bs : (R.st == 0) = false := beq_eq_false_iff_ne.mpr hs
          have HST := Aside0.mk hs
          clear hs
          go_upto_region 8 with fail
          clear k0 k1
          refine start_ (n := 10) (S := fun w' => w'.cell? ⟨g1, 0, none⟩ = some (.pointer (some ⟨g, 0, none⟩)) ∧ w'.cell? ⟨g, 1, none⟩ = some (.string fb.wt) ∧ w'.frozen? ⟨g, 1, none⟩ = false) (ds := [9]) #[false, false, false, false, false, false, false, false, false, false] (by kernel_rfl) rfl rfl ⟨blk_cell (I9.out.below (below_drew (Below.refl _ _))).b1 0, (I9.out.below (below_drew (Below.refl _ _))).fd.c1, (I9.out.below (below_drew (Below.refl _ _))).fd.fz 1⟩ (fun hHeld => ?_)
          refine pure_ (i := 5) (N := some 48) (v := ?_) (a' := ?_) #[false, false, false, false, false, true, false, false, false, false] rfl rfl (by kernel_rfl) (by first | exact puts_door 48 _ (by decide) | exact puts_then (puts_door 48 _ (by decide)) | exact puts_then (puts_then (puts_door 48 _ (by decide)))) (Or.inl ⟨by rfl, ?_⟩) ?_ ?_
          rotate_left
          · intro w'
            go_simp
            with_reducible rfl
          rotate_left
          · simp only [Act.put, List.setIfInBounds_toArray, List.set_cons_zero, List.set_cons_succ, i64_w, i32_w]
            rfl
          refine take_ (i := 0) (N := some 43) (v := ?_) (a' := ?_) #[true, false, false, false, false, true, false, false, false, false] rfl rfl (by kernel_rfl) (by first | exact puts_door 43 _ (by decide) | exact puts_then (puts_door 43 _ (by decide)) | exact puts_then (puts_then (puts_door 43 _ (by decide)))) (Or.inl ⟨by rfl, ?_⟩) hHeld ?_ ?_
          rotate_left
          · rintro w' ⟨s0, s1, s2⟩
            go_simp
            with_reducible rfl
          rotate_left
          · simp only [Act.put, List.setIfInBounds_toArray, List.set_cons_zero, List.set_cons_succ, i64_w, i32_w]
            rfl
          refine take_ (i := 1) (N := some 44) (v := ?_) (a' := ?_) #[true, true, false, false, false, true, false, false, false, false] rfl rfl (by kernel_rfl) (by first | exact puts_door 44 _ (by decide) | exact puts_then (puts_door 44 _ (by decide)) | exact puts_then (puts_then (puts_door 44 _ (by decide)))) (Or.inl ⟨by rfl, ?_⟩) hHeld ?_ ?_
          rotate_left
          · rintro w' ⟨s0, s1, s2⟩
            go_simp
            with_reducible rfl
          rotate_left
          · simp only [Act.put, List.setIfInBounds_toArray, List.set_cons_zero, List.set_cons_succ, i64_w, i32_w]
            rfl
          refine pure_ (i := 2) (N := some 45) (v := ?_) (a' := ?_) #[true, true, true, false, false, true, false, false, false, false] rfl rfl (by kernel_rfl) (by first | exact puts_door 45 _ (by decide) | exact puts_then (puts_door 45 _ (by decide)) | exact puts_then (puts_then (puts_door 45 _ (by decide)))) (Or.inl ⟨by rfl, ?_⟩) ?_ ?_
          rotate_left
          · intro w'
            go_simp
            with_reducible rfl
          rotate_left
          · simp only [Act.put, List.setIfInBounds_toArray, List.set_cons_zero, List.set_cons_succ, i64_w, i32_w]
            rfl
          refine pure_ (i := 3) (N := some 46) (v := ?_) (a' := ?_) #[true, true, true, true, false, true, false, false, false, false] rfl rfl (by kernel_rfl) (by first | exact puts_door 46 _ (by decide) | exact puts_then (puts_door 46 _ (by decide)) | exact puts_then (puts_then (puts_door 46 _ (by decide)))) (Or.inl ⟨by rfl, ?_⟩) ?_ ?_
          rotate_left
          · intro w'
            go_simp
            with_reducible rfl
          rotate_left
          · simp only [Act.put, List.setIfInBounds_toArray, List.set_cons_zero, List.set_cons_succ, i64_w, i32_w]
            rfl
          refine take_ (i := 4) (N := some 47) (v := ?_) (a' := ?_) #[true, true, true, true, true, true, false, false, false, false] rfl rfl (by kernel_rfl) (by first | exact puts_door 47 _ (by decide) | exact puts_then (puts_door 47 _ (by decide)) | exact puts_then (puts_then (puts_door 47 _ (by decide)))) (Or.inl ⟨by rfl, ?_⟩) hHeld ?_ ?_
          rotate_left
          · rintro w' ⟨s0, s1, s2⟩
            go_simp
            with_reducible rfl
          rotate_left
          · simp only [Act.put, List.setIfInBounds_toArray, List.set_cons_zero, List.set_cons_succ, i64_w, i32_w]
            rfl
          refine pure_ (i := 6) (N := some 49) (v := ?_) (a' := ?_) #[true, true, true, true, true, true, true, false, false, false] rfl rfl (by kernel_rfl) (by first | exact puts_door 49 _ (by decide) | exact puts_then (puts_door 49 _ (by decide)) | exact puts_then (puts_then (puts_door 49 _ (by decide)))) (Or.inl ⟨by rfl, ?_⟩) ?_ ?_
          rotate_left
          · intro w'
            go_simp
            with_reducible rfl
          rotate_left
          · simp only [Act.put, List.setIfInBounds_toArray, List.set_cons_zero, List.set_cons_succ, i64_w, i32_w]
            rfl
          refine pure_ (i := 7) (N := some 50) (v := ?_) (a' := ?_) #[true, true, true, true, true, true, true, true, false, false] rfl rfl (by kernel_rfl) (by first | exact puts_door 50 _ (by decide) | exact puts_then (puts_door 50 _ (by decide)) | exact puts_then (puts_then (puts_door 50 _ (by decide)))) (Or.inl ⟨by rfl, ?_⟩) ?_ ?_
          rotate_left
          · intro w'
            go_simp
            with_reducible rfl
          rotate_left
          · simp only [Act.put, List.setIfInBounds_toArray, List.set_cons_zero, List.set_cons_succ, i64_w, i32_w]
            rfl
          refine pure_ (i := 8) (N := some 51) (v := ?_) (a' := ?_) #[true, true, true, true, true, true, true, true, true, false] rfl rfl (by kernel_rfl) (by first | exact puts_door 51 _ (by decide) | exact puts_then (puts_door 51 _ (by decide)) | exact puts_then (puts_then (puts_door 51 _ (by decide)))) (Or.inl ⟨by rfl, ?_⟩) ?_ ?_
          rotate_left
          · intro w'
            go_simp
            with_reducible rfl
          rotate_left
          · simp only [Act.put, List.setIfInBounds_toArray, List.set_cons_zero, List.set_cons_succ, i64_w, i32_w]
            rfl
          refine last_ (i := 9) (N := none) #[true, true, true, true, true, true, true, true, true, true] rfl rfl (by kernel_rfl) (by decide) (fun K hK => ?_)
          have c1 := hHeld.2.1
          have f1 := hHeld.2.2
          refine skip_ (w1 := ?_) (by rfl) rfl ?_ ?_
          rotate_left
          · go_simp
            rfl
          refine hK.out _ _ ?_
          clear hK K
          refine done_ (by kernel_rfl) ?_
          clear hHeld
          go_upto_region 9 with fail
          obtain ⟨W10, hW⟩ : ∃ W, (W9.setCell ⟨g, 1, none⟩ (.string (fb.wt.extract q fb.wt.size))).drew = W := ⟨_, rfl⟩
          obtain ⟨fe, hfe⟩ : ∃ fe : Fd, { fb with wt := fb.wt.extract q fb.wt.size } = fe := ⟨_, rfl⟩
          have HFE := Aside0.mk hfe
          have I10 : Aside0 (NI w W10 g g1 g2 g3 g4 fe R.fr A7 c7 false R.code R.st) := ⟨by rw [← hW, ← hfe]; exact (I9.out.feed (I9.out.fd.put1 _) (Chg.set _ _ _)).below (below_drew (Below.refl _ _))⟩
          rw [hW]
          clear hW hfe I9 KR9
          have k0 := blk_cell I10.out.b4 0
          go_upto_region 10 with fail
          clear k0 bc bs
          refine start_ (n := 5) (S := fun w' => w'.cell? ⟨g4, 0, none⟩ = some (.int .i64 R.code) ∧ w'.cell? ⟨g4, 1, none⟩ = some (.int .i64 R.st) ∧ (∃ x A c ok, NI w w' g g1 g2 g3 g4 fe x A c ok R.code R.st)) (ds := [4]) #[false, false, false, false, false] (by kernel_rfl) rfl rfl ⟨blk_cell (I10.out.below (below_drew (Below.refl _ _))).b4 0, blk_cell (I10.out.below (below_drew (Below.refl _ _))).b4 1, ⟨_, _, _, _, (I10.out.below (below_drew (Below.refl _ _)))⟩⟩ (fun hHeld => ?_)
          refine pure_ (i := 0) (N := some 55) (v := ?_) (a' := ?_) #[true, false, false, false, false] rfl rfl (by kernel_rfl) (by first | exact puts_door 55 _ (by decide) | exact puts_then (puts_door 55 _ (by decide)) | exact puts_then (puts_then (puts_door 55 _ (by decide)))) (Or.inl ⟨by rfl, ?_⟩) ?_ ?_
          rotate_left
          · intro w'
            go_simp
            with_reducible rfl
          rotate_left
          · simp only [Act.put, List.setIfInBounds_toArray, List.set_cons_zero, List.set_cons_succ, i64_w, i32_w]
            rfl
          refine take_ (i := 1) (N := some 56) (v := ?_) (a' := ?_) #[true, true, false, false, false] rfl rfl (by kernel_rfl) (by first | exact puts_door 56 _ (by decide) | exact puts_then (puts_door 56 _ (by decide)) | exact puts_then (puts_then (puts_door 56 _ (by decide)))) (Or.inl ⟨by rfl, ?_⟩) hHeld ?_ ?_
          rotate_left
          · rintro w' ⟨s0, s1, s2⟩
            go_simp
            with_reducible rfl
          rotate_left
          · simp only [Act.put, List.setIfInBounds_toArray, List.set_cons_zero, List.set_cons_succ, i64_w, i32_w]
            rfl
          refine one_ (i := 2) (N := none) #[true, true, true, false, false] rfl rfl (by kernel_rfl) (by decide) (fun K hK => ?_)
          obtain ⟨x0, A0, c0, ok0, hI⟩ := hHeld.2.2
          refine skip_row 24 _ _ rfl (by rfl) rfl g2 #[.int .i64 0, .int .i64 0, .int .i64 0, .string ⟨#[]⟩, .int .i64 0, .int .i64 0, .bool false, .int .i64 0, .int .i64 0, .int .i64 0, .slice none 0 0] rfl rfl 24 _ hI.b2 (by kernel_rfl) (by kernel_rfl) (by kernel_rfl) ?_
          obtain ⟨W8, e8, q4, qo, qb⟩ := row_store _ g2 #[.int .i64 0, .int .i64 0, .int .i64 0, .string ⟨#[]⟩, .int .i64 0, .int .i64 0, .bool false, .int .i64 0, .int .i64 0, .int .i64 0, .slice none 0 0] 24 _ hI.b2
          rw [e8]
          have I11 := Aside0.mk (hI.row2 (x' := Fr.zero) (A' := none) (c' := 0) q4 qo qb)
          clear q4 qo qb e8
          refine hK.out _ _ ⟨blk_cell I11.out.b4 0, blk_cell I11.out.b4 1, ⟨_, _, _, _, I11.out⟩⟩ (fun hHeld => ?_)
          clear hK K
          refine one_ (i := 3) (N := none) #[true, true, true, true, false] rfl rfl (by kernel_rfl) (by decide) (fun K hK => ?_)
          have k3 := blk_cell I11.out.b3 0
          have kf3 := blk_frozen I11.out.b3 0
          refine skip_ (w1 := ?_) (by rfl) rfl ?_ ?_
          rotate_left
          · go_simp
            rfl
          have I12 := Aside0.mk (I11.out.put3 false)
          clear k3 kf3
          refine hK.out _ _ ⟨blk_cell I12.out.b4 0, blk_cell I12.out.b4 1, ⟨_, _, _, _, I12.out⟩⟩ (fun hHeld => ?_)
          clear hK K
          refine last_ (i := 4) (N := none) #[true, true, true, true, true] rfl rfl (by kernel_rfl) (by decide) (fun K hK => ?_)
          refine skip_row 35 _ _ rfl (by rfl) rfl g4 #[.int .i64 R.code, .int .i64 R.st] rfl rfl 35 _ I12.out.b4 (by kernel_rfl) (by kernel_rfl) (by kernel_rfl) ?_
          obtain ⟨W9, e9, p6, po, pb⟩ := row_store _ g4 #[.int .i64 R.code, .int .i64 R.st] 35 _ I12.out.b4
          rw [e9]
          have I13 := Aside0.mk (NI.row4 I12.out p6 po pb)
          clear p6 po pb e9
          refine hK.out _ _ ?_
          clear hK K
          refine done_ (by kernel_rfl) ?_
          clear hHeld
          go_wp2_with fail
          have HD : Aside0 (doneF fe ⟨Fr.zero, false, R.code, R.st⟩ = F) := ⟨by rw [HNF.out, if_neg (fun h => HST.out h.2), if_pos HC.out, ← HFE.out, HQ.out, Int.toNat_natCast]⟩
          exact door_calls w _ g g1 g2 g3 g4 (fe) (Fr.zero) (none) (0) (false) (R.code) (R.st) I13.out (Kd.R_nil _ _ _ _ _) _ HD.out _ rfl rfl rfl rfl
  · have HD : Aside0 (doneF f ⟨Fr.zero, false, 0, 0⟩ = F) := ⟨by rw [← HF.out]; unfold nextF; rw [if_pos HY.out]⟩
    go_upto_region 3 with (go_at_call 67; refine (broken_calls g f true _ I.out.fd HY.out).mono ?_; rintro e w3 ⟨rfl, hb⟩; have I3 := Aside0.mk (I.out.below hb); clear hb)
    clear z1 I
    go_wp2_with (first
      | (refine wpList_store_row rfl 24 _ _ rfl g2 (#[.int .i64 0, .int .i64 0, .int .i64 0, .string ⟨#[]⟩, .int .i64 0, .int .i64 0, .bool false, .int .i64 0, .int .i64 0, .int .i64 0, .slice none 0 0]) rfl rfl 24 _ I3.out.b2 (by kernel_rfl) (by kernel_rfl) (by kernel_rfl) ?_; obtain ⟨W8, e8, q4, qo, qb⟩ := row_store _ g2 (#[.int .i64 0, .int .i64 0, .int .i64 0, .string ⟨#[]⟩, .int .i64 0, .int .i64 0, .bool false, .int .i64 0, .int .i64 0, .int .i64 0, .slice none 0 0]) 24 _ I3.out.b2; rw [e8]; have I20 := Aside0.mk (I3.out.row2 (x' := Fr.zero) (A' := none) (c' := 0) q4 qo qb); have k3 := blk_cell I20.out.b3 0; have kf3 := blk_frozen I20.out.b3 0; clear q4 qo qb e8)
      | (refine wpList_store_row rfl 35 _ _ rfl g4 #[.int .i64 0, .int .i64 0] rfl rfl 35 _ (I20.out.put3 false).b4 (by kernel_rfl) (by kernel_rfl) (by kernel_rfl) ?_; obtain ⟨W9, e9, p6, po, pb⟩ := row_store _ g4 #[.int .i64 0, .int .i64 0] 35 _ (I20.out.put3 false).b4; rw [e9]; have I21 := Aside0.mk (NI.row4 (I20.out.put3 false) p6 po pb); clear p6 po pb e9))
    exact door_calls w _ g g1 g2 g3 g4 (f) (Fr.zero) (none) (0) (false) (0) (0) I21.out (Kd.R_nil _ _ _ _ _) _ HD.out _ rfl rfl rfl rfl
end Go.Proofs.YtoffhlbdfhhhjaaDoor.Fr
