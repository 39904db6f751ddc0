/- Apply of the package setting answers as 'apply' tells. No condition but those in each statement. -/
import Derived.Test.YtcjphkgmcfpfeaaDoorMSetA
import Derived.Outline
import Derived.RegionTactic
import Derived.ChangeAlike
namespace Go.Proofs.YtcjphkgmcfpfeaaDoor.MS
open Go Go.RowKit Go.Proofs.YtcjphkgmcfpfeaaDoorW.PrintWords Go.Proofs.YtcjphkgmcfpfeaaDoorW.PrintLast Go.Proofs.YtcjphkgmcfpfeaaDoorW.PrintMore Go.Proofs.YtcjphkgmcfpfeaaDoor.QL
attribute [local go_sem] max2_int min2_int max_two min_two
set_option linter.unusedSimpArgs false
set_option linter.unusedVariables false
set_option maxHeartbeats 4000000
set_option maxRecDepth 100000
theorem apply_step (cl : Bool) (s : St) (l : List S28) (k : Nat) (h : k < l.length) (h0 : valid (rd_T28 l (k : Int)).f0 (rd_T28 l (k : Int)).f1 cl = 0) : apply cl s (l.drop k) = apply cl (put s (rd_T28 l (k : Int)).f0 (rd_T28 l (k : Int)).f1) (l.drop (k + 1)) := by
  have e : rd_T28 l (k : Int) = l[k] := by simp [rd_T28, h]
  rw [List.drop_eq_getElem_cons h]
  rw [e] at h0 ⊢
  show (if _ then _ else _) = _
  rw [if_pos h0]
theorem apply_stop (cl : Bool) (s : St) (l : List S28) (k : Nat) (h : k < l.length) (h0 : valid (rd_T28 l (k : Int)).f0 (rd_T28 l (k : Int)).f1 cl ≠ 0) : apply cl s (l.drop k) = (St.zero, valid (rd_T28 l (k : Int)).f0 (rd_T28 l (k : Int)).f1 cl) := by
  have e : rd_T28 l (k : Int) = l[k] := by simp [rd_T28, h]
  rw [List.drop_eq_getElem_cons h]
  rw [e] at h0 ⊢
  show (if _ then _ else _) = _
  rw [if_neg h0]
theorem apply_calls (s0 : St) (A : Option Addr) (c : Nat) (l : List S28) (cl : Bool) (w : World) (hr : Kd.C k28 w A l.length l) (hc : l.length ≤ c) :
    Calls Tryd.prog 11 #[.agg s0.arr, .slice A l.length c, .bool cl] w fun e w' => e = .returned (.tuple #[.agg (apply cl s0 l).1.arr, .int .i64 (apply cl s0 l).2]) ∧ Below w.heap.size w w' := by
  have HR := Aside0.mk hr
  have HC := Aside0.mk hc
  have hl63 : l.length ≤ 9223372036854775807 := hr.2.1
  have HB := Aside0.mk (Below.refl w.heap.size w)
  clear hr hc
  go_enter Tryd.func11, Tryd.ntmps11
  go_wp2_with fail
  go_loopw [14] (fun i w' => ∃ (k : Nat) (s : St), k ≤ l.length ∧ i = .int .i64 k ∧ apply cl s (l.drop k) = apply cl s0 l ∧ w'.heap[w.heap.size]? = some (.cells s.arr 23 (0, 0)) ∧ w'.heap[w.heap.size + 1]? = some (.cells St.zero.arr 23 (0, 0)) ∧ Below w.heap.size w w') (fun i _ => l.length - (intOf i).toNat)
  case atStart =>
    refine ⟨0, s0, Nat.zero_le _, rfl, rfl, ?_, ?_, ?_⟩
    · exact blk_alloc (blk_new w _) _
    · have := blk_new (w.alloc (.cells s0.arr 23)) (.cells St.zero.arr 23)
      rwa [World.size_alloc] at this
    · exact below_alloc (below_alloc HB.out _) _
  case round =>
    obtain ⟨k, s, hk, rfl, hA, hb3, hb6, hB⟩ := hrel
    have HA := Aside0.mk hA
    have H3 := Aside0.mk hb3
    have H6 := Aside0.mk hb6
    have HW := Aside0.mk hB
    clear hA hb3 hb6 hB
    have s3 := blk_lt H3.out
    have s6 := blk_lt H6.out
    by_cases hlt : k < l.length
    · have p0 : (0 : Int) ≤ k := by omega
      have q0 : (k : Int) < (l.length : Int) := by omega
      obtain ⟨ad, e0, y0, y1⟩ := at_T28 HR.out k p0 q0
      cases e0
      replace y0 := (HW.out.cell (World.block_lt_of_cell? w _ y0)).trans y0
      replace y1 := (HW.out.cell (World.block_lt_of_cell? w _ y1)).trans y1
      obtain ⟨id, hid⟩ : ∃ K, (rd_T28 l (k : Int)).f0 = K := ⟨_, rfl⟩
      obtain ⟨v, hv⟩ : ∃ K, (rd_T28 l (k : Int)).f1 = K := ⟨_, rfl⟩
      have HI := Aside0.mk hid
      have HV := Aside0.mk hv
      simp only [Int.toNat_natCast] at y0 y1
      rw [hid] at y0
      rw [hv] at y1
      clear hid hv
      obtain ⟨kv, hkv⟩ := valid_f id v cl
      have HKV := Aside0.mk hkv
      clear hkv
      obtain ⟨vv, hvv⟩ : ∃ K, valid id v cl = K := ⟨_, rfl⟩
      have HVV := Aside0.mk hvv
      by_cases hz : vv = 0
      · subst hz
        clear hvv
        go_upto_region 7 with (first
          | (go_at_call 9; refine (setting_Valid.calls kv id v cl 0 _ (HVV.out ▸ HKV.out)).mono ?_; rintro e w4 ⟨rfl, hb⟩; have HB4 := Aside0.mk hb; clear hb))
        have H3a := Aside0.mk (blk_below (blk_alloc H3.out (.cells #[.int .i64 id, .int .i64 v] 28)) HB4.out)
        have H6a := Aside0.mk (blk_below (blk_alloc H6.out (.cells #[.int .i64 id, .int .i64 v] 28)) HB4.out)
        have H9a := Aside0.mk (blk_below (blk_new wr (.cells #[.int .i64 id, .int .i64 v] 28)) HB4.out)
        have z0 := blk_cell H9a.out 0
        have z1 := blk_cell H9a.out 1
        go_upto_region 8 with (first
          | (go_at_call 36; refine (field_calls w.heap.size id _).mono ?_; rintro e w5 ⟨rfl, hb⟩; have HB5 := Aside0.mk hb; clear hb))
        replace H3a := Aside0.mk (blk_below H3a.out HB5.out)
        replace H6a := Aside0.mk (blk_below H6a.out HB5.out)
        replace H9a := Aside0.mk (blk_below H9a.out HB5.out)
        clear z0 z1
        have HWa := Aside0.mk (below_then (below_then (below_alloc HW.out (.cells #[.int .i64 id, .int .i64 v] 28)) (by have := HW.out.size; simp; omega) HB4.out) (by have := HB4.out.size; have := HW.out.size; simp at *; omega) HB5.out)
        by_cases hin : 1 ≤ id ∧ id ≤ 6
        · obtain ⟨jj, hjj⟩ : ∃ j, (id - 1).toNat = j := ⟨_, rfl⟩
          have hp : place w.heap.size id = some ⟨w.heap.size, jj, none⟩ := by rw [← hjj]; exact if_pos hin
          rw [hp]
          have HP := Aside0.mk hp
          have HJ := Aside0.mk hjj
          clear hp hjj
          go_upto_region 9 with fail
          obtain ⟨old, c2, c3⟩ : ∃ old, w5.cell? ⟨w.heap.size, jj, none⟩ = some (.int .i64 old) ∧ w5.frozen? ⟨w.heap.size, jj, none⟩ = false := by
            rw [← HJ.out]
            have h1 := blk_cell H3a.out (id - 1).toNat
            have h2 := blk_frozen H3a.out (id - 1).toNat
            obtain rfl | rfl | rfl | rfl | rfl | rfl : id = 1 ∨ id = 2 ∨ id = 3 ∨ id = 4 ∨ id = 5 ∨ id = 6 := by omega
            all_goals exact ⟨_, h1, h2⟩
          have c0 := blk_cell H9a.out 0
          have c1 := blk_cell H9a.out 1
          refine start_ (n := 9) (S := fun w' => w'.cell? ⟨wr.heap.size, 0, none⟩ = some (.int .i64 id) ∧ w'.cell? ⟨wr.heap.size, 1, none⟩ = some (.int .i64 v) ∧ w'.cell? ⟨w.heap.size, jj, none⟩ = some (.int .i64 old) ∧ w'.frozen? ⟨w.heap.size, jj, none⟩ = false) (ds := [8]) #[false, false, false, false, false, false, false, false, false] (by kernel_rfl) rfl rfl ⟨c0, c1, c2, c3⟩ (fun hHeld => ?_)
          refine pure_ (i := 0) (N := some 30) (v := ?_) (a' := ?_) #[true, false, false, false, false, false, false, false, false] rfl rfl (by kernel_rfl) (fun _ _ _ h => h) (Or.inl ⟨by rfl, ?_⟩) ?_ ?_
          rotate_left
          · intro w'
            go_simp
            with_reducible rfl
          rotate_left
          · simp only [Act.put, List.setIfInBounds_toArray, List.set_cons_zero, List.set_cons_succ, i64_w, i32_w]
            rfl
          refine pure_ (i := 1) (N := some 31) (v := ?_) (a' := ?_) #[true, true, false, false, false, false, false, false, false] rfl rfl (by kernel_rfl) (fun _ _ _ h => h) (Or.inl ⟨by rfl, ?_⟩) ?_ ?_
          rotate_left
          · intro w'
            go_simp
            with_reducible rfl
          rotate_left
          · simp only [Act.put, List.setIfInBounds_toArray, List.set_cons_zero, List.set_cons_succ, i64_w, i32_w]
            rfl
          refine pure_ (i := 3) (N := some 33) (v := ?_) (a' := ?_) #[true, true, false, true, false, false, false, false, false] rfl rfl (by kernel_rfl) (fun _ _ _ h => h) (Or.inl ⟨by rfl, ?_⟩) ?_ ?_
          rotate_left
          · intro w'
            go_simp
            with_reducible rfl
          rotate_left
          · simp only [Act.put, List.setIfInBounds_toArray, List.set_cons_zero, List.set_cons_succ, i64_w, i32_w]
            rfl
          refine take_ (i := 2) (N := some 32) (v := ?_) (a' := ?_) #[true, true, true, true, false, false, false, false, false] rfl rfl (by kernel_rfl) (fun _ _ _ h => h) (Or.inl ⟨by rfl, ?_⟩) hHeld ?_ ?_
          rotate_left
          · rintro w' ⟨s0, s1, s2, s3⟩
            go_simp
            with_reducible rfl
          rotate_left
          · simp only [Act.put, List.setIfInBounds_toArray, List.set_cons_zero, List.set_cons_succ, i64_w, i32_w]
            rfl
          refine take_ (i := 4) (N := some 34) (v := ?_) (a' := ?_) #[true, true, true, true, true, false, false, false, false] rfl rfl (by kernel_rfl) (fun _ _ _ h => h) (Or.inl ⟨by rfl, ?_⟩) hHeld ?_ ?_
          rotate_left
          · rintro w' ⟨s0, s1, s2, s3⟩
            go_simp
            with_reducible rfl
          rotate_left
          · simp only [Act.put, List.setIfInBounds_toArray, List.set_cons_zero, List.set_cons_succ, i64_w, i32_w]
            rfl
          refine one_ (i := 5) (N := some 35) #[true, true, true, true, true, true, false, false, false] rfl rfl (by kernel_rfl) (by decide) (fun K hK => ?_)
          refine goes_ Tryd.func37 (by kernel_rfl) rfl #[.int .i64 id] (by rfl) rfl rfl (by simp only [List.map_toArray, List.map_cons, List.map_nil]; rfl) ?_
          with_reducible refine (setting_most.calls id (top id) _ (most_f id)).mono ?_
          rintro e w3 ⟨rfl, hb⟩
          refine ⟨_, rfl, ?_⟩
          obtain ⟨mm, rfl⟩ := hb
          refine hK.out _ _ ⟨hHeld.1, hHeld.2.1, hHeld.2.2.1, hHeld.2.2.2⟩ (fun hHeld => ?_)
          clear hK K
          refine norm_ (a' := ?_) ?_ ?_
          rotate_left
          · show Act.put _ (some 35) _ = _
            simp only [Act.put, List.setIfInBounds_toArray, List.set_cons_zero, List.set_cons_succ, i64_w, i32_w]
            rfl
          refine pure_ (i := 6) (N := some 36) (v := ?_) (a' := ?_) #[true, true, true, true, true, true, true, false, false] rfl rfl (by kernel_rfl) (fun _ _ _ h => h) (Or.inl ⟨by rfl, ?_⟩) ?_ ?_
          rotate_left
          · intro w'
            go_simp
            with_reducible rfl
          rotate_left
          · simp only [Act.put, List.setIfInBounds_toArray, List.set_cons_zero, List.set_cons_succ, i64_w, i32_w]
            rfl
          refine pure_ (i := 7) (N := some 37) (v := ?_) (a' := ?_) #[true, true, true, true, true, true, true, true, false] rfl rfl (by kernel_rfl) (fun _ _ _ h => h) (Or.inl ⟨by rfl, ?_⟩) ?_ ?_
          rotate_left
          · intro w'
            go_simp
            with_reducible rfl
          rotate_left
          · simp only [Act.put, List.setIfInBounds_toArray, List.set_cons_zero, List.set_cons_succ, i64_w, i32_w]
            rfl
          refine last_ (i := 8) (N := none) #[true, true, true, true, true, true, true, true, true] rfl rfl (by kernel_rfl) (by decide) (fun K hK => ?_)
          refine skip_ (w1 := ?_) (by rfl) rfl ?_ ?_
          rotate_left
          · go_simp
            rfl
          refine hK.out _ _ ?_
          clear hK K
          refine done_ (by kernel_rfl) ?_

          go_wp2_with fail
          go_roundw
          case rel =>
            refine ⟨k + 1, put s id v, by omega, by go_num, ?_, ?_, ?_, ?_⟩
            · rw [← HA.out]
              have h := apply_step cl s l k hlt (by rw [HI.out, HV.out]; exact HVV.out)
              rw [HI.out, HV.out] at h
              exact h.symm
            · rw [← put_arr s id v hin, HJ.out]
              exact blk_set (w := w5.drewN (1 + mm)) H3a.out jj _
            · exact blk_far (w := w5.drewN (1 + mm)) (p := ⟨w.heap.size, jj, none⟩) H6a.out (by simp) _
            · exact (pw_below_drewN HWa.out (1 + mm)).setCell (Nat.le_refl _) _
          case measure => simp [intOf]; omega
        · have hp : place w.heap.size id = none := if_neg hin
          rw [hp]
          have HP := Aside0.mk hp
          have HIN := Aside0.mk hin
          clear hp hin
          go_wp2_with fail
          go_roundw
          case rel =>
            refine ⟨k + 1, s, by omega, by go_num, ?_, H3a.out, H6a.out, HWa.out⟩
            rw [← HA.out]
            have h := apply_step cl s l k hlt (by rw [HI.out, HV.out]; exact HVV.out)
            rw [HI.out, HV.out, put_other s id v HIN.out] at h
            exact h.symm
          case measure => simp [intOf]; omega
      · have hzb : (vv == 0) = false := beq_eq_false_iff_ne.mpr hz
        have HZ := Aside0.mk hz
        clear hz hvv
        go_upto_region 6 with (first
          | (go_at_call 9; refine (setting_Valid.calls kv id v cl vv _ (HVV.out ▸ HKV.out)).mono ?_; rintro e w4 ⟨rfl, hb⟩; have HB4 := Aside0.mk hb; clear hb))
        have H6a := Aside0.mk (blk_below (blk_alloc H6.out (.cells #[.int .i64 id, .int .i64 v] 28)) HB4.out)
        have HWa := Aside0.mk (below_then (below_alloc HW.out (.cells #[.int .i64 id, .int .i64 v] 28)) (by have := HW.out.size; simp; omega) HB4.out)
        have hres : apply cl s0 l = (St.zero, vv) := by
          rw [← HA.out, apply_stop cl s l k hlt (by rw [HI.out, HV.out, HVV.out]; exact HZ.out), HI.out, HV.out, HVV.out]
        have HRES := Aside0.mk hres
        clear hres
        have z0 : w4.cell? ⟨w.heap.size + 1, 0, none⟩ = some (.int .i64 0) := blk_cell H6a.out 0
        have z1 : w4.cell? ⟨w.heap.size + 1, 1, none⟩ = some (.int .i64 0) := blk_cell H6a.out 1
        have z2 : w4.cell? ⟨w.heap.size + 1, 2, none⟩ = some (.int .i64 0) := blk_cell H6a.out 2
        have z3 : w4.cell? ⟨w.heap.size + 1, 3, none⟩ = some (.int .i64 0) := blk_cell H6a.out 3
        have z4 : w4.cell? ⟨w.heap.size + 1, 4, none⟩ = some (.int .i64 0) := blk_cell H6a.out 4
        have z5 : w4.cell? ⟨w.heap.size + 1, 5, none⟩ = some (.int .i64 0) := blk_cell H6a.out 5
        have f0 := blk_frozen H6a.out 0
        have f1 := blk_frozen H6a.out 1
        have f2 := blk_frozen H6a.out 2
        have f3 := blk_frozen H6a.out 3
        have f4 := blk_frozen H6a.out 4
        have f5 := blk_frozen H6a.out 5
        go_wp2_with fail
        refine bodyPost_ret (v := .tuple #[.agg St.zero.arr, .int .i64 vv]) (by simp [results, Tryd.results11, go_sem, St.arr, St.zero, *]) rfl ⟨by rw [HRES.out], ?_⟩
        exact (((((HWa.out.setCell (by simp) _).setCell (by simp) _).setCell (by simp) _).setCell (by simp) _).setCell (by simp) _).setCell (by simp) _
    · have hlt2 : decide ((k : Int) < (l.length : Int)) = false := decide_eq_false (by omega)
      have hkl : k = l.length := by omega
      have hres : apply cl s0 l = (s, 0) := by rw [← HA.out, hkl, List.drop_length]; rfl
      have HRES := Aside0.mk hres
      clear hres
      have z0 : wr.cell? ⟨w.heap.size, 0, none⟩ = some (.int .i64 s.a) := blk_cell H3.out 0
      have z1 : wr.cell? ⟨w.heap.size, 1, none⟩ = some (.int .i64 s.b) := blk_cell H3.out 1
      have z2 : wr.cell? ⟨w.heap.size, 2, none⟩ = some (.int .i64 s.c) := blk_cell H3.out 2
      have z3 : wr.cell? ⟨w.heap.size, 3, none⟩ = some (.int .i64 s.d) := blk_cell H3.out 3
      have z4 : wr.cell? ⟨w.heap.size, 4, none⟩ = some (.int .i64 s.e) := blk_cell H3.out 4
      have z5 : wr.cell? ⟨w.heap.size, 5, none⟩ = some (.int .i64 s.f) := blk_cell H3.out 5
      have y0 : wr.cell? ⟨w.heap.size + 1, 0, none⟩ = some (.int .i64 0) := blk_cell H6.out 0
      have y1 : wr.cell? ⟨w.heap.size + 1, 1, none⟩ = some (.int .i64 0) := blk_cell H6.out 1
      have y2 : wr.cell? ⟨w.heap.size + 1, 2, none⟩ = some (.int .i64 0) := blk_cell H6.out 2
      have y3 : wr.cell? ⟨w.heap.size + 1, 3, none⟩ = some (.int .i64 0) := blk_cell H6.out 3
      have y4 : wr.cell? ⟨w.heap.size + 1, 4, none⟩ = some (.int .i64 0) := blk_cell H6.out 4
      have y5 : wr.cell? ⟨w.heap.size + 1, 5, none⟩ = some (.int .i64 0) := blk_cell H6.out 5
      have f0 := blk_frozen H6.out 0
      have f1 := blk_frozen H6.out 1
      have f2 := blk_frozen H6.out 2
      have f3 := blk_frozen H6.out 3
      have f4 := blk_frozen H6.out 4
      have f5 := blk_frozen H6.out 5
      clear hkl
      go_wp2_with fail
      refine bodyPost_ret (v := .tuple #[.agg s.arr, .int .i64 0]) (by simp [results, Tryd.results11, go_sem, St.arr, *]) rfl ⟨by rw [HRES.out], ?_⟩
      exact (((((HW.out.setCell (by simp) _).setCell (by simp) _).setCell (by simp) _).setCell (by simp) _).setCell (by simp) _).setCell (by simp) _
end Go.Proofs.YtcjphkgmcfpfeaaDoor.MS
