/- The document's share: Next. The list fits in memory. -/
import Derived.Test.YtedkjbdkokdgdaaMDocC
import Derived.Deep.DeepCutAuto
import Derived.Deep.CutBlock
namespace Go.Proofs.Ytedkjbdkokdgdaa.Sh
open Go Go.RowKit Go.Proofs.YtedkjbdkokdgdaaW.PrintWords Go.Proofs.YtedkjbdkokdgdaaW.PrintLast Go.Proofs.YtedkjbdkokdgdaaW.PrintMore Go.Proofs.Ytedkjbdkokdgdaa.QL
set_option linter.unusedSimpArgs false
set_option linter.unusedVariables false
set_option maxHeartbeats 6000000
set_option maxRecDepth 100000
theorem sz_of_bare {s : ByteArray} (h : bare s = true) : s.size = 0 := by
  rcases Nat.eq_zero_or_pos s.size with h0 | h0
  · exact h0
  · have := bare_of h0; rw [h] at this; cases this
theorem nextd_calls (q B : Nat) (v : Value) (D : List S72) (m : Int → Qu) (id conn stream frame : Int) (w : World) (h : DocAt w q B v D) (hd : DR D m) (hz : (m id).t.size ≤ 4611686018427387904) :
    Calls Try.prog 26 #[.pointer (some ⟨q, 0, none⟩), .int .i64 id, .int .i64 conn, .int .i64 stream, .int .i64 frame] w fun e' w' => e' = .returned (.tuple #[.string (nextF m id conn stream frame).1.p, .bool (nextF m id conn stream frame).1.l, .int .i64 (nextF m id conn stream frame).1.e]) ∧ DocPost w w' q B v (D.length + 1) (nextF m id conn stream frame).2 := by
  have HB := Aside0.mk (Below.refl w.heap.size w)
  have H := Aside0.mk h
  have HD := Aside0.mk hd
  have HZ := Aside0.mk hz
  obtain ⟨F, hF⟩ : ∃ F, nextF m id conn stream frame = F := ⟨_, rfl⟩
  rw [hF]
  have HF := Aside0.mk hF
  clear h hd hz hF
  by_cases h1 : frame < 1
  · have d1 : decide (frame < 1) = true := decide_eq_true h1
    have HN : Aside0 (F = (⟨ByteArray.empty, false, 1⟩, m)) := ⟨by rw [← HF.out]; unfold nextF; rw [if_pos h1]⟩
    clear h1
    go_enter Try.func26, Try.ntmps26
    go_wp2_with fail
    go_ret3
    exact ⟨by rw [HN.out]; rfl, by rw [HN.out]; exact DocPost.same H.out HD.out (Nat.le_succ _) HB.out⟩
  · have d1 : decide (frame < 1) = false := decide_eq_false h1
    have HFR : Aside0 (1 ≤ frame) := ⟨by omega⟩
    clear h1
    obtain ⟨T, hT⟩ : ∃ T, (m id).t = T := ⟨_, rfl⟩
    obtain ⟨e, he⟩ : ∃ e, (m id).e = e := ⟨_, rfl⟩
    have HT := Aside0.mk hT
    have HE := Aside0.mk he
    clear hT he
    by_cases hz : T.size = 0
    · have hzi : (T.size : Int) = 0 := by omega
      have f2 : ((T.size : Int) == 0) = true := beq_iff_eq.mpr hzi
      have f4 : (T.size == 0) = true := beq_iff_eq.mpr hz
      have f5 : decide ((0 : Int) < (T.size : Int)) = false := decide_eq_false (by omega)
      have f6 : decide (0 < T.size) = false := decide_eq_false (by omega)
      cases e
      · have HN : Aside0 (F = (⟨ByteArray.empty, false, 5⟩, m)) := ⟨by rw [← HF.out]; exact next_empty _ _ _ HFR.out (by rw [HT.out]; exact hz) HE.out⟩
        clear hz hzi
        go_enter Try.func26, Try.ntmps26
        go_wp2_with (go_at_call 24; refine (waitsd_calls q B _ D m id _ H.out HD.out).mono ?_; rintro e w2 ⟨rfl, hb⟩; rw [HT.out, HE.out]; have H2 := Aside0.mk (H.out.low hb); have L2 := Aside0.mk hb; clear hb)
        go_ret3
        exact ⟨by rw [HN.out]; rfl, by rw [HN.out]; exact DocPost.same H.out HD.out (Nat.le_succ _) L2.out⟩
      · have HGO : Aside0 (T.size = 0 ∨ (0 < conn ∧ 0 < stream)) := ⟨Or.inl hz⟩
        have HTE : Aside0 (T.size = 0 → true = true) := ⟨fun _ => rfl⟩
        clear hz hzi
        go_enter Try.func26, Try.ntmps26
        go_upto_region 7 with (first
          | (go_at_call 31; refine (at_calls q B v D id _ H2.out).mono ?_; rintro e w1 ⟨⟨r, rfl, hp⟩, rfl⟩; have HP := Aside0.mk hp; clear hp)
          | (go_at_call 24; refine (waitsd_calls q B _ D m id _ H.out HD.out).mono ?_; rintro e w2 ⟨rfl, hb⟩; rw [HT.out, HE.out]; have H2 := Aside0.mk (H.out.low hb); have L2 := Aside0.mk hb; clear hb))
        rcases HP.out with ⟨rfl, hn⟩ | ⟨i, rfl, hi, hie⟩
        · exfalso
          have hz0 := HD.out.no id hn
          have h1 := HT.out
          have h2 := HE.out
          rw [hz0] at h1 h2
          have h3 := HTE.out (by rw [← h1]; rfl)
          first | (rw [h3] at h2; cases h2) | cases h2
        have HI := Aside0.mk hi
        have HIE := Aside0.mk hie
        have HPX := Aside0.mk (HD.out.pos hi hie)
        clear hi hie HP f2 f4
        obtain ⟨n1, hn1⟩ : ∃ n : Nat, (if frame < (T.size : Int) then frame else (T.size : Int)) = n := ⟨(if frame < (T.size : Int) then frame else (T.size : Int)).toNat, by have := HFR.out; split <;> omega⟩
        have HN1 := Aside0.mk hn1
        obtain ⟨n2, hn2⟩ : ∃ n : Nat, (if conn < (n1 : Int) ∧ 0 < (n1 : Int) then conn else (n1 : Int)) = n := ⟨(if conn < (n1 : Int) ∧ 0 < (n1 : Int) then conn else (n1 : Int)).toNat, by have := HGO.out; split at hn1 <;> split <;> omega⟩
        have HN2 := Aside0.mk hn2
        obtain ⟨k, hk⟩ : ∃ n : Nat, (if stream < (n2 : Int) ∧ 0 < (n2 : Int) then stream else (n2 : Int)) = n := ⟨(if stream < (n2 : Int) ∧ 0 < (n2 : Int) then stream else (n2 : Int)).toNat, by have := HGO.out; split at hn1 <;> split at hn2 <;> split <;> omega⟩
        have HK := Aside0.mk hk
        have HRM : Aside0 (roomF conn stream (T.size : Int) frame = (k : Int)) := ⟨by unfold roomF; have := HGO.out; have := HFR.out; split at hn1 <;> split at hn2 <;> split at hk <;> omega⟩
        have HKL : Aside0 (k ≤ T.size) := ⟨by have := HGO.out; split at hn1 <;> split at hn2 <;> split at hk <;> omega⟩
        have HNB : Aside0 (¬ (bare T = true ∧ true = false)) := ⟨by
          rintro ⟨hb, he⟩
          have h0 : T.size = 0 := by
            rcases Nat.eq_zero_or_pos T.size with h | h
            · exact h
            · have := bare_of h; rw [hb] at this; cases this
          have h9 := HTE.out h0
          first | exact absurd he (by decide) | exact absurd (h9.symm.trans he) (by decide)⟩
        clear hn1 hn2 hk
        obtain ⟨y1, hy1⟩ : ∃ y, decide (frame < (T.size : Int)) = y := ⟨_, rfl⟩
        have HY1 := Aside0.mk hy1
        go_upto_if 47 with fail
        clear hy1 f5 f6
        go_cut [13] from 48 to 48 (fun v wc => v = .int .i64 (n1 : Int) ∧ Aside0 (wc = w2))
        case first =>
          cases y1
          · have HQ : Aside0 ((T.size : Int) = (n1 : Int)) := ⟨by have h := HN1.out; rwa [if_neg (of_decide_eq_false HY1.out)] at h⟩
            go_wp2_with fail
            go_meet
            case rel => exact ⟨by rw [HQ.out], ⟨rfl⟩⟩
          · have HQ : Aside0 (frame = (n1 : Int)) := ⟨by have h := HN1.out; rwa [if_pos (of_decide_eq_true HY1.out)] at h⟩
            go_wp2_with fail
            go_meet
            case rel => exact ⟨by rw [HQ.out], ⟨rfl⟩⟩
        case rest =>
          obtain ⟨rfl, HWC⟩ := hcut
          rw [HWC.out]
          clear HWC HY1 HN1 d1
          rename_i hk9
          refine hk9 _ _ ?_
          refine wp_seq_k ?_
          intro K2 hK2
          clear hk9
          go_cut [13] from 49 to 56 (fun v wc => v = .int .i64 (n2 : Int) ∧ Aside0 (wc = w2))
          case first =>
            have HQ := HN2
            by_cases hc : conn < (n1 : Int)
            · have g1 : decide (conn < (n1 : Int)) = true := decide_eq_true hc
              by_cases h0 : 0 < n1
              · have g2 : decide ((0 : Int) < (n1 : Int)) = true := decide_eq_true (by omega)
                have g3 : decide (0 < n1) = true := decide_eq_true h0
                replace HQ : Aside0 (conn = (n2 : Int)) := ⟨by have h := HQ.out; rwa [if_pos ⟨hc, by omega⟩] at h⟩
                clear hc h0
                go_wp2_with fail
                go_meet
                case rel => exact ⟨by rw [HQ.out], ⟨rfl⟩⟩
              · have g2 : decide ((0 : Int) < (n1 : Int)) = false := decide_eq_false (by omega)
                have g3 : decide (0 < n1) = false := decide_eq_false h0
                replace HQ : Aside0 ((n1 : Int) = (n2 : Int)) := ⟨by have h := HQ.out; rwa [if_neg (by omega)] at h⟩
                clear hc h0
                go_wp2_with fail
                go_meet
                case rel => exact ⟨by rw [HQ.out], ⟨rfl⟩⟩
            · have g1 : decide (conn < (n1 : Int)) = false := decide_eq_false hc
              replace HQ : Aside0 ((n1 : Int) = (n2 : Int)) := ⟨by have h := HQ.out; rwa [if_neg (by omega)] at h⟩
              clear hc
              go_wp2_with fail
              go_meet
              case rel => exact ⟨by rw [HQ.out], ⟨rfl⟩⟩
          case rest =>
            obtain ⟨rfl, HWC⟩ := hcut
            rw [HWC.out]
            clear HWC HN2
            refine hK2 _ _ ?_
            refine wp_seq_k ?_
            intro K3 hK3
            clear hK2
            go_cut [13] from 57 to 64 (fun v wc => v = .int .i64 (k : Int) ∧ Aside0 (wc = w2))
            case first =>
              have HQ := HK
              by_cases hc : stream < (n2 : Int)
              · have g1 : decide (stream < (n2 : Int)) = true := decide_eq_true hc
                by_cases h0 : 0 < n2
                · have g2 : decide ((0 : Int) < (n2 : Int)) = true := decide_eq_true (by omega)
                  have g3 : decide (0 < n2) = true := decide_eq_true h0
                  replace HQ : Aside0 (stream = (k : Int)) := ⟨by have h := HQ.out; rwa [if_pos ⟨hc, by omega⟩] at h⟩
                  clear hc h0
                  go_wp2_with fail
                  go_meet
                  case rel => exact ⟨by rw [HQ.out], ⟨rfl⟩⟩
                · have g2 : decide ((0 : Int) < (n2 : Int)) = false := decide_eq_false (by omega)
                  have g3 : decide (0 < n2) = false := decide_eq_false h0
                  replace HQ : Aside0 ((n2 : Int) = (k : Int)) := ⟨by have h := HQ.out; rwa [if_neg (by omega)] at h⟩
                  clear hc h0
                  go_wp2_with fail
                  go_meet
                  case rel => exact ⟨by rw [HQ.out], ⟨rfl⟩⟩
              · have g1 : decide (stream < (n2 : Int)) = false := decide_eq_false hc
                replace HQ : Aside0 ((n2 : Int) = (k : Int)) := ⟨by have h := HQ.out; rwa [if_neg (by omega)] at h⟩
                clear hc
                go_wp2_with fail
                go_meet
                case rel => exact ⟨by rw [HQ.out], ⟨rfl⟩⟩
            case rest =>
              obtain ⟨rfl, HWC⟩ := hcut
              rw [HWC.out]
              clear HWC HK
              refine hK3 _ _ ?_
              clear hK3
              obtain ⟨g, c, rfl, _, _, _⟩ := Kd.R_form H2.out.row (by have := HI.out; omega)
              obtain ⟨x, hx⟩ : ∃ x, D.getD i z72 = x := ⟨_, rfl⟩
              have hp := HPX.out
              rw [hx] at hp
              have HP := Aside0.mk hp
              have HXE := Aside0.mk hx
              have HX0 : Aside0 (x.f0 = id) := ⟨by rw [← hx]; exact HIE.out⟩
              have HXT : Aside0 (x.f1 = T) := ⟨by rw [← HT.out, hp.2.1]⟩
              have HXE2 : Aside0 ((x.f2 && !x.f3) = true) := ⟨by have h := HE.out; rw [hp.2.1] at h; exact h⟩
              obtain ⟨z1, z2, z3, z4⟩ := doc_elem H2.out HI.out hx
              rw [HXT.out] at z1
              have z0 := blk_cell H2.out.blk 0
              have q0 : (0 : Int) ≤ (i : Int) := by omega
              have q1 : (i : Int) < (D.length : Int) := by have := HI.out; omega
              have k0 : (0 : Int) ≤ (k : Int) := by omega
              have k1 : (k : Int) ≤ (T.size : Int) := by have := HKL.out; omega
              have HF3 : Aside0 (x.f3 = false) := ⟨by
                cases h : x.f3
                · rfl
                · exfalso
                  have h2 := (hp.2.2 h).2
                  rw [HXT.out] at h2
                  have h3 := HXE2.out
                  rw [h, Bool.not_true, Bool.and_false] at h3
                  exact HNB.out ⟨bare_no h2, h3.symm⟩⟩
              clear hp hx z2 z3
              obtain ⟨R, hR⟩ : ∃ R, T.extract k T.size = R := ⟨_, rfl⟩
              obtain ⟨P, hP⟩ : ∃ P, T.extract 0 k = P := ⟨_, rfl⟩
              have HR := Aside0.mk hR
              have HPP := Aside0.mk hP
              clear hR hP
              go_upto_region 16 with fail
              refine start_ (n := 18) (S := fun w' => w'.cell? ⟨q, 0, none⟩ = some (.slice (some ⟨g, 0, none⟩) D.length c) ∧ w'.cell? ⟨g, i * 4 + 1, none⟩ = some (.string T) ∧ w'.frozen? ⟨g, i * 4 + 1, none⟩ = false) (ds := [17]) #[false, false, false, false, false, false, false, false, false, false, false, false, false, false, false, false, false, false] (by kernel_rfl) rfl rfl ⟨z0, z1, z4 1⟩ (fun hHeld => ?_)
              refine pure_ (i := 0) (N := some 75) (v := ?_) (a' := ?_) #[true, false, false, false, false, false, false, false, false, false, false, false, false, false, false, false, false, false] rfl rfl (by kernel_rfl) (fun _ _ _ h => h) (Or.inl ⟨by rfl, ?_⟩) ?_ ?_
              rotate_left
              · intro w'
                go_simp
                with_reducible rfl
              rotate_left
              · simp only [Act.put, List.setIfInBounds_toArray, List.set_cons_zero, List.set_cons_succ, i64_w, i32_w]
                rfl
              refine pure_ (i := 1) (N := some 76) (v := ?_) (a' := ?_) #[true, true, false, false, false, false, false, false, false, false, false, false, false, false, false, false, false, false] rfl rfl (by kernel_rfl) (fun _ _ _ h => h) (Or.inl ⟨by rfl, ?_⟩) ?_ ?_
              rotate_left
              · intro w'
                go_simp
                with_reducible rfl
              rotate_left
              · simp only [Act.put, List.setIfInBounds_toArray, List.set_cons_zero, List.set_cons_succ, i64_w, i32_w]
                rfl
              refine pure_ (i := 2) (N := some 77) (v := ?_) (a' := ?_) #[true, true, true, false, false, false, false, false, false, false, false, false, false, false, false, false, false, false] rfl rfl (by kernel_rfl) (fun _ _ _ h => h) (Or.inl ⟨by rfl, ?_⟩) ?_ ?_
              rotate_left
              · intro w'
                go_simp
                with_reducible rfl
              rotate_left
              · simp only [Act.put, List.setIfInBounds_toArray, List.set_cons_zero, List.set_cons_succ, i64_w, i32_w]
                rfl
              refine pure_ (i := 4) (N := some 79) (v := ?_) (a' := ?_) #[true, true, true, false, true, false, false, false, false, false, false, false, false, false, false, false, false, false] rfl rfl (by kernel_rfl) (fun _ _ _ h => h) (Or.inl ⟨by rfl, ?_⟩) ?_ ?_
              rotate_left
              · intro w'
                go_simp
                with_reducible rfl
              rotate_left
              · simp only [Act.put, List.setIfInBounds_toArray, List.set_cons_zero, List.set_cons_succ, i64_w, i32_w]
                rfl
              refine pure_ (i := 5) (N := some 80) (v := ?_) (a' := ?_) #[true, true, true, false, true, true, false, false, false, false, false, false, false, false, false, false, false, false] rfl rfl (by kernel_rfl) (fun _ _ _ h => h) (Or.inl ⟨by rfl, ?_⟩) ?_ ?_
              rotate_left
              · intro w'
                go_simp
                with_reducible rfl
              rotate_left
              · simp only [Act.put, List.setIfInBounds_toArray, List.set_cons_zero, List.set_cons_succ, i64_w, i32_w]
                rfl
              refine pure_ (i := 6) (N := some 81) (v := ?_) (a' := ?_) #[true, true, true, false, true, true, true, false, false, false, false, false, false, false, false, false, false, false] rfl rfl (by kernel_rfl) (fun _ _ _ h => h) (Or.inl ⟨by rfl, ?_⟩) ?_ ?_
              rotate_left
              · intro w'
                go_simp
                with_reducible rfl
              rotate_left
              · simp only [Act.put, List.setIfInBounds_toArray, List.set_cons_zero, List.set_cons_succ, i64_w, i32_w]
                rfl
              refine pure_ (i := 7) (N := some 82) (v := ?_) (a' := ?_) #[true, true, true, false, true, true, true, true, false, false, false, false, false, false, false, false, false, false] rfl rfl (by kernel_rfl) (fun _ _ _ h => h) (Or.inl ⟨by rfl, ?_⟩) ?_ ?_
              rotate_left
              · intro w'
                go_simp
                with_reducible rfl
              rotate_left
              · simp only [Act.put, List.setIfInBounds_toArray, List.set_cons_zero, List.set_cons_succ, i64_w, i32_w]
                rfl
              refine pure_ (i := 9) (N := some 84) (v := ?_) (a' := ?_) #[true, true, true, false, true, true, true, true, false, true, false, false, false, false, false, false, false, false] rfl rfl (by kernel_rfl) (fun _ _ _ h => h) (Or.inl ⟨by rfl, ?_⟩) ?_ ?_
              rotate_left
              · intro w'
                go_simp
                with_reducible rfl
              rotate_left
              · simp only [Act.put, List.setIfInBounds_toArray, List.set_cons_zero, List.set_cons_succ, i64_w, i32_w]
                rfl
              refine pure_ (i := 13) (N := some 88) (v := ?_) (a' := ?_) #[true, true, true, false, true, true, true, true, false, true, false, false, false, true, false, false, false, false] rfl rfl (by kernel_rfl) (fun _ _ _ h => h) (Or.inl ⟨by rfl, ?_⟩) ?_ ?_
              rotate_left
              · intro w'
                go_simp
                with_reducible rfl
              rotate_left
              · simp only [Act.put, List.setIfInBounds_toArray, List.set_cons_zero, List.set_cons_succ, i64_w, i32_w]
                rfl
              refine take_ (i := 3) (N := some 78) (v := ?_) (a' := ?_) #[true, true, true, true, true, true, true, true, false, true, false, false, false, true, false, false, false, false] rfl rfl (by kernel_rfl) (fun _ _ _ h => h) (Or.inl ⟨by rfl, ?_⟩) hHeld ?_ ?_
              rotate_left
              · rintro w' ⟨s0, s1, s2⟩
                go_simp
                with_reducible rfl
              rotate_left
              · simp only [Act.put, List.setIfInBounds_toArray, List.set_cons_zero, List.set_cons_succ, i64_w, i32_w]
                rfl
              refine take_ (i := 8) (N := some 83) (v := ?_) (a' := ?_) #[true, true, true, true, true, true, true, true, true, true, false, false, false, true, false, false, false, false] rfl rfl (by kernel_rfl) (fun _ _ _ h => h) (Or.inl ⟨by rfl, ?_⟩) hHeld ?_ ?_
              rotate_left
              · rintro w' ⟨s0, s1, s2⟩
                go_simp
                with_reducible rfl
              rotate_left
              · simp only [Act.put, List.setIfInBounds_toArray, List.set_cons_zero, List.set_cons_succ, i64_w, i32_w]
                rfl
              refine pure_ (i := 10) (N := some 85) (v := ?_) (a' := ?_) #[true, true, true, true, true, true, true, true, true, true, true, false, false, true, false, false, false, false] rfl rfl (by kernel_rfl) (fun _ _ _ h => h) (Or.inl ⟨by rfl, ?_⟩) ?_ ?_
              rotate_left
              · intro w'
                go_simp
                with_reducible rfl
              rotate_left
              · simp only [Act.put, List.setIfInBounds_toArray, List.set_cons_zero, List.set_cons_succ, i64_w, i32_w]
                rfl
              refine pure_ (i := 11) (N := some 86) (v := ?_) (a' := ?_) #[true, true, true, true, true, true, true, true, true, true, true, true, false, true, false, false, false, false] rfl rfl (by kernel_rfl) (fun _ _ _ h => h) (Or.inl ⟨by rfl, ?_⟩) ?_ ?_
              rotate_left
              · intro w'
                go_simp
                with_reducible rfl
              rotate_left
              · simp only [Act.put, List.setIfInBounds_toArray, List.set_cons_zero, List.set_cons_succ, i64_w, i32_w]
                rfl
              refine take_ (i := 12) (N := some 87) (v := ?_) (a' := ?_) #[true, true, true, true, true, true, true, true, true, true, true, true, true, true, false, false, false, false] rfl rfl (by kernel_rfl) (fun _ _ _ h => h) (Or.inl ⟨by rfl, ?_⟩) hHeld ?_ ?_
              rotate_left
              · rintro w' ⟨s0, s1, s2⟩
                go_simp
                with_reducible rfl
              rotate_left
              · simp only [Act.put, List.setIfInBounds_toArray, List.set_cons_zero, List.set_cons_succ, i64_w, i32_w]
                rfl
              refine pure_ (i := 14) (N := some 89) (v := ?_) (a' := ?_) #[true, true, true, true, true, true, true, true, true, true, true, true, true, true, true, false, false, false] rfl rfl (by kernel_rfl) (fun _ _ _ h => h) (Or.inl ⟨by rfl, ?_⟩) ?_ ?_
              rotate_left
              · intro w'
                go_simp
                with_reducible rfl
              rotate_left
              · simp only [Act.put, List.setIfInBounds_toArray, List.set_cons_zero, List.set_cons_succ, i64_w, i32_w]
                rfl
              refine pure_ (i := 15) (N := some 90) (v := ?_) (a' := ?_) #[true, true, true, true, true, true, true, true, true, true, true, true, true, true, true, true, false, false] rfl rfl (by kernel_rfl) (fun _ _ _ h => h) (Or.inl ⟨by rfl, ?_⟩) ?_ ?_
              rotate_left
              · intro w'
                go_simp
                with_reducible rfl
              rotate_left
              · simp only [Act.put, List.setIfInBounds_toArray, List.set_cons_zero, List.set_cons_succ, i64_w, i32_w]
                rfl
              refine pure_ (i := 16) (N := some 91) (v := ?_) (a' := ?_) #[true, true, true, true, true, true, true, true, true, true, true, true, true, true, true, true, true, false] rfl rfl (by kernel_rfl) (fun _ _ _ h => h) (Or.inl ⟨by rfl, ?_⟩) ?_ ?_
              rotate_left
              · intro w'
                go_simp
                with_reducible rfl
              rotate_left
              · simp only [Act.put, List.setIfInBounds_toArray, List.set_cons_zero, List.set_cons_succ, i64_w, i32_w]
                rfl
              refine last_ (i := 17) (N := none) #[true, true, true, true, true, true, true, true, true, true, true, true, true, true, true, true, true, true] rfl rfl (by kernel_rfl) (by decide) (fun K hK => ?_)
              refine skip_ (w1 := ?_) (by rfl) rfl ?_ ?_
              rotate_left
              · go_simp
                rfl
              refine hK.out _ _ ?_
              clear hK K
              refine done_ (by kernel_rfl) ?_
              generalize hWn : World.setCell _ _ _ = Wn
              obtain ⟨a1, a2⟩ := doc_set (j := 1) (y := ⟨x.f0, T.extract k T.size, x.f2, x.f3⟩) H2.out HI.out HXE.out (by omega) rfl hWn
              rw [HR.out] at a1
              have A1 := Aside0.mk a1
              have F1 := Aside0.mk a2
              clear a1 a2 hWn z0 z1 z4
              have HL1 : Aside0 ((D.set i ⟨x.f0, R, x.f2, x.f3⟩).getD i z72 = ⟨x.f0, R, x.f2, x.f3⟩) := ⟨by rw [List.getD_eq_getElem?_getD, List.getElem?_set_self HI.out]; rfl⟩
              obtain ⟨z1, z2, z3, z4⟩ := doc_elem A1.out HI.out HL1.out
              have z0 := blk_cell A1.out.blk 0
              have z5 := z4 3
              have z6 : Wn.cell? ⟨g, i * 4 + 1, none⟩ = some (.string R) := z1
              have z7 : Wn.cell? ⟨g, i * 4 + 3, none⟩ = some (.bool x.f3) := z3
              clear z1 z2 z3 z4
              obtain ⟨y, hy⟩ : ∃ y, R.toList.isEmpty = y := ⟨_, rfl⟩
              have HY : Aside0 (bare R = y) := ⟨hy⟩
              obtain ⟨la, hla⟩ : ∃ l, (y && true) = l := ⟨_, rfl⟩
              have HLA := Aside0.mk hla
              clear hla
              have HNX : Aside0 (F = (⟨P, la, 0⟩, updM m id ⟨R, x.f2, true && !y⟩)) := ⟨by
                rw [← HF.out]
                unfold nextF
                rw [if_neg (by have := HFR.out; omega), HT.out, HE.out, if_neg HNB.out, if_neg (by
                  rintro ⟨hb, hcs⟩
                  rcases HGO.out with h | h
                  · rw [bare_no h] at hb; cases hb
                  · omega), HRM.out, Int.toNat_natCast, HR.out, HPP.out, HY.out, HLA.out, HP.out.2.1]⟩
              cases y
              · have HLL : Aside0 (false = la) := ⟨by rw [← HLA.out]; first | rfl | (cases e <;> rfl)⟩
                go_upto_region 19 with fail
                generalize hWm : World.setCell _ _ _ = Wm
                obtain ⟨a1, a2⟩ := doc_set (j := 3) (y := ⟨x.f0, R, x.f2, false⟩) A1.out HI.out HL1.out (by omega) rfl hWm
                rw [List.set_set] at a1
                have A2 := Aside0.mk (a1.low (below_drew (Below.refl _ _)))
                have F2 := Aside0.mk ((F1.out.then_ a2 (fun k hk => Or.inl hk)).low (below_drew (Below.refl _ _)))
                clear a1 a2 hWm z0 z5 z6 z7
                go_wp2_with fail
                go_ret3
                have hd := HD.out.set HI.out HIE.out ⟨x.f0, R, x.f2, false⟩ HX0.out (fun h => by
                  have h2 := HXE2.out
                  rw [HF3.out] at h2
                  cases h)
                refine ⟨by rw [HNX.out, ← HLL.out]; simp only [HPP.out]; rfl, ?_⟩
                rw [HNX.out]
                refine ⟨_, _, A2.out, ?_, by rw [List.length_set]; exact Nat.le_succ _, (Fr.of_below L2.out _).then_ F2.out (fun k hk => Or.inl (Or.inr (by rw [hk]; rfl))), fun k hk => Or.inl hk⟩
                have h2 := HXE2.out
                rw [HF3.out] at h2
                have he : (x.f2 && !(false)) = (true && !false) := by rw [← h2]; cases x.f2 <;> simp
                rw [he] at hd
                exact hd
              · have HLL : Aside0 (true = la) := ⟨by rw [← HLA.out]; first | rfl | (cases e <;> rfl)⟩
                go_upto_region 19 with fail
                generalize hWm : World.setCell _ _ _ = Wm
                obtain ⟨a1, a2⟩ := doc_set (j := 3) (y := ⟨x.f0, R, x.f2, true⟩) A1.out HI.out HL1.out (by omega) rfl hWm
                rw [List.set_set] at a1
                have A2 := Aside0.mk (a1.low (below_drew (Below.refl _ _)))
                have F2 := Aside0.mk ((F1.out.then_ a2 (fun k hk => Or.inl hk)).low (below_drew (Below.refl _ _)))
                clear a1 a2 hWm z0 z5 z6 z7
                go_wp2_with fail
                go_ret3
                have hd := HD.out.set HI.out HIE.out ⟨x.f0, R, x.f2, true⟩ HX0.out (fun h => by
                  have h2 := HXE2.out
                  rw [HF3.out] at h2
                  exact ⟨by cases hf : x.f2 <;> simp_all, sz_of_bare HY.out⟩)
                refine ⟨by rw [HNX.out, ← HLL.out]; simp only [HPP.out]; rfl, ?_⟩
                rw [HNX.out]
                refine ⟨_, _, A2.out, ?_, by rw [List.length_set]; exact Nat.le_succ _, (Fr.of_below L2.out _).then_ F2.out (fun k hk => Or.inl (Or.inr (by rw [hk]; rfl))), fun k hk => Or.inl hk⟩
                have h2 := HXE2.out
                rw [HF3.out] at h2
                have he : (x.f2 && !(true)) = (true && !true) := by rw [← h2]; cases x.f2 <;> simp
                rw [he] at hd
                exact hd
    · have f2 : ((T.size : Int) == 0) = false := beq_eq_false_iff_ne.mpr (by omega)
      have f4 : (T.size == 0) = false := beq_eq_false_iff_ne.mpr hz
      have f5 : decide ((0 : Int) < (T.size : Int)) = true := decide_eq_true (by omega)
      have f6 : decide (0 < T.size) = true := decide_eq_true (by omega)
      have HTP : Aside0 (0 < T.size) := ⟨by omega⟩
      clear hz
      by_cases hc : conn ≤ 0
      · have d2 : decide (conn ≤ 0) = true := decide_eq_true hc
        have HN : Aside0 (F = (⟨ByteArray.empty, false, 6⟩, m)) := ⟨by rw [← HF.out]; exact next_stuck _ _ _ HFR.out (by rw [HT.out]; exact HTP.out) (Or.inl hc)⟩
        clear hc
        go_enter Try.func26, Try.ntmps26
        go_wp2_with (first
          | (go_at_call 31; refine (at_calls q B v D id _ H2.out).mono ?_; rintro e w1 ⟨⟨r, rfl, hp⟩, rfl⟩; clear hp)
          | (go_at_call 24; refine (waitsd_calls q B _ D m id _ H.out HD.out).mono ?_; rintro e w2 ⟨rfl, hb⟩; rw [HT.out, HE.out]; have H2 := Aside0.mk (H.out.low hb); have L2 := Aside0.mk hb; clear hb))
        go_ret3
        exact ⟨by rw [HN.out]; rfl, by rw [HN.out]; exact DocPost.same H.out HD.out (Nat.le_succ _) L2.out⟩
      · have d2 : decide (conn ≤ 0) = false := decide_eq_false hc
        by_cases hs : stream ≤ 0
        · have d3 : decide (stream ≤ 0) = true := decide_eq_true hs
          have HN : Aside0 (F = (⟨ByteArray.empty, false, 6⟩, m)) := ⟨by rw [← HF.out]; exact next_stuck _ _ _ HFR.out (by rw [HT.out]; exact HTP.out) (Or.inr hs)⟩
          clear hc hs
          go_enter Try.func26, Try.ntmps26
          go_wp2_with (first
            | (go_at_call 31; refine (at_calls q B v D id _ H2.out).mono ?_; rintro e w1 ⟨⟨r, rfl, hp⟩, rfl⟩; clear hp)
            | (go_at_call 24; refine (waitsd_calls q B _ D m id _ H.out HD.out).mono ?_; rintro e w2 ⟨rfl, hb⟩; rw [HT.out, HE.out]; have H2 := Aside0.mk (H.out.low hb); have L2 := Aside0.mk hb; clear hb))
          go_ret3
          exact ⟨by rw [HN.out]; rfl, by rw [HN.out]; exact DocPost.same H.out HD.out (Nat.le_succ _) L2.out⟩
        · have d3 : decide (stream ≤ 0) = false := decide_eq_false hs
          have HGO : Aside0 (T.size = 0 ∨ (0 < conn ∧ 0 < stream)) := ⟨Or.inr ⟨by omega, by omega⟩⟩
          have HTE : Aside0 (T.size = 0 → e = true) := ⟨fun h => by have := HTP.out; omega⟩
          clear hc hs
          go_enter Try.func26, Try.ntmps26
          go_upto_region 7 with (first
            | (go_at_call 31; refine (at_calls q B v D id _ H2.out).mono ?_; rintro e w1 ⟨⟨r, rfl, hp⟩, rfl⟩; have HP := Aside0.mk hp; clear hp)
            | (go_at_call 24; refine (waitsd_calls q B _ D m id _ H.out HD.out).mono ?_; rintro e w2 ⟨rfl, hb⟩; rw [HT.out, HE.out]; have H2 := Aside0.mk (H.out.low hb); have L2 := Aside0.mk hb; clear hb))
          rcases HP.out with ⟨rfl, hn⟩ | ⟨i, rfl, hi, hie⟩
          · exfalso
            have hz0 := HD.out.no id hn
            have h1 := HT.out
            have h2 := HE.out
            rw [hz0] at h1 h2
            have h3 := HTE.out (by rw [← h1]; rfl)
            first | (rw [h3] at h2; cases h2) | cases h2
          have HI := Aside0.mk hi
          have HIE := Aside0.mk hie
          have HPX := Aside0.mk (HD.out.pos hi hie)
          clear hi hie HP f2 f4
          obtain ⟨n1, hn1⟩ : ∃ n : Nat, (if frame < (T.size : Int) then frame else (T.size : Int)) = n := ⟨(if frame < (T.size : Int) then frame else (T.size : Int)).toNat, by have := HFR.out; split <;> omega⟩
          have HN1 := Aside0.mk hn1
          obtain ⟨n2, hn2⟩ : ∃ n : Nat, (if conn < (n1 : Int) ∧ 0 < (n1 : Int) then conn else (n1 : Int)) = n := ⟨(if conn < (n1 : Int) ∧ 0 < (n1 : Int) then conn else (n1 : Int)).toNat, by have := HGO.out; split at hn1 <;> split <;> omega⟩
          have HN2 := Aside0.mk hn2
          obtain ⟨k, hk⟩ : ∃ n : Nat, (if stream < (n2 : Int) ∧ 0 < (n2 : Int) then stream else (n2 : Int)) = n := ⟨(if stream < (n2 : Int) ∧ 0 < (n2 : Int) then stream else (n2 : Int)).toNat, by have := HGO.out; split at hn1 <;> split at hn2 <;> split <;> omega⟩
          have HK := Aside0.mk hk
          have HRM : Aside0 (roomF conn stream (T.size : Int) frame = (k : Int)) := ⟨by unfold roomF; have := HGO.out; have := HFR.out; split at hn1 <;> split at hn2 <;> split at hk <;> omega⟩
          have HKL : Aside0 (k ≤ T.size) := ⟨by have := HGO.out; split at hn1 <;> split at hn2 <;> split at hk <;> omega⟩
          have HNB : Aside0 (¬ (bare T = true ∧ e = false)) := ⟨by
            rintro ⟨hb, he⟩
            have h0 : T.size = 0 := by
              rcases Nat.eq_zero_or_pos T.size with h | h
              · exact h
              · have := bare_of h; rw [hb] at this; cases this
            have h9 := HTE.out h0
            first | exact absurd he (by decide) | exact absurd (h9.symm.trans he) (by decide)⟩
          clear hn1 hn2 hk
          obtain ⟨y1, hy1⟩ : ∃ y, decide (frame < (T.size : Int)) = y := ⟨_, rfl⟩
          have HY1 := Aside0.mk hy1
          go_upto_if 47 with fail
          clear hy1 f5 f6
          go_cut [13] from 48 to 48 (fun v wc => v = .int .i64 (n1 : Int) ∧ Aside0 (wc = w2))
          case first =>
            cases y1
            · have HQ : Aside0 ((T.size : Int) = (n1 : Int)) := ⟨by have h := HN1.out; rwa [if_neg (of_decide_eq_false HY1.out)] at h⟩
              go_wp2_with fail
              go_meet
              case rel => exact ⟨by rw [HQ.out], ⟨rfl⟩⟩
            · have HQ : Aside0 (frame = (n1 : Int)) := ⟨by have h := HN1.out; rwa [if_pos (of_decide_eq_true HY1.out)] at h⟩
              go_wp2_with fail
              go_meet
              case rel => exact ⟨by rw [HQ.out], ⟨rfl⟩⟩
          case rest =>
            obtain ⟨rfl, HWC⟩ := hcut
            rw [HWC.out]
            clear HWC HY1 HN1 d1
            rename_i hk9
            refine hk9 _ _ ?_
            refine wp_seq_k ?_
            intro K2 hK2
            clear hk9
            go_cut [13] from 49 to 56 (fun v wc => v = .int .i64 (n2 : Int) ∧ Aside0 (wc = w2))
            case first =>
              have HQ := HN2
              by_cases hc : conn < (n1 : Int)
              · have g1 : decide (conn < (n1 : Int)) = true := decide_eq_true hc
                by_cases h0 : 0 < n1
                · have g2 : decide ((0 : Int) < (n1 : Int)) = true := decide_eq_true (by omega)
                  have g3 : decide (0 < n1) = true := decide_eq_true h0
                  replace HQ : Aside0 (conn = (n2 : Int)) := ⟨by have h := HQ.out; rwa [if_pos ⟨hc, by omega⟩] at h⟩
                  clear hc h0
                  go_wp2_with fail
                  go_meet
                  case rel => exact ⟨by rw [HQ.out], ⟨rfl⟩⟩
                · have g2 : decide ((0 : Int) < (n1 : Int)) = false := decide_eq_false (by omega)
                  have g3 : decide (0 < n1) = false := decide_eq_false h0
                  replace HQ : Aside0 ((n1 : Int) = (n2 : Int)) := ⟨by have h := HQ.out; rwa [if_neg (by omega)] at h⟩
                  clear hc h0
                  go_wp2_with fail
                  go_meet
                  case rel => exact ⟨by rw [HQ.out], ⟨rfl⟩⟩
              · have g1 : decide (conn < (n1 : Int)) = false := decide_eq_false hc
                replace HQ : Aside0 ((n1 : Int) = (n2 : Int)) := ⟨by have h := HQ.out; rwa [if_neg (by omega)] at h⟩
                clear hc
                go_wp2_with fail
                go_meet
                case rel => exact ⟨by rw [HQ.out], ⟨rfl⟩⟩
            case rest =>
              obtain ⟨rfl, HWC⟩ := hcut
              rw [HWC.out]
              clear HWC HN2
              refine hK2 _ _ ?_
              refine wp_seq_k ?_
              intro K3 hK3
              clear hK2
              go_cut [13] from 57 to 64 (fun v wc => v = .int .i64 (k : Int) ∧ Aside0 (wc = w2))
              case first =>
                have HQ := HK
                by_cases hc : stream < (n2 : Int)
                · have g1 : decide (stream < (n2 : Int)) = true := decide_eq_true hc
                  by_cases h0 : 0 < n2
                  · have g2 : decide ((0 : Int) < (n2 : Int)) = true := decide_eq_true (by omega)
                    have g3 : decide (0 < n2) = true := decide_eq_true h0
                    replace HQ : Aside0 (stream = (k : Int)) := ⟨by have h := HQ.out; rwa [if_pos ⟨hc, by omega⟩] at h⟩
                    clear hc h0
                    go_wp2_with fail
                    go_meet
                    case rel => exact ⟨by rw [HQ.out], ⟨rfl⟩⟩
                  · have g2 : decide ((0 : Int) < (n2 : Int)) = false := decide_eq_false (by omega)
                    have g3 : decide (0 < n2) = false := decide_eq_false h0
                    replace HQ : Aside0 ((n2 : Int) = (k : Int)) := ⟨by have h := HQ.out; rwa [if_neg (by omega)] at h⟩
                    clear hc h0
                    go_wp2_with fail
                    go_meet
                    case rel => exact ⟨by rw [HQ.out], ⟨rfl⟩⟩
                · have g1 : decide (stream < (n2 : Int)) = false := decide_eq_false hc
                  replace HQ : Aside0 ((n2 : Int) = (k : Int)) := ⟨by have h := HQ.out; rwa [if_neg (by omega)] at h⟩
                  clear hc
                  go_wp2_with fail
                  go_meet
                  case rel => exact ⟨by rw [HQ.out], ⟨rfl⟩⟩
              case rest =>
                obtain ⟨rfl, HWC⟩ := hcut
                rw [HWC.out]
                clear HWC HK
                refine hK3 _ _ ?_
                clear hK3
                obtain ⟨g, c, rfl, _, _, _⟩ := Kd.R_form H2.out.row (by have := HI.out; omega)
                obtain ⟨x, hx⟩ : ∃ x, D.getD i z72 = x := ⟨_, rfl⟩
                have hp := HPX.out
                rw [hx] at hp
                have HP := Aside0.mk hp
                have HXE := Aside0.mk hx
                have HX0 : Aside0 (x.f0 = id) := ⟨by rw [← hx]; exact HIE.out⟩
                have HXT : Aside0 (x.f1 = T) := ⟨by rw [← HT.out, hp.2.1]⟩
                have HXE2 : Aside0 ((x.f2 && !x.f3) = e) := ⟨by have h := HE.out; rw [hp.2.1] at h; exact h⟩
                obtain ⟨z1, z2, z3, z4⟩ := doc_elem H2.out HI.out hx
                rw [HXT.out] at z1
                have z0 := blk_cell H2.out.blk 0
                have q0 : (0 : Int) ≤ (i : Int) := by omega
                have q1 : (i : Int) < (D.length : Int) := by have := HI.out; omega
                have k0 : (0 : Int) ≤ (k : Int) := by omega
                have k1 : (k : Int) ≤ (T.size : Int) := by have := HKL.out; omega
                have HF3 : Aside0 (x.f3 = false) := ⟨by
                  cases h : x.f3
                  · rfl
                  · exfalso
                    have h2 := (hp.2.2 h).2
                    rw [HXT.out] at h2
                    have h3 := HXE2.out
                    rw [h, Bool.not_true, Bool.and_false] at h3
                    exact HNB.out ⟨bare_no h2, h3.symm⟩⟩
                clear hp hx z2 z3
                obtain ⟨R, hR⟩ : ∃ R, T.extract k T.size = R := ⟨_, rfl⟩
                obtain ⟨P, hP⟩ : ∃ P, T.extract 0 k = P := ⟨_, rfl⟩
                have HR := Aside0.mk hR
                have HPP := Aside0.mk hP
                clear hR hP
                go_upto_region 16 with fail
                refine start_ (n := 18) (S := fun w' => w'.cell? ⟨q, 0, none⟩ = some (.slice (some ⟨g, 0, none⟩) D.length c) ∧ w'.cell? ⟨g, i * 4 + 1, none⟩ = some (.string T) ∧ w'.frozen? ⟨g, i * 4 + 1, none⟩ = false) (ds := [17]) #[false, false, false, false, false, false, false, false, false, false, false, false, false, false, false, false, false, false] (by kernel_rfl) rfl rfl ⟨z0, z1, z4 1⟩ (fun hHeld => ?_)
                refine pure_ (i := 0) (N := some 75) (v := ?_) (a' := ?_) #[true, false, false, false, false, false, false, false, false, false, false, false, false, false, false, false, false, false] rfl rfl (by kernel_rfl) (fun _ _ _ h => h) (Or.inl ⟨by rfl, ?_⟩) ?_ ?_
                rotate_left
                · intro w'
                  go_simp
                  with_reducible rfl
                rotate_left
                · simp only [Act.put, List.setIfInBounds_toArray, List.set_cons_zero, List.set_cons_succ, i64_w, i32_w]
                  rfl
                refine pure_ (i := 1) (N := some 76) (v := ?_) (a' := ?_) #[true, true, false, false, false, false, false, false, false, false, false, false, false, false, false, false, false, false] rfl rfl (by kernel_rfl) (fun _ _ _ h => h) (Or.inl ⟨by rfl, ?_⟩) ?_ ?_
                rotate_left
                · intro w'
                  go_simp
                  with_reducible rfl
                rotate_left
                · simp only [Act.put, List.setIfInBounds_toArray, List.set_cons_zero, List.set_cons_succ, i64_w, i32_w]
                  rfl
                refine pure_ (i := 2) (N := some 77) (v := ?_) (a' := ?_) #[true, true, true, false, false, false, false, false, false, false, false, false, false, false, false, false, false, false] rfl rfl (by kernel_rfl) (fun _ _ _ h => h) (Or.inl ⟨by rfl, ?_⟩) ?_ ?_
                rotate_left
                · intro w'
                  go_simp
                  with_reducible rfl
                rotate_left
                · simp only [Act.put, List.setIfInBounds_toArray, List.set_cons_zero, List.set_cons_succ, i64_w, i32_w]
                  rfl
                refine pure_ (i := 4) (N := some 79) (v := ?_) (a' := ?_) #[true, true, true, false, true, false, false, false, false, false, false, false, false, false, false, false, false, false] rfl rfl (by kernel_rfl) (fun _ _ _ h => h) (Or.inl ⟨by rfl, ?_⟩) ?_ ?_
                rotate_left
                · intro w'
                  go_simp
                  with_reducible rfl
                rotate_left
                · simp only [Act.put, List.setIfInBounds_toArray, List.set_cons_zero, List.set_cons_succ, i64_w, i32_w]
                  rfl
                refine pure_ (i := 5) (N := some 80) (v := ?_) (a' := ?_) #[true, true, true, false, true, true, false, false, false, false, false, false, false, false, false, false, false, false] rfl rfl (by kernel_rfl) (fun _ _ _ h => h) (Or.inl ⟨by rfl, ?_⟩) ?_ ?_
                rotate_left
                · intro w'
                  go_simp
                  with_reducible rfl
                rotate_left
                · simp only [Act.put, List.setIfInBounds_toArray, List.set_cons_zero, List.set_cons_succ, i64_w, i32_w]
                  rfl
                refine pure_ (i := 6) (N := some 81) (v := ?_) (a' := ?_) #[true, true, true, false, true, true, true, false, false, false, false, false, false, false, false, false, false, false] rfl rfl (by kernel_rfl) (fun _ _ _ h => h) (Or.inl ⟨by rfl, ?_⟩) ?_ ?_
                rotate_left
                · intro w'
                  go_simp
                  with_reducible rfl
                rotate_left
                · simp only [Act.put, List.setIfInBounds_toArray, List.set_cons_zero, List.set_cons_succ, i64_w, i32_w]
                  rfl
                refine pure_ (i := 7) (N := some 82) (v := ?_) (a' := ?_) #[true, true, true, false, true, true, true, true, false, false, false, false, false, false, false, false, false, false] rfl rfl (by kernel_rfl) (fun _ _ _ h => h) (Or.inl ⟨by rfl, ?_⟩) ?_ ?_
                rotate_left
                · intro w'
                  go_simp
                  with_reducible rfl
                rotate_left
                · simp only [Act.put, List.setIfInBounds_toArray, List.set_cons_zero, List.set_cons_succ, i64_w, i32_w]
                  rfl
                refine pure_ (i := 9) (N := some 84) (v := ?_) (a' := ?_) #[true, true, true, false, true, true, true, true, false, true, false, false, false, false, false, false, false, false] rfl rfl (by kernel_rfl) (fun _ _ _ h => h) (Or.inl ⟨by rfl, ?_⟩) ?_ ?_
                rotate_left
                · intro w'
                  go_simp
                  with_reducible rfl
                rotate_left
                · simp only [Act.put, List.setIfInBounds_toArray, List.set_cons_zero, List.set_cons_succ, i64_w, i32_w]
                  rfl
                refine pure_ (i := 13) (N := some 88) (v := ?_) (a' := ?_) #[true, true, true, false, true, true, true, true, false, true, false, false, false, true, false, false, false, false] rfl rfl (by kernel_rfl) (fun _ _ _ h => h) (Or.inl ⟨by rfl, ?_⟩) ?_ ?_
                rotate_left
                · intro w'
                  go_simp
                  with_reducible rfl
                rotate_left
                · simp only [Act.put, List.setIfInBounds_toArray, List.set_cons_zero, List.set_cons_succ, i64_w, i32_w]
                  rfl
                refine take_ (i := 3) (N := some 78) (v := ?_) (a' := ?_) #[true, true, true, true, true, true, true, true, false, true, false, false, false, true, false, false, false, false] rfl rfl (by kernel_rfl) (fun _ _ _ h => h) (Or.inl ⟨by rfl, ?_⟩) hHeld ?_ ?_
                rotate_left
                · rintro w' ⟨s0, s1, s2⟩
                  go_simp
                  with_reducible rfl
                rotate_left
                · simp only [Act.put, List.setIfInBounds_toArray, List.set_cons_zero, List.set_cons_succ, i64_w, i32_w]
                  rfl
                refine take_ (i := 8) (N := some 83) (v := ?_) (a' := ?_) #[true, true, true, true, true, true, true, true, true, true, false, false, false, true, false, false, false, false] rfl rfl (by kernel_rfl) (fun _ _ _ h => h) (Or.inl ⟨by rfl, ?_⟩) hHeld ?_ ?_
                rotate_left
                · rintro w' ⟨s0, s1, s2⟩
                  go_simp
                  with_reducible rfl
                rotate_left
                · simp only [Act.put, List.setIfInBounds_toArray, List.set_cons_zero, List.set_cons_succ, i64_w, i32_w]
                  rfl
                refine pure_ (i := 10) (N := some 85) (v := ?_) (a' := ?_) #[true, true, true, true, true, true, true, true, true, true, true, false, false, true, false, false, false, false] rfl rfl (by kernel_rfl) (fun _ _ _ h => h) (Or.inl ⟨by rfl, ?_⟩) ?_ ?_
                rotate_left
                · intro w'
                  go_simp
                  with_reducible rfl
                rotate_left
                · simp only [Act.put, List.setIfInBounds_toArray, List.set_cons_zero, List.set_cons_succ, i64_w, i32_w]
                  rfl
                refine pure_ (i := 11) (N := some 86) (v := ?_) (a' := ?_) #[true, true, true, true, true, true, true, true, true, true, true, true, false, true, false, false, false, false] rfl rfl (by kernel_rfl) (fun _ _ _ h => h) (Or.inl ⟨by rfl, ?_⟩) ?_ ?_
                rotate_left
                · intro w'
                  go_simp
                  with_reducible rfl
                rotate_left
                · simp only [Act.put, List.setIfInBounds_toArray, List.set_cons_zero, List.set_cons_succ, i64_w, i32_w]
                  rfl
                refine take_ (i := 12) (N := some 87) (v := ?_) (a' := ?_) #[true, true, true, true, true, true, true, true, true, true, true, true, true, true, false, false, false, false] rfl rfl (by kernel_rfl) (fun _ _ _ h => h) (Or.inl ⟨by rfl, ?_⟩) hHeld ?_ ?_
                rotate_left
                · rintro w' ⟨s0, s1, s2⟩
                  go_simp
                  with_reducible rfl
                rotate_left
                · simp only [Act.put, List.setIfInBounds_toArray, List.set_cons_zero, List.set_cons_succ, i64_w, i32_w]
                  rfl
                refine pure_ (i := 14) (N := some 89) (v := ?_) (a' := ?_) #[true, true, true, true, true, true, true, true, true, true, true, true, true, true, true, false, false, false] rfl rfl (by kernel_rfl) (fun _ _ _ h => h) (Or.inl ⟨by rfl, ?_⟩) ?_ ?_
                rotate_left
                · intro w'
                  go_simp
                  with_reducible rfl
                rotate_left
                · simp only [Act.put, List.setIfInBounds_toArray, List.set_cons_zero, List.set_cons_succ, i64_w, i32_w]
                  rfl
                refine pure_ (i := 15) (N := some 90) (v := ?_) (a' := ?_) #[true, true, true, true, true, true, true, true, true, true, true, true, true, true, true, true, false, false] rfl rfl (by kernel_rfl) (fun _ _ _ h => h) (Or.inl ⟨by rfl, ?_⟩) ?_ ?_
                rotate_left
                · intro w'
                  go_simp
                  with_reducible rfl
                rotate_left
                · simp only [Act.put, List.setIfInBounds_toArray, List.set_cons_zero, List.set_cons_succ, i64_w, i32_w]
                  rfl
                refine pure_ (i := 16) (N := some 91) (v := ?_) (a' := ?_) #[true, true, true, true, true, true, true, true, true, true, true, true, true, true, true, true, true, false] rfl rfl (by kernel_rfl) (fun _ _ _ h => h) (Or.inl ⟨by rfl, ?_⟩) ?_ ?_
                rotate_left
                · intro w'
                  go_simp
                  with_reducible rfl
                rotate_left
                · simp only [Act.put, List.setIfInBounds_toArray, List.set_cons_zero, List.set_cons_succ, i64_w, i32_w]
                  rfl
                refine last_ (i := 17) (N := none) #[true, true, true, true, true, true, true, true, true, true, true, true, true, true, true, true, true, true] rfl rfl (by kernel_rfl) (by decide) (fun K hK => ?_)
                refine skip_ (w1 := ?_) (by rfl) rfl ?_ ?_
                rotate_left
                · go_simp
                  rfl
                refine hK.out _ _ ?_
                clear hK K
                refine done_ (by kernel_rfl) ?_
                generalize hWn : World.setCell _ _ _ = Wn
                obtain ⟨a1, a2⟩ := doc_set (j := 1) (y := ⟨x.f0, T.extract k T.size, x.f2, x.f3⟩) H2.out HI.out HXE.out (by omega) rfl hWn
                rw [HR.out] at a1
                have A1 := Aside0.mk a1
                have F1 := Aside0.mk a2
                clear a1 a2 hWn z0 z1 z4
                have HL1 : Aside0 ((D.set i ⟨x.f0, R, x.f2, x.f3⟩).getD i z72 = ⟨x.f0, R, x.f2, x.f3⟩) := ⟨by rw [List.getD_eq_getElem?_getD, List.getElem?_set_self HI.out]; rfl⟩
                obtain ⟨z1, z2, z3, z4⟩ := doc_elem A1.out HI.out HL1.out
                have z0 := blk_cell A1.out.blk 0
                have z5 := z4 3
                have z6 : Wn.cell? ⟨g, i * 4 + 1, none⟩ = some (.string R) := z1
                have z7 : Wn.cell? ⟨g, i * 4 + 3, none⟩ = some (.bool x.f3) := z3
                clear z1 z2 z3 z4
                obtain ⟨y, hy⟩ : ∃ y, R.toList.isEmpty = y := ⟨_, rfl⟩
                have HY : Aside0 (bare R = y) := ⟨hy⟩
                obtain ⟨la, hla⟩ : ∃ l, (y && e) = l := ⟨_, rfl⟩
                have HLA := Aside0.mk hla
                clear hla
                have HNX : Aside0 (F = (⟨P, la, 0⟩, updM m id ⟨R, x.f2, e && !y⟩)) := ⟨by
                  rw [← HF.out]
                  unfold nextF
                  rw [if_neg (by have := HFR.out; omega), HT.out, HE.out, if_neg HNB.out, if_neg (by
                    rintro ⟨hb, hcs⟩
                    rcases HGO.out with h | h
                    · rw [bare_no h] at hb; cases hb
                    · omega), HRM.out, Int.toNat_natCast, HR.out, HPP.out, HY.out, HLA.out, HP.out.2.1]⟩
                cases y
                · have HLL : Aside0 (false = la) := ⟨by rw [← HLA.out]; first | rfl | (cases e <;> rfl)⟩
                  go_upto_region 19 with fail
                  generalize hWm : World.setCell _ _ _ = Wm
                  obtain ⟨a1, a2⟩ := doc_set (j := 3) (y := ⟨x.f0, R, x.f2, false⟩) A1.out HI.out HL1.out (by omega) rfl hWm
                  rw [List.set_set] at a1
                  have A2 := Aside0.mk (a1.low (below_drew (Below.refl _ _)))
                  have F2 := Aside0.mk ((F1.out.then_ a2 (fun k hk => Or.inl hk)).low (below_drew (Below.refl _ _)))
                  clear a1 a2 hWm z0 z5 z6 z7
                  go_wp2_with fail
                  go_ret3
                  have hd := HD.out.set HI.out HIE.out ⟨x.f0, R, x.f2, false⟩ HX0.out (fun h => by
                    have h2 := HXE2.out
                    rw [HF3.out] at h2
                    cases h)
                  refine ⟨by rw [HNX.out, ← HLL.out]; simp only [HPP.out]; rfl, ?_⟩
                  rw [HNX.out]
                  refine ⟨_, _, A2.out, ?_, by rw [List.length_set]; exact Nat.le_succ _, (Fr.of_below L2.out _).then_ F2.out (fun k hk => Or.inl (Or.inr (by rw [hk]; rfl))), fun k hk => Or.inl hk⟩
                  have h2 := HXE2.out
                  rw [HF3.out] at h2
                  have he : (x.f2 && !(false)) = (e && !false) := by rw [← h2]; cases x.f2 <;> simp
                  rw [he] at hd
                  exact hd
                · have HLL : Aside0 (e = la) := ⟨by rw [← HLA.out]; first | rfl | (cases e <;> rfl)⟩
                  go_upto_region 19 with fail
                  generalize hWm : World.setCell _ _ _ = Wm
                  obtain ⟨a1, a2⟩ := doc_set (j := 3) (y := ⟨x.f0, R, x.f2, e⟩) A1.out HI.out HL1.out (by omega) rfl hWm
                  rw [List.set_set] at a1
                  have A2 := Aside0.mk (a1.low (below_drew (Below.refl _ _)))
                  have F2 := Aside0.mk ((F1.out.then_ a2 (fun k hk => Or.inl hk)).low (below_drew (Below.refl _ _)))
                  clear a1 a2 hWm z0 z5 z6 z7
                  go_wp2_with fail
                  go_ret3
                  have hd := HD.out.set HI.out HIE.out ⟨x.f0, R, x.f2, e⟩ HX0.out (fun h => by
                    have h2 := HXE2.out
                    rw [HF3.out] at h2
                    exact ⟨by cases hf : x.f2 <;> simp_all, sz_of_bare HY.out⟩)
                  refine ⟨by rw [HNX.out, ← HLL.out]; simp only [HPP.out]; rfl, ?_⟩
                  rw [HNX.out]
                  refine ⟨_, _, A2.out, ?_, by rw [List.length_set]; exact Nat.le_succ _, (Fr.of_below L2.out _).then_ F2.out (fun k hk => Or.inl (Or.inr (by rw [hk]; rfl))), fun k hk => Or.inl hk⟩
                  have h2 := HXE2.out
                  rw [HF3.out] at h2
                  have he : (x.f2 && !(e)) = (e && !true) := by rw [← h2]; cases x.f2 <;> simp
                  rw [he] at hd
                  exact hd
end Go.Proofs.Ytedkjbdkokdgdaa.Sh
