/- The document's Read tells the plain answer, too. No condition but that the text fits. -/
import Derived.Test.YtoffhlbdfhhhjaaDoorMFrRb
import Derived.Test.YtoffhlbdfhhhjaaDoorMFp7
namespace Go.Proofs.YtoffhlbdfhhhjaaDoor.Fr
open Go Go.RowKit Go.Proofs.YtoffhlbdfhhhjaaDoorW.PrintWords Go.Proofs.YtoffhlbdfhhhjaaDoorW.PrintLast Go.Proofs.YtoffhlbdfhhhjaaDoorW.PrintMore Go.Proofs.YtoffhlbdfhhhjaaDoor.QL
set_option linter.unusedSimpArgs false
set_option linter.unusedVariables false
set_option maxHeartbeats 40000000
set_option maxRecDepth 100000
theorem hd_rd0 (b : ByteArray) : Hd (rd0 b) := by
  have b3 := bt_range b 3
  have b4 := bt_range b 4
  have hk := kFl_range (bt b 3)
  obtain ⟨kb, hkb⟩ := Int.eq_ofNat_of_zero_le hk.1
  have hr := and_le (bt b 4) kb (by omega)
  have e : (rd0 b).fl = Go.bits .and .i64 (bt b 4) (kFl (bt b 3)) := rfl
  have h1 : Go.bits .andNot .i64 (rd0 b).fl (kFl (bt b 3)) = 0 := by rw [e]; exact andNot_and _ _
  have h2 : -9223372036854775808 ≤ (rd0 b).fl ∧ (rd0 b).fl ≤ 9223372036854775807 := by rw [e, hkb]; omega
  have h3 : 0 ≤ (rd0 b).fl ∧ (rd0 b).fl ≤ 255 := by rw [e, hkb]; omega
  exact ⟨b3, h3, and_of_andNot _ _ h2.1 h2.2 h1⟩
theorem rdF_ref (b : ByteArray) (most : Int) (h9 : ¬ b.size < 9) (n : Nat) (hn : rdN b = n) (h2 : ¬ min (max most 16384) 65536 < (n : Int)) (h3 : ¬ (b.size : Int) - 9 < n) (f : Fr) (hf : rd0 b = f) (p : ByteArray) (hp : b.extract 9 (9 + n) = p) :
    p.size = n ∧ rdF b most = if stB f.ty f.st = false then .bad 1 else if lenR f p.size = false then (if f.ty = 2 then ⟨Fr.zero, 9 + p.size, 6, f.st⟩ else .bad 6) else rdRef f p.size p := by
  have hs : p.size = n := by rw [← hp, ByteArray.size_extract]; omega
  refine ⟨hs, ?_⟩
  unfold rdF
  rw [if_neg h9, hn, if_neg h2, if_neg h3, hf, Int.toNat_natCast, hp, ← hs]
  exact rdRest_ref f (by rw [← hf]; exact hd_rd0 b) (by rw [← hf]; rfl) p.size p rfl
theorem rd_again {w w1 w2 W : World} {r : Rd} {A : Option Addr} {c : Nat} {e : Ending} (he : e = .returned (.tuple #[.agg (r.fr.cells A c), .int .i64 r.no, .agg #[.int .i64 r.code, .int .i64 r.st]])) (hR : Kd.R k32 32 w2 w1.heap.size (fun _ => True) (.slice A r.fr.ps.length c) r.fr.ps) (hL1 : w.heap.size ≤ w1.heap.size)
    (hs : ∀ k, w1.heap.size ≤ k → W.heap[k]? = w2.heap[k]?) (hL : Below w.heap.size w W) : RdPost w r e W :=
  ⟨A, c, he, Kd.R_lower (Kd.R_mono (Kd.R_step (Kd.R_bound hR) (fun k hk _ => hs k hk.2.1)) (fun _ _ => trivial)) hL1, hL⟩
theorem res21 (tmps : Array Value) (W : World) (g4 g6 : Nat) (f : Fr) (A : Option Addr) (c : Nat) (no code st : Int) (h4 : tmps.getD 4 undef = .pointer (some ⟨g4, 0, none⟩)) (h5 : tmps.getD 5 undef = .int .i64 no) (h6 : tmps.getD 6 undef = .pointer (some ⟨g6, 0, none⟩)) (hf : At W g4 f A c) (he : W.heap[g6]? = some (.cells #[.int .i64 code, .int .i64 st] 35 (0, 0))) :
    (results Tryd.f21 tmps).run Tryd.prog W = .ok (.tuple #[.agg (f.cells A c), .int .i64 no, .agg #[.int .i64 code, .int .i64 st]]) W := by
  have r1 := run_loadVar_row (P := Tryd.prog) W g4 24 24 (f.cells A c) (0, 0) _ hf Tryd.underlying24 (by rfl) (by kernel_rfl)
  have r2 := run_loadVar_row (P := Tryd.prog) W g6 35 35 #[.int .i64 code, .int .i64 st] (0, 0) _ he Tryd.underlying35 (by rfl) (by kernel_rfl)
  have e : Tryd.f21.results = #[.cell 4 24, .tmp 5, .cell 6 35] := rfl
  simp only [Array.getD_eq_getD_getElem?] at h4 h5 h6
  simp [results, e, h4, h5, h6, asAddr, Sem.run_bind, r1, r2]
theorem readR_calls (b : ByteArray) (most : Int) (w : World) (h63 : b.size ≤ 9223372036854775807) : Calls Tryd.prog 21 #[.string b, .int .i64 most] w fun e w' => RdPost w (rdF b most) e w' := by
  have HB := Aside0.mk (Below.refl w.heap.size w)
  have H63 := Aside0.mk h63
  clear h63
  obtain ⟨R, hR⟩ : ∃ R, rdF b most = R := ⟨_, rfl⟩
  have HR := Aside0.mk hR
  rw [hR]
  clear hR
  go_enter Tryd.func21, Tryd.ntmps21
  go_upto_region 1 with fail
  obtain ⟨W1, hW1⟩ : ∃ W, (w.alloc (.cells #[.int .i64 0, .int .i64 0, .int .i64 0, .string ⟨#[]⟩, .int .i64 0, .int .i64 0, .bool false, .int .i64 0, .int .i64 0, .int .i64 0, .slice none 0 0] 24)).alloc (.cells #[.int .i64 0, .int .i64 0] 35) = W := ⟨_, rfl⟩
  have Z4 : Aside0 (At W1 w.heap.size Fr.zero none 0) := ⟨by rw [← hW1]; exact (zero_new w).low (below_alloc (Below.refl _ _) _)⟩
  have Z6 : Aside0 (W1.heap[w.heap.size + 1]? = some (.cells #[.int .i64 0, .int .i64 0] 35 (0, 0))) := ⟨by rw [← hW1]; exact heap_alloc2_new _ _ _⟩
  have L1 : Aside0 (Below w.heap.size w W1) := ⟨by rw [← hW1]; exact below_alloc (below_alloc HB.out _) _⟩
  obtain ⟨g4, hg4⟩ : ∃ g, w.heap.size = g := ⟨_, rfl⟩
  obtain ⟨g6, hg6⟩ : ∃ g, g4 + 1 = g := ⟨_, rfl⟩
  rw [hW1, hg4, hg6]
  rw [hg4] at Z4 Z6
  rw [hg6] at Z6
  have HG4 := Aside0.mk hg4
  have HG6 := Aside0.mk hg6
  clear hW1 hg4 hg6 HB
  obtain ⟨x, hx⟩ : ∃ x, decide (most < 16384) = x := ⟨_, rfl⟩
  have HX1 := Aside0.mk hx
  go_upto_if 11 with fail
  clear hx
  go_cut [1] from 1 to 1 (fun v wc => v = .int .i64 (max most 16384) ∧ Aside0 (wc = W1))
  case first =>
    cases x
    · go_wp2_with fail
      go_meet
      case rel => exact ⟨by have := of_decide_eq_false HX1.out; rw [Int.max_eq_left (by omega)], ⟨rfl⟩⟩
    · go_wp2_with fail
      go_meet
      case rel => exact ⟨by have := of_decide_eq_true HX1.out; rw [Int.max_eq_right (by omega)], ⟨rfl⟩⟩
  case rest =>
    obtain ⟨rfl, HWC⟩ := hcut
    rw [HWC.out]
    clear HWC
    obtain ⟨m1, hm1⟩ : ∃ m, max most 16384 = m := ⟨_, rfl⟩
    have HM1 := Aside0.mk hm1
    rw [hm1]
    obtain ⟨y, hy⟩ : ∃ y, decide (65536 < m1) = y := ⟨_, rfl⟩
    have HX2 := Aside0.mk hy
    clear hm1
    go_upto_if 13 with fail
    clear hy
    go_cut [1] from 1 to 1 (fun v wc => v = .int .i64 (min m1 65536) ∧ Aside0 (wc = W1))
    case first =>
      cases y
      · go_wp2_with fail
        go_meet
        case rel => exact ⟨by have := of_decide_eq_false HX2.out; rw [Int.min_eq_left (by omega)], ⟨rfl⟩⟩
      · go_wp2_with fail
        go_meet
        case rel => exact ⟨by have := of_decide_eq_true HX2.out; rw [Int.min_eq_right (by omega)], ⟨rfl⟩⟩
    case rest =>
      obtain ⟨rfl, HWC⟩ := hcut
      rw [HWC.out]
      clear HWC
      obtain ⟨mm, hmm⟩ : ∃ m, min m1 65536 = m := ⟨_, rfl⟩
      have HMM : Aside0 (min (max most 16384) 65536 = mm) := ⟨by rw [HM1.out]; exact hmm⟩
      rw [hmm]
      clear hmm
      by_cases h9 : b.size < 9
      · have s1 : decide ((b.size : Int) < 9) = true := decide_eq_true (by omega)
        have s2 : decide (b.size < 9) = true := decide_eq_true h9
        have HV : rdF b most = .bad 0 := by unfold rdF; rw [if_pos h9]
        have Y4 := Aside0.mk (Z4.out.low (Below.refl W1.heap.size W1))
        have Y6 := Aside0.mk (blk_below Z6.out (Below.refl W1.heap.size W1))
        have L3 := Aside0.mk (below_then L1.out L1.out.size (Below.refl W1.heap.size W1))
        go_wp2_with (first
            | (refine wpList_store_row rfl 24 _ _ rfl g4 (#[.int .i64 0, .int .i64 0, .int .i64 0, .string ⟨#[]⟩, .int .i64 0, .int .i64 0, .bool false, .int .i64 0, .int .i64 0, .int .i64 0, .slice none 0 0]) rfl rfl 24 _ Y4.out (by kernel_rfl) (by kernel_rfl) (by kernel_rfl) ?_; obtain ⟨W8, e8, q4, qo, qb⟩ := row_store _ g4 (#[.int .i64 0, .int .i64 0, .int .i64 0, .string ⟨#[]⟩, .int .i64 0, .int .i64 0, .bool false, .int .i64 0, .int .i64 0, .int .i64 0, .slice none 0 0]) 24 _ Y4.out; rw [e8]; have Q4 := Aside0.mk q4; have Q6 := Aside0.mk ((qo _ (by have := HG6.out; omega)).trans Y6.out); have QO := Aside0.mk qo; have QL := Aside0.mk (qb _ _ L3.out (by have := HG4.out; omega)); clear q4 qo qb e8)
            | (refine wpList_store_row rfl 35 _ _ rfl g6 #[.int .i64 0, .int .i64 0] rfl rfl 35 _ Q6.out (by kernel_rfl) (by kernel_rfl) (by kernel_rfl) ?_; obtain ⟨W9, e9, p6, po, pb⟩ := row_store _ g6 #[.int .i64 0, .int .i64 0] 35 _ Q6.out; rw [e9]; have R6 := Aside0.mk p6; have R4 := Aside0.mk ((po _ (by have := HG6.out; omega)).trans Q4.out); have PO := Aside0.mk po; have RL := Aside0.mk (pb _ _ QL.out (by have := HG4.out; have := HG6.out; omega)); clear p6 po pb e9))
        exact bodyPost_ret (res21 _ _ g4 g6 Fr.zero none 0 0 0 0 rfl rfl rfl R4.out R6.out) rfl (by rw [← HR.out, HV]; exact RdPost.zero 0 0 0 rfl RL.out)
      have s1 : decide ((b.size : Int) < 9) = false := decide_eq_false (by omega)
      have s2 : decide (b.size < 9) = false := decide_eq_false h9
      have HS := Aside0.mk h9
      have HSZ : Aside0 ((b.extract 0 3).size ≤ 4) := ⟨by simp; omega⟩
      have b3 : (3 : Int) ≤ (b.size : Int) := by omega
      obtain ⟨n, hn⟩ : ∃ n : Nat, rdN b = n := ⟨(rdN b).toNat, by have := (num4 _ HSZ.out).1; unfold rdN; omega⟩
      have HN : Aside0 (num (b.extract 0 3) = n) := ⟨hn⟩
      clear h9 hn
      go_upto_region 8 with (go_at_call 61; refine (getR_below (b.extract 0 3) (n : Int) _ HSZ.out HN.out).mono ?_; rintro e w3 ⟨rfl, hb⟩; have LL3 := Aside0.mk hb; clear hb)
      clear s1 s2 b3
      by_cases hl : mm < (n : Int)
      · have s1 : decide (mm < (n : Int)) = true := decide_eq_true hl
        have HV : rdF b most = .bad 6 := by unfold rdF; rw [if_neg HS.out, HMM.out, show rdN b = n from HN.out, if_pos hl]
        have Y4 := Aside0.mk (Z4.out.low LL3.out)
        have Y6 := Aside0.mk (blk_below Z6.out LL3.out)
        have L3 := Aside0.mk (below_then L1.out L1.out.size LL3.out)
        go_wp2_with (first
            | (refine wpList_store_row rfl 24 _ _ rfl g4 (#[.int .i64 0, .int .i64 0, .int .i64 0, .string ⟨#[]⟩, .int .i64 0, .int .i64 0, .bool false, .int .i64 0, .int .i64 0, .int .i64 0, .slice none 0 0]) rfl rfl 24 _ Y4.out (by kernel_rfl) (by kernel_rfl) (by kernel_rfl) ?_; obtain ⟨W8, e8, q4, qo, qb⟩ := row_store _ g4 (#[.int .i64 0, .int .i64 0, .int .i64 0, .string ⟨#[]⟩, .int .i64 0, .int .i64 0, .bool false, .int .i64 0, .int .i64 0, .int .i64 0, .slice none 0 0]) 24 _ Y4.out; rw [e8]; have Q4 := Aside0.mk q4; have Q6 := Aside0.mk ((qo _ (by have := HG6.out; omega)).trans Y6.out); have QO := Aside0.mk qo; have QL := Aside0.mk (qb _ _ L3.out (by have := HG4.out; omega)); clear q4 qo qb e8)
            | (refine wpList_store_row rfl 35 _ _ rfl g6 #[.int .i64 6, .int .i64 0] rfl rfl 35 _ Q6.out (by kernel_rfl) (by kernel_rfl) (by kernel_rfl) ?_; obtain ⟨W9, e9, p6, po, pb⟩ := row_store _ g6 #[.int .i64 6, .int .i64 0] 35 _ Q6.out; rw [e9]; have R6 := Aside0.mk p6; have R4 := Aside0.mk ((po _ (by have := HG6.out; omega)).trans Q4.out); have PO := Aside0.mk po; have RL := Aside0.mk (pb _ _ QL.out (by have := HG4.out; have := HG6.out; omega)); clear p6 po pb e9))
        exact bodyPost_ret (res21 _ _ g4 g6 Fr.zero none 0 0 6 0 rfl rfl rfl R4.out R6.out) rfl (by rw [← HR.out, HV]; exact RdPost.zero 0 6 0 rfl RL.out)
      have s1 : decide (mm < (n : Int)) = false := decide_eq_false hl
      have HLM : Aside0 (¬ min (max most 16384) 65536 < (n : Int)) := ⟨by rw [HMM.out]; exact hl⟩
      have hn16 : n ≤ 65536 := by have := HLM.out; omega
      obtain ⟨q, hq⟩ : ∃ q : Nat, 9 + n = q := ⟨_, rfl⟩
      have hw9 : wrap64 (9 + (n : Int)) = (q : Int) := by unfold wrap64; omega
      by_cases hp : b.size < q
      · have s2 : decide ((b.size : Int) < (q : Int)) = true := decide_eq_true (by omega)
        have s3 : decide (b.size < q) = true := decide_eq_true hp
        have HV : rdF b most = .bad 0 := by unfold rdF; rw [if_neg HS.out, HMM.out, show rdN b = n from HN.out, if_neg hl, if_pos (by omega)]
        have Y4 := Aside0.mk (Z4.out.low LL3.out)
        have Y6 := Aside0.mk (blk_below Z6.out LL3.out)
        have L3 := Aside0.mk (below_then L1.out L1.out.size LL3.out)
        go_wp2_with (first
            | (refine wpList_store_row rfl 24 _ _ rfl g4 (#[.int .i64 0, .int .i64 0, .int .i64 0, .string ⟨#[]⟩, .int .i64 0, .int .i64 0, .bool false, .int .i64 0, .int .i64 0, .int .i64 0, .slice none 0 0]) rfl rfl 24 _ Y4.out (by kernel_rfl) (by kernel_rfl) (by kernel_rfl) ?_; obtain ⟨W8, e8, q4, qo, qb⟩ := row_store _ g4 (#[.int .i64 0, .int .i64 0, .int .i64 0, .string ⟨#[]⟩, .int .i64 0, .int .i64 0, .bool false, .int .i64 0, .int .i64 0, .int .i64 0, .slice none 0 0]) 24 _ Y4.out; rw [e8]; have Q4 := Aside0.mk q4; have Q6 := Aside0.mk ((qo _ (by have := HG6.out; omega)).trans Y6.out); have QO := Aside0.mk qo; have QL := Aside0.mk (qb _ _ L3.out (by have := HG4.out; omega)); clear q4 qo qb e8)
            | (refine wpList_store_row rfl 35 _ _ rfl g6 #[.int .i64 0, .int .i64 0] rfl rfl 35 _ Q6.out (by kernel_rfl) (by kernel_rfl) (by kernel_rfl) ?_; obtain ⟨W9, e9, p6, po, pb⟩ := row_store _ g6 #[.int .i64 0, .int .i64 0] 35 _ Q6.out; rw [e9]; have R6 := Aside0.mk p6; have R4 := Aside0.mk ((po _ (by have := HG6.out; omega)).trans Q4.out); have PO := Aside0.mk po; have RL := Aside0.mk (pb _ _ QL.out (by have := HG4.out; have := HG6.out; omega)); clear p6 po pb e9))
        exact bodyPost_ret (res21 _ _ g4 g6 Fr.zero none 0 0 0 0 rfl rfl rfl R4.out R6.out) rfl (by rw [← HR.out, HV]; exact RdPost.zero 0 0 0 rfl RL.out)
      have s2 : decide ((b.size : Int) < (q : Int)) = false := decide_eq_false (by omega)
      have s3 : decide (b.size < q) = false := decide_eq_false hp
      have i9 : (q : Int) ≤ (b.size : Int) := by omega
      have j9 : (9 : Int) ≤ (q : Int) := by omega
      have b5 : (9 : Int) ≤ (b.size : Int) := by omega
      have n3 : 3 < b.size := by omega
      have n4 : 4 < b.size := by omega
      have i3 : (3 : Int) < (b.size : Int) := by omega
      have i4 : (4 : Int) < (b.size : Int) := by omega
      have HS59 : Aside0 ((b.extract 5 9).size ≤ 4) := ⟨ext4 b 5⟩
      obtain ⟨t, ht⟩ : ∃ t, bt b 3 = t := ⟨_, rfl⟩
      have ht3 : ((b[3]'n3).toNat : Int) = t := (bt_at b 3 n3).trans ht
      obtain ⟨u, hu⟩ : ∃ u, bt b 4 = u := ⟨_, rfl⟩
      have hu4 : ((b[4]'n4).toNat : Int) = u := (bt_at b 4 n4).trans hu
      have hwt : wrap64 t = t := by have h := bt_range b 3; rw [ht] at h; unfold wrap64; omega
      have hwu : wrap64 u = u := by have h := bt_range b 4; rw [hu] at h; unfold wrap64; omega
      obtain ⟨x, hx⟩ : ∃ x, num (b.extract 5 9) % 2147483648 = x := ⟨_, rfl⟩
      obtain ⟨k, hk⟩ : ∃ k, kFl t = k := ⟨_, rfl⟩
      obtain ⟨fl, hfl⟩ : ∃ fl, Go.bits .and .i64 u k = fl := ⟨_, rfl⟩
      have HX := Aside0.mk hx
      have HK := Aside0.mk hk
      have H0 : Aside0 (0 ≤ t) := ⟨by rw [← ht]; exact (bt_range b 3).1⟩
      have HF : Aside0 (rd0 b = (⟨t, fl, x, ByteArray.empty, 0, 0, false, 0, 0, 0, []⟩ : Fr)) := ⟨by unfold rd0; rw [ht, hu, hk, hfl, hx]; rfl⟩
      have HHD : Aside0 (Hd (⟨t, fl, x, ByteArray.empty, 0, 0, false, 0, 0, 0, []⟩ : Fr)) := ⟨by rw [← HF.out]; exact hd_rd0 b⟩
      obtain ⟨p, hpx⟩ : ∃ p, b.extract 9 q = p := ⟨_, rfl⟩
      have HREF := Aside0.mk (rdF_ref b most HS.out n HN.out HLM.out (by omega) _ HF.out p (by rw [hq]; exact hpx))
      have HNQ : Aside0 (n ≤ 65536 ∧ 9 + n = q) := ⟨hn16, hq⟩
      have HPX := Aside0.mk hpx
      clear hl hp hn16 hq hx hk ht hu hpx
      go_upto_region 12 with fail
      clear s1 s2 s3
      refine start_ (n := 9) (S := fun w' => Below W1.heap.size W1 w') (ds := [8]) #[false, false, false, false, false, false, false, false, false] (by kernel_rfl) rfl rfl (below_then LL3.out LL3.out.size (below_drew (Below.refl _ _))) (fun hHeld => ?_)
      refine pure_ (i := 0) (N := some 34) (v := ?_) (a' := ?_) #[true, false, false, false, false, false, false, false, false] rfl rfl (by kernel_rfl) (fun _ _ _ h => h) (Or.inl ⟨by rfl, ?_⟩) ?_ ?_
      rotate_left
      · intro w'
        go_simp
        with_reducible rfl
      rotate_left
      · simp only [Act.put, List.setIfInBounds_toArray, List.set_cons_zero, List.set_cons_succ, i64_w, i32_w]
        rfl
      refine pure_ (i := 3) (N := some 37) (v := ?_) (a' := ?_) #[true, false, false, true, false, false, false, false, false] rfl rfl (by kernel_rfl) (fun _ _ _ h => h) (Or.inl ⟨by rfl, ?_⟩) ?_ ?_
      rotate_left
      · intro w'
        go_simp
        with_reducible rfl
      rotate_left
      · simp only [Act.put, List.setIfInBounds_toArray, List.set_cons_zero, List.set_cons_succ, i64_w, i32_w]
        rfl
      refine pure_ (i := 4) (N := some 38) (v := ?_) (a' := ?_) #[true, false, false, true, true, false, false, false, false] rfl rfl (by kernel_rfl) (fun _ _ _ h => h) (Or.inl ⟨by rfl, ?_⟩) ?_ ?_
      rotate_left
      · intro w'
        go_simp
        with_reducible rfl
      rotate_left
      · simp only [Act.put, List.setIfInBounds_toArray, List.set_cons_zero, List.set_cons_succ, i64_w, i32_w]
        rfl
      refine take_ (i := 1) (N := some 35) (v := ?_) (a' := ?_) #[true, true, false, true, true, false, false, false, false] rfl rfl (by kernel_rfl) (fun _ _ _ h => h) (Or.inl ⟨by rfl, ?_⟩) hHeld ?_ ?_
      rotate_left
      · intro w' s0
        go_simp
        with_reducible rfl
      rotate_left
      · simp only [Act.put, List.setIfInBounds_toArray, List.set_cons_zero, List.set_cons_succ, i64_w, i32_w]
        rfl
      refine pure_ (i := 2) (N := some 36) (v := ?_) (a' := ?_) #[true, true, true, true, true, false, false, false, false] rfl rfl (by kernel_rfl) (fun _ _ _ h => h) (Or.inl ⟨by rfl, ?_⟩) ?_ ?_
      rotate_left
      · intro w'
        go_simp
        with_reducible rfl
      rotate_left
      · simp only [Act.put, List.setIfInBounds_toArray, List.set_cons_zero, List.set_cons_succ, i64_w, i32_w]
        rfl
      refine join_ (σ := Nat) 1 #[true, true, true, true, true, true, true, true, false] (fun s => [(39, .int .i64 x), (40, .agg #[.int .i64 t, .int .i64 0, .int .i64 x, .string ⟨#[]⟩, .int .i64 0, .int .i64 0, .bool false, .int .i64 0, .int .i64 0, .int .i64 0, .slice none 0 0]), (8, .pointer (some ⟨s, 0, none⟩))]) (fun s w' => At w' s Fr.zero none 0 ∧ W1.heap.size ≤ s ∧ Below W1.heap.size W1 w') ?_ ?_
      rotate_left
      · intro hCont
        refine two_ (i := 5) (j := 7) (Ni := some 39) (Nj := some 8) #[true, true, true, true, true, true, false, false, false] #[true, true, true, true, true, false, false, true, false] rfl rfl rfl rfl (by kernel_rfl) (by decide) (by decide) (fun K hK => ?_) (fun K hK => ?_)
        · skip
          refine goes_ Tryd.func62 (by kernel_rfl) rfl #[.string (b.extract 5 9)] (by rfl) rfl rfl (by simp only [List.map_toArray, List.map_cons, List.map_nil]; rfl) ?_
          with_reducible refine (idR_below (b.extract 5 9) x _ HS59.out HX.out).mono ?_
          rintro e w5 ⟨rfl, hb⟩
          refine ⟨_, rfl, ?_⟩
          refine hK.out _ _ (below_then hHeld hHeld.size hb) (fun hHeld => ?_)
          clear hK K
          refine norm_ (a' := ?_) ?_ ?_
          rotate_left
          · show Act.put _ (some 39) _ = _
            simp only [Act.put, List.setIfInBounds_toArray, List.set_cons_zero, List.set_cons_succ, i64_w, i32_w]
            rfl
          refine pure_ (i := 6) (N := some 40) (v := ?_) (a' := ?_) #[true, true, true, true, true, true, true, false, false] rfl rfl (by kernel_rfl) (fun _ _ _ h => h) (Or.inl ⟨by rfl, ?_⟩) ?_ ?_
          rotate_left
          · intro w'
            go_simp
            with_reducible rfl
          rotate_left
          · simp only [Act.put, List.setIfInBounds_toArray, List.set_cons_zero, List.set_cons_succ, i64_w, i32_w]
            rfl
          refine one_ (i := 7) (N := some 8) #[true, true, true, true, true, true, true, true, false] rfl rfl (by kernel_rfl) (by decide) (fun K hK => ?_)
          refine value_ (w1 := ?_) (v := ?_) (by rfl) rfl ?_ ?_
          rotate_left 2
          · go_simp
            constructor
            · rfl
            · rfl
          refine hK.out _ _ (below_then hHeld hHeld.size (below_alloc (Below.refl _ _) _)) (fun hHeld => ?_)
          clear hK K
          refine norm_ (a' := ?_) ?_ ?_
          rotate_left
          · show Act.put _ (some 8) _ = _
            simp only [Act.put, List.setIfInBounds_toArray, List.set_cons_zero, List.set_cons_succ, i64_w, i32_w]
            rfl
          exact norm_ (by simp only [putAll, Act.put, List.setIfInBounds_toArray, List.set_cons_zero, List.set_cons_succ]) (hCont _ _ ⟨zero_new _, Nat.le_trans LL3.out.size hb.size, hHeld⟩)
        · skip
          refine value_ (w1 := ?_) (v := ?_) (by rfl) rfl ?_ ?_
          rotate_left 2
          · go_simp
            constructor
            · rfl
            · rfl
          refine hK.out _ _ (below_then hHeld hHeld.size (below_alloc (Below.refl _ _) _)) (fun hHeld => ?_)
          clear hK K
          refine norm_ (a' := ?_) ?_ ?_
          rotate_left
          · show Act.put _ (some 8) _ = _
            simp only [Act.put, List.setIfInBounds_toArray, List.set_cons_zero, List.set_cons_succ, i64_w, i32_w]
            rfl
          refine one_ (i := 5) (N := some 39) #[true, true, true, true, true, true, false, true, false] rfl rfl (by kernel_rfl) (by decide) (fun K hK => ?_)
          refine goes_ Tryd.func62 (by kernel_rfl) rfl #[.string (b.extract 5 9)] (by rfl) rfl rfl (by simp only [List.map_toArray, List.map_cons, List.map_nil]; rfl) ?_
          with_reducible refine (idR_below (b.extract 5 9) x _ HS59.out HX.out).mono ?_
          rintro e w5 ⟨rfl, hb⟩
          refine ⟨_, rfl, ?_⟩
          refine hK.out _ _ (below_then hHeld hHeld.size hb) (fun hHeld => ?_)
          clear hK K
          refine norm_ (a' := ?_) ?_ ?_
          rotate_left
          · show Act.put _ (some 39) _ = _
            simp only [Act.put, List.setIfInBounds_toArray, List.set_cons_zero, List.set_cons_succ, i64_w, i32_w]
            rfl
          refine pure_ (i := 6) (N := some 40) (v := ?_) (a' := ?_) #[true, true, true, true, true, true, true, true, false] rfl rfl (by kernel_rfl) (fun _ _ _ h => h) (Or.inl ⟨by rfl, ?_⟩) ?_ ?_
          rotate_left
          · intro w'
            go_simp
            with_reducible rfl
          rotate_left
          · simp only [Act.put, List.setIfInBounds_toArray, List.set_cons_zero, List.set_cons_succ, i64_w, i32_w]
            rfl
          exact norm_ (by simp only [putAll, Act.put, List.setIfInBounds_toArray, List.set_cons_zero, List.set_cons_succ]) (hCont _ _ ⟨((zero_new w3).low (below_drew (Below.refl _ _))).low hb, LL3.out.size, hHeld⟩)
      rintro g8 w8 ⟨hZ, hge, hHeld⟩
      refine norm_ (a' := ?_) ?_ ?_
      rotate_left
      · simp only [putAll, Act.put, List.setIfInBounds_toArray, List.set_cons_zero, List.set_cons_succ]
        rfl
      refine last_ (i := 8) (N := none) #[true, true, true, true, true, true, true, true, true] rfl rfl (by kernel_rfl) (by decide) (fun K hK => ?_)
      refine skip_row 24 _ _ rfl (by rfl) rfl g8 #[.int .i64 t, .int .i64 0, .int .i64 x, .string ⟨#[]⟩, .int .i64 0, .int .i64 0, .bool false, .int .i64 0, .int .i64 0, .int .i64 0, .slice none 0 0] rfl rfl 24 _ hZ (by kernel_rfl) (by kernel_rfl) (by kernel_rfl) ?_
      obtain ⟨W8, e8, q4, qo, qb⟩ := row_store _ g8 #[.int .i64 t, .int .i64 0, .int .i64 x, .string ⟨#[]⟩, .int .i64 0, .int .i64 0, .bool false, .int .i64 0, .int .i64 0, .int .i64 0, .slice none 0 0] 24 _ hZ
      rw [e8]
      have T8 : Aside0 (TInv W1 W8 g8 (⟨t, 0, x, ByteArray.empty, 0, 0, false, 0, 0, 0, []⟩ : Fr) none 0) := ⟨⟨q4, qb _ _ hHeld hge, hge⟩⟩
      clear q4 qo qb e8 hZ hge
      refine hK.out _ _ ?_
      clear hK K
      refine done_ (by kernel_rfl) ?_
      repeat (rename World.cell? _ _ = _ ∧ _ => hh; clear hh)
      clear hHeld
      go_upto_region 13 with fail
      refine start_ (n := 9) (S := fun w' => w'.cell? ⟨g8, 0, none⟩ = some (.int .i64 t) ∧ TInv W1 w' g8 (⟨t, 0, x, ByteArray.empty, 0, 0, false, 0, 0, 0, []⟩ : Fr) none 0) (ds := [8]) #[false, false, false, false, false, false, false, false, false] (by kernel_rfl) rfl rfl ⟨(T8.out.below (below_drew (Below.refl _ _))).own.c0, T8.out.below (below_drew (Below.refl _ _))⟩ (fun hHeld => ?_)
      refine pure_ (i := 0) (N := some 41) (v := ?_) (a' := ?_) #[true, false, false, false, false, false, false, false, false] rfl rfl (by kernel_rfl) (fun _ _ _ h => h) (Or.inl ⟨by rfl, ?_⟩) ?_ ?_
      rotate_left
      · intro w'
        go_simp
        with_reducible rfl
      rotate_left
      · simp only [Act.put, List.setIfInBounds_toArray, List.set_cons_zero, List.set_cons_succ, i64_w, i32_w]
        rfl
      refine pure_ (i := 3) (N := some 44) (v := ?_) (a' := ?_) #[true, false, false, true, false, false, false, false, false] rfl rfl (by kernel_rfl) (fun _ _ _ h => h) (Or.inl ⟨by rfl, ?_⟩) ?_ ?_
      rotate_left
      · intro w'
        go_simp
        with_reducible rfl
      rotate_left
      · simp only [Act.put, List.setIfInBounds_toArray, List.set_cons_zero, List.set_cons_succ, i64_w, i32_w]
        rfl
      refine take_ (i := 1) (N := some 42) (v := ?_) (a' := ?_) #[true, true, false, true, false, false, false, false, false] rfl rfl (by kernel_rfl) (fun _ _ _ h => h) (Or.inl ⟨by rfl, ?_⟩) hHeld ?_ ?_
      rotate_left
      · rintro w' ⟨s0, s1⟩
        go_simp
        with_reducible rfl
      rotate_left
      · simp only [Act.put, List.setIfInBounds_toArray, List.set_cons_zero, List.set_cons_succ, i64_w, i32_w]
        rfl
      refine pure_ (i := 2) (N := some 43) (v := ?_) (a' := ?_) #[true, true, true, true, false, false, false, false, false] rfl rfl (by kernel_rfl) (fun _ _ _ h => h) (Or.inl ⟨by rfl, ?_⟩) ?_ ?_
      rotate_left
      · intro w'
        go_simp
        with_reducible rfl
      rotate_left
      · simp only [Act.put, List.setIfInBounds_toArray, List.set_cons_zero, List.set_cons_succ, i64_w, i32_w]
        rfl
      refine take_ (i := 4) (N := some 45) (v := ?_) (a' := ?_) #[true, true, true, true, true, false, false, false, false] rfl rfl (by kernel_rfl) (fun _ _ _ h => h) (Or.inl ⟨by rfl, ?_⟩) hHeld ?_ ?_
      rotate_left
      · rintro w' ⟨s0, s1⟩
        go_simp
        with_reducible rfl
      rotate_left
      · simp only [Act.put, List.setIfInBounds_toArray, List.set_cons_zero, List.set_cons_succ, i64_w, i32_w]
        rfl
      refine one_ (i := 5) (N := some 46) #[true, true, true, true, true, true, false, false, false] rfl rfl (by kernel_rfl) (by decide) (fun K hK => ?_)
      refine goes_ Tryd.func63 (by kernel_rfl) rfl #[.int .i64 t] (by rfl) rfl rfl (by simp only [List.map_toArray, List.map_cons, List.map_nil]; rfl) ?_
      with_reducible refine (flagsR_calls t k _ H0.out HK.out).mono ?_
      rintro e w9 ⟨rfl, hb⟩
      refine ⟨_, rfl, ?_⟩
      refine hK.out _ _ ⟨(hHeld.2.below hb).own.c0, hHeld.2.below hb⟩ (fun hHeld => ?_)
      clear hK K
      refine norm_ (a' := ?_) ?_ ?_
      rotate_left
      · show Act.put _ (some 46) _ = _
        simp only [Act.put, List.setIfInBounds_toArray, List.set_cons_zero, List.set_cons_succ, i64_w, i32_w]
        rfl
      refine pure_ (i := 6) (N := some 47) (v := ?_) (a' := ?_) #[true, true, true, true, true, true, true, false, false] rfl rfl (by kernel_rfl) (fun _ _ _ h => h) (Or.inl ⟨by rfl, ?_⟩) ?_ ?_
      rotate_left
      · intro w'
        go_simp
        with_reducible rfl
      rotate_left
      · simp only [Act.put, List.setIfInBounds_toArray, List.set_cons_zero, List.set_cons_succ, i64_w, i32_w]
        rfl
      refine pure_ (i := 7) (N := some 48) (v := ?_) (a' := ?_) #[true, true, true, true, true, true, true, true, false] rfl rfl (by kernel_rfl) (fun _ _ _ h => h) (Or.inl ⟨by rfl, ?_⟩) ?_ ?_
      rotate_left
      · intro w'
        go_simp
        with_reducible rfl
      rotate_left
      · simp only [Act.put, List.setIfInBounds_toArray, List.set_cons_zero, List.set_cons_succ, i64_w, i32_w]
        rfl
      refine last_ (i := 8) (N := none) #[true, true, true, true, true, true, true, true, true] rfl rfl (by kernel_rfl) (by decide) (fun K hK => ?_)
      have y1 := hHeld.2.own.c1
      have yf1 := blk_frozen hHeld.2.own 1
      have T9 := Aside0.mk hHeld.2
      refine skip_ (w1 := ?_) (by rfl) rfl ?_ ?_
      rotate_left
      · go_simp
        rfl
      clear y1 yf1
      refine hK.out _ _ ?_
      clear hK K
      refine done_ (by kernel_rfl) ?_
      repeat (rename World.cell? _ _ = _ ∧ _ => hh; clear hh)
      go_upto_region 15 with fail
      obtain ⟨W10, hW⟩ : ∃ W, w9.setCell ⟨g8, 1, none⟩ (.int .i64 fl) = W := ⟨_, rfl⟩
      have T : Aside0 (TInv W1 W10 g8 (⟨t, fl, x, ByteArray.empty, 0, 0, false, 0, 0, 0, []⟩ : Fr) none 0) := ⟨by rw [← hW]; exact T9.out.put1 fl⟩
      rw [hW, HPX.out]
      clear hW T9 T8 hw9 hwt hwu ht3 hu4 i9 j9 b5 n3 n4 i3 i4 hfl
      have HSTR : Aside0 (∀ y, stB t x = y → ∀ w, Calls Tryd.prog 64 #[.int .i64 t, .int .i64 x] w fun e w' => e = .returned (.bool y) ∧ Below w.heap.size w w') := ⟨fun y hy w => streamR_calls t x y w H0.out hy⟩
      have HLEN : Aside0 (∀ y, lenR (⟨t, fl, x, ByteArray.empty, 0, 0, false, 0, 0, 0, []⟩ : Fr) p.size = y → ∀ w, Calls Tryd.prog 65 #[.int .i64 t, .int .i64 fl, .int .i64 (p.size : Int)] w fun e w' => e = .returned (.bool y) ∧ Below w.heap.size w w') := ⟨fun y hy w => lenR_calls (⟨t, fl, x, ByteArray.empty, 0, 0, false, 0, 0, 0, []⟩ : Fr) (p.size : Int) y w HHD.out (by omega) hy⟩
      have z0 := T.out.own.c0
      have z2 := T.out.own.c2
      obtain ⟨y, hy⟩ : ∃ y, stB t x = y := ⟨_, rfl⟩
      have HY := Aside0.mk hy
      clear hy
      go_upto_if 58 with (go_at_call 64; refine (HSTR.out y HY.out _).mono ?_; rintro e w11 ⟨rfl, hb⟩; have T2 := Aside0.mk (T.out.below hb); clear hb)
      clear z0 z2 T
      cases y
      · have HV : rdF b most = .bad 1 := by rw [HREF.out.2]; exact if_pos HY.out
        have Y4 := Aside0.mk (Z4.out.low T2.out.low)
        have Y6 := Aside0.mk (blk_below Z6.out T2.out.low)
        have L3 := Aside0.mk (below_then L1.out L1.out.size T2.out.low)
        go_wp2_with (first
            | (refine wpList_store_row rfl 24 _ _ rfl g4 (#[.int .i64 0, .int .i64 0, .int .i64 0, .string ⟨#[]⟩, .int .i64 0, .int .i64 0, .bool false, .int .i64 0, .int .i64 0, .int .i64 0, .slice none 0 0]) rfl rfl 24 _ Y4.out (by kernel_rfl) (by kernel_rfl) (by kernel_rfl) ?_; obtain ⟨W8, e8, q4, qo, qb⟩ := row_store _ g4 (#[.int .i64 0, .int .i64 0, .int .i64 0, .string ⟨#[]⟩, .int .i64 0, .int .i64 0, .bool false, .int .i64 0, .int .i64 0, .int .i64 0, .slice none 0 0]) 24 _ Y4.out; rw [e8]; have Q4 := Aside0.mk q4; have Q6 := Aside0.mk ((qo _ (by have := HG6.out; omega)).trans Y6.out); have QO := Aside0.mk qo; have QL := Aside0.mk (qb _ _ L3.out (by have := HG4.out; omega)); clear q4 qo qb e8)
            | (refine wpList_store_row rfl 35 _ _ rfl g6 #[.int .i64 1, .int .i64 0] rfl rfl 35 _ Q6.out (by kernel_rfl) (by kernel_rfl) (by kernel_rfl) ?_; obtain ⟨W9, e9, p6, po, pb⟩ := row_store _ g6 #[.int .i64 1, .int .i64 0] 35 _ Q6.out; rw [e9]; have R6 := Aside0.mk p6; have R4 := Aside0.mk ((po _ (by have := HG6.out; omega)).trans Q4.out); have PO := Aside0.mk po; have RL := Aside0.mk (pb _ _ QL.out (by have := HG4.out; have := HG6.out; omega)); clear p6 po pb e9))
        exact bodyPost_ret (res21 _ _ g4 g6 Fr.zero none 0 0 1 0 rfl rfl rfl R4.out R6.out) rfl (by rw [← HR.out, HV]; exact RdPost.zero 0 1 0 rfl RL.out)
      have z0 := T2.out.own.c0
      have z1 := T2.out.own.c1
      obtain ⟨y, hy⟩ : ∃ y, lenR (⟨t, fl, x, ByteArray.empty, 0, 0, false, 0, 0, 0, []⟩ : Fr) p.size = y := ⟨_, rfl⟩
      have HYL := Aside0.mk hy
      clear hy
      go_upto_if 68 with (go_at_call 65; refine (HLEN.out y HYL.out _).mono ?_; rintro e w12 ⟨rfl, hb⟩; have T := Aside0.mk (T2.out.below hb); clear hb)
      clear z0 z1 T2
      have HG8 : Aside0 (g6 < g8) := ⟨by have h1 := blk_lt Z6.out; have h2 := T.out.ge; omega⟩
      cases y
      · have z0 := T.out.own.c0
        by_cases t2 : t = 2
        · have t2b : (t == 2) = true := beq_iff_eq.mpr t2
          have HV : Aside0 (R = ⟨Fr.zero, 9 + (p.size : Int), 6, x⟩) := ⟨by rw [← HR.out, HREF.out.2, if_neg (by rw [HY.out]; decide), if_pos HYL.out]; exact if_pos t2⟩
          clear t2
          go_upto_region 19 with fail
          clear z0
          have hw9 : wrap64 (9 + (p.size : Int)) = 9 + (p.size : Int) := by have h1 := HREF.out.1; have h2 := HNQ.out.1; unfold wrap64; omega
          have hD := T.out.below (below_drew (Below.refl _ _))
          have d0 := hD.own.c2
          have d1 := Z4.out.low hD.low
          have d2 := blk_below Z6.out hD.low
          have d3 := below_then L1.out L1.out.size hD.low
          clear hD
          refine start_ (n := 10) (S := fun w' => w'.cell? ⟨g8, 2, none⟩ = some (.int .i64 x) ∧ At w' g4 Fr.zero none 0 ∧ w'.heap[g6]? = some (.cells #[.int .i64 0, .int .i64 0] 35 (0, 0)) ∧ Below w.heap.size w w') (ds := [9]) #[false, false, false, false, false, false, false, false, false, false] (by kernel_rfl) rfl rfl ⟨d0, d1, d2, d3⟩ (fun hHeld => ?_)
          refine pure_ (i := 0) (N := some 72) (v := ?_) (a' := ?_) #[true, false, false, false, false, false, false, false, false, false] rfl rfl (by kernel_rfl) (fun _ _ _ h => h) (Or.inl ⟨by rfl, ?_⟩) ?_ ?_
          rotate_left
          · intro w'
            go_simp
            with_reducible rfl
          rotate_left
          · simp only [Act.put, List.setIfInBounds_toArray, List.set_cons_zero, List.set_cons_succ, i64_w, i32_w]
            rfl
          refine pure_ (i := 1) (N := some 73) (v := ?_) (a' := ?_) #[true, true, false, false, false, false, false, false, false, false] rfl rfl (by kernel_rfl) (fun _ _ _ h => h) (Or.inl ⟨by rfl, ?_⟩) ?_ ?_
          rotate_left
          · intro w'
            go_simp
            with_reducible rfl
          rotate_left
          · simp only [Act.put, List.setIfInBounds_toArray, List.set_cons_zero, List.set_cons_succ, i64_w, i32_w]
            rfl
          refine pure_ (i := 2) (N := some 74) (v := ?_) (a' := ?_) #[true, true, true, false, false, false, false, false, false, false] rfl rfl (by kernel_rfl) (fun _ _ _ h => h) (Or.inl ⟨by rfl, ?_⟩) ?_ ?_
          rotate_left
          · intro w'
            go_simp
            with_reducible rfl
          rotate_left
          · simp only [Act.put, List.setIfInBounds_toArray, List.set_cons_zero, List.set_cons_succ, i64_w, i32_w]
            rfl
          refine pure_ (i := 3) (N := some 75) (v := ?_) (a' := ?_) #[true, true, true, true, false, false, false, false, false, false] rfl rfl (by kernel_rfl) (fun _ _ _ h => h) (Or.inl ⟨by rfl, ?_⟩) ?_ ?_
          rotate_left
          · intro w'
            go_simp
            with_reducible rfl
          rotate_left
          · simp only [Act.put, List.setIfInBounds_toArray, List.set_cons_zero, List.set_cons_succ, i64_w, i32_w]
            rfl
          refine pure_ (i := 4) (N := some 76) (v := ?_) (a' := ?_) #[true, true, true, true, true, false, false, false, false, false] rfl rfl (by kernel_rfl) (fun _ _ _ h => h) (Or.inl ⟨by rfl, ?_⟩) ?_ ?_
          rotate_left
          · intro w'
            go_simp
            with_reducible rfl
          rotate_left
          · simp only [Act.put, List.setIfInBounds_toArray, List.set_cons_zero, List.set_cons_succ, i64_w, i32_w]
            rfl
          refine take_ (i := 5) (N := some 77) (v := ?_) (a' := ?_) #[true, true, true, true, true, true, false, false, false, false] rfl rfl (by kernel_rfl) (fun _ _ _ h => h) (Or.inl ⟨by rfl, ?_⟩) hHeld ?_ ?_
          rotate_left
          · rintro w' ⟨s0, s1, s2, s3⟩
            go_simp
            with_reducible rfl
          rotate_left
          · simp only [Act.put, List.setIfInBounds_toArray, List.set_cons_zero, List.set_cons_succ, i64_w, i32_w]
            rfl
          refine pure_ (i := 6) (N := some 78) (v := ?_) (a' := ?_) #[true, true, true, true, true, true, true, false, false, false] rfl rfl (by kernel_rfl) (fun _ _ _ h => h) (Or.inl ⟨by rfl, ?_⟩) ?_ ?_
          rotate_left
          · intro w'
            go_simp
            with_reducible rfl
          rotate_left
          · simp only [Act.put, List.setIfInBounds_toArray, List.set_cons_zero, List.set_cons_succ, i64_w, i32_w]
            rfl
          refine one_ (i := 7) (N := none) #[true, true, true, true, true, true, true, true, false, false] rfl rfl (by kernel_rfl) (by decide) (fun K hK => ?_)
          refine skip_row 24 _ _ rfl (by rfl) rfl g4 #[.int .i64 0, .int .i64 0, .int .i64 0, .string ⟨#[]⟩, .int .i64 0, .int .i64 0, .bool false, .int .i64 0, .int .i64 0, .int .i64 0, .slice none 0 0] rfl rfl 24 _ hHeld.2.1 (by kernel_rfl) (by kernel_rfl) (by kernel_rfl) ?_
          obtain ⟨W8, e8, q4, qo, qb⟩ := row_store _ g4 #[.int .i64 0, .int .i64 0, .int .i64 0, .string ⟨#[]⟩, .int .i64 0, .int .i64 0, .bool false, .int .i64 0, .int .i64 0, .int .i64 0, .slice none 0 0] 24 _ hHeld.2.1
          rw [e8]
          refine hK.out _ _ ⟨(cell_same (qo g8 (by have := HG8.out; have := HG6.out; omega)) 2).trans hHeld.1, q4, (qo g6 (by have := HG6.out; omega)).trans hHeld.2.2.1, qb _ _ hHeld.2.2.2 (by have := HG4.out; omega)⟩ (fun hHeld => ?_)
          clear hK K
          refine pure_ (i := 8) (N := some 5) (v := ?_) (a' := ?_) #[true, true, true, true, true, true, true, true, true, false] rfl rfl (by kernel_rfl) (fun _ _ _ h => h) (Or.inl ⟨by rfl, ?_⟩) ?_ ?_
          rotate_left
          · intro w'
            go_simp
            with_reducible rfl
          rotate_left
          · simp only [Act.put, List.setIfInBounds_toArray, List.set_cons_zero, List.set_cons_succ, i64_w, i32_w]
            rfl
          refine last_ (i := 9) (N := none) #[true, true, true, true, true, true, true, true, true, true] rfl rfl (by kernel_rfl) (by decide) (fun K hK => ?_)
          refine skip_row 35 _ _ rfl (by rfl) rfl g6 #[.int .i64 6, .int .i64 x] rfl rfl 35 _ hHeld.2.2.1 (by kernel_rfl) (by kernel_rfl) (by kernel_rfl) ?_
          obtain ⟨W9, e9, p6, po, pb⟩ := row_store _ g6 #[.int .i64 6, .int .i64 x] 35 _ hHeld.2.2.1
          rw [e9]
          have R6 := Aside0.mk p6
          have R4 := Aside0.mk ((po _ (by have := HG6.out; omega)).trans hHeld.2.1)
          have RL := Aside0.mk (pb _ _ hHeld.2.2.2 (by have := HG4.out; have := HG6.out; omega))
          refine hK.out _ _ ?_
          clear hK K
          refine done_ (by kernel_rfl) ?_
          clear hHeld
          go_wp2_with fail
          exact bodyPost_ret (res21 _ _ g4 g6 Fr.zero none 0 (9 + (p.size : Int)) 6 x rfl rfl rfl R4.out R6.out) rfl (by rw [HV.out]; exact RdPost.zero _ 6 _ rfl RL.out)
        · have t2b : (t == 2) = false := beq_eq_false_iff_ne.mpr t2
          have HV : rdF b most = .bad 6 := by rw [HREF.out.2, if_neg (by rw [HY.out]; decide), if_pos HYL.out]; exact if_neg t2
          clear t2
          have Y4 := Aside0.mk (Z4.out.low T.out.low)
          have Y6 := Aside0.mk (blk_below Z6.out T.out.low)
          have L3 := Aside0.mk (below_then L1.out L1.out.size T.out.low)
          go_wp2_with (first
              | (refine wpList_store_row rfl 24 _ _ rfl g4 (#[.int .i64 0, .int .i64 0, .int .i64 0, .string ⟨#[]⟩, .int .i64 0, .int .i64 0, .bool false, .int .i64 0, .int .i64 0, .int .i64 0, .slice none 0 0]) rfl rfl 24 _ Y4.out (by kernel_rfl) (by kernel_rfl) (by kernel_rfl) ?_; obtain ⟨W8, e8, q4, qo, qb⟩ := row_store _ g4 (#[.int .i64 0, .int .i64 0, .int .i64 0, .string ⟨#[]⟩, .int .i64 0, .int .i64 0, .bool false, .int .i64 0, .int .i64 0, .int .i64 0, .slice none 0 0]) 24 _ Y4.out; rw [e8]; have Q4 := Aside0.mk q4; have Q6 := Aside0.mk ((qo _ (by have := HG6.out; omega)).trans Y6.out); have QO := Aside0.mk qo; have QL := Aside0.mk (qb _ _ L3.out (by have := HG4.out; omega)); clear q4 qo qb e8)
              | (refine wpList_store_row rfl 35 _ _ rfl g6 #[.int .i64 6, .int .i64 0] rfl rfl 35 _ Q6.out (by kernel_rfl) (by kernel_rfl) (by kernel_rfl) ?_; obtain ⟨W9, e9, p6, po, pb⟩ := row_store _ g6 #[.int .i64 6, .int .i64 0] 35 _ Q6.out; rw [e9]; have R6 := Aside0.mk p6; have R4 := Aside0.mk ((po _ (by have := HG6.out; omega)).trans Q4.out); have PO := Aside0.mk po; have RL := Aside0.mk (pb _ _ QL.out (by have := HG4.out; have := HG6.out; omega)); clear p6 po pb e9))
          exact bodyPost_ret (res21 _ _ g4 g6 Fr.zero none 0 0 6 0 rfl rfl rfl R4.out R6.out) rfl (by rw [← HR.out, HV]; exact RdPost.zero 0 6 0 rfl RL.out)
      have HV : Aside0 (rdRef (⟨t, fl, x, ByteArray.empty, 0, 0, false, 0, 0, 0, []⟩ : Fr) p.size p = R) := ⟨by rw [← HR.out, HREF.out.2, if_neg (by rw [HY.out]; decide), if_neg (by rw [HYL.out]; decide)]⟩
      have HRD : Aside0 (∀ w, Calls Tryd.prog 66 #[.agg #[.int .i64 t, .int .i64 fl, .int .i64 x, .string ⟨#[]⟩, .int .i64 0, .int .i64 0, .bool false, .int .i64 0, .int .i64 0, .int .i64 0, .slice none 0 0], .string p] w fun e w' => RdPost w R e w') := ⟨fun w => by
        rw [← HV.out]
        exact read66_calls (⟨t, fl, x, ByteArray.empty, 0, 0, false, 0, 0, 0, []⟩ : Fr) p w HHD.out rfl (by have h1 := HREF.out.1; have h2 := HNQ.out.1; omega) HYL.out⟩
      go_wp2_with (first
        | (refine wpList_load_row rfl 24 _ rfl g8 rfl 24 #[.int .i64 t, .int .i64 fl, .int .i64 x, .string ⟨#[]⟩, .int .i64 0, .int .i64 0, .bool false, .int .i64 0, .int .i64 0, .int .i64 0, .slice none 0 0] (0, 0) _ T.out.own Tryd.underlying24 (by rfl) (by kernel_rfl) ?_)
        | (go_at_call 66; refine (HRD.out _).mono ?_; rintro e w13 ⟨A, c, rfl, hr, hb⟩; have RR := Aside0.mk hr; have BB := Aside0.mk hb; have Y4 := Aside0.mk (Z4.out.low (T.out.below hb).low); have Y6 := Aside0.mk (blk_below Z6.out (T.out.below hb).low); have L3 := Aside0.mk (below_then L1.out L1.out.size (T.out.below hb).low); clear hb hr)
        | (refine wpList_store_row rfl 24 _ _ rfl g4 (R.fr.cells A c) rfl rfl 24 _ Y4.out (by kernel_rfl) (by kernel_rfl) (by kernel_rfl) ?_; obtain ⟨W8, e8, q4, qo, qb⟩ := row_store _ g4 (R.fr.cells A c) 24 _ Y4.out; rw [e8]; have Q4 := Aside0.mk q4; have Q6 := Aside0.mk ((qo _ (by have := HG6.out; omega)).trans Y6.out); have QO := Aside0.mk qo; have QL := Aside0.mk (qb _ _ L3.out (by have := HG4.out; omega)); clear q4 qo qb e8)
          | (refine wpList_store_row rfl 35 _ _ rfl g6 #[.int .i64 R.code, .int .i64 R.st] rfl rfl 35 _ Q6.out (by kernel_rfl) (by kernel_rfl) (by kernel_rfl) ?_; obtain ⟨W9, e9, p6, po, pb⟩ := row_store _ g6 #[.int .i64 R.code, .int .i64 R.st] 35 _ Q6.out; rw [e9]; have R6 := Aside0.mk p6; have R4 := Aside0.mk ((po _ (by have := HG6.out; omega)).trans Q4.out); have PO := Aside0.mk po; have RL := Aside0.mk (pb _ _ QL.out (by have := HG4.out; have := HG6.out; omega)); clear p6 po pb e9))
      exact bodyPost_ret (res21 _ _ g4 g6 R.fr A c R.no R.code R.st rfl rfl rfl R4.out R6.out) rfl (rd_again rfl RR.out (below_then L1.out L1.out.size T.out.low).size (fun k hk => (PO.out k (by have h1 := blk_lt T.out.own; have h2 := HG8.out; omega)).trans (QO.out k (by have h1 := blk_lt T.out.own; have h2 := HG8.out; have h3 := HG6.out; omega))) RL.out)
end Go.Proofs.YtoffhlbdfhhhjaaDoor.Fr
