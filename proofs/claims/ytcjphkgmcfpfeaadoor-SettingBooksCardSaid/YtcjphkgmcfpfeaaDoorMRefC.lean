/- The document's answer for settings, by hand: Apply answers as 'apply' tells. The package's variable 'top' holds what the program lays. -/
import Derived.Test.YtcjphkgmcfpfeaaDoorMRefB
import Derived.Test.YtcjphkgmcfpfeaaDoorQLx5
namespace Go.Proofs.YtcjphkgmcfpfeaaDoor.MS
open Go Go.RowKit Go.Proofs.YtcjphkgmcfpfeaaDoorW.PrintWords Go.Proofs.YtcjphkgmcfpfeaaDoorW.PrintLast Go.Proofs.YtcjphkgmcfpfeaaDoorW.PrintMore Go.Proofs.YtcjphkgmcfpfeaaDoor.QL
set_option linter.unusedSimpArgs false
set_option linter.unusedVariables false
set_option maxHeartbeats 8000000
set_option maxRecDepth 100000
theorem valid8_f (id v : Int) (cl : Bool) : heraldref08_Valid.f 9 id v cl = some (valid id v cl) := by
  unfold heraldref08_Valid.f valid
  by_cases h1 : id < 0
  · simp [heraldref08_Valid.j0, h1]
  by_cases h2 : 65535 < id
  · simp [heraldref08_Valid.j0, h1, h2]
  by_cases h3 : v < 0
  · simp [heraldref08_Valid.j0, h1, h2, h3]
  by_cases h4 : 4294967295 < v
  · simp [heraldref08_Valid.j0, h1, h2, h3, h4]
  by_cases h5 : id = 2
  · subst h5
    by_cases h6 : 1 < v
    · simp [heraldref08_Valid.j0, heraldref08_Valid.j1, h6, h4]
    by_cases h7 : v = 1
    · subst h7; cases cl <;> simp [heraldref08_Valid.j0, heraldref08_Valid.j1, heraldref08_Valid.j2]
    simp [heraldref08_Valid.j0, heraldref08_Valid.j1, heraldref08_Valid.j2, h3, h4, h6, h7]
  by_cases h6 : id = 4
  · subst h6
    by_cases h7 : 2147483647 < v
    · simp [heraldref08_Valid.j0, heraldref08_Valid.j1, heraldref08_Valid.j2, h3, h4, h7]
    simp [heraldref08_Valid.j0, heraldref08_Valid.j1, heraldref08_Valid.j2, h3, h4, h7]
  by_cases h7 : id = 5
  · subst h7
    by_cases h8 : v < 16384
    · simp [heraldref08_Valid.j0, heraldref08_Valid.j1, heraldref08_Valid.j2, h3, h4, h8]
    by_cases h9 : 16777215 < v
    · simp [heraldref08_Valid.j0, heraldref08_Valid.j1, heraldref08_Valid.j2, h3, h4, h8, h9]
    simp [heraldref08_Valid.j0, heraldref08_Valid.j1, heraldref08_Valid.j2, h3, h4, h8, h9]
  simp [heraldref08_Valid.j0, heraldref08_Valid.j1, heraldref08_Valid.j2, h1, h2, h3, h4, h5, h6, h7]
theorem valid8_calls (id v : Int) (cl : Bool) (x : Int) (hx : valid id v cl = x) (w : World) : Calls Tryd.prog 10 #[.agg #[.int .i64 id, .int .i64 v], .bool cl] w fun e w' => e = .returned (.int .i64 x) ∧ Below w.heap.size w w' := by
  subst hx
  exact heraldref08_Valid.calls 9 id v cl _ w (valid8_f id v cl)
theorem one8_s2 (s : St) (id v : Int) (cl : Bool) (hv : valid id v cl = 0) (s2 : St) (h : put s id v = s2) (w : World) (hT : GT w) : Calls Tryd.prog 38 #[.agg #[.int .i64 s.a, .int .i64 s.b, .int .i64 s.c, .int .i64 s.d, .int .i64 s.e, .int .i64 s.f], .agg #[.int .i64 id, .int .i64 v]] w fun e w' => e = .returned (.agg #[.int .i64 s2.a, .int .i64 s2.b, .int .i64 s2.c, .int .i64 s2.d, .int .i64 s2.e, .int .i64 s2.f]) ∧ Below w.heap.size w w' := by
  subst h
  exact one8_calls s id v cl hv w hT
theorem badL_get (cl : Bool) (l : List S28) (h : badL cl l = false) (n : Nat) (hn : n < l.length) : valid (rd_T28 l (n : Int)).f0 (rd_T28 l (n : Int)).f1 cl = 0 := by
  have h1 := badL_take cl l n hn
  have h2 : ∀ m, badL cl (l.take m) = false := by
    intro m
    have h3 : l = l.take m ++ l.drop m := (List.take_append_drop m l).symm
    have h4 : ∀ a b : List S28, badL cl (a ++ b) = false → badL cl a = false := by
      intro a b hab
      induction a with
      | nil => rfl
      | cons p t ih =>
        rw [List.cons_append, badL_cons] at hab
        rw [badL_cons]
        by_cases hv : valid p.f0 p.f1 cl = 0
        · rw [if_pos hv] at hab ⊢; exact ih hab
        · rw [if_neg hv] at hab; cases hab
    rw [h3] at h
    exact h4 _ _ h
  rw [h2, h2] at h1
  simpa using h1.symm
theorem apply8_calls (s0 : St) (A : Option Addr) (c : Nat) (l : List S28) (cl : Bool) (w : World) (hr : Kd.C k28 w A l.length l) (hc : l.length ≤ c) (hT : GT w) :
    Calls Tryd.prog 12 #[.agg #[.int .i64 s0.a, .int .i64 s0.b, .int .i64 s0.c, .int .i64 s0.d, .int .i64 s0.e, .int .i64 s0.f], .slice A l.length c, .bool cl] w fun e w' => e = .returned (.tuple #[.agg (apply cl s0 l).1.arr, .int .i64 (apply cl s0 l).2]) ∧ Below w.heap.size w w' := by
  have HR := Aside0.mk hr
  have HC := Aside0.mk hc
  have HT := Aside0.mk hT
  have hl63 : l.length ≤ 9223372036854775807 := hr.2.1
  have HB := Aside0.mk (Below.refl w.heap.size w)
  clear hr hc hT
  go_enter Tryd.func12, Tryd.ntmps12
  go_wp2_with fail
  have B3 : Aside0 (((w.alloc (.cells #[.int .i64 s0.a, .int .i64 s0.b, .int .i64 s0.c, .int .i64 s0.d, .int .i64 s0.e, .int .i64 s0.f] 23)).alloc (.cells #[.int .i64 0, .int .i64 0, .int .i64 0, .int .i64 0, .int .i64 0, .int .i64 0] 23)).heap[w.heap.size]? = some (.cells #[.int .i64 s0.a, .int .i64 s0.b, .int .i64 s0.c, .int .i64 s0.d, .int .i64 s0.e, .int .i64 s0.f] 23 (0, 0))) := ⟨blk_alloc (blk_new w _) _⟩
  have B6 : Aside0 (((w.alloc (.cells #[.int .i64 s0.a, .int .i64 s0.b, .int .i64 s0.c, .int .i64 s0.d, .int .i64 s0.e, .int .i64 s0.f] 23)).alloc (.cells #[.int .i64 0, .int .i64 0, .int .i64 0, .int .i64 0, .int .i64 0, .int .i64 0] 23)).heap[w.heap.size + 1]? = some (.cells #[.int .i64 0, .int .i64 0, .int .i64 0, .int .i64 0, .int .i64 0, .int .i64 0] 23 (0, 0))) := ⟨by
    have h := blk_new (w.alloc (.cells #[.int .i64 s0.a, .int .i64 s0.b, .int .i64 s0.c, .int .i64 s0.d, .int .i64 s0.e, .int .i64 s0.f] 23)) (.cells #[.int .i64 0, .int .i64 0, .int .i64 0, .int .i64 0, .int .i64 0, .int .i64 0] 23)
    rwa [World.size_alloc] at h⟩
  have LS : Aside0 (Below w.heap.size w ((w.alloc (.cells #[.int .i64 s0.a, .int .i64 s0.b, .int .i64 s0.c, .int .i64 s0.d, .int .i64 s0.e, .int .i64 s0.f] 23)).alloc (.cells #[.int .i64 0, .int .i64 0, .int .i64 0, .int .i64 0, .int .i64 0, .int .i64 0] 23))) := ⟨below_alloc (below_alloc HB.out _) _⟩
  generalize hWs : (w.alloc (.cells #[.int .i64 s0.a, .int .i64 s0.b, .int .i64 s0.c, .int .i64 s0.d, .int .i64 s0.e, .int .i64 s0.f] 23)).alloc (.cells #[.int .i64 0, .int .i64 0, .int .i64 0, .int .i64 0, .int .i64 0, .int .i64 0] 23) = Ws at B3 B6 LS ⊢
  clear hWs
  go_loopw [8] (fun i w' => ∃ (n : Nat) (sn : St), n ≤ l.length ∧ i = .int .i64 n ∧ Aside0 (apply cl sn (l.drop n) = apply cl s0 l) ∧ Aside0 (badL cl (l.take n) = false) ∧ Aside0 (Below Ws.heap.size Ws w')) (fun i _ => l.length - (intOf i).toNat)
  case atStart => exact ⟨0, s0, Nat.zero_le _, rfl, ⟨rfl⟩, ⟨rfl⟩, ⟨Below.refl _ _⟩⟩
  case round =>
    obtain ⟨n, sn, hn, rfl, HA, HK, HX⟩ := hrel
    have HW := Aside0.mk (below_then LS.out LS.out.size HX.out)
    by_cases hlt : n < l.length
    · have p0 : (0 : Int) ≤ n := by omega
      have q0 : (n : Int) < (l.length : Int) := by omega
      obtain ⟨ad, e0, y0, y1⟩ := at_T28 HR.out n p0 q0
      cases e0
      replace y0 := (HW.out.cell (World.block_lt_of_cell? w _ y0)).trans y0
      replace y1 := (HW.out.cell (World.block_lt_of_cell? w _ y1)).trans y1
      have hst := badL_take cl l n hlt
      obtain ⟨id, hid⟩ : ∃ K, (rd_T28 l (n : Int)).f0 = K := ⟨_, rfl⟩
      obtain ⟨v, hv⟩ : ∃ K, (rd_T28 l (n : Int)).f1 = K := ⟨_, rfl⟩
      have HI := Aside0.mk hid
      have HV := Aside0.mk hv
      simp only [Int.toNat_natCast] at y0 y1
      rw [hid] at y0 hst
      rw [hv] at y1 hst
      have HST := Aside0.mk hst
      clear hid hv hst
      obtain ⟨x, hx⟩ : ∃ x, valid id v cl = x := ⟨_, rfl⟩
      have HX9 := Aside0.mk hx
      by_cases hz : x = 0
      · subst hz
        clear hx
        go_wp2_with (first
          | (go_at_call 10; (with_reducible refine (valid8_calls id v cl 0 HX9.out _).mono ?_); rintro e w4 ⟨rfl, hb⟩; have HB4 := Aside0.mk hb; clear hb))
        go_roundw
        case rel =>
          refine ⟨n + 1, put sn id v, by omega, by go_num, ⟨?_⟩, ⟨by rw [HST.out, HK.out, HX9.out]; rfl⟩, ⟨below_then HX.out HX.out.size HB4.out⟩⟩
          rw [← HA.out]
          have h := apply_step cl sn l n hlt (by rw [HI.out, HV.out]; exact HX9.out)
          rw [HI.out, HV.out] at h
          exact h.symm
        case measure => simp [intOf]; omega
      · have hzb : (x == 0) = false := beq_eq_false_iff_ne.mpr hz
        have HZ := Aside0.mk hz
        clear hz hx
        go_upto_region 6 with (first
          | (go_at_call 10; (with_reducible refine (valid8_calls id v cl x HX9.out _).mono ?_); rintro e w4 ⟨rfl, hb⟩; have HB4 := Aside0.mk hb; clear hb))
        have B64 := Aside0.mk (blk_below (blk_below B6.out HX.out) HB4.out)
        have hres : apply cl s0 l = (St.zero, x) := by
          rw [← HA.out, apply_stop cl sn l n hlt (by rw [HI.out, HV.out, HX9.out]; exact HZ.out), HI.out, HV.out, HX9.out]
        have HRES := Aside0.mk hres
        clear hres
        have z0 : w4.cell? ⟨w.heap.size + 1, 0, none⟩ = some (.int .i64 0) := blk_cell B64.out 0
        have z1 : w4.cell? ⟨w.heap.size + 1, 1, none⟩ = some (.int .i64 0) := blk_cell B64.out 1
        have z2 : w4.cell? ⟨w.heap.size + 1, 2, none⟩ = some (.int .i64 0) := blk_cell B64.out 2
        have z3 : w4.cell? ⟨w.heap.size + 1, 3, none⟩ = some (.int .i64 0) := blk_cell B64.out 3
        have z4 : w4.cell? ⟨w.heap.size + 1, 4, none⟩ = some (.int .i64 0) := blk_cell B64.out 4
        have z5 : w4.cell? ⟨w.heap.size + 1, 5, none⟩ = some (.int .i64 0) := blk_cell B64.out 5
        have zf0 : w4.frozen? ⟨w.heap.size + 1, 0, none⟩ = false := blk_frozen B64.out 0
        have zf1 : w4.frozen? ⟨w.heap.size + 1, 1, none⟩ = false := blk_frozen B64.out 1
        have zf2 : w4.frozen? ⟨w.heap.size + 1, 2, none⟩ = false := blk_frozen B64.out 2
        have zf3 : w4.frozen? ⟨w.heap.size + 1, 3, none⟩ = false := blk_frozen B64.out 3
        have zf4 : w4.frozen? ⟨w.heap.size + 1, 4, none⟩ = false := blk_frozen B64.out 4
        have zf5 : w4.frozen? ⟨w.heap.size + 1, 5, none⟩ = false := blk_frozen B64.out 5
        go_wp2_with fail
        refine bodyPost_ret (v := .tuple #[.agg St.zero.arr, .int .i64 x]) (by simp [results, Tryd.results12, go_sem, St.arr, St.zero, *]) rfl ⟨by rw [HRES.out], ?_⟩
        exact (((((((below_then HW.out HW.out.size HB4.out).setCell (p := ⟨w.heap.size + 1, 0, none⟩) (by show w.heap.size ≤ w.heap.size + 1; omega) _).setCell (p := ⟨w.heap.size + 1, 1, none⟩) (by show w.heap.size ≤ w.heap.size + 1; omega) _).setCell (p := ⟨w.heap.size + 1, 2, none⟩) (by show w.heap.size ≤ w.heap.size + 1; omega) _).setCell (p := ⟨w.heap.size + 1, 3, none⟩) (by show w.heap.size ≤ w.heap.size + 1; omega) _).setCell (p := ⟨w.heap.size + 1, 4, none⟩) (by show w.heap.size ≤ w.heap.size + 1; omega) _).setCell (p := ⟨w.heap.size + 1, 5, none⟩) (by show w.heap.size ≤ w.heap.size + 1; omega) _)
    · have hlt2 : decide ((n : Int) < (l.length : Int)) = false := decide_eq_false (by omega)
      have HBAD : Aside0 (badL cl l = false) := ⟨by have h := HK.out; rwa [show n = l.length by omega, List.take_length] at h⟩
      have B3' := Aside0.mk (blk_below B3.out HX.out)
      have B6' := Aside0.mk (blk_below B6.out HX.out)
      have HW0 := HW
      clear HX HW HA HK
      go_wp2_with fail
      clear hlt hlt2 hn
      go_loopw [10] (fun i w' => ∃ (n : Nat) (s : St), n ≤ l.length ∧ i = .int .i64 n ∧ Aside0 (apply cl s (l.drop n) = apply cl s0 l) ∧ Aside0 (w'.heap[w.heap.size]? = some (.cells #[.int .i64 s.a, .int .i64 s.b, .int .i64 s.c, .int .i64 s.d, .int .i64 s.e, .int .i64 s.f] 23 (0, 0))) ∧ Aside0 (w'.heap[w.heap.size + 1]? = some (.cells #[.int .i64 0, .int .i64 0, .int .i64 0, .int .i64 0, .int .i64 0, .int .i64 0] 23 (0, 0))) ∧ Aside0 (Below w.heap.size w w')) (fun i _ => l.length - (intOf i).toNat)
      case atStart => exact ⟨0, s0, Nat.zero_le _, rfl, ⟨rfl⟩, B3', B6', HW0⟩
      case round =>
      clear B3' B6' HW0
      obtain ⟨n, s, hn, rfl, HA, B3r, B6r, HW⟩ := hrel
      by_cases hlt : n < l.length
      · skip
        have p0 : (0 : Int) ≤ n := by omega
        have q0 : (n : Int) < (l.length : Int) := by omega
        obtain ⟨ad, e0, y0, y1⟩ := at_T28 HR.out n p0 q0
        cases e0
        replace y0 := (HW.out.cell (World.block_lt_of_cell? w _ y0)).trans y0
        replace y1 := (HW.out.cell (World.block_lt_of_cell? w _ y1)).trans y1
        have hvv := badL_get cl l HBAD.out n hlt
        have hst := apply_step cl s l n hlt hvv
        obtain ⟨id, hid⟩ : ∃ K, (rd_T28 l (n : Int)).f0 = K := ⟨_, rfl⟩
        obtain ⟨v, hv⟩ : ∃ K, (rd_T28 l (n : Int)).f1 = K := ⟨_, rfl⟩
        simp only [Int.toNat_natCast] at y0 y1
        rw [hid] at y0 hvv hst
        rw [hv] at y1 hvv hst
        obtain ⟨s2, hs2⟩ : ∃ q, put s id v = q := ⟨_, rfl⟩
        rw [hs2] at hst
        have HS2 := Aside0.mk hs2
        have HV0 := Aside0.mk hvv
        have HST := Aside0.mk hst
        clear hid hv hvv hst hs2
        go_upto_region 10 with fail
        have d0 : wr.cell? ⟨w.heap.size, 0, none⟩ = some (.int .i64 s.a) := blk_cell B3r.out 0
        have d1 : wr.cell? ⟨w.heap.size, 1, none⟩ = some (.int .i64 s.b) := blk_cell B3r.out 1
        have d2 : wr.cell? ⟨w.heap.size, 2, none⟩ = some (.int .i64 s.c) := blk_cell B3r.out 2
        have d3 : wr.cell? ⟨w.heap.size, 3, none⟩ = some (.int .i64 s.d) := blk_cell B3r.out 3
        have d4 : wr.cell? ⟨w.heap.size, 4, none⟩ = some (.int .i64 s.e) := blk_cell B3r.out 4
        have d5 : wr.cell? ⟨w.heap.size, 5, none⟩ = some (.int .i64 s.f) := blk_cell B3r.out 5
        have d6 : wr.frozen? ⟨w.heap.size, 0, none⟩ = false := blk_frozen B3r.out 0
        have d7 : wr.frozen? ⟨w.heap.size, 1, none⟩ = false := blk_frozen B3r.out 1
        have d8 : wr.frozen? ⟨w.heap.size, 2, none⟩ = false := blk_frozen B3r.out 2
        have d9 : wr.frozen? ⟨w.heap.size, 3, none⟩ = false := blk_frozen B3r.out 3
        have d10 : wr.frozen? ⟨w.heap.size, 4, none⟩ = false := blk_frozen B3r.out 4
        have d11 : wr.frozen? ⟨w.heap.size, 5, none⟩ = false := blk_frozen B3r.out 5
        have d12 : wr.cell? (ad.add (n * 2)) = some (.int .i64 id) := y0
        have d13 : wr.cell? ⟨(ad.add (n * 2)).block, (ad.add (n * 2)).off + 1, none⟩ = some (.int .i64 v) := y1
        have d14 : GT wr.drew := (HT.out.below HW.out).below (below_drew (Below.refl _ _))
        refine start_ (n := 7) (S := fun w' => w'.cell? ⟨w.heap.size, 0, none⟩ = some (.int .i64 s.a) ∧ w'.cell? ⟨w.heap.size, 1, none⟩ = some (.int .i64 s.b) ∧ w'.cell? ⟨w.heap.size, 2, none⟩ = some (.int .i64 s.c) ∧ w'.cell? ⟨w.heap.size, 3, none⟩ = some (.int .i64 s.d) ∧ w'.cell? ⟨w.heap.size, 4, none⟩ = some (.int .i64 s.e) ∧ w'.cell? ⟨w.heap.size, 5, none⟩ = some (.int .i64 s.f) ∧ w'.frozen? ⟨w.heap.size, 0, none⟩ = false ∧ w'.frozen? ⟨w.heap.size, 1, none⟩ = false ∧ w'.frozen? ⟨w.heap.size, 2, none⟩ = false ∧ w'.frozen? ⟨w.heap.size, 3, none⟩ = false ∧ w'.frozen? ⟨w.heap.size, 4, none⟩ = false ∧ w'.frozen? ⟨w.heap.size, 5, none⟩ = false ∧ w'.cell? (ad.add (n * 2)) = some (.int .i64 id) ∧ w'.cell? ⟨(ad.add (n * 2)).block, (ad.add (n * 2)).off + 1, none⟩ = some (.int .i64 v) ∧ GT w') (ds := [6]) #[false, false, false, false, false, false, false] (by kernel_rfl) rfl rfl ⟨d0, d1, d2, d3, d4, d5, d6, d7, d8, d9, d10, d11, d12, d13, d14⟩ (fun hHeld => ?_)
        refine pure_ (i := 1) (N := some 34) (v := ?_) (a' := ?_) #[false, true, false, false, false, false, false] rfl rfl (by kernel_rfl) (fun _ _ _ h => h) (Or.inl ⟨by rfl, ?_⟩) ?_ ?_
        rotate_left
        · intro w'
          go_simp
          with_reducible rfl
        rotate_left
        · simp only [Act.put, List.setIfInBounds_toArray, List.set_cons_zero, List.set_cons_succ, i64_w, i32_w]
          rfl
        refine pure_ (i := 2) (N := some 35) (v := ?_) (a' := ?_) #[false, true, true, false, false, false, false] rfl rfl (by kernel_rfl) (fun _ _ _ h => h) (Or.inl ⟨by rfl, ?_⟩) ?_ ?_
        rotate_left
        · intro w'
          go_simp
          with_reducible rfl
        rotate_left
        · simp only [Act.put, List.setIfInBounds_toArray, List.set_cons_zero, List.set_cons_succ, i64_w, i32_w]
          rfl
        refine pure_ (i := 3) (N := some 36) (v := ?_) (a' := ?_) #[false, true, true, true, false, false, false] rfl rfl (by kernel_rfl) (fun _ _ _ h => h) (Or.inl ⟨by rfl, ?_⟩) ?_ ?_
        rotate_left
        · intro w'
          go_simp
          with_reducible rfl
        rotate_left
        · simp only [Act.put, List.setIfInBounds_toArray, List.set_cons_zero, List.set_cons_succ, i64_w, i32_w]
          rfl
        refine take_ (i := 0) (N := some 33) (v := ?_) (a' := ?_) #[true, true, true, true, false, false, false] rfl rfl (by kernel_rfl) (fun _ _ _ h => h) (Or.inl ⟨by rfl, ?_⟩) hHeld ?_ ?_
        rotate_left
        · rintro w' ⟨s0, s1, s2, s3, s4, s5, s6, s7, s8, s9, s10, s11, s12, s13, s14⟩
          go_simp
          with_reducible rfl
        rotate_left
        · simp only [Act.put, List.setIfInBounds_toArray, List.set_cons_zero, List.set_cons_succ, i64_w, i32_w]
          rfl
        refine take_ (i := 4) (N := some 37) (v := ?_) (a' := ?_) #[true, true, true, true, true, false, false] rfl rfl (by kernel_rfl) (fun _ _ _ h => h) (Or.inl ⟨by rfl, ?_⟩) hHeld ?_ ?_
        rotate_left
        · rintro w' ⟨s0, s1, s2, s3, s4, s5, s6, s7, s8, s9, s10, s11, s12, s13, s14⟩
          go_simp
          with_reducible rfl
        rotate_left
        · simp only [Act.put, List.setIfInBounds_toArray, List.set_cons_zero, List.set_cons_succ, i64_w, i32_w]
          rfl
        refine one_ (i := 5) (N := some 38) #[true, true, true, true, true, true, false] rfl rfl (by kernel_rfl) (by decide) (fun K hK => ?_)
        refine goes_ Tryd.func38 (by kernel_rfl) rfl #[.agg #[.int .i64 s.a, .int .i64 s.b, .int .i64 s.c, .int .i64 s.d, .int .i64 s.e, .int .i64 s.f], .agg #[.int .i64 id, .int .i64 v]] (by rfl) rfl rfl (by simp only [List.map_toArray, List.map_cons, List.map_nil]; rfl) ?_
        with_reducible refine (one8_s2 s id v cl HV0.out s2 HS2.out _ hHeld.2.2.2.2.2.2.2.2.2.2.2.2.2.2).mono ?_
        rintro e w38 ⟨rfl, hb⟩
        refine ⟨_, rfl, ?_⟩
        have HB38 := Aside0.mk hb
        clear hb
        refine hK.out _ _ ⟨(HB38.out.cell (World.block_lt_of_cell? _ _ hHeld.1)).trans hHeld.1, (HB38.out.cell (World.block_lt_of_cell? _ _ hHeld.2.1)).trans hHeld.2.1, (HB38.out.cell (World.block_lt_of_cell? _ _ hHeld.2.2.1)).trans hHeld.2.2.1, (HB38.out.cell (World.block_lt_of_cell? _ _ hHeld.2.2.2.1)).trans hHeld.2.2.2.1, (HB38.out.cell (World.block_lt_of_cell? _ _ hHeld.2.2.2.2.1)).trans hHeld.2.2.2.2.1, (HB38.out.cell (World.block_lt_of_cell? _ _ hHeld.2.2.2.2.2.1)).trans hHeld.2.2.2.2.2.1, (HB38.out.frozen (p := ⟨w.heap.size, 0, none⟩) (World.block_lt_of_cell? _ _ hHeld.1)).trans hHeld.2.2.2.2.2.2.1, (HB38.out.frozen (p := ⟨w.heap.size, 1, none⟩) (World.block_lt_of_cell? _ _ hHeld.2.1)).trans hHeld.2.2.2.2.2.2.2.1, (HB38.out.frozen (p := ⟨w.heap.size, 2, none⟩) (World.block_lt_of_cell? _ _ hHeld.2.2.1)).trans hHeld.2.2.2.2.2.2.2.2.1, (HB38.out.frozen (p := ⟨w.heap.size, 3, none⟩) (World.block_lt_of_cell? _ _ hHeld.2.2.2.1)).trans hHeld.2.2.2.2.2.2.2.2.2.1, (HB38.out.frozen (p := ⟨w.heap.size, 4, none⟩) (World.block_lt_of_cell? _ _ hHeld.2.2.2.2.1)).trans hHeld.2.2.2.2.2.2.2.2.2.2.1, (HB38.out.frozen (p := ⟨w.heap.size, 5, none⟩) (World.block_lt_of_cell? _ _ hHeld.2.2.2.2.2.1)).trans hHeld.2.2.2.2.2.2.2.2.2.2.2.1, (HB38.out.cell (World.block_lt_of_cell? _ _ hHeld.2.2.2.2.2.2.2.2.2.2.2.2.1)).trans hHeld.2.2.2.2.2.2.2.2.2.2.2.2.1, (HB38.out.cell (World.block_lt_of_cell? _ _ hHeld.2.2.2.2.2.2.2.2.2.2.2.2.2.1)).trans hHeld.2.2.2.2.2.2.2.2.2.2.2.2.2.1, GT.below hHeld.2.2.2.2.2.2.2.2.2.2.2.2.2.2 HB38.out⟩ (fun hHeld => ?_)
        clear hK K
        refine norm_ (a' := ?_) ?_ ?_
        rotate_left
        · show Act.put _ (some 38) _ = _
          simp only [Act.put, List.setIfInBounds_toArray, List.set_cons_zero, List.set_cons_succ, i64_w, i32_w]
          rfl
        refine last_ (i := 6) (N := none) #[true, true, true, true, true, true, true] rfl rfl (by kernel_rfl) (by decide) (fun K hK => ?_)
        refine skip_ (w1 := ?_) (by rfl) rfl ?_ ?_
        rotate_left
        · go_simp
          rfl
        refine hK.out _ _ ?_
        clear hK K
        refine done_ (by kernel_rfl) ?_
        have B38 : Aside0 (Below wr.heap.size wr w38) := ⟨below_then (below_drew (Below.refl _ _)) (Nat.le_refl _) HB38.out⟩
        generalize hWn : ((((((w38.setCell ⟨w.heap.size, 0, none⟩ (.int .i64 s2.a)).setCell ⟨w.heap.size, 1, none⟩ (.int .i64 s2.b)).setCell ⟨w.heap.size, 2, none⟩ (.int .i64 s2.c)).setCell ⟨w.heap.size, 3, none⟩ (.int .i64 s2.d)).setCell ⟨w.heap.size, 4, none⟩ (.int .i64 s2.e)).setCell ⟨w.heap.size, 5, none⟩ (.int .i64 s2.f)) = Wn
        have B3n : Aside0 (Wn.heap[w.heap.size]? = some (.cells #[.int .i64 s2.a, .int .i64 s2.b, .int .i64 s2.c, .int .i64 s2.d, .int .i64 s2.e, .int .i64 s2.f] 23 (0, 0))) := ⟨by rw [← hWn]; simpa using (blk_set (blk_set (blk_set (blk_set (blk_set (blk_set (blk_below B3r.out B38.out) 0 (.int .i64 s2.a)) 1 (.int .i64 s2.b)) 2 (.int .i64 s2.c)) 3 (.int .i64 s2.d)) 4 (.int .i64 s2.e)) 5 (.int .i64 s2.f))⟩
        have B6n : Aside0 (Wn.heap[w.heap.size + 1]? = some (.cells #[.int .i64 0, .int .i64 0, .int .i64 0, .int .i64 0, .int .i64 0, .int .i64 0] 23 (0, 0))) := ⟨by rw [← hWn]; exact (blk_far (p := ⟨w.heap.size, 5, none⟩) (blk_far (p := ⟨w.heap.size, 4, none⟩) (blk_far (p := ⟨w.heap.size, 3, none⟩) (blk_far (p := ⟨w.heap.size, 2, none⟩) (blk_far (p := ⟨w.heap.size, 1, none⟩) (blk_far (p := ⟨w.heap.size, 0, none⟩) (blk_below B6r.out B38.out) (by simp) _) (by simp) _) (by simp) _) (by simp) _) (by simp) _) (by simp) _)⟩
        have HWn : Aside0 (Below w.heap.size w Wn) := ⟨by rw [← hWn]; exact (((((((below_then HW.out HW.out.size B38.out).setCell (p := ⟨w.heap.size, 0, none⟩) (Nat.le_refl _) _).setCell (p := ⟨w.heap.size, 1, none⟩) (Nat.le_refl _) _).setCell (p := ⟨w.heap.size, 2, none⟩) (Nat.le_refl _) _).setCell (p := ⟨w.heap.size, 3, none⟩) (Nat.le_refl _) _).setCell (p := ⟨w.heap.size, 4, none⟩) (Nat.le_refl _) _).setCell (p := ⟨w.heap.size, 5, none⟩) (Nat.le_refl _) _)⟩
        clear hWn
        go_wp2_with fail
        go_roundw
        case rel => exact ⟨n + 1, s2, by omega, by go_num, ⟨by rw [← HA.out, HST.out]⟩, B3n, B6n, HWn⟩
        case measure => simp [intOf]; omega
      · have hlt2 : decide ((n : Int) < (l.length : Int)) = false := decide_eq_false (by omega)
        have hres : apply cl s0 l = (s, 0) := by rw [← HA.out, show n = l.length by omega, List.drop_length]; rfl
        have HRES := Aside0.mk hres
        clear hres
        have x0 : wr.cell? ⟨w.heap.size, 0, none⟩ = some (.int .i64 s.a) := blk_cell B3r.out 0
        have x1 : wr.cell? ⟨w.heap.size, 1, none⟩ = some (.int .i64 s.b) := blk_cell B3r.out 1
        have x2 : wr.cell? ⟨w.heap.size, 2, none⟩ = some (.int .i64 s.c) := blk_cell B3r.out 2
        have x3 : wr.cell? ⟨w.heap.size, 3, none⟩ = some (.int .i64 s.d) := blk_cell B3r.out 3
        have x4 : wr.cell? ⟨w.heap.size, 4, none⟩ = some (.int .i64 s.e) := blk_cell B3r.out 4
        have x5 : wr.cell? ⟨w.heap.size, 5, none⟩ = some (.int .i64 s.f) := blk_cell B3r.out 5
        have y0 : wr.cell? ⟨w.heap.size + 1, 0, none⟩ = some (.int .i64 0) := blk_cell B6r.out 0
        have y1 : wr.cell? ⟨w.heap.size + 1, 1, none⟩ = some (.int .i64 0) := blk_cell B6r.out 1
        have y2 : wr.cell? ⟨w.heap.size + 1, 2, none⟩ = some (.int .i64 0) := blk_cell B6r.out 2
        have y3 : wr.cell? ⟨w.heap.size + 1, 3, none⟩ = some (.int .i64 0) := blk_cell B6r.out 3
        have y4 : wr.cell? ⟨w.heap.size + 1, 4, none⟩ = some (.int .i64 0) := blk_cell B6r.out 4
        have y5 : wr.cell? ⟨w.heap.size + 1, 5, none⟩ = some (.int .i64 0) := blk_cell B6r.out 5
        have yf0 : wr.frozen? ⟨w.heap.size + 1, 0, none⟩ = false := blk_frozen B6r.out 0
        have yf1 : wr.frozen? ⟨w.heap.size + 1, 1, none⟩ = false := blk_frozen B6r.out 1
        have yf2 : wr.frozen? ⟨w.heap.size + 1, 2, none⟩ = false := blk_frozen B6r.out 2
        have yf3 : wr.frozen? ⟨w.heap.size + 1, 3, none⟩ = false := blk_frozen B6r.out 3
        have yf4 : wr.frozen? ⟨w.heap.size + 1, 4, none⟩ = false := blk_frozen B6r.out 4
        have yf5 : wr.frozen? ⟨w.heap.size + 1, 5, none⟩ = false := blk_frozen B6r.out 5
        go_wp2_with fail
        refine bodyPost_ret (v := .tuple #[.agg s.arr, .int .i64 0]) (by simp [results, Tryd.results12, go_sem, St.arr, *]) rfl ⟨by rw [HRES.out], ?_⟩
        exact ((((((HW.out.setCell (p := ⟨w.heap.size + 1, 0, none⟩) (by show w.heap.size ≤ w.heap.size + 1; omega) _).setCell (p := ⟨w.heap.size + 1, 1, none⟩) (by show w.heap.size ≤ w.heap.size + 1; omega) _).setCell (p := ⟨w.heap.size + 1, 2, none⟩) (by show w.heap.size ≤ w.heap.size + 1; omega) _).setCell (p := ⟨w.heap.size + 1, 3, none⟩) (by show w.heap.size ≤ w.heap.size + 1; omega) _).setCell (p := ⟨w.heap.size + 1, 4, none⟩) (by show w.heap.size ≤ w.heap.size + 1; omega) _).setCell (p := ⟨w.heap.size + 1, 5, none⟩) (by show w.heap.size ≤ w.heap.size + 1; omega) _)
end Go.Proofs.YtcjphkgmcfpfeaaDoor.MS
