/- The document's answer for settings, by hand: Params lists the fields that differ. No condition but those in each statement. -/
import Derived.Test.YtcjphkgmcfpfeaaDoorMRefA
import Derived.BigQuiet
import Derived.StillTailTactics
namespace Go.Proofs.YtcjphkgmcfpfeaaDoor.MS
open Go Go.RowKit Go.Proofs.YtcjphkgmcfpfeaaDoorW.PrintWords Go.Proofs.YtcjphkgmcfpfeaaDoorW.PrintLast Go.Proofs.YtcjphkgmcfpfeaaDoorW.PrintMore Go.Proofs.YtcjphkgmcfpfeaaDoor.QL
set_option linter.unusedSimpArgs false
set_option linter.unusedVariables false
set_option maxHeartbeats 8000000
set_option maxRecDepth 100000
theorem params8_calls (s t : St) (cl : Bool) (w : World) :
    Calls Tryd.prog 18 #[.agg #[.int .i64 s.a, .int .i64 s.b, .int .i64 s.c, .int .i64 s.d, .int .i64 s.e, .int .i64 s.f], .agg #[.int .i64 t.a, .int .i64 t.b, .int .i64 t.c, .int .i64 t.d, .int .i64 t.e, .int .i64 t.f], .bool cl] w fun e w' => ∃ v0_ : Value, e = .returned v0_ ∧ Kd.R k28 28 w' w.heap.size (fun _ => True) v0_ (params cl s t 6) ∧ Below w.heap.size w w' := by
  have HB := Aside0.mk (Below.refl w.heap.size w)
  go_enter Tryd.func18, Tryd.ntmps18
  go_upto_region 1 with fail
  obtain ⟨Ws, hWs⟩ : ∃ W, (w.alloc (.cells #[.int .i64 s.a, .int .i64 s.b, .int .i64 s.c, .int .i64 s.d, .int .i64 s.e, .int .i64 s.f] 23)).alloc (.cells #[.int .i64 t.a, .int .i64 t.b, .int .i64 t.c, .int .i64 t.d, .int .i64 t.e, .int .i64 t.f] 23) = W := ⟨_, rfl⟩
  have B3 : Aside0 (Ws.heap[w.heap.size]? = some (.cells #[.int .i64 s.a, .int .i64 s.b, .int .i64 s.c, .int .i64 s.d, .int .i64 s.e, .int .i64 s.f] 23 (0, 0))) := ⟨by rw [← hWs]; exact blk_alloc (blk_new w _) _⟩
  have B4 : Aside0 (Ws.heap[w.heap.size + 1]? = some (.cells #[.int .i64 t.a, .int .i64 t.b, .int .i64 t.c, .int .i64 t.d, .int .i64 t.e, .int .i64 t.f] 23 (0, 0))) := ⟨by
    rw [← hWs]
    have h := blk_new (w.alloc (.cells #[.int .i64 s.a, .int .i64 s.b, .int .i64 s.c, .int .i64 s.d, .int .i64 s.e, .int .i64 s.f] 23)) (.cells #[.int .i64 t.a, .int .i64 t.b, .int .i64 t.c, .int .i64 t.d, .int .i64 t.e, .int .i64 t.f] 23)
    rwa [World.size_alloc] at h⟩
  have LS : Aside0 (Below w.heap.size w Ws) := ⟨by rw [← hWs]; exact below_alloc (below_alloc HB.out _) _⟩
  rw [hWs]
  clear hWs
  have z0 : Ws.cell? ⟨w.heap.size, 0, none⟩ = some (.int .i64 s.a) := blk_cell B3.out 0
  have z1 : Ws.cell? ⟨w.heap.size, 1, none⟩ = some (.int .i64 s.b) := blk_cell B3.out 1
  have z2 : Ws.cell? ⟨w.heap.size, 2, none⟩ = some (.int .i64 s.c) := blk_cell B3.out 2
  have z3 : Ws.cell? ⟨w.heap.size, 3, none⟩ = some (.int .i64 s.d) := blk_cell B3.out 3
  have z4 : Ws.cell? ⟨w.heap.size, 4, none⟩ = some (.int .i64 s.e) := blk_cell B3.out 4
  have z5 : Ws.cell? ⟨w.heap.size, 5, none⟩ = some (.int .i64 s.f) := blk_cell B3.out 5
  go_upto_region 2 with (first
    | (go_at_call 39; refine (six_calls s _).mono ?_; rintro e w1 ⟨rfl, hb⟩; have HB1 := Aside0.mk hb; clear hb))
  clear z0 z1 z2 z3 z4 z5
  obtain ⟨Wt, hWt⟩ : ∃ W, w1.alloc (.cells #[.int .i64 s.a, .int .i64 s.b, .int .i64 s.c, .int .i64 s.d, .int .i64 s.e, .int .i64 s.f] 66) = W := ⟨_, rfl⟩
  obtain ⟨b7, hb7⟩ : ∃ x, w1.heap.size = x := ⟨_, rfl⟩
  have X1 : Aside0 (Below Ws.heap.size Ws Wt) := ⟨by rw [← hWt]; exact below_alloc HB1.out _⟩
  have B7 : Aside0 (Wt.heap[b7]? = some (.cells #[.int .i64 s.a, .int .i64 s.b, .int .i64 s.c, .int .i64 s.d, .int .i64 s.e, .int .i64 s.f] 66 (0, 0))) := ⟨by rw [← hWt, ← hb7]; exact blk_new w1 _⟩
  have B4t := Aside0.mk (blk_below B4.out X1.out)
  have LT := Aside0.mk (below_then LS.out LS.out.size X1.out)
  rw [hWt, hb7]
  clear hWt hb7 HB1
  have z0 : Wt.cell? ⟨w.heap.size + 1, 0, none⟩ = some (.int .i64 t.a) := blk_cell B4t.out 0
  have z1 : Wt.cell? ⟨w.heap.size + 1, 1, none⟩ = some (.int .i64 t.b) := blk_cell B4t.out 1
  have z2 : Wt.cell? ⟨w.heap.size + 1, 2, none⟩ = some (.int .i64 t.c) := blk_cell B4t.out 2
  have z3 : Wt.cell? ⟨w.heap.size + 1, 3, none⟩ = some (.int .i64 t.d) := blk_cell B4t.out 3
  have z4 : Wt.cell? ⟨w.heap.size + 1, 4, none⟩ = some (.int .i64 t.e) := blk_cell B4t.out 4
  have z5 : Wt.cell? ⟨w.heap.size + 1, 5, none⟩ = some (.int .i64 t.f) := blk_cell B4t.out 5
  go_upto_region 3 with (first
    | (go_at_call 39; refine (six_calls t _).mono ?_; rintro e w2 ⟨rfl, hb⟩; have HB2 := Aside0.mk hb; clear hb))
  clear z0 z1 z2 z3 z4 z5
  obtain ⟨W0, hW0⟩ : ∃ W, w2.alloc (.cells #[.int .i64 t.a, .int .i64 t.b, .int .i64 t.c, .int .i64 t.d, .int .i64 t.e, .int .i64 t.f] 66) = W := ⟨_, rfl⟩
  obtain ⟨b8, hb8⟩ : ∃ x, w2.heap.size = x := ⟨_, rfl⟩
  have X2 : Aside0 (Below Wt.heap.size Wt W0) := ⟨by rw [← hW0]; exact below_alloc HB2.out _⟩
  have B8 : Aside0 (W0.heap[b8]? = some (.cells #[.int .i64 t.a, .int .i64 t.b, .int .i64 t.c, .int .i64 t.d, .int .i64 t.e, .int .i64 t.f] 66 (0, 0))) := ⟨by rw [← hW0, ← hb8]; exact blk_new w2 _⟩
  replace B7 := Aside0.mk (blk_below B7.out X2.out)
  have L0 := Aside0.mk (below_then LT.out LT.out.size X2.out)
  rw [hW0, hb8]
  clear hW0 hb8 HB2 X1 X2 B3 B4 B4t LS LT
  go_wp2_with fail
  go_loopw [9, 10] (fun u i w' => ∃ n : Nat, n ≤ 6 ∧ i = .int .i64 n ∧ Aside0 (Kd.R k28 28 w' W0.heap.size (fun k => W0.heap.size ≤ k) u (params cl s t n)) ∧ Aside0 (Below W0.heap.size W0 w')) (fun _ i _ => 6 - (intOf i).toNat)
  case atStart => exact ⟨0, Nat.zero_le _, rfl, ⟨Kd.R_nil _ _ _ _ _⟩, ⟨Below.refl _ _⟩⟩
  case round =>
    obtain ⟨n, hn, rfl, HV, HW⟩ := hrel
    have B7r := Aside0.mk (blk_below B7.out HW.out)
    have B8r := Aside0.mk (blk_below B8.out HW.out)
    by_cases h6 : n < 6
    · have p0 : (0 : Int) ≤ (n : Int) := by omega
      have q0 : (n : Int) < 6 := by omega
      have G7 := get_arr s ((n : Int) + 1) (by omega) (by omega)
      have G8 := get_arr t ((n : Int) + 1) (by omega) (by omega)
      rw [show ((n : Int) + 1 - 1).toNat = n by omega] at G7 G8
      obtain ⟨y, hy⟩ : ∃ y, s.get ((n : Int) + 1) = y := ⟨_, rfl⟩
      obtain ⟨x, hx⟩ : ∃ x, t.get ((n : Int) + 1) = x := ⟨_, rfl⟩
      rw [hy] at G7
      rw [hx] at G8
      have z7 : wr.cell? ⟨b7, n, none⟩ = some (.int .i64 y) := (blk_cell B7r.out n).trans G7
      have z8 : wr.cell? ⟨b8, n, none⟩ = some (.int .i64 x) := (blk_cell B8r.out n).trans G8
      have HX := Aside0.mk hx
      have HY := Aside0.mk hy
      clear hx hy G7 G8
      have hdf : differs cl s t ((n : Int) + 1) = (!(x == y) && (cl || !((n : Int) + 1 == 2))) := by unfold differs; rw [HX.out, HY.out]
      have HDF := Aside0.mk hdf
      clear hdf
      by_cases hxy : x = y
      · have e0 : (y == x) = true := by simp [hxy]
        have e1 : (y != x) = false := by simp [hxy]
        have HXY := Aside0.mk hxy
        clear hxy
        go_upto_region 7 with fail
        go_quiet (fail)
        go_wp2_with fail
        go_roundw
        case rel =>
          have hd : params cl s t (n + 1) = params cl s t n := by simp only [params, HDF.out]; simp [HXY.out]
          exact ⟨n + 1, by omega, by go_num, ⟨by rw [hd]; exact Kd.R_below HV.out (pw_below_drewN (Below.refl _ _) _)⟩, ⟨pw_below_drewN HW.out _⟩⟩
        case measure => simp [intOf]; omega
      · have e0 : (y == x) = false := beq_eq_false_iff_ne.mpr (fun h => hxy h.symm)
        have e1 : (y != x) = true := bne_iff_ne.mpr (fun h => hxy h.symm)
        have e9 : (x == y) = false := beq_eq_false_iff_ne.mpr hxy
        have E9 := Aside0.mk e9
        clear hxy e9
        cases cl
        · by_cases h2 : n = 1
          · have e2 : ((n : Int) == 1) = true := by simp [h2]
            have e3 : ((n : Int) != 1) = false := by simp [h2]
            have H2 := Aside0.mk h2
            clear h2
            go_upto_region 7 with fail
            go_quiet (fail)
            go_wp2_with fail
            go_roundw
            case rel =>
              have hd : params false s t (n + 1) = params false s t n := by simp only [params, HDF.out]; simp [H2.out]
              exact ⟨n + 1, by omega, by go_num, ⟨by rw [hd]; exact Kd.R_below HV.out (pw_below_drewN (Below.refl _ _) _)⟩, ⟨pw_below_drewN HW.out _⟩⟩
            case measure => simp [intOf]; omega
          · have e2 : ((n : Int) == 1) = false := beq_eq_false_iff_ne.mpr (by omega)
            have e3 : ((n : Int) != 1) = true := by simp; omega
            have e4 : ((n : Int) + 1 == 2) = false := beq_eq_false_iff_ne.mpr (by omega)
            have E4 := Aside0.mk e4
            clear h2 e4
            go_upto_region 7 with fail
            go_quiet (fail)
            have e35 : wrap64 ((n : Int) + 1) = (n : Int) + 1 := by unfold wrap64; omega
            go_wp2_with (first
              | ((with_reducible refine gate_builtin (b := .append) (xs := #[.tmp 33, .tmp 40]) rfl ?_); at_builtin; refine Kd.R_append k28 (w0 := W0) W0.heap.size rfl (.tmp 33) (.tmp 40) 24 28 (.agg #[.int .i64 0, .int .i64 0]) 16 rfl Tryd.underlying24 info28 rfl (by decide) (by omega) u9 (params false s t n) ⟨(n : Int) + 1, x⟩ [.int .i64 ((n : Int) + 1), .int .i64 x] (fun k => W0.heap.size ≤ k) (fun _ => False) rfl rfl ?aP (fun _ h => h.elim) ?aF ?aO ?aB ?aS ?aL ?_; (case aP => exact k28_mkM _ _ _ ⟨(n : Int) + 1, x⟩); (case aF => exact fun k hk => Nat.le_trans HW.out.size hk); (case aO => exact Kd.R_below HV.out (pw_below_drewN (Below.refl _ _) _)); (case aB => exact pw_below_drewN HW.out _); (case aS => exact HW.out.size); (case aL => have := params_len false s t n; omega); intro v1 w9 ho hb hg hat; have HO := Aside0.mk ho; have HBB := Aside0.mk hb; clear ho hb hg hat))
            go_roundw
            case rel =>
              have hd : params false s t (n + 1) = params false s t n ++ [⟨(n : Int) + 1, x⟩] := by simp only [params, HDF.out, HX.out]; simp [E9.out, E4.out]
              exact ⟨n + 1, by omega, by go_num, ⟨by rw [hd]; exact HO.out⟩, HBB⟩
            case measure => simp [intOf]; omega
        · go_upto_region 7 with fail
          go_quiet (fail)
          have e35 : wrap64 ((n : Int) + 1) = (n : Int) + 1 := by unfold wrap64; omega
          go_wp2_with (first
            | ((with_reducible refine gate_builtin (b := .append) (xs := #[.tmp 33, .tmp 40]) rfl ?_); at_builtin; refine Kd.R_append k28 (w0 := W0) W0.heap.size rfl (.tmp 33) (.tmp 40) 24 28 (.agg #[.int .i64 0, .int .i64 0]) 16 rfl Tryd.underlying24 info28 rfl (by decide) (by omega) u9 (params true s t n) ⟨(n : Int) + 1, x⟩ [.int .i64 ((n : Int) + 1), .int .i64 x] (fun k => W0.heap.size ≤ k) (fun _ => False) rfl rfl ?aP (fun _ h => h.elim) ?aF ?aO ?aB ?aS ?aL ?_; (case aP => exact k28_mkM _ _ _ ⟨(n : Int) + 1, x⟩); (case aF => exact fun k hk => Nat.le_trans HW.out.size hk); (case aO => exact Kd.R_below HV.out (pw_below_drewN (Below.refl _ _) _)); (case aB => exact pw_below_drewN HW.out _); (case aS => exact HW.out.size); (case aL => have := params_len true s t n; omega); intro v1 w9 ho hb hg hat; have HO := Aside0.mk ho; have HBB := Aside0.mk hb; clear ho hb hg hat))
          go_roundw
          case rel =>
            have hd : params true s t (n + 1) = params true s t n ++ [⟨(n : Int) + 1, x⟩] := by simp only [params, HDF.out, HX.out]; simp [E9.out]
            exact ⟨n + 1, by omega, by go_num, ⟨by rw [hd]; exact HO.out⟩, HBB⟩
          case measure => simp [intOf]; omega
    · have hn6 : n = 6 := by omega
      subst hn6
      go_wp2_with fail
      go_ret
      exact ⟨_, rfl, Kd.R_mono (Kd.R_lower HV.out L0.out.size) (fun _ _ => trivial), below_then L0.out L0.out.size HW.out⟩
end Go.Proofs.YtcjphkgmcfpfeaaDoor.MS
