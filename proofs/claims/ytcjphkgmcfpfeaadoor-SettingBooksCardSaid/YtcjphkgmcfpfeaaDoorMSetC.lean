/- Params of the package setting, by hand: the list of the fields that differ. No condition but those in each statement. -/
import Derived.Test.YtcjphkgmcfpfeaaDoorMSetB
namespace Go.Proofs.YtcjphkgmcfpfeaaDoor.MS
open Go Go.RowKit Go.Proofs.YtcjphkgmcfpfeaaDoorW.PrintWords Go.Proofs.YtcjphkgmcfpfeaaDoorW.PrintLast Go.Proofs.YtcjphkgmcfpfeaaDoorW.PrintMore Go.Proofs.YtcjphkgmcfpfeaaDoor.QL
set_option linter.unusedSimpArgs false
set_option linter.unusedVariables false
set_option maxHeartbeats 4000000
set_option maxRecDepth 100000
theorem info28 : (Tryd.prog.info? 28).map (fun i => (i.zero, i.size, i.bytes)) = some (some (.agg #[.int .i64 0, .int .i64 0]), k28.sz, 16) := by kernel_rfl
def St.get (s : St) (id : Int) : Int := if id = 1 then s.a else if id = 2 then s.b else if id = 3 then s.c else if id = 4 then s.d else if id = 5 then s.e else s.f
theorem get_arr (s : St) (id : Int) (h1 : 1 ≤ id) (h2 : id ≤ 6) : s.arr[(id - 1).toNat]? = some (.int .i64 (s.get id)) := by
  obtain rfl | rfl | rfl | rfl | rfl | rfl : id = 1 ∨ id = 2 ∨ id = 3 ∨ id = 4 ∨ id = 5 ∨ id = 6 := by omega
  all_goals simp [St.arr, St.get]
def differs (cl : Bool) (s t : St) (id : Int) : Bool := !(t.get id == s.get id) && (cl || !(id == 2))
def params (cl : Bool) (s t : St) : Nat → List S28
  | 0 => []
  | n + 1 => params cl s t n ++ (if differs cl s t (n + 1) = true then [⟨n + 1, t.get (n + 1)⟩] else [])
theorem params_len (cl : Bool) (s t : St) (n : Nat) : (params cl s t n).length ≤ n := by
  induction n with
  | zero => simp [params]
  | succ n ih => simp only [params, List.length_append]; split <;> simp <;> omega
theorem params_calls (s t : St) (cl : Bool) (w : World) :
    Calls Tryd.prog 14 #[.agg s.arr, .agg t.arr, .bool cl] w fun e w' => ∃ v0_ : Value, e = .returned v0_ ∧ Kd.R k28 28 w' w.heap.size (fun _ => True) v0_ (params cl s t 6) ∧ Below w.heap.size w w' := by
  have HB := Aside0.mk (Below.refl w.heap.size w)
  go_enter Tryd.func14, Tryd.ntmps14
  go_wp2_with fail
  go_loopw [7, 8] (fun u i w' => ∃ n : Nat, n ≤ 6 ∧ i = .int .i64 (n + 1 : Nat) ∧ Aside0 (Kd.R k28 28 w' w.heap.size (fun k => k ≠ w.heap.size ∧ k ≠ w.heap.size + 1) u (params cl s t n)) ∧ Aside0 (w'.heap[w.heap.size]? = some (.cells s.arr 23 (0, 0))) ∧ Aside0 (w'.heap[w.heap.size + 1]? = some (.cells t.arr 23 (0, 0))) ∧ Aside0 (Below w.heap.size w w')) (fun _ i _ => 7 - (intOf i).toNat)
  case atStart =>
    refine ⟨0, Nat.zero_le _, rfl, ⟨Kd.R_nil _ _ _ _ _⟩, ⟨?_⟩, ⟨?_⟩, ⟨?_⟩⟩
    · exact blk_alloc (blk_new w _) _
    · have := blk_new (w.alloc (.cells s.arr 23)) (.cells t.arr 23)
      rwa [World.size_alloc] at this
    · exact below_alloc (below_alloc HB.out _) _
  case round =>
    obtain ⟨n, hn, rfl, HV, H3, H4, HW⟩ := hrel
    by_cases h6 : n < 6
    · have hle : (((n + 1 : Nat) : Int) ≤ 6) := by omega
      have hge : (1 : Int) ≤ ((n + 1 : Nat) : Int) := by omega
      obtain ⟨id, hid⟩ : ∃ id : Int, ((n + 1 : Nat) : Int) = id := ⟨_, rfl⟩
      rw [hid] at hle hge ⊢
      have HID := Aside0.mk hid
      have hp3 : place w.heap.size id = some ⟨w.heap.size, (id - 1).toNat, none⟩ := if_pos ⟨hge, hle⟩
      have hp4 : place (w.heap.size + 1) id = some ⟨w.heap.size + 1, (id - 1).toNat, none⟩ := if_pos ⟨hge, hle⟩
      have G3 := get_arr s id hge hle
      have G4 := get_arr t id hge hle
      obtain ⟨jj, hjj⟩ : ∃ j, (id - 1).toNat = j := ⟨_, rfl⟩
      rw [hjj] at hp3 hp4 G3 G4
      replace G3 := Aside0.mk G3
      replace G4 := Aside0.mk G4
      have HJ := Aside0.mk hjj
      have HGE := Aside0.mk hge
      clear hjj hid hge
      go_upto_region 6 with (first
        | (go_at_call 36; refine (field_calls (w.heap.size + 1) id _).mono ?_; rintro e w5 ⟨rfl, hb⟩; have HB5 := Aside0.mk hb; clear hb; rw [hp4]; have z4 : w5.cell? ⟨w.heap.size + 1, jj, none⟩ = some (.int .i64 (t.get id)) := (blk_cell (blk_below H4.out HB5.out) jj).trans G4.out))
      clear z4
      obtain ⟨x, hx⟩ : ∃ x, t.get id = x := ⟨_, rfl⟩
      obtain ⟨y, hy⟩ : ∃ y, s.get id = y := ⟨_, rfl⟩
      rw [hx]
      have HX := Aside0.mk hx
      have HY := Aside0.mk hy
      clear hx hy
      have H3a := Aside0.mk (blk_below H3.out HB5.out)
      have H4a := Aside0.mk (blk_below H4.out HB5.out)
      by_cases hxy : x = y
      · have e0 : (x == y) = true := beq_iff_eq.mpr hxy
        have e0' : (x != y) = false := by simp [hxy]
        clear hxy
        go_wp2_with (first
          | (go_at_call 36; refine (field_calls w.heap.size id _).mono ?_; rintro e w6 ⟨rfl, hb⟩; have HB6 := Aside0.mk hb; clear hb; rw [hp3]; have z3 : w6.cell? ⟨w.heap.size, jj, none⟩ = some (.int .i64 y) := (blk_cell (blk_below H3a.out HB6.out) jj).trans (HY.out ▸ G3.out)))
        have HV6 := Aside0.mk (Kd.R_below (Kd.R_below HV.out HB5.out) HB6.out)
        have H36 := Aside0.mk (blk_below H3a.out HB6.out)
        have H46 := Aside0.mk (blk_below H4a.out HB6.out)
        have HW6 := Aside0.mk (below_then (below_then HW.out HW.out.size HB5.out) (Nat.le_trans HW.out.size HB5.out.size) HB6.out)
        go_roundw
        case rel =>
          refine ⟨n + 1, by omega, ?_, ?_, H36, H46, HW6⟩
          · have := HID.out; have := HGE.out; simp only [Value.int.injEq, true_and]; unfold wrap64; omega
          · have hd : params cl s t (n + 1) = params cl s t n := by
              have e : differs cl s t ((n : Int) + 1) = false := by
                rw [show ((n : Int) + 1) = id from HID.out, differs, HX.out, HY.out]
                simp [e0]
              simp only [params, e]; simp
            rw [hd]; exact HV6
        case measure => have := HID.out; have := HGE.out; have e9 : wrap64 (id + 1) = id + 1 := by { unfold wrap64; omega }; show 7 - (wrap64 (id + 1)).toNat < 7 - id.toNat; rw [e9]; omega
      · have e0 : (x == y) = false := beq_eq_false_iff_ne.mpr hxy
        have e0' : (x != y) = true := by simp [hxy]
        clear hxy
        cases cl
        · by_cases h2 : id = 2
          · have e2 : (id == 2) = true := beq_iff_eq.mpr h2
            have e2' : (id != 2) = false := by simp [h2]
            clear h2
            go_wp2_with (first
              | (go_at_call 36; refine (field_calls w.heap.size id _).mono ?_; rintro e w6 ⟨rfl, hb⟩; have HB6 := Aside0.mk hb; clear hb; rw [hp3]; have z3 : w6.cell? ⟨w.heap.size, jj, none⟩ = some (.int .i64 y) := (blk_cell (blk_below H3a.out HB6.out) jj).trans (HY.out ▸ G3.out)))
            have HV6 := Aside0.mk (Kd.R_below (Kd.R_below HV.out HB5.out) HB6.out)
            have H36 := Aside0.mk (blk_below H3a.out HB6.out)
            have H46 := Aside0.mk (blk_below H4a.out HB6.out)
            have HW6 := Aside0.mk (below_then (below_then HW.out HW.out.size HB5.out) (Nat.le_trans HW.out.size HB5.out.size) HB6.out)
            go_roundw
            case rel =>
              refine ⟨n + 1, by omega, ?_, ?_, H36, H46, HW6⟩
              · have := HID.out; have := HGE.out; simp only [Value.int.injEq, true_and]; unfold wrap64; omega
              · have hd : params false s t (n + 1) = params false s t n := by
                  have e : differs false s t ((n : Int) + 1) = false := by
                    rw [show ((n : Int) + 1) = id from HID.out, differs, HX.out, HY.out]
                    simp [e2]
                  simp only [params, e]; simp
                rw [hd]; exact HV6
            case measure => have := HID.out; have := HGE.out; have e9 : wrap64 (id + 1) = id + 1 := by { unfold wrap64; omega }; show 7 - (wrap64 (id + 1)).toNat < 7 - id.toNat; rw [e9]; omega
          · have e2 : (id == 2) = false := beq_eq_false_iff_ne.mpr h2
            have e2' : (id != 2) = true := by simp [h2]
            clear h2
            go_upto_region 7 with (first
              | (go_at_call 36; refine (field_calls w.heap.size id _).mono ?_; rintro e w6 ⟨rfl, hb⟩; have HB6 := Aside0.mk hb; clear hb; rw [hp3]; have z3 : w6.cell? ⟨w.heap.size, jj, none⟩ = some (.int .i64 y) := (blk_cell (blk_below H3a.out HB6.out) jj).trans (HY.out ▸ G3.out)))
            have HV6 := Aside0.mk (Kd.R_below (Kd.R_below HV.out HB5.out) HB6.out)
            have H36 := Aside0.mk (blk_below H3a.out HB6.out)
            have H46 := Aside0.mk (blk_below H4a.out HB6.out)
            have HW6 := Aside0.mk (below_then (below_then HW.out HW.out.size HB5.out) (Nat.le_trans HW.out.size HB5.out.size) HB6.out)
            go_wp2_with (first
              | ((with_reducible refine gate_builtin (b := .append) (xs := #[.tmp 31, .tmp 35]) rfl ?_); at_builtin; refine Kd.R_append k28 (w0 := w) w.heap.size rfl (.tmp 31) (.tmp 35) 24 28 (.agg #[.int .i64 0, .int .i64 0]) 16 rfl Tryd.underlying24 info28 rfl (by decide) (by omega) u7 (params false s t n) ⟨id, x⟩ [.int .i64 id, .int .i64 x] (fun k => k ≠ w.heap.size ∧ k ≠ w.heap.size + 1) (fun _ => False) rfl rfl ?aP (fun _ h => h.elim) ?aF ?aO ?aB ?aS ?aL ?_; (case aP => exact k28_mkM _ _ _ ⟨id, x⟩); (case aF => intro k hk; have := blk_lt H46.out; exact (⟨by omega, by omega⟩ : k ≠ w.heap.size ∧ k ≠ w.heap.size + 1)); (case aO => exact HV6.out); (case aB => exact HW6.out); (case aS => exact HW6.out.size); (case aL => have := params_len false s t n; omega); intro v1 w1 ho hb hg hat; have HO := Aside0.mk ho; have HBB := Aside0.mk hb; have HG := Aside0.mk hg; clear ho hb hg hat))
            have n3 : some w.heap.size ≠ u7.ownBlock := fun he => (HV6.out.1 _ he.symm).1 rfl
            have n4 : some (w.heap.size + 1) ≠ u7.ownBlock := fun he => (HV6.out.1 _ he.symm).2 rfl
            have H37 := Aside0.mk (blk_grown H36.out HG.out n3)
            have H47 := Aside0.mk (blk_grown H46.out HG.out n4)
            clear n3 n4
            go_roundw
            case rel =>
              refine ⟨n + 1, by omega, ?_, ?_, H37, H47, HBB⟩
              · have := HID.out; have := HGE.out; simp only [Value.int.injEq, true_and]; unfold wrap64; omega
              · have hd : params false s t (n + 1) = params false s t n ++ [⟨id, x⟩] := by
                  have e : differs false s t ((n : Int) + 1) = true := by
                    rw [show ((n : Int) + 1) = id from HID.out, differs, HX.out, HY.out]
                    simp [e0, e2]
                  simp only [params, e]; simp only [if_true]; rw [show ((n : Int) + 1) = id from HID.out, HX.out]
                rw [hd]; exact HO
            case measure => have := HID.out; have := HGE.out; have e9 : wrap64 (id + 1) = id + 1 := by { unfold wrap64; omega }; show 7 - (wrap64 (id + 1)).toNat < 7 - id.toNat; rw [e9]; omega
        · go_upto_region 7 with (first
            | (go_at_call 36; refine (field_calls w.heap.size id _).mono ?_; rintro e w6 ⟨rfl, hb⟩; have HB6 := Aside0.mk hb; clear hb; rw [hp3]; have z3 : w6.cell? ⟨w.heap.size, jj, none⟩ = some (.int .i64 y) := (blk_cell (blk_below H3a.out HB6.out) jj).trans (HY.out ▸ G3.out)))
          have HV6 := Aside0.mk (Kd.R_below (Kd.R_below HV.out HB5.out) HB6.out)
          have H36 := Aside0.mk (blk_below H3a.out HB6.out)
          have H46 := Aside0.mk (blk_below H4a.out HB6.out)
          have HW6 := Aside0.mk (below_then (below_then HW.out HW.out.size HB5.out) (Nat.le_trans HW.out.size HB5.out.size) HB6.out)
          go_wp2_with (first
            | ((with_reducible refine gate_builtin (b := .append) (xs := #[.tmp 31, .tmp 35]) rfl ?_); at_builtin; refine Kd.R_append k28 (w0 := w) w.heap.size rfl (.tmp 31) (.tmp 35) 24 28 (.agg #[.int .i64 0, .int .i64 0]) 16 rfl Tryd.underlying24 info28 rfl (by decide) (by omega) u7 (params true s t n) ⟨id, x⟩ [.int .i64 id, .int .i64 x] (fun k => k ≠ w.heap.size ∧ k ≠ w.heap.size + 1) (fun _ => False) rfl rfl ?aP (fun _ h => h.elim) ?aF ?aO ?aB ?aS ?aL ?_; (case aP => exact k28_mkM _ _ _ ⟨id, x⟩); (case aF => intro k hk; have := blk_lt H46.out; exact (⟨by omega, by omega⟩ : k ≠ w.heap.size ∧ k ≠ w.heap.size + 1)); (case aO => exact HV6.out); (case aB => exact HW6.out); (case aS => exact HW6.out.size); (case aL => have := params_len true s t n; omega); intro v1 w1 ho hb hg hat; have HO := Aside0.mk ho; have HBB := Aside0.mk hb; have HG := Aside0.mk hg; clear ho hb hg hat))
          have n3 : some w.heap.size ≠ u7.ownBlock := fun he => (HV6.out.1 _ he.symm).1 rfl
          have n4 : some (w.heap.size + 1) ≠ u7.ownBlock := fun he => (HV6.out.1 _ he.symm).2 rfl
          have H37 := Aside0.mk (blk_grown H36.out HG.out n3)
          have H47 := Aside0.mk (blk_grown H46.out HG.out n4)
          clear n3 n4
          go_roundw
          case rel =>
            refine ⟨n + 1, by omega, ?_, ?_, H37, H47, HBB⟩
            · have := HID.out; have := HGE.out; simp only [Value.int.injEq, true_and]; unfold wrap64; omega
            · have hd : params true s t (n + 1) = params true s t n ++ [⟨id, x⟩] := by
                have e : differs true s t ((n : Int) + 1) = true := by
                  rw [show ((n : Int) + 1) = id from HID.out, differs, HX.out, HY.out]
                  simp [e0]
                simp only [params, e]; simp only [if_true]; rw [show ((n : Int) + 1) = id from HID.out, HX.out]
              rw [hd]; exact HO
          case measure => have := HID.out; have := HGE.out; have e9 : wrap64 (id + 1) = id + 1 := by { unfold wrap64; omega }; show 7 - (wrap64 (id + 1)).toNat < 7 - id.toNat; rw [e9]; omega
    · have hn6 : n = 6 := by omega
      subst hn6
      go_wp2_with fail
      go_ret
      exact ⟨_, rfl, Kd.R_mono HV.out (fun _ _ => trivial), HW.out⟩
end Go.Proofs.YtcjphkgmcfpfeaaDoor.MS
