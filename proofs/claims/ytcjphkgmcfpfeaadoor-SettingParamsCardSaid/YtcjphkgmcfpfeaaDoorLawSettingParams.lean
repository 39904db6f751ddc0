/- The row of the law SettingParams, out of its plain statement and the walk: for every input the call returns true and each argument reads behind it as it read before; no further condition. -/
import Derived.Test.YtcjphkgmcfpfeaaDoorCards
import Derived.Test.YtcjphkgmcfpfeaaDoorTie
import Derived.Test.YtcjphkgmcfpfeaaDoorPureSettingParams
import Derived.WalkKit
import Derived.ProofKit
import Derived.OpenShut
import Derived.ShutString
import Derived.ChangeOld
import Derived.Below
import Derived.SizedLaws
import Derived.Deep.DeepHandedRow
import Derived.Lib.LaidTab
import Derived.Test.YtcjphkgmcfpfeaaDoorZLaid
namespace Go.Proofs.YtcjphkgmcfpfeaaDoor.settingParams
open Go Go.ChangeShapes Go.WideShapes Go.ChangeAt Go.RowKit Go.Proofs.YtcjphkgmcfpfeaaDoorW.PrintWords Go.Proofs.YtcjphkgmcfpfeaaDoor.ZRow Go.Proofs.YtcjphkgmcfpfeaaDoor.QL Go.Proofs.YtcjphkgmcfpfeaaDoor.MS4
open Go.ChangeMaps (open_string shut_string)
set_option linter.unusedVariables false
set_option linter.unusedSimpArgs false
theorem own : ownKnob Tryd.prog.godebug = none := by kernel_rfl
theorem laidOut : laidOutB Tryd.prog = true := by kernel_rfl
theorem glob_of {W : World} (h : laidMetH Tryd.prog Rows.settingParamsRow.laid W) : GL W := by
  have h0 : laidMet Tryd.prog Rows.settingParamsRow.laid W := h
  obtain ⟨ps, ⟨g0, t0, cs0, f0, p0, q0, hg0, ht0, hv0, hd0, ⟨g1, t1, cs1, f1, p1, q1, hg1, ht1, hv1, hd1, ⟨g2, t2, cs2, f2, p2, q2, hg2, ht2, hv2, hd2, ⟨g3, t3, cs3, f3, p3, q3, hg3, ht3, hv3, hd3, _, _⟩, _⟩, _⟩, _⟩, _⟩ := h0
  obtain rfl : 2 = g0 := Option.some.inj ((show Tryd.prog.globalNamed "herald/heraldref08.low" = some 2 by kernel_rfl).symm.trans hg0)
  obtain rfl : 66 = t0 := Option.some.inj ((show (Tryd.prog.globals[2]?).map (·.type) = some 66 by kernel_rfl).symm.trans ht0)
  obtain rfl : 3 = g1 := Option.some.inj ((show Tryd.prog.globalNamed "herald/heraldref08.high" = some 3 by kernel_rfl).symm.trans hg1)
  obtain rfl : 66 = t1 := Option.some.inj ((show (Tryd.prog.globals[3]?).map (·.type) = some 66 by kernel_rfl).symm.trans ht1)
  obtain rfl : 0 = g2 := Option.some.inj ((show Tryd.prog.globalNamed "herald/heraldref08.top" = some 0 by kernel_rfl).symm.trans hg2)
  obtain rfl : 66 = t2 := Option.some.inj ((show (Tryd.prog.globals[0]?).map (·.type) = some 66 by kernel_rfl).symm.trans ht2)
  obtain rfl : 1 = g3 := Option.some.inj ((show Tryd.prog.globalNamed "herald/setting.initial" = some 1 by kernel_rfl).symm.trans hg3)
  obtain rfl : 23 = t3 := Option.some.inj ((show (Tryd.prog.globals[1]?).map (·.type) = some 23 by kernel_rfl).symm.trans ht3)
  have c0 := fun i u (hu : (_ : List Value)[i]? = some u) => ZLaid.laid_cells (g := 2) (t := 66) (d := Rows.laid_herald_heraldref08_low) (l := [.int .i64 0, .int .i64 0, .int .i64 0, .int .i64 0, .int .i64 16384, .int .i64 1024]) (by kernel_rfl) hv0 hd0 (by kernel_rfl) rfl i u hu
  have c1 := fun i u (hu : (_ : List Value)[i]? = some u) => ZLaid.laid_cells (g := 3) (t := 66) (d := Rows.laid_herald_heraldref08_high) (l := [.int .i64 65536, .int .i64 1, .int .i64 2147483647, .int .i64 2147483647, .int .i64 65536, .int .i64 2147483647]) (by kernel_rfl) hv1 hd1 (by kernel_rfl) rfl i u hu
  have c2 := fun i u (hu : (_ : List Value)[i]? = some u) => ZLaid.laid_cells (g := 0) (t := 66) (d := Rows.laid_herald_heraldref08_top) (l := [.int .i64 2147483647, .int .i64 1, .int .i64 2147483647, .int .i64 2147483647, .int .i64 65536, .int .i64 2147483647]) (by kernel_rfl) hv2 hd2 (by kernel_rfl) rfl i u hu
  have c3 := fun i u (hu : (_ : List Value)[i]? = some u) => ZLaid.laid_cells (g := 1) (t := 23) (d := Rows.laid_herald_setting_initial) (l := [.int .i64 4096, .int .i64 1, .int .i64 2147483647, .int .i64 65535, .int .i64 16384, .int .i64 2147483647]) (by kernel_rfl) hv3 hd3 (by kernel_rfl) rfl i u hu
  exact ⟨c2 0 _ rfl, c2 1 _ rfl, c2 2 _ rfl, c2 3 _ rfl, c2 4 _ rfl, c2 5 _ rfl, c3 0 _ rfl, c3 1 _ rfl, c3 2 _ rfl, c3 3 _ rfl, c3 4 _ rfl, c3 5 _ rfl, c0 0 _ rfl, c0 1 _ rfl, c0 2 _ rfl, c0 3 _ rfl, c0 4 _ rfl, c0 5 _ rfl, c1 0 _ rfl, c1 1 _ rfl, c1 2 _ rfl, c1 3 _ rfl, c1 4 _ rfl, c1 5 _ rfl⟩
noncomputable def laidWorld (os : Os) : World := { World.holding Tryd.prog os ⟨#[], #[], []⟩ with heap := (((((World.holding Tryd.prog os ⟨#[], #[], []⟩).heap.modify 2 fun | .cells _ t fr => .cells #[.int .i64 0, .int .i64 0, .int .i64 0, .int .i64 0, .int .i64 16384, .int .i64 1024] t fr | o => o).modify 3 fun | .cells _ t fr => .cells #[.int .i64 65536, .int .i64 1, .int .i64 2147483647, .int .i64 2147483647, .int .i64 65536, .int .i64 2147483647] t fr | o => o).modify 0 fun | .cells _ t fr => .cells #[.int .i64 2147483647, .int .i64 1, .int .i64 2147483647, .int .i64 2147483647, .int .i64 65536, .int .i64 2147483647] t fr | o => o).modify 1 fun | .cells _ t fr => .cells #[.int .i64 4096, .int .i64 1, .int .i64 2147483647, .int .i64 65535, .int .i64 16384, .int .i64 2147483647] t fr | o => o) }
theorem laid_met (os : Os) : laidMet Tryd.prog Rows.settingParamsRow.laid ((laidWorld os).forCall (fun _ _ => 0) ⟨#[], #[.agg #[.int .i64 0, .int .i64 0, .int .i64 0, .int .i64 0, .int .i64 0, .int .i64 0], .agg #[.int .i64 0, .int .i64 0, .int .i64 0, .int .i64 0, .int .i64 0, .int .i64 0], .slice none 0 0, .bool false], []⟩).memory := laidMet_of_run' 8 (by kernel_rfl) (by kernel_rfl)
theorem reads (os : Os) {H : Type} (enc : TypeId × Value → H) : ∃ places, DataW.whole enc Tryd.prog ((laidWorld os).forCall (fun _ _ => 0) ⟨#[], #[.agg #[.int .i64 0, .int .i64 0, .int .i64 0, .int .i64 0, .int .i64 0, .int .i64 0], .agg #[.int .i64 0, .int .i64 0, .int .i64 0, .int .i64 0, .int .i64 0, .int .i64 0], .slice none 0 0, .bool false], []⟩).memory Tryd.f3.params.toList Rows.settingParamsSpec.vars false (#[.agg #[.int .i64 0, .int .i64 0, .int .i64 0, .int .i64 0, .int .i64 0, .int .i64 0], .agg #[.int .i64 0, .int .i64 0, .int .i64 0, .int .i64 0, .int .i64 0, .int .i64 0], .slice none 0 0, .bool false] : Array Value).toList 8 = some ([.agg [.lit (.int .i64 0), .lit (.int .i64 0), .lit (.int .i64 0), .lit (.int .i64 0), .lit (.int .i64 0), .lit (.int .i64 0)], .agg [.lit (.int .i64 0), .lit (.int .i64 0), .lit (.int .i64 0), .lit (.int .i64 0), .lit (.int .i64 0), .lit (.int .i64 0)], .nil, .lit (.bool false)], [], places) := ⟨[], by kernel_rfl⟩
set_option maxHeartbeats 4000000 in
set_option maxRecDepth 100000 in
theorem lifted (os : Os) (started : os.Started) (H : Type) (enc : TypeId × Value → H) (F : Stop.Interp) :
    ReturnsInHanded {} Tryd.checked os 3 .any ((OpenSpec.ofChange Rows.settingParamsSpec).preRow enc Tryd.prog Tryd.f3 Rows.settingParamsRow.domain false Rows.settingParamsRow.laid) (((OpenSpec.ofChange Rows.settingParamsSpec).at F).post enc Tryd.prog Tryd.f3 false true false false) := by
  obtain ⟨places, hx⟩ := reads os enc
  refine returnsInHanded_of_row (C := Tryd.checked) (s := (OpenSpec.ofChange Rows.settingParamsSpec)) own started (by kernel_rfl) Tryd.func3
    (witness_row_at (enc := enc) (C := Tryd.checked) false (laidWorld os) #[.agg #[.int .i64 0, .int .i64 0, .int .i64 0, .int .i64 0, .int .i64 0, .int .i64 0], .agg #[.int .i64 0, .int .i64 0, .int .i64 0, .int .i64 0, .int .i64 0, .int .i64 0], .slice none 0 0, .bool false] rfl (by kernel_rfl) (by kernel_rfl) (by kernel_rfl)
      (OpenSpec.preRow_of_cond 8 hx (by kernel_rfl) (fun k hk => by cases hk) (by kernel_rfl) (laid_met os))) ?_
  intro W base args ds gs before hval0 hW hcnd hk hsz0 hL _ _
  have hval : ∀ (j : Nat) t v, Tryd.f3.params[j]? = some t → args[j]? = some v → Value.okWide Tryd.prog W .any base t v := hval0
  have hW' := hW
  obtain ⟨p, q, hA0, hV, rfl, hfz, hnd⟩ := hW
  have hA : DataW.TrodAll enc Tryd.prog W 0 (fun _ => true) true Tryd.f3.params.toList args.toList ds p := hA0
  have hsz : (DataW.weightsEach Tryd.prog (Tryd.f3.params.toList ++ Rows.settingParamsSpec.plain.varTypes Tryd.prog) (ds ++ gs)).all (· ≤ reachBytes) = true := hsz0
  rw [Tryd.params3] at hA hval hsz
  obtain ⟨v0, vs0, d0, ds0, p0, q0, hargs, rfl, rfl, h0, r0⟩ := trodAll_cons hA
  obtain ⟨v1, vs1, d1, ds1, p1, q1, rfl, rfl, rfl, h1, r1⟩ := trodAll_cons r0
  obtain ⟨v2, vs2, d2, ds2, p2, q2, rfl, rfl, rfl, h2, r2⟩ := trodAll_cons r1
  obtain ⟨v3, vs3, d3, ds3, p3, q3, rfl, rfl, rfl, h3, r3⟩ := trodAll_cons r2
  obtain ⟨rfl, rfl, rfl⟩ := trodAll_nil r3
  obtain rfl : args = #[v0, v1, v2, v3] := by cases args; simp_all
  obtain ⟨rfl, rfl⟩ := trodVars_none hV
  have k0 := h0
  have lt0 : ∀ x ∈ p0, x.block < W.heap.size := by obtain ⟨m, hm⟩ := k0; exact DataW.trod_lt m _ _ _ hm
  obtain ⟨e0, hf0⟩ := h0
  obtain ⟨cs0, rfl, hcs0⟩ := okWide_struct Tryd.underlying23 (hval 0 23 v0 rfl rfl)
  obtain ⟨y0, hK0, hG0, hM0⟩ := rd23.read hf0
  replace hG0 := hG0 (fun m hm => by have z := List.all_eq_true.1 hsz m (DataW.weights_mem_each (j := 0) (t := 23) rfl rfl m hm); simpa using z)
  have z0 := k23_open hK0
  obtain rfl : cs0 = #[.int .i64 y0.f0, .int .i64 y0.f1, .int .i64 y0.f2, .int .i64 y0.f3, .int .i64 y0.f4, .int .i64 y0.f5] := by
    simp only [Value.cells] at z0
    cases cs0; simp_all
  have k1 := h1
  have lt1 : ∀ x ∈ p1, x.block < W.heap.size := by obtain ⟨m, hm⟩ := k1; exact DataW.trod_lt m _ _ _ hm
  obtain ⟨e1, hf1⟩ := h1
  obtain ⟨cs1, rfl, hcs1⟩ := okWide_struct Tryd.underlying23 (hval 1 23 v1 rfl rfl)
  obtain ⟨y1, hK1, hG1, hM1⟩ := rd23.read hf1
  replace hG1 := hG1 (fun m hm => by have z := List.all_eq_true.1 hsz m (DataW.weights_mem_each (j := 1) (t := 23) rfl rfl m hm); simpa using z)
  have z1 := k23_open hK1
  obtain rfl : cs1 = #[.int .i64 y1.f0, .int .i64 y1.f1, .int .i64 y1.f2, .int .i64 y1.f3, .int .i64 y1.f4, .int .i64 y1.f5] := by
    simp only [Value.cells] at z1
    cases cs1; simp_all
  have k2 := h2
  have lt2 : ∀ x ∈ p2, x.block < W.heap.size := by obtain ⟨m, hm⟩ := k2; exact DataW.trod_lt m _ _ _ hm
  obtain ⟨e2, hf2⟩ := h2
  obtain ⟨A2, len2, cap2, rfl⟩ := okWide_slice Tryd.underlying24 (hval 2 24 v2 rfl rfl)
  obtain ⟨y2, hK2, hG2, hM2⟩ := rd24.read hf2
  replace hG2 := hG2 (fun m hm => by have z := List.all_eq_true.1 hsz m (DataW.weights_mem_each (j := 2) (t := 24) rfl rfl m hm); simpa using z)
  obtain ⟨B2, c2, z2, hle2, hC2⟩ := hK2
  obtain ⟨rfl, rfl, rfl⟩ : A2 = B2 ∧ len2 = y2.length ∧ c2 = cap2 := by
    have z : A2 = B2 ∧ len2 = y2.length ∧ cap2 = c2 := by simpa [Value.cells] using z2
    exact ⟨z.1, z.2.1, z.2.2.symm⟩
  have k3 := h3
  have lt3 : ∀ x ∈ p3, x.block < W.heap.size := by obtain ⟨m, hm⟩ := k3; exact DataW.trod_lt m _ _ _ hm
  obtain ⟨e3, hf3⟩ := h3
  obtain ⟨a3, rfl⟩ := okWide_bool Tryd.underlying4 (hval 3 4 v3 rfl rfl)
  obtain ⟨y3, hK3, hG3, hM3⟩ := rd4.read hf3
  replace hG3 := hG3 (fun m hm => by have z := List.all_eq_true.1 hsz m (DataW.weights_mem_each (j := 3) (t := 4) rfl rfl m hm); simpa using z)
  obtain rfl : y3 = a3 := by
    have z : [_] = [_] := hK3
    simpa [Value.cells] using z.symm
  clear hA0 hval hsz hsz0
  have h := Pure.SettingParams y0 y1 y2 y3 hG0 hG1 hG2 hG3
  refine (heraldlaw08_SettingParams.calls y0.f0 y0.f1 y0.f2 y0.f3 y0.f4 y0.f5 y1.f0 y1.f1 y1.f2 y1.f3 y1.f4 y1.f5 A2 c2 y2 y3 true W (glob_of hL) hC2 hle2 h).mono fun e W' ⟨he, hd⟩ => ?_
  have bel : Below W.heap.size W W' := hd
  subst he
  exact ⟨_, rfl, _, _, _, [], _, [], hW', trodAll_mk1 (shut_bool Tryd.underlying4 _), (trodAll_cons_mk (Below.trod laidOut (by kernel_rfl) (of_decide_eq_true (by kernel_rfl)) k0 bel lt0) (trodAll_cons_mk (Below.trod laidOut (by kernel_rfl) (of_decide_eq_true (by kernel_rfl)) k1 bel lt1) (trodAll_cons_mk (Below.trod laidOut (by kernel_rfl) (of_decide_eq_true (by kernel_rfl)) k2 bel lt2) (trodAll_cons_mk (Below.trod laidOut (by kernel_rfl) (of_decide_eq_true (by kernel_rfl)) k3 bel lt3) trodAll_mk0)))), rfl, bel.frame _, fun h => by cases h⟩
theorem said : Rows.SettingParamsSaid :=
  OpenClaim.holds_of_cond 3 Tryd.f3 rfl rfl rfl rfl rfl rfl rfl ⟨rfl, rfl, rfl, rfl, rfl⟩ rfl rfl rfl rfl rfl (by kernel_rfl) Tryd.func3 (by kernel_rfl)
    (of_decide_eq_true (by kernel_rfl)) (by unfold Func.isWrapper; first | (rw [if_pos (by decide +kernel)]; kernel_rfl) | (rw [if_neg (by decide +kernel)]; exact ⟨rfl, rfl⟩))
    (fun os started H enc _ F => by rw [OpenClaim.pre_eq_preRow]; exact lifted os started H enc F)
theorem plain (f : FuncId) (fn : Func) (hf : Tryd.pinned.checked.prog.funcNamed "herald/heraldlaw08.SettingParams" = some f) (hfn : Tryd.pinned.checked.prog.funcs[f]? = some fn) :
    false = Tryd.pinned.checked.prog.looks [] ∧ ∀ (j : Nat) t, fn.params[j]? = some t → Tryd.pinned.checked.prog.wantsStandIn t = false := by
  obtain rfl : f = 3 := Option.some.inj ((show Tryd.prog.funcNamed "herald/heraldlaw08.SettingParams" = some 3 by kernel_rfl).symm.trans hf) |>.symm
  obtain rfl : fn = Tryd.f3 := (Option.some.inj (Tryd.func3.symm.trans hfn)).symm
  refine ⟨by kernel_rfl, fun j t ht => ?_⟩
  rw [Tryd.params3] at ht
  have hm : t ∈ ([23, 23, 24, 4] : List TypeId) := by
    have := Array.mem_of_getElem? ht
    simpa using this
  simp only [List.mem_cons, List.not_mem_nil, or_false] at hm
  rcases hm with rfl | rfl | rfl | rfl
  · exact (show Tryd.prog.wantsStandIn 23 = false by kernel_rfl)
  · exact (show Tryd.prog.wantsStandIn 23 = false by kernel_rfl)
  · exact (show Tryd.prog.wantsStandIn 24 = false by kernel_rfl)
  · exact (show Tryd.prog.wantsStandIn 4 = false by kernel_rfl)
theorem proved : Rows.SettingParamsCardSaid :=
  Claim7.holds_tied_plain_at .later [] _ _ _ _ said (fun _ h => by cases h) (by kernel_rfl) (fun _ h => by cases h) settingParams_row_tie rfl ⟨rfl, rfl⟩ (by kernel_rfl) rfl plain (by kernel_rfl)
end Go.Proofs.YtcjphkgmcfpfeaaDoor.settingParams
namespace Go.Proofs.YtcjphkgmcfpfeaaDoor
/-- The row, under a short name, for the claim. -/
theorem settingParams_holds : Rows.SettingParamsCardSaid := settingParams.proved
#print axioms settingParams_holds
end Go.Proofs.YtcjphkgmcfpfeaaDoor
