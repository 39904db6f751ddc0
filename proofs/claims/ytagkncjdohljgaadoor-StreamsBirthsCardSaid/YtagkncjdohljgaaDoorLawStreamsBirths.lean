/- The row of the law StreamsBirths, out of its plain statement and the walk: for every input the call returns true and each argument reads behind it as it read before; no further condition. -/
import Derived.Test.YtagkncjdohljgaaDoorCards
import Derived.Test.YtagkncjdohljgaaDoorTie
import Derived.Test.YtagkncjdohljgaaDoorPureStreamsBirths
import Derived.WalkKit
import Derived.ProofKit
import Derived.OpenShut
import Derived.ShutString
import Derived.ChangeOld
import Derived.Below
import Derived.SizedLaws
import Derived.Deep.DeepHandedRow
import Derived.Lib.LaidTab
import Derived.Test.YtagkncjdohljgaaDoorZLaid
namespace Go.Proofs.YtagkncjdohljgaaDoor.streamsBirths
open Go Go.ChangeShapes Go.WideShapes Go.ChangeAt Go.RowKit Go.Proofs.YtagkncjdohljgaaDoorW.PrintWords Go.Proofs.YtagkncjdohljgaaDoor.ZRow Go.Proofs.YtagkncjdohljgaaDoor.QL
open Go.ChangeMaps (open_string shut_string)
set_option linter.unusedVariables false
set_option linter.unusedSimpArgs false
theorem own : ownKnob Tryd.prog.godebug = none := by kernel_rfl
theorem laidOut : laidOutB Tryd.prog = true := by kernel_rfl
theorem glob_of {W : World} (h : laidMetH Tryd.prog Rows.streamsBirthsRow.laid W) : GL W := by
  have h0 : laidMet Tryd.prog Rows.streamsBirthsRow.laid W := h
  obtain ⟨ps, ⟨g0, t0, cs0, f0, p0, q0, hg0, ht0, hv0, hd0, ⟨g1, t1, cs1, f1, p1, q1, hg1, ht1, hv1, hd1, ⟨g2, t2, cs2, f2, p2, q2, hg2, ht2, hv2, hd2, ⟨g3, t3, cs3, f3, p3, q3, hg3, ht3, hv3, hd3, ⟨g4, t4, cs4, f4, p4, q4, hg4, ht4, hv4, hd4, ⟨g5, t5, cs5, f5, p5, q5, hg5, ht5, hv5, hd5, _, _⟩, _⟩, _⟩, _⟩, _⟩, _⟩, _⟩ := h0
  obtain rfl : 1 = g0 := Option.some.inj ((show Tryd.prog.globalNamed "herald/state.fine" = some 1 by kernel_rfl).symm.trans hg0)
  obtain rfl : 53 = t0 := Option.some.inj ((show (Tryd.prog.globals[1]?).map (·.type) = some 53 by kernel_rfl).symm.trans ht0)
  obtain rfl : 3 = g1 := Option.some.inj ((show Tryd.prog.globalNamed "herald/state.ignored" = some 3 by kernel_rfl).symm.trans hg1)
  obtain rfl : 53 = t1 := Option.some.inj ((show (Tryd.prog.globals[3]?).map (·.type) = some 53 by kernel_rfl).symm.trans ht1)
  obtain rfl : 0 = g2 := Option.some.inj ((show Tryd.prog.globalNamed "herald/state.barred" = some 0 by kernel_rfl).symm.trans hg2)
  obtain rfl : 53 = t2 := Option.some.inj ((show (Tryd.prog.globals[0]?).map (·.type) = some 53 by kernel_rfl).symm.trans ht2)
  obtain rfl : 2 = g3 := Option.some.inj ((show Tryd.prog.globalNamed "herald/state.wrong" = some 2 by kernel_rfl).symm.trans hg3)
  obtain rfl : 53 = t3 := Option.some.inj ((show (Tryd.prog.globals[2]?).map (·.type) = some 53 by kernel_rfl).symm.trans ht3)
  obtain rfl : 5 = g4 := Option.some.inj ((show Tryd.prog.globalNamed "herald/state.shut" = some 5 by kernel_rfl).symm.trans hg4)
  obtain rfl : 53 = t4 := Option.some.inj ((show (Tryd.prog.globals[5]?).map (·.type) = some 53 by kernel_rfl).symm.trans ht4)
  obtain rfl : 4 = g5 := Option.some.inj ((show Tryd.prog.globalNamed "herald/state.ended" = some 4 by kernel_rfl).symm.trans hg5)
  obtain rfl : 53 = t5 := Option.some.inj ((show (Tryd.prog.globals[4]?).map (·.type) = some 53 by kernel_rfl).symm.trans ht5)
  have c0 := fun i u (hu : (_ : List Value)[i]? = some u) => ZLaid.laid_cells (g := 1) (t := 53) (d := Rows.laid_herald_state_fine) (l := [.int .i64 0, .int .i64 0]) (by kernel_rfl) hv0 hd0 (by kernel_rfl) rfl i u hu
  have c1 := fun i u (hu : (_ : List Value)[i]? = some u) => ZLaid.laid_cells (g := 3) (t := 53) (d := Rows.laid_herald_state_ignored) (l := [.int .i64 1, .int .i64 0]) (by kernel_rfl) hv1 hd1 (by kernel_rfl) rfl i u hu
  have c2 := fun i u (hu : (_ : List Value)[i]? = some u) => ZLaid.laid_cells (g := 0) (t := 53) (d := Rows.laid_herald_state_barred) (l := [.int .i64 4, .int .i64 0]) (by kernel_rfl) hv2 hd2 (by kernel_rfl) rfl i u hu
  have c3 := fun i u (hu : (_ : List Value)[i]? = some u) => ZLaid.laid_cells (g := 2) (t := 53) (d := Rows.laid_herald_state_wrong) (l := [.int .i64 3, .int .i64 1]) (by kernel_rfl) hv3 hd3 (by kernel_rfl) rfl i u hu
  have c4 := fun i u (hu : (_ : List Value)[i]? = some u) => ZLaid.laid_cells (g := 5) (t := 53) (d := Rows.laid_herald_state_shut) (l := [.int .i64 3, .int .i64 5]) (by kernel_rfl) hv4 hd4 (by kernel_rfl) rfl i u hu
  have c5 := fun i u (hu : (_ : List Value)[i]? = some u) => ZLaid.laid_cells (g := 4) (t := 53) (d := Rows.laid_herald_state_ended) (l := [.int .i64 2, .int .i64 5]) (by kernel_rfl) hv5 hd5 (by kernel_rfl) rfl i u hu
  exact ⟨c2 0 _ rfl, c2 1 _ rfl, c0 0 _ rfl, c0 1 _ rfl, c3 0 _ rfl, c3 1 _ rfl, c1 0 _ rfl, c1 1 _ rfl, c5 0 _ rfl, c5 1 _ rfl, c4 0 _ rfl, c4 1 _ rfl⟩
noncomputable def laidWorld (os : Os) : World := { World.holding Tryd.prog os ⟨#[], #[], []⟩ with heap := (((((((World.holding Tryd.prog os ⟨#[], #[], []⟩).heap.modify 1 fun | .cells _ t fr => .cells #[.int .i64 0, .int .i64 0] t fr | o => o).modify 3 fun | .cells _ t fr => .cells #[.int .i64 1, .int .i64 0] t fr | o => o).modify 0 fun | .cells _ t fr => .cells #[.int .i64 4, .int .i64 0] t fr | o => o).modify 2 fun | .cells _ t fr => .cells #[.int .i64 3, .int .i64 1] t fr | o => o).modify 5 fun | .cells _ t fr => .cells #[.int .i64 3, .int .i64 5] t fr | o => o).modify 4 fun | .cells _ t fr => .cells #[.int .i64 2, .int .i64 5] t fr | o => o) }
theorem laid_met (os : Os) : laidMet Tryd.prog Rows.streamsBirthsRow.laid ((laidWorld os).forCall (fun _ _ => 0) ⟨#[], #[.bool false, .slice none 0 0], []⟩).memory := laidMet_of_run' 8 (by kernel_rfl) (by kernel_rfl)
theorem reads (os : Os) {H : Type} (enc : TypeId × Value → H) : ∃ places, DataW.whole enc Tryd.prog ((laidWorld os).forCall (fun _ _ => 0) ⟨#[], #[.bool false, .slice none 0 0], []⟩).memory Tryd.f4.params.toList Rows.streamsBirthsSpec.vars false (#[.bool false, .slice none 0 0] : Array Value).toList 8 = some ([.lit (.bool false), .nil], [], places) := ⟨[], by kernel_rfl⟩
set_option maxHeartbeats 4000000 in
set_option maxRecDepth 100000 in
theorem lifted (os : Os) (started : os.Started) (H : Type) (enc : TypeId × Value → H) (F : Stop.Interp) :
    ReturnsInHanded {} Tryd.checked os 4 .any ((OpenSpec.ofChange Rows.streamsBirthsSpec).preRow enc Tryd.prog Tryd.f4 Rows.streamsBirthsRow.domain false Rows.streamsBirthsRow.laid) (((OpenSpec.ofChange Rows.streamsBirthsSpec).at F).post enc Tryd.prog Tryd.f4 false true false false) := by
  obtain ⟨places, hx⟩ := reads os enc
  refine returnsInHanded_of_row (C := Tryd.checked) (s := (OpenSpec.ofChange Rows.streamsBirthsSpec)) own started (by kernel_rfl) Tryd.func4
    (witness_row_at (enc := enc) (C := Tryd.checked) false (laidWorld os) #[.bool false, .slice none 0 0] rfl (by kernel_rfl) (by kernel_rfl) (by kernel_rfl)
      (OpenSpec.preRow_of_cond 8 hx (by kernel_rfl) (fun k hk => by cases hk) (by kernel_rfl) (laid_met os))) ?_
  intro W base args ds gs before hval0 hW hcnd hk hsz0 hL _ _
  have hval : ∀ (j : Nat) t v, Tryd.f4.params[j]? = some t → args[j]? = some v → Value.okWide Tryd.prog W .any base t v := hval0
  have hW' := hW
  obtain ⟨p, q, hA0, hV, rfl, hfz, hnd⟩ := hW
  have hA : DataW.TrodAll enc Tryd.prog W 0 (fun _ => true) true Tryd.f4.params.toList args.toList ds p := hA0
  have hsz : (DataW.weightsEach Tryd.prog (Tryd.f4.params.toList ++ Rows.streamsBirthsSpec.plain.varTypes Tryd.prog) (ds ++ gs)).all (· ≤ reachBytes) = true := hsz0
  rw [Tryd.params4] at hA hval hsz
  obtain ⟨v0, vs0, d0, ds0, p0, q0, hargs, rfl, rfl, h0, r0⟩ := trodAll_cons hA
  obtain ⟨v1, vs1, d1, ds1, p1, q1, rfl, rfl, rfl, h1, r1⟩ := trodAll_cons r0
  obtain ⟨rfl, rfl, rfl⟩ := trodAll_nil r1
  obtain rfl : args = #[v0, v1] := by cases args; simp_all
  obtain ⟨rfl, rfl⟩ := trodVars_none hV
  have k0 := h0
  have lt0 : ∀ x ∈ p0, x.block < W.heap.size := by obtain ⟨m, hm⟩ := k0; exact DataW.trod_lt m _ _ _ hm
  obtain ⟨e0, hf0⟩ := h0
  obtain ⟨a0, rfl⟩ := okWide_bool Tryd.underlying4 (hval 0 4 v0 rfl rfl)
  obtain ⟨y0, hK0, hG0, hM0⟩ := rd4.read hf0
  replace hG0 := hG0 (fun m hm => by have z := List.all_eq_true.1 hsz m (DataW.weights_mem_each (j := 0) (t := 4) rfl rfl m hm); simpa using z)
  obtain rfl : y0 = a0 := by
    have z : [_] = [_] := hK0
    simpa [Value.cells] using z.symm
  have k1 := h1
  have lt1 : ∀ x ∈ p1, x.block < W.heap.size := by obtain ⟨m, hm⟩ := k1; exact DataW.trod_lt m _ _ _ hm
  obtain ⟨e1, hf1⟩ := h1
  obtain ⟨A1, len1, cap1, rfl⟩ := okWide_slice Tryd.underlying22 (hval 1 22 v1 rfl rfl)
  obtain ⟨y1, hK1, hG1, hM1⟩ := rd22.read hf1
  replace hG1 := hG1 (fun m hm => by have z := List.all_eq_true.1 hsz m (DataW.weights_mem_each (j := 1) (t := 22) rfl rfl m hm); simpa using z)
  obtain ⟨B1, c1, z1, hle1, hC1⟩ := hK1
  obtain ⟨rfl, rfl, rfl⟩ : A1 = B1 ∧ len1 = y1.length ∧ c1 = cap1 := by
    have z : A1 = B1 ∧ len1 = y1.length ∧ cap1 = c1 := by simpa [Value.cells] using z1
    exact ⟨z.1, z.2.1, z.2.2.symm⟩
  clear hA0 hval hsz hsz0
  have h := Pure.StreamsBirths y0 y1 hG0 hG1
  refine (heraldlaw11_StreamsBirths.calls y0 A1 c1 y1 true W (glob_of hL) hC1 hle1 h).mono fun e W' ⟨he, hd⟩ => ?_
  have bel : Below W.heap.size W W' := hd
  subst he
  exact ⟨_, rfl, _, _, _, [], _, [], hW', trodAll_mk1 (shut_bool Tryd.underlying4 _), (trodAll_cons_mk (Below.trod laidOut (by kernel_rfl) (of_decide_eq_true (by kernel_rfl)) k0 bel lt0) (trodAll_cons_mk (Below.trod laidOut (by kernel_rfl) (of_decide_eq_true (by kernel_rfl)) k1 bel lt1) trodAll_mk0)), rfl, bel.frame _, fun h => by cases h⟩
theorem said : Rows.StreamsBirthsSaid :=
  OpenClaim.holds_of_cond 4 Tryd.f4 rfl rfl rfl rfl rfl rfl rfl ⟨rfl, rfl, rfl, rfl, rfl⟩ rfl rfl rfl rfl rfl (by kernel_rfl) Tryd.func4 (by kernel_rfl)
    (of_decide_eq_true (by kernel_rfl)) (by unfold Func.isWrapper; first | (rw [if_pos (by decide +kernel)]; kernel_rfl) | (rw [if_neg (by decide +kernel)]; exact ⟨rfl, rfl⟩))
    (fun os started H enc _ F => by rw [OpenClaim.pre_eq_preRow]; exact lifted os started H enc F)
theorem plain (f : FuncId) (fn : Func) (hf : Tryd.pinned.checked.prog.funcNamed "herald/heraldlaw11.StreamsBirths" = some f) (hfn : Tryd.pinned.checked.prog.funcs[f]? = some fn) :
    false = Tryd.pinned.checked.prog.looks [] ∧ ∀ (j : Nat) t, fn.params[j]? = some t → Tryd.pinned.checked.prog.wantsStandIn t = false := by
  obtain rfl : f = 4 := Option.some.inj ((show Tryd.prog.funcNamed "herald/heraldlaw11.StreamsBirths" = some 4 by kernel_rfl).symm.trans hf) |>.symm
  obtain rfl : fn = Tryd.f4 := (Option.some.inj (Tryd.func4.symm.trans hfn)).symm
  refine ⟨by kernel_rfl, fun j t ht => ?_⟩
  rw [Tryd.params4] at ht
  have hm : t ∈ ([4, 22] : List TypeId) := by
    have := Array.mem_of_getElem? ht
    simpa using this
  simp only [List.mem_cons, List.not_mem_nil, or_false] at hm
  rcases hm with rfl | rfl
  · exact (show Tryd.prog.wantsStandIn 4 = false by kernel_rfl)
  · exact (show Tryd.prog.wantsStandIn 22 = false by kernel_rfl)
theorem proved : Rows.StreamsBirthsCardSaid :=
  Claim7.holds_tied_plain_at .later [] _ _ _ _ said (fun _ h => by cases h) (by kernel_rfl) (fun _ h => by cases h) streamsBirths_row_tie rfl ⟨rfl, rfl⟩ (by kernel_rfl) rfl plain (by kernel_rfl)
end Go.Proofs.YtagkncjdohljgaaDoor.streamsBirths
namespace Go.Proofs.YtagkncjdohljgaaDoor
/-- The row, under a short name, for the claim. -/
theorem streamsBirths_holds : Rows.StreamsBirthsCardSaid := streamsBirths.proved
#print axioms streamsBirths_holds
end Go.Proofs.YtagkncjdohljgaaDoor
