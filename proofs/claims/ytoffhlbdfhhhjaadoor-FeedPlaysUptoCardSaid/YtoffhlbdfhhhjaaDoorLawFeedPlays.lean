/- The row of the law FeedPlays, out of its plain statement and the walk: for every input the call returns true and each argument reads behind it as it read before; the condition is the statement's own bound on the arguments. -/
import Derived.Test.YtoffhlbdfhhhjaaDoorCards
import Derived.Test.YtoffhlbdfhhhjaaDoorTie
import Derived.Test.YtoffhlbdfhhhjaaDoorPureFeedPlays
import Derived.WalkKit
import Derived.ProofKit
import Derived.OpenShut
import Derived.ShutString
import Derived.ChangeOld
import Derived.Below
import Derived.SizedLaws
import Derived.Deep.DeepHandedRow
import Derived.Lib.LaidTab
import Derived.Test.YtoffhlbdfhhhjaaDoorZLaid
namespace Go.Proofs.YtoffhlbdfhhhjaaDoor.feedPlays
open Go Go.ChangeShapes Go.WideShapes Go.ChangeAt Go.RowKit Go.Proofs.YtoffhlbdfhhhjaaDoorW.PrintWords Go.Proofs.YtoffhlbdfhhhjaaDoor.ZRow Go.Proofs.YtoffhlbdfhhhjaaDoor.QL Go.Proofs.YtoffhlbdfhhhjaaDoor.Fr20
open Go.ChangeMaps (open_string shut_string)
set_option linter.unusedVariables false
set_option linter.unusedSimpArgs false
theorem own : ownKnob Tryd.prog.godebug = none := by kernel_rfl
theorem laidOut : laidOutB Tryd.prog = true := by kernel_rfl
theorem glob_of {W : World} (h : laidMetH Tryd.prog Rows.feedPlaysUptoRow.laid W) : GL W := by
  have h0 : laidMet Tryd.prog Rows.feedPlaysUptoRow.laid W := h
  obtain ⟨ps, ⟨g0, t0, cs0, f0, p0, q0, hg0, ht0, hv0, hd0, _, _⟩, _⟩ := h0
  obtain rfl : 0 = g0 := Option.some.inj ((show Tryd.prog.globalNamed "herald/frame.kinds" = some 0 by kernel_rfl).symm.trans hg0)
  obtain rfl : 123 = t0 := Option.some.inj ((show (Tryd.prog.globals[0]?).map (·.type) = some 123 by kernel_rfl).symm.trans ht0)
  have c0 := fun i u (hu : (_ : List Value)[i]? = some u) => ZLaid.laid_cells (g := 0) (t := 123) (d := Rows.laid_herald_frame_kinds) (l := [.int .i64 9, .int .i64 0, .int .i64 45, .int .i64 0, .int .i64 0, .int .i64 0, .int .i64 0, .int .i64 0, .int .i64 1, .int .i64 1, .int .i64 12, .int .i64 0, .int .i64 1, .int .i64 1, .int .i64 0, .int .i64 1, .int .i64 0, .int .i64 2, .int .i64 4, .int .i64 0]) (by kernel_rfl) hv0 hd0 (by kernel_rfl) rfl i u hu
  exact ⟨c0 0 _ rfl, c0 1 _ rfl, c0 2 _ rfl, c0 3 _ rfl, c0 4 _ rfl, c0 5 _ rfl, c0 6 _ rfl, c0 7 _ rfl, c0 8 _ rfl, c0 9 _ rfl, c0 10 _ rfl, c0 11 _ rfl, c0 12 _ rfl, c0 13 _ rfl, c0 14 _ rfl, c0 15 _ rfl, c0 16 _ rfl, c0 17 _ rfl, c0 18 _ rfl, c0 19 _ rfl⟩
noncomputable def laidWorld (os : Os) : World := { World.holding Tryd.prog os ⟨#[], #[], []⟩ with heap := ((World.holding Tryd.prog os ⟨#[], #[], []⟩).heap.modify 0 fun | .cells _ t fr => .cells #[.int .i64 9, .int .i64 0, .int .i64 45, .int .i64 0, .int .i64 0, .int .i64 0, .int .i64 0, .int .i64 0, .int .i64 1, .int .i64 1, .int .i64 12, .int .i64 0, .int .i64 1, .int .i64 1, .int .i64 0, .int .i64 1, .int .i64 0, .int .i64 2, .int .i64 4, .int .i64 0] t fr | o => o) }
theorem laid_met (os : Os) : laidMet Tryd.prog Rows.feedPlaysUptoRow.laid ((laidWorld os).forCall (fun _ _ => 0) ⟨#[], #[.agg #[.bool false, .bool false], .agg #[.int .i64 0, .int .i64 0], .slice none 0 0], []⟩).memory := laidMet_of_run' 8 (by kernel_rfl) (by kernel_rfl)
theorem reads (os : Os) {H : Type} (enc : TypeId × Value → H) : ∃ places, DataW.whole enc Tryd.prog ((laidWorld os).forCall (fun _ _ => 0) ⟨#[], #[.agg #[.bool false, .bool false], .agg #[.int .i64 0, .int .i64 0], .slice none 0 0], []⟩).memory Tryd.f11.params.toList Rows.feedPlaysSpec.vars false (#[.agg #[.bool false, .bool false], .agg #[.int .i64 0, .int .i64 0], .slice none 0 0] : Array Value).toList 8 = some ([.agg [.lit (.bool false), .lit (.bool false)], .agg [.lit (.int .i64 0), .lit (.int .i64 0)], .nil], [], places) := ⟨[], by kernel_rfl⟩
set_option maxHeartbeats 4000000 in
set_option maxRecDepth 100000 in
theorem lifted (os : Os) (started : os.Started) (H : Type) (enc : TypeId × Value → H) (F : Stop.Interp) :
    ReturnsInHanded {} Tryd.checked os 11 .any ((Rows.OpenSpec.upto Rows.feedPlaysSpec).preRow enc Tryd.prog Tryd.f11 Rows.feedPlaysUptoRow.domain false Rows.feedPlaysUptoRow.laid) (((Rows.OpenSpec.upto Rows.feedPlaysSpec).at F).post enc Tryd.prog Tryd.f11 false true false false) := by
  obtain ⟨places, hx⟩ := reads os enc
  refine returnsInHanded_of_row (C := Tryd.checked) (s := (Rows.OpenSpec.upto Rows.feedPlaysSpec)) own started (by kernel_rfl) Tryd.func11
    (witness_row_at (enc := enc) (C := Tryd.checked) false (laidWorld os) #[.agg #[.bool false, .bool false], .agg #[.int .i64 0, .int .i64 0], .slice none 0 0] rfl (by kernel_rfl) (by kernel_rfl) (by kernel_rfl)
      (OpenSpec.preRow_of_cond 8 hx (by kernel_rfl) (fun k hk => by cases hk; kernel_rfl) (by kernel_rfl) (laid_met os))) ?_
  intro W base args ds gs before hval0 hW hcnd hk hsz0 hL _ _
  replace hk := hk _ rfl
  have hval : ∀ (j : Nat) t v, Tryd.f11.params[j]? = some t → args[j]? = some v → Value.okWide Tryd.prog W .any base t v := hval0
  have hW' := hW
  obtain ⟨p, q, hA0, hV, rfl, hfz, hnd⟩ := hW
  have hA : DataW.TrodAll enc Tryd.prog W 0 (fun _ => true) true Tryd.f11.params.toList args.toList ds p := hA0
  have hsz : (DataW.weightsEach Tryd.prog (Tryd.f11.params.toList ++ Rows.feedPlaysSpec.plain.varTypes Tryd.prog) (ds ++ gs)).all (· ≤ reachBytes) = true := hsz0
  rw [Tryd.params11] at hA hval hsz
  obtain ⟨v0, vs0, d0, ds0, p0, q0, hargs, rfl, rfl, h0, r0⟩ := trodAll_cons hA
  obtain ⟨v1, vs1, d1, ds1, p1, q1, rfl, rfl, rfl, h1, r1⟩ := trodAll_cons r0
  obtain ⟨v2, vs2, d2, ds2, p2, q2, rfl, rfl, rfl, h2, r2⟩ := trodAll_cons r1
  obtain ⟨rfl, rfl, rfl⟩ := trodAll_nil r2
  obtain rfl : args = #[v0, v1, v2] := by cases args; simp_all
  obtain ⟨rfl, rfl⟩ := trodVars_none hV
  have k0 := h0
  have lt0 : ∀ x ∈ p0, x.block < W.heap.size := by obtain ⟨m, hm⟩ := k0; exact DataW.trod_lt m _ _ _ hm
  obtain ⟨e0, hf0⟩ := h0
  obtain ⟨cs0, rfl, hcs0⟩ := okWide_arr Tryd.underlying63 (hval 0 63 v0 rfl rfl)
  obtain ⟨y0, hK0, hG0, hM0⟩ := rd63.read hf0
  replace hG0 := hG0 (fun m hm => by have z := List.all_eq_true.1 hsz m (DataW.weights_mem_each (j := 0) (t := 63) rfl rfl m hm); simpa using z)
  have z0 := k63_open hK0
  obtain rfl : cs0 = #[.bool y0.f0, .bool y0.f1] := by
    simp only [Value.cells] at z0
    cases cs0; simp_all
  have k1 := h1
  have lt1 : ∀ x ∈ p1, x.block < W.heap.size := by obtain ⟨m, hm⟩ := k1; exact DataW.trod_lt m _ _ _ hm
  obtain ⟨e1, hf1⟩ := h1
  obtain ⟨cs1, rfl, hcs1⟩ := okWide_arr Tryd.underlying64 (hval 1 64 v1 rfl rfl)
  obtain ⟨y1, hK1, hG1, hM1⟩ := rd64.read hf1
  replace hG1 := hG1 (fun m hm => by have z := List.all_eq_true.1 hsz m (DataW.weights_mem_each (j := 1) (t := 64) rfl rfl m hm); simpa using z)
  have z1 := k64_open hK1
  obtain rfl : cs1 = #[.int .i64 y1.f0, .int .i64 y1.f1] := by
    simp only [Value.cells] at z1
    cases cs1; simp_all
  have k2 := h2
  have lt2 : ∀ x ∈ p2, x.block < W.heap.size := by obtain ⟨m, hm⟩ := k2; exact DataW.trod_lt m _ _ _ hm
  obtain ⟨e2, hf2⟩ := h2
  obtain ⟨A2, len2, cap2, rfl⟩ := okWide_slice Tryd.underlying65 (hval 2 65 v2 rfl rfl)
  obtain ⟨y2, hK2, hG2, hM2⟩ := rd65.read hf2
  replace hG2 := hG2 (fun m hm => by have z := List.all_eq_true.1 hsz m (DataW.weights_mem_each (j := 2) (t := 65) rfl rfl m hm); simpa using z)
  obtain ⟨B2, c2, z2, hle2, hC2⟩ := hK2
  obtain ⟨rfl, rfl, rfl⟩ : A2 = B2 ∧ len2 = y2.length ∧ c2 = cap2 := by
    have z : A2 = B2 ∧ len2 = y2.length ∧ cap2 = c2 := by simpa [Value.cells] using z2
    exact ⟨z.1, z.2.1, z.2.2.symm⟩
  clear hA0 hval hsz hsz0
  have hB : mu63 y0 + mu64 y1 + (muL mu71) y2 ≤ 1048576 := by
    have z := of_decide_eq_true hk
    simp only [List.nil_append, List.append_nil, Rows.uptoBulkAll] at z
    have m0 : mu63 y0 ≤ Rows.uptoBulk d0 := hM0
    have m1 : mu64 y1 ≤ Rows.uptoBulk d1 := hM1
    have m2 : (muL mu71) y2 ≤ Rows.uptoBulk d2 := hM2
    omega
  have h := Pure.FeedPlays y0 y1 y2 hG0 hG1 hG2 hB
  refine (heraldlaw07_FeedPlays.calls y0.f0 y0.f1 y1.f0 y1.f1 A2 c2 y2 true W (glob_of hL) hC2 hle2 h).mono fun e W' ⟨he, hd⟩ => ?_
  have bel : Below W.heap.size W W' := hd
  subst he
  exact ⟨_, rfl, _, _, _, [], _, [], hW', trodAll_mk1 (shut_bool Tryd.underlying4 _), (trodAll_cons_mk (Below.trod laidOut (by kernel_rfl) (of_decide_eq_true (by kernel_rfl)) k0 bel lt0) (trodAll_cons_mk (Below.trod laidOut (by kernel_rfl) (of_decide_eq_true (by kernel_rfl)) k1 bel lt1) (trodAll_cons_mk (Below.trod laidOut (by kernel_rfl) (of_decide_eq_true (by kernel_rfl)) k2 bel lt2) trodAll_mk0))), rfl, bel.frame _, fun h => by cases h⟩
theorem said : Rows.FeedPlaysUptoSaid :=
  OpenClaim.holds_of_cond 11 Tryd.f11 rfl rfl rfl rfl rfl rfl rfl ⟨rfl, rfl, rfl, rfl, rfl⟩ rfl rfl rfl rfl rfl (by kernel_rfl) Tryd.func11 (by kernel_rfl)
    (of_decide_eq_true (by kernel_rfl)) (by unfold Func.isWrapper; first | (rw [if_pos (by decide +kernel)]; kernel_rfl) | (rw [if_neg (by decide +kernel)]; exact ⟨rfl, rfl⟩))
    (fun os started H enc _ F => by rw [OpenClaim.pre_eq_preRow]; exact lifted os started H enc F)
theorem plain (f : FuncId) (fn : Func) (hf : Tryd.pinned.checked.prog.funcNamed "herald/heraldlaw07.FeedPlays" = some f) (hfn : Tryd.pinned.checked.prog.funcs[f]? = some fn) :
    false = Tryd.pinned.checked.prog.looks [] ∧ ∀ (j : Nat) t, fn.params[j]? = some t → Tryd.pinned.checked.prog.wantsStandIn t = false := by
  obtain rfl : f = 11 := Option.some.inj ((show Tryd.prog.funcNamed "herald/heraldlaw07.FeedPlays" = some 11 by kernel_rfl).symm.trans hf) |>.symm
  obtain rfl : fn = Tryd.f11 := (Option.some.inj (Tryd.func11.symm.trans hfn)).symm
  refine ⟨by kernel_rfl, fun j t ht => ?_⟩
  rw [Tryd.params11] at ht
  have hm : t ∈ ([63, 64, 65] : List TypeId) := by
    have := Array.mem_of_getElem? ht
    simpa using this
  simp only [List.mem_cons, List.not_mem_nil, or_false] at hm
  rcases hm with rfl | rfl | rfl
  · exact (show Tryd.prog.wantsStandIn 63 = false by kernel_rfl)
  · exact (show Tryd.prog.wantsStandIn 64 = false by kernel_rfl)
  · exact (show Tryd.prog.wantsStandIn 65 = false by kernel_rfl)
theorem proved : Rows.FeedPlaysUptoCardSaid :=
  Claim7.holds_tied_plain_at .later [] _ _ _ _ said (fun _ h => by cases h) (by kernel_rfl) (fun _ h => by cases h) feedPlaysUpto_row_tie rfl ⟨rfl, rfl⟩ (by kernel_rfl) rfl plain (by kernel_rfl)
end Go.Proofs.YtoffhlbdfhhhjaaDoor.feedPlays
namespace Go.Proofs.YtoffhlbdfhhhjaaDoor
/-- The row, under a short name, for the claim. -/
theorem feedPlaysUpto_holds : Rows.FeedPlaysUptoCardSaid := feedPlays.proved
#print axioms feedPlaysUpto_holds
end Go.Proofs.YtoffhlbdfhhhjaaDoor
