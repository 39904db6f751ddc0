/- The row of the law WindowPlays, out of its plain statement and the walk: for every input the call returns true and each argument reads behind it as it read before; no further condition. -/
import Derived.Test.YtbngliommdmnkaaRows
import Derived.Test.YtbngliommdmnkaaPureWindowPlays
import Derived.WalkKit
import Derived.ProofKit
import Derived.OpenShut
import Derived.ShutString
import Derived.ChangeOld
import Derived.Below
import Derived.SizedLaws
namespace Go.Proofs.Ytbngliommdmnkaa.windowPlays
open Go Go.ChangeShapes Go.WideShapes Go.ChangeAt Go.RowKit Go.Proofs.YtbngliommdmnkaaW.PrintWords Go.Proofs.Ytbngliommdmnkaa.ZRow Go.Proofs.Ytbngliommdmnkaa.QWindowSums
open Go.ChangeMaps (open_string shut_string)
set_option linter.unusedVariables false
theorem own : ownKnob Try.prog.godebug = none := by kernel_rfl
theorem laidOut : laidOutB Try.prog = true := by kernel_rfl
set_option maxHeartbeats 4000000 in
set_option maxRecDepth 100000 in
theorem lifted (os : Os) (started : os.Started) (H : Type) (enc : TypeId × Value → H) :
    ReturnsInHanded {} Try.checked os 3 .any (Rows.windowPlaysSpec.pre6 enc Try.prog Try.f3 Rows.windowPlaysRow.domain false) (Rows.windowPlaysSpec.post enc Try.prog Try.f3 false true false false) := by
  refine returnsInHanded_of_change_sized (C := Try.checked) own started (by kernel_rfl) Try.func3
    (ChangeSpec.witness6 (enc := enc) (C := Try.checked) false ⟨#[], #[.int .i64 0, .int .i64 0, .slice none 0 0], []⟩ 8 (by kernel_rfl) (by kernel_rfl) (by kernel_rfl) (by kernel_rfl)) ?_
  intro W base args ds gs before hval0 hW hcnd hsz0 _
  have hval : ∀ (j : Nat) t v, Try.f3.params[j]? = some t → args[j]? = some v → Value.okWide Try.prog W .any base t v := hval0
  have hW' := hW
  obtain ⟨p, q, hA0, hV, rfl, hfz, hnd⟩ := hW
  have hA : DataW.TrodAll enc Try.prog W 0 (fun _ => true) true Try.f3.params.toList args.toList ds p := hA0
  have hsz : (DataW.weightsEach Try.prog (Try.f3.params.toList ++ Rows.windowPlaysSpec.plain.varTypes Try.prog) (ds ++ gs)).all (· ≤ reachBytes) = true := hsz0
  rw [Try.params3] at hA hval hsz
  obtain ⟨v0, vs0, d0, ds0, p0, q0, hargs, rfl, rfl, h0, r0⟩ := trodAll_cons hA
  obtain ⟨v1, vs1, d1, ds1, p1, q1, rfl, rfl, rfl, h1, r1⟩ := trodAll_cons r0
  obtain ⟨v2, vs2, d2, ds2, p2, q2, rfl, rfl, rfl, h2, r2⟩ := trodAll_cons r1
  obtain ⟨rfl, rfl, rfl⟩ := trodAll_nil r2
  obtain rfl : args = #[v0, v1, v2] := by cases args; simp_all
  obtain ⟨rfl, rfl⟩ := trodVars_none hV
  have k0 := h0
  have lt0 : ∀ x ∈ p0, x.block < W.heap.size := by obtain ⟨m, hm⟩ := k0; exact DataW.trod_lt m _ _ _ hm
  obtain ⟨e0, hf0⟩ := h0
  obtain ⟨a0, rfl⟩ := okWide_int Try.underlying2 (hval 0 2 v0 rfl rfl)
  obtain ⟨y0, hK0, hG0, hM0⟩ := rd2.read hf0
  replace hG0 := hG0 (fun m hm => by have z := List.all_eq_true.1 hsz m (DataW.weights_mem_each (j := 0) (t := 2) rfl rfl m hm); simpa using z)
  obtain rfl : y0 = a0 := by
    have z : [_] = [_] := hK0
    simpa [Value.cells] using z.symm
  have k1 := h1
  have lt1 : ∀ x ∈ p1, x.block < W.heap.size := by obtain ⟨m, hm⟩ := k1; exact DataW.trod_lt m _ _ _ hm
  obtain ⟨e1, hf1⟩ := h1
  obtain ⟨a1, rfl⟩ := okWide_int Try.underlying2 (hval 1 2 v1 rfl rfl)
  obtain ⟨y1, hK1, hG1, hM1⟩ := rd2.read hf1
  replace hG1 := hG1 (fun m hm => by have z := List.all_eq_true.1 hsz m (DataW.weights_mem_each (j := 1) (t := 2) rfl rfl m hm); simpa using z)
  obtain rfl : y1 = a1 := by
    have z : [_] = [_] := hK1
    simpa [Value.cells] using z.symm
  have k2 := h2
  have lt2 : ∀ x ∈ p2, x.block < W.heap.size := by obtain ⟨m, hm⟩ := k2; exact DataW.trod_lt m _ _ _ hm
  obtain ⟨e2, hf2⟩ := h2
  obtain ⟨A2, len2, cap2, rfl⟩ := okWide_slice Try.underlying22 (hval 2 22 v2 rfl rfl)
  obtain ⟨y2, hK2, hG2, hM2⟩ := rd22.read hf2
  replace hG2 := hG2 (fun m hm => by have z := List.all_eq_true.1 hsz m (DataW.weights_mem_each (j := 2) (t := 22) rfl rfl m hm); simpa using z)
  obtain ⟨B2, c2, z2, hle2, hC2⟩ := hK2
  obtain ⟨rfl, rfl, rfl⟩ : A2 = B2 ∧ len2 = y2.length ∧ c2 = cap2 := by
    have z : A2 = B2 ∧ len2 = y2.length ∧ cap2 = c2 := by simpa [Value.cells] using z2
    exact ⟨z.1, z.2.1, z.2.2.symm⟩
  clear hA0 hval hsz hsz0
  have h := Pure.WindowPlays y0 y1 y2 hG0 hG1 hG2
  refine (heraldlaw09_WindowPlays.calls y0 y1 A2 c2 y2 true W hC2 hle2 h).mono fun e W' ⟨he, hd⟩ => ?_
  have bel : Below W.heap.size W W' := hd
  subst he
  exact ⟨_, rfl, _, _, _, [], _, [], hW', trodAll_mk1 (shut_bool Try.underlying4 _), (trodAll_cons_mk (Below.trod laidOut (by kernel_rfl) (of_decide_eq_true (by kernel_rfl)) k0 bel lt0) (trodAll_cons_mk (Below.trod laidOut (by kernel_rfl) (of_decide_eq_true (by kernel_rfl)) k1 bel lt1) (trodAll_cons_mk (Below.trod laidOut (by kernel_rfl) (of_decide_eq_true (by kernel_rfl)) k2 bel lt2) trodAll_mk0))), rfl, bel.frame _, fun h => by cases h⟩
theorem over : Rows.windowPlaysRow.holds Try.pinned (OpenSpec.ofChange Rows.windowPlaysSpec) :=
  OpenClaim.holds_of_wide 3 Try.f3 rfl rfl rfl rfl rfl rfl rfl ⟨rfl, rfl, rfl, rfl, rfl⟩ rfl rfl rfl rfl rfl (by kernel_rfl) Try.func3 (by kernel_rfl)
    (of_decide_eq_true (by kernel_rfl)) (by unfold Func.isWrapper; first | (rw [if_pos (by decide +kernel)]; kernel_rfl) | (rw [if_neg (by decide +kernel)]; exact ⟨rfl, rfl⟩))
    (fun os started H enc _ => lifted os started H enc)
theorem proved : Rows.WindowPlaysSaid := over
end Go.Proofs.Ytbngliommdmnkaa.windowPlays
namespace Go.Proofs.Ytbngliommdmnkaa
/-- The row, under a short name, for the claim. -/
theorem windowPlays_holds : Rows.WindowPlaysSaid := windowPlays.proved
#print axioms windowPlays_holds
end Go.Proofs.Ytbngliommdmnkaa
