/- The row of the law ShareRefuses, out of its plain statement and the walk: for every input the call returns true and each argument reads behind it as it read before; the condition is the statement's own bound on the arguments. -/
import Derived.Test.YtedkjbdkokdgdaaRows
import Derived.Test.YtedkjbdkokdgdaaPureShareRefuses
import Derived.WalkKit
import Derived.ProofKit
import Derived.OpenShut
import Derived.ShutString
import Derived.ChangeOld
import Derived.Below
import Derived.SizedLaws
import Derived.Deep.CondSized
namespace Go.Proofs.Ytedkjbdkokdgdaa.shareRefuses
open Go Go.ChangeShapes Go.WideShapes Go.ChangeAt Go.RowKit Go.Proofs.YtedkjbdkokdgdaaW.PrintWords Go.Proofs.Ytedkjbdkokdgdaa.ZRow Go.Proofs.Ytedkjbdkokdgdaa.QL
open Go.ChangeMaps (open_string shut_string)
set_option linter.unusedVariables false
set_option linter.unusedSimpArgs false
theorem own : ownKnob Try.prog.godebug = none := by kernel_rfl
theorem laidOut : laidOutB Try.prog = true := by kernel_rfl
set_option maxHeartbeats 4000000 in
set_option maxRecDepth 100000 in
theorem lifted (os : Os) (started : os.Started) (H : Type) (enc : TypeId × Value → H) (F : Stop.Interp) :
    ReturnsInHanded {} Try.checked os 7 .any ((Rows.OpenSpec.upto Rows.shareRefusesSpec).pre6 enc Try.prog Try.f7 Rows.shareRefusesUptoRow.domain false) (((Rows.OpenSpec.upto Rows.shareRefusesSpec).at F).post enc Try.prog Try.f7 false true false false) := by
  refine returnsInHanded_of_cond_sized (C := Try.checked) (s := Rows.OpenSpec.upto Rows.shareRefusesSpec) (k := Rows.uptoSmall) rfl own started (by kernel_rfl) Try.func7
    (OpenSpec.witness (enc := enc) (C := Try.checked) (s := Rows.OpenSpec.upto Rows.shareRefusesSpec) (k := Rows.uptoSmall) rfl false ⟨#[], #[.int .i64 0, .string ByteArray.empty, .int .i64 0], []⟩ 8 (by kernel_rfl) (by kernel_rfl) (by kernel_rfl)
      (x := ([.lit (.int .i64 0), .lit (.string []), .lit (.int .i64 0)], [], [])) (by kernel_rfl) rfl (by kernel_rfl)) ?_
  intro W base args ds gs before hval0 hW hcnd hk hsz0 _
  have hval : ∀ (j : Nat) t v, Try.f7.params[j]? = some t → args[j]? = some v → Value.okWide Try.prog W .any base t v := hval0
  have hW' := hW
  obtain ⟨p, q, hA0, hV, rfl, hfz, hnd⟩ := hW
  have hA : DataW.TrodAll enc Try.prog W 0 (fun _ => true) true Try.f7.params.toList args.toList ds p := hA0
  have hsz : (DataW.weightsEach Try.prog (Try.f7.params.toList ++ Rows.shareRefusesSpec.plain.varTypes Try.prog) (ds ++ gs)).all (· ≤ reachBytes) = true := hsz0
  rw [Try.params7] at hA hval hsz
  obtain ⟨v0, vs0, d0, ds0, p0, q0, hargs, rfl, rfl, h0, r0⟩ := trodAll_cons hA
  obtain ⟨v1, vs1, d1, ds1, p1, q1, rfl, rfl, rfl, h1, r1⟩ := trodAll_cons r0
  obtain ⟨v2, vs2, d2, ds2, p2, q2, rfl, rfl, rfl, h2, r2⟩ := trodAll_cons r1
  obtain ⟨rfl, rfl, rfl⟩ := trodAll_nil r2
  obtain rfl : args = #[v0, v1, v2] := by cases args; simp_all
  obtain ⟨rfl, rfl⟩ := trodVars_none hV
  have k0 := h0
  have lt0 : ∀ x ∈ p0, x.block < W.heap.size := by obtain ⟨m, hm⟩ := k0; exact DataW.trod_lt m _ _ _ hm
  obtain ⟨e0, hf0⟩ := h0
  obtain ⟨a0, rfl⟩ := okWide_int Try.underlying2 (hval 0 2 v0 rfl rfl)
  obtain ⟨y0, hK0, hG0, hM0⟩ := rd2.read hf0
  replace hG0 := hG0 (fun m hm => by have z := List.all_eq_true.1 hsz m (DataW.weights_mem_each (j := 0) (t := 2) rfl rfl m hm); simpa using z)
  obtain rfl : y0 = a0 := by
    have z : [_] = [_] := hK0
    simpa [Value.cells] using z.symm
  have k1 := h1
  have lt1 : ∀ x ∈ p1, x.block < W.heap.size := by obtain ⟨m, hm⟩ := k1; exact DataW.trod_lt m _ _ _ hm
  obtain ⟨e1, hf1⟩ := h1
  obtain ⟨a1, rfl⟩ := okWide_string Try.underlying9 (hval 1 9 v1 rfl rfl)
  obtain ⟨y1, hK1, hG1, hM1⟩ := rd9.read hf1
  replace hG1 := hG1 (fun m hm => by have z := List.all_eq_true.1 hsz m (DataW.weights_mem_each (j := 1) (t := 9) rfl rfl m hm); simpa using z)
  obtain rfl : y1 = a1 := by
    have z : [_] = [_] := hK1
    simpa [Value.cells] using z.symm
  have k2 := h2
  have lt2 : ∀ x ∈ p2, x.block < W.heap.size := by obtain ⟨m, hm⟩ := k2; exact DataW.trod_lt m _ _ _ hm
  obtain ⟨e2, hf2⟩ := h2
  obtain ⟨a2, rfl⟩ := okWide_int Try.underlying2 (hval 2 2 v2 rfl rfl)
  obtain ⟨y2, hK2, hG2, hM2⟩ := rd2.read hf2
  replace hG2 := hG2 (fun m hm => by have z := List.all_eq_true.1 hsz m (DataW.weights_mem_each (j := 2) (t := 2) rfl rfl m hm); simpa using z)
  obtain rfl : y2 = a2 := by
    have z : [_] = [_] := hK2
    simpa [Value.cells] using z.symm
  clear hA0 hval hsz hsz0
  have hB : (fun _ : Int => 1) y0 + (fun s : ByteArray => s.size + 1) y1 + (fun _ : Int => 1) y2 ≤ 1048576 := by
    have z := of_decide_eq_true hk
    simp only [List.nil_append, List.append_nil, Rows.uptoBulkAll] at z
    have m0 : (fun _ : Int => 1) y0 ≤ Rows.uptoBulk d0 := hM0
    have m1 : (fun s : ByteArray => s.size + 1) y1 ≤ Rows.uptoBulk d1 := hM1
    have m2 : (fun _ : Int => 1) y2 ≤ Rows.uptoBulk d2 := hM2
    omega
  have h := Pure.ShareRefuses y0 y1 y2 hG0 hG1 hG2 hB
  refine (heraldlaw20_ShareRefuses.calls y0 y1 y2 true W h).mono fun e W' ⟨he, hd⟩ => ?_
  have bel : Below W.heap.size W W' := hd
  subst he
  exact ⟨_, rfl, _, _, _, [], _, [], hW', trodAll_mk1 (shut_bool Try.underlying4 _), (trodAll_cons_mk (Below.trod laidOut (by kernel_rfl) (of_decide_eq_true (by kernel_rfl)) k0 bel lt0) (trodAll_cons_mk (Below.trod laidOut (by kernel_rfl) (of_decide_eq_true (by kernel_rfl)) k1 bel lt1) (trodAll_cons_mk (Below.trod laidOut (by kernel_rfl) (of_decide_eq_true (by kernel_rfl)) k2 bel lt2) trodAll_mk0))), rfl, bel.frame _, fun h => by cases h⟩
theorem over : Rows.shareRefusesUptoRow.holds Try.pinned (Rows.OpenSpec.upto Rows.shareRefusesSpec) :=
  OpenClaim.holds_of_cond 7 Try.f7 rfl rfl rfl rfl rfl rfl rfl ⟨rfl, rfl, rfl, rfl, rfl⟩ rfl rfl rfl rfl rfl (by kernel_rfl) Try.func7 (by kernel_rfl)
    (of_decide_eq_true (by kernel_rfl)) (by unfold Func.isWrapper; first | (rw [if_pos (by decide +kernel)]; kernel_rfl) | (rw [if_neg (by decide +kernel)]; exact ⟨rfl, rfl⟩))
    (fun os started H enc _ F => lifted os started H enc F)
theorem proved : Rows.ShareRefusesUptoSaid := over
end Go.Proofs.Ytedkjbdkokdgdaa.shareRefuses
namespace Go.Proofs.Ytedkjbdkokdgdaa
/-- The row, under a short name, for the claim. -/
theorem shareRefusesUpto_holds : Rows.ShareRefusesUptoSaid := shareRefuses.proved
#print axioms shareRefusesUpto_holds
end Go.Proofs.Ytedkjbdkokdgdaa
