/- The row of the law ShareWhole, out of its plain statement and the walk: for every input the call returns true and each argument reads behind it as it read before; the condition is the statement's own bound on the arguments. -/
import Derived.Test.YtedkjbdkokdgdaaRows
import Derived.Test.YtedkjbdkokdgdaaPureShareWhole
import Derived.WalkKit
import Derived.ProofKit
import Derived.OpenShut
import Derived.ShutString
import Derived.ChangeOld
import Derived.Below
import Derived.SizedLaws
import Derived.Deep.CondSized
namespace Go.Proofs.Ytedkjbdkokdgdaa.shareWhole
open Go Go.ChangeShapes Go.WideShapes Go.ChangeAt Go.RowKit Go.Proofs.YtedkjbdkokdgdaaW.PrintWords Go.Proofs.Ytedkjbdkokdgdaa.ZRow Go.Proofs.Ytedkjbdkokdgdaa.QL
open Go.ChangeMaps (open_string shut_string)
set_option linter.unusedVariables false
set_option linter.unusedSimpArgs false
theorem own : ownKnob Try.prog.godebug = none := by kernel_rfl
theorem laidOut : laidOutB Try.prog = true := by kernel_rfl
set_option maxHeartbeats 4000000 in
set_option maxRecDepth 100000 in
theorem lifted (os : Os) (started : os.Started) (H : Type) (enc : TypeId × Value → H) (F : Stop.Interp) :
    ReturnsInHanded {} Try.checked os 5 .any ((Rows.OpenSpec.upto Rows.shareWholeSpec).pre6 enc Try.prog Try.f5 Rows.shareWholeUptoRow.domain false) (((Rows.OpenSpec.upto Rows.shareWholeSpec).at F).post enc Try.prog Try.f5 false true false false) := by
  refine returnsInHanded_of_cond_sized (C := Try.checked) (s := Rows.OpenSpec.upto Rows.shareWholeSpec) (k := Rows.uptoSmall) rfl own started (by kernel_rfl) Try.func5
    (OpenSpec.witness (enc := enc) (C := Try.checked) (s := Rows.OpenSpec.upto Rows.shareWholeSpec) (k := Rows.uptoSmall) rfl false ⟨#[], #[.int .i64 0, .slice none 0 0], []⟩ 8 (by kernel_rfl) (by kernel_rfl) (by kernel_rfl)
      (x := ([.lit (.int .i64 0), .nil], [], [])) (by kernel_rfl) rfl (by kernel_rfl)) ?_
  intro W base args ds gs before hval0 hW hcnd hk hsz0 _
  have hval : ∀ (j : Nat) t v, Try.f5.params[j]? = some t → args[j]? = some v → Value.okWide Try.prog W .any base t v := hval0
  have hW' := hW
  obtain ⟨p, q, hA0, hV, rfl, hfz, hnd⟩ := hW
  have hA : DataW.TrodAll enc Try.prog W 0 (fun _ => true) true Try.f5.params.toList args.toList ds p := hA0
  have hsz : (DataW.weightsEach Try.prog (Try.f5.params.toList ++ Rows.shareWholeSpec.plain.varTypes Try.prog) (ds ++ gs)).all (· ≤ reachBytes) = true := hsz0
  rw [Try.params5] at hA hval hsz
  obtain ⟨v0, vs0, d0, ds0, p0, q0, hargs, rfl, rfl, h0, r0⟩ := trodAll_cons hA
  obtain ⟨v1, vs1, d1, ds1, p1, q1, rfl, rfl, rfl, h1, r1⟩ := trodAll_cons r0
  obtain ⟨rfl, rfl, rfl⟩ := trodAll_nil r1
  obtain rfl : args = #[v0, v1] := by cases args; simp_all
  obtain ⟨rfl, rfl⟩ := trodVars_none hV
  have k0 := h0
  have lt0 : ∀ x ∈ p0, x.block < W.heap.size := by obtain ⟨m, hm⟩ := k0; exact DataW.trod_lt m _ _ _ hm
  obtain ⟨e0, hf0⟩ := h0
  obtain ⟨a0, rfl⟩ := okWide_int Try.underlying2 (hval 0 2 v0 rfl rfl)
  obtain ⟨y0, hK0, hG0, hM0⟩ := rd2.read hf0
  replace hG0 := hG0 (fun m hm => by have z := List.all_eq_true.1 hsz m (DataW.weights_mem_each (j := 0) (t := 2) rfl rfl m hm); simpa using z)
  obtain rfl : y0 = a0 := by
    have z : [_] = [_] := hK0
    simpa [Value.cells] using z.symm
  have k1 := h1
  have lt1 : ∀ x ∈ p1, x.block < W.heap.size := by obtain ⟨m, hm⟩ := k1; exact DataW.trod_lt m _ _ _ hm
  obtain ⟨e1, hf1⟩ := h1
  obtain ⟨A1, len1, cap1, rfl⟩ := okWide_slice Try.underlying40 (hval 1 40 v1 rfl rfl)
  obtain ⟨y1, hK1, hG1, hM1⟩ := rd40.read hf1
  replace hG1 := hG1 (fun m hm => by have z := List.all_eq_true.1 hsz m (DataW.weights_mem_each (j := 1) (t := 40) rfl rfl m hm); simpa using z)
  obtain ⟨B1, c1, z1, hle1, hC1⟩ := hK1
  obtain ⟨rfl, rfl, rfl⟩ : A1 = B1 ∧ len1 = y1.length ∧ c1 = cap1 := by
    have z : A1 = B1 ∧ len1 = y1.length ∧ cap1 = c1 := by simpa [Value.cells] using z1
    exact ⟨z.1, z.2.1, z.2.2.symm⟩
  clear hA0 hval hsz hsz0
  have hB : (fun _ : Int => 1) y0 + (muL mu42) y1 ≤ 1048576 := by
    have z := of_decide_eq_true hk
    simp only [List.nil_append, List.append_nil, Rows.uptoBulkAll] at z
    have m0 : (fun _ : Int => 1) y0 ≤ Rows.uptoBulk d0 := hM0
    have m1 : (muL mu42) y1 ≤ Rows.uptoBulk d1 := hM1
    omega
  have h := Pure.ShareWhole y0 y1 hG0 hG1 hB
  refine (heraldlaw20_ShareWhole.calls y0 A1 c1 y1 true W hC1 hle1 h).mono fun e W' ⟨he, hd⟩ => ?_
  have bel : Below W.heap.size W W' := hd
  subst he
  exact ⟨_, rfl, _, _, _, [], _, [], hW', trodAll_mk1 (shut_bool Try.underlying4 _), (trodAll_cons_mk (Below.trod laidOut (by kernel_rfl) (of_decide_eq_true (by kernel_rfl)) k0 bel lt0) (trodAll_cons_mk (Below.trod laidOut (by kernel_rfl) (of_decide_eq_true (by kernel_rfl)) k1 bel lt1) trodAll_mk0)), rfl, bel.frame _, fun h => by cases h⟩
theorem over : Rows.shareWholeUptoRow.holds Try.pinned (Rows.OpenSpec.upto Rows.shareWholeSpec) :=
  OpenClaim.holds_of_cond 5 Try.f5 rfl rfl rfl rfl rfl rfl rfl ⟨rfl, rfl, rfl, rfl, rfl⟩ rfl rfl rfl rfl rfl (by kernel_rfl) Try.func5 (by kernel_rfl)
    (of_decide_eq_true (by kernel_rfl)) (by unfold Func.isWrapper; first | (rw [if_pos (by decide +kernel)]; kernel_rfl) | (rw [if_neg (by decide +kernel)]; exact ⟨rfl, rfl⟩))
    (fun os started H enc _ F => lifted os started H enc F)
theorem proved : Rows.ShareWholeUptoSaid := over
end Go.Proofs.Ytedkjbdkokdgdaa.shareWhole
namespace Go.Proofs.Ytedkjbdkokdgdaa
/-- The row, under a short name, for the claim. -/
theorem shareWholeUpto_holds : Rows.ShareWholeUptoSaid := shareWhole.proved
#print axioms shareWholeUpto_holds
end Go.Proofs.Ytedkjbdkokdgdaa
