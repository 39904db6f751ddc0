/- The row of the law SharePlays, out of its plain statement and the walk: for every input the call returns true and each argument reads behind it as it read before; the condition is the statement's own bound on the arguments. -/
import Derived.Test.YtedkjbdkokdgdaaRows
import Derived.Test.YtedkjbdkokdgdaaPureSharePlays
import Derived.WalkKit
import Derived.ProofKit
import Derived.OpenShut
import Derived.ShutString
import Derived.ChangeOld
import Derived.Below
import Derived.SizedLaws
import Derived.Deep.CondSized
namespace Go.Proofs.Ytedkjbdkokdgdaa.sharePlays
open Go Go.ChangeShapes Go.WideShapes Go.ChangeAt Go.RowKit Go.Proofs.YtedkjbdkokdgdaaW.PrintWords Go.Proofs.Ytedkjbdkokdgdaa.ZRow Go.Proofs.Ytedkjbdkokdgdaa.QL
open Go.ChangeMaps (open_string shut_string)
set_option linter.unusedVariables false
set_option linter.unusedSimpArgs false
theorem own : ownKnob Try.prog.godebug = none := by kernel_rfl
theorem laidOut : laidOutB Try.prog = true := by kernel_rfl
set_option maxHeartbeats 4000000 in
set_option maxRecDepth 100000 in
theorem lifted (os : Os) (started : os.Started) (H : Type) (enc : TypeId × Value → H) (F : Stop.Interp) :
    ReturnsInHanded {} Try.checked os 4 .any ((Rows.OpenSpec.upto Rows.sharePlaysSpec).pre6 enc Try.prog Try.f4 Rows.sharePlaysUptoRow.domain false) (((Rows.OpenSpec.upto Rows.sharePlaysSpec).at F).post enc Try.prog Try.f4 false true false false) := by
  refine returnsInHanded_of_cond_sized (C := Try.checked) (s := Rows.OpenSpec.upto Rows.sharePlaysSpec) (k := Rows.uptoSmall) rfl own started (by kernel_rfl) Try.func4
    (OpenSpec.witness (enc := enc) (C := Try.checked) (s := Rows.OpenSpec.upto Rows.sharePlaysSpec) (k := Rows.uptoSmall) rfl false ⟨#[], #[.slice none 0 0], []⟩ 8 (by kernel_rfl) (by kernel_rfl) (by kernel_rfl)
      (x := ([.nil], [], [])) (by kernel_rfl) rfl (by kernel_rfl)) ?_
  intro W base args ds gs before hval0 hW hcnd hk hsz0 _
  have hval : ∀ (j : Nat) t v, Try.f4.params[j]? = some t → args[j]? = some v → Value.okWide Try.prog W .any base t v := hval0
  have hW' := hW
  obtain ⟨p, q, hA0, hV, rfl, hfz, hnd⟩ := hW
  have hA : DataW.TrodAll enc Try.prog W 0 (fun _ => true) true Try.f4.params.toList args.toList ds p := hA0
  have hsz : (DataW.weightsEach Try.prog (Try.f4.params.toList ++ Rows.sharePlaysSpec.plain.varTypes Try.prog) (ds ++ gs)).all (· ≤ reachBytes) = true := hsz0
  rw [Try.params4] at hA hval hsz
  obtain ⟨v0, vs0, d0, ds0, p0, q0, hargs, rfl, rfl, h0, r0⟩ := trodAll_cons hA
  obtain ⟨rfl, rfl, rfl⟩ := trodAll_nil r0
  obtain rfl : args = #[v0] := by cases args; simp_all
  obtain ⟨rfl, rfl⟩ := trodVars_none hV
  have k0 := h0
  have lt0 : ∀ x ∈ p0, x.block < W.heap.size := by obtain ⟨m, hm⟩ := k0; exact DataW.trod_lt m _ _ _ hm
  obtain ⟨e0, hf0⟩ := h0
  obtain ⟨A0, len0, cap0, rfl⟩ := okWide_slice Try.underlying28 (hval 0 28 v0 rfl rfl)
  obtain ⟨y0, hK0, hG0, hM0⟩ := rd28.read hf0
  replace hG0 := hG0 (fun m hm => by have z := List.all_eq_true.1 hsz m (DataW.weights_mem_each (j := 0) (t := 28) rfl rfl m hm); simpa using z)
  obtain ⟨B0, c0, z0, hle0, hC0⟩ := hK0
  obtain ⟨rfl, rfl, rfl⟩ : A0 = B0 ∧ len0 = y0.length ∧ c0 = cap0 := by
    have z : A0 = B0 ∧ len0 = y0.length ∧ cap0 = c0 := by simpa [Value.cells] using z0
    exact ⟨z.1, z.2.1, z.2.2.symm⟩
  clear hA0 hval hsz hsz0
  have hB : (muL mu37) y0 ≤ 1048576 := by
    have z := of_decide_eq_true hk
    simp only [List.nil_append, List.append_nil, Rows.uptoBulkAll] at z
    have m0 : (muL mu37) y0 ≤ Rows.uptoBulk d0 := hM0
    omega
  have h := Pure.SharePlays y0 hG0 hB
  refine (heraldlaw20_SharePlays.calls A0 c0 y0 true W hC0 hle0 h).mono fun e W' ⟨he, hd⟩ => ?_
  have bel : Below W.heap.size W W' := hd
  subst he
  exact ⟨_, rfl, _, _, _, [], _, [], hW', trodAll_mk1 (shut_bool Try.underlying4 _), (trodAll_cons_mk (Below.trod laidOut (by kernel_rfl) (of_decide_eq_true (by kernel_rfl)) k0 bel lt0) trodAll_mk0), rfl, bel.frame _, fun h => by cases h⟩
theorem over : Rows.sharePlaysUptoRow.holds Try.pinned (Rows.OpenSpec.upto Rows.sharePlaysSpec) :=
  OpenClaim.holds_of_cond 4 Try.f4 rfl rfl rfl rfl rfl rfl rfl ⟨rfl, rfl, rfl, rfl, rfl⟩ rfl rfl rfl rfl rfl (by kernel_rfl) Try.func4 (by kernel_rfl)
    (of_decide_eq_true (by kernel_rfl)) (by unfold Func.isWrapper; first | (rw [if_pos (by decide +kernel)]; kernel_rfl) | (rw [if_neg (by decide +kernel)]; exact ⟨rfl, rfl⟩))
    (fun os started H enc _ F => lifted os started H enc F)
theorem proved : Rows.SharePlaysUptoSaid := over
end Go.Proofs.Ytedkjbdkokdgdaa.sharePlays
namespace Go.Proofs.Ytedkjbdkokdgdaa
/-- The row, under a short name, for the claim. -/
theorem sharePlaysUpto_holds : Rows.SharePlaysUptoSaid := sharePlays.proved
#print axioms sharePlaysUpto_holds
end Go.Proofs.Ytedkjbdkokdgdaa
