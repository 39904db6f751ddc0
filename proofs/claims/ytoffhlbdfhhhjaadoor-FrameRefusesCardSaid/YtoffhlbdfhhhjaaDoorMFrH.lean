/- Which functions lay and take a type's payload. No condition. -/
import Derived.Test.YtoffhlbdfhhhjaaDoorMFrC
namespace Go.Proofs.YtoffhlbdfhhhjaaDoor.Fr
open Go Go.RowKit Go.Proofs.YtoffhlbdfhhhjaaDoorW.PrintWords Go.Proofs.YtoffhlbdfhhhjaaDoorW.PrintLast Go.Proofs.YtoffhlbdfhhhjaaDoorW.PrintMore Go.Proofs.YtoffhlbdfhhhjaaDoor.QL
set_option linter.unusedSimpArgs false
set_option linter.unusedVariables false
set_option maxHeartbeats 4000000
set_option maxRecDepth 100000
theorem payloadOf_1 (t : Int) (ht : t = 1) (w : World) : Calls Tryd.prog 48 #[.int .i64 t] w fun e w' => e = .returned (.agg #[.func (.func 73) #[] #[], .func (.func 74) #[] #[]]) ∧ Below w.heap.size w w' := by
  subst ht
  have HB := Aside0.mk (Below.refl w.heap.size w)
  go_enter Tryd.func48, Tryd.ntmps48
  go_wp2_with fail
  exact bodyPost_ret (v := .agg #[.func (.func 73) #[] #[], .func (.func 74) #[] #[]]) (by simp [results, Tryd.results48, go_sem]) rfl ⟨rfl, below_alloc HB.out _⟩
theorem payloadOf_2 (t : Int) (ht : t = 2) (w : World) : Calls Tryd.prog 48 #[.int .i64 t] w fun e w' => e = .returned (.agg #[.func (.func 75) #[] #[], .func (.func 76) #[] #[]]) ∧ Below w.heap.size w w' := by
  subst ht
  have HB := Aside0.mk (Below.refl w.heap.size w)
  go_enter Tryd.func48, Tryd.ntmps48
  go_wp2_with fail
  exact bodyPost_ret (v := .agg #[.func (.func 75) #[] #[], .func (.func 76) #[] #[]]) (by simp [results, Tryd.results48, go_sem]) rfl ⟨rfl, below_alloc HB.out _⟩
theorem payloadOf_3 (t : Int) (ht : t = 3) (w : World) : Calls Tryd.prog 48 #[.int .i64 t] w fun e w' => e = .returned (.agg #[.func (.func 77) #[] #[], .func (.func 78) #[] #[]]) ∧ Below w.heap.size w w' := by
  subst ht
  have HB := Aside0.mk (Below.refl w.heap.size w)
  go_enter Tryd.func48, Tryd.ntmps48
  go_wp2_with fail
  exact bodyPost_ret (v := .agg #[.func (.func 77) #[] #[], .func (.func 78) #[] #[]]) (by simp [results, Tryd.results48, go_sem]) rfl ⟨rfl, below_alloc HB.out _⟩
theorem payloadOf_4 (t : Int) (ht : t = 4) (w : World) : Calls Tryd.prog 48 #[.int .i64 t] w fun e w' => e = .returned (.agg #[.func (.func 79) #[] #[], .func (.func 80) #[] #[]]) ∧ Below w.heap.size w w' := by
  subst ht
  have HB := Aside0.mk (Below.refl w.heap.size w)
  go_enter Tryd.func48, Tryd.ntmps48
  go_wp2_with fail
  exact bodyPost_ret (v := .agg #[.func (.func 79) #[] #[], .func (.func 80) #[] #[]]) (by simp [results, Tryd.results48, go_sem]) rfl ⟨rfl, below_alloc HB.out _⟩
theorem payloadOf_5 (t : Int) (ht : t = 5) (w : World) : Calls Tryd.prog 48 #[.int .i64 t] w fun e w' => e = .returned (.agg #[.func (.func 81) #[] #[], .func (.func 82) #[] #[]]) ∧ Below w.heap.size w w' := by
  subst ht
  have HB := Aside0.mk (Below.refl w.heap.size w)
  go_enter Tryd.func48, Tryd.ntmps48
  go_wp2_with fail
  exact bodyPost_ret (v := .agg #[.func (.func 81) #[] #[], .func (.func 82) #[] #[]]) (by simp [results, Tryd.results48, go_sem]) rfl ⟨rfl, below_alloc HB.out _⟩
theorem payloadOf_6 (t : Int) (ht : t = 6) (w : World) : Calls Tryd.prog 48 #[.int .i64 t] w fun e w' => e = .returned (.agg #[.func (.func 83) #[] #[], .func (.func 84) #[] #[]]) ∧ Below w.heap.size w w' := by
  subst ht
  have HB := Aside0.mk (Below.refl w.heap.size w)
  go_enter Tryd.func48, Tryd.ntmps48
  go_wp2_with fail
  exact bodyPost_ret (v := .agg #[.func (.func 83) #[] #[], .func (.func 84) #[] #[]]) (by simp [results, Tryd.results48, go_sem]) rfl ⟨rfl, below_alloc HB.out _⟩
theorem payloadOf_7 (t : Int) (ht : t = 7) (w : World) : Calls Tryd.prog 48 #[.int .i64 t] w fun e w' => e = .returned (.agg #[.func (.func 85) #[] #[], .func (.func 86) #[] #[]]) ∧ Below w.heap.size w w' := by
  subst ht
  have HB := Aside0.mk (Below.refl w.heap.size w)
  go_enter Tryd.func48, Tryd.ntmps48
  go_wp2_with fail
  exact bodyPost_ret (v := .agg #[.func (.func 85) #[] #[], .func (.func 86) #[] #[]]) (by simp [results, Tryd.results48, go_sem]) rfl ⟨rfl, below_alloc HB.out _⟩
theorem payloadOf_8 (t : Int) (ht : t = 8) (w : World) : Calls Tryd.prog 48 #[.int .i64 t] w fun e w' => e = .returned (.agg #[.func (.func 87) #[] #[], .func (.func 88) #[] #[]]) ∧ Below w.heap.size w w' := by
  subst ht
  have HB := Aside0.mk (Below.refl w.heap.size w)
  go_enter Tryd.func48, Tryd.ntmps48
  go_wp2_with fail
  exact bodyPost_ret (v := .agg #[.func (.func 87) #[] #[], .func (.func 88) #[] #[]]) (by simp [results, Tryd.results48, go_sem]) rfl ⟨rfl, below_alloc HB.out _⟩
theorem payloadOf_else (t : Int) (ht : t < 1 ∨ 8 < t) (w : World) : Calls Tryd.prog 48 #[.int .i64 t] w fun e w' => e = .returned (.agg #[.func (.func 83) #[] #[], .func (.func 89) #[] #[]]) ∧ Below w.heap.size w w' := by
  have HB := Aside0.mk (Below.refl w.heap.size w)
  have t1 : (t == 1) = false := beq_eq_false_iff_ne.mpr (by omega)
  have t2 : (t == 2) = false := beq_eq_false_iff_ne.mpr (by omega)
  have t3 : (t == 3) = false := beq_eq_false_iff_ne.mpr (by omega)
  have t4 : (t == 4) = false := beq_eq_false_iff_ne.mpr (by omega)
  have t5 : (t == 5) = false := beq_eq_false_iff_ne.mpr (by omega)
  have t6 : (t == 6) = false := beq_eq_false_iff_ne.mpr (by omega)
  have t7 : (t == 7) = false := beq_eq_false_iff_ne.mpr (by omega)
  have t8 : (t == 8) = false := beq_eq_false_iff_ne.mpr (by omega)
  clear ht
  go_enter Tryd.func48, Tryd.ntmps48
  go_wp2_with fail
  exact bodyPost_ret (v := .agg #[.func (.func 83) #[] #[], .func (.func 89) #[] #[]]) (by simp [results, Tryd.results48, go_sem]) rfl ⟨rfl, below_alloc HB.out _⟩
theorem fldF0 (a b : Value) (w : World) : (Instr.field 89 (.agg #[a, b]) 0).run Tryd.prog w = .ok a w := by kernel_rfl
theorem fldF1 (a b : Value) (w : World) : (Instr.field 89 (.agg #[a, b]) 1).run Tryd.prog w = .ok b w := by kernel_rfl
end Go.Proofs.YtoffhlbdfhhhjaaDoor.Fr
