/- What the functions of the package state answer, at any of the seven states; which function stands for which kind of event. No condition but that the package's variables hold what the program lays. -/
import Derived.Test.YtagkncjdohljgaaDoorMLeaf
import Derived.Laws.EntriesVeiled
namespace Go.Proofs.YtagkncjdohljgaaDoor.QL
open Go Go.RowKit Go.Proofs.YtagkncjdohljgaaDoorW.PrintWords Go.Proofs.YtagkncjdohljgaaDoorW.PrintLast
theorem c_sentHeaders (s : Int) (h0 : 0 ≤ s) (h6 : s ≤ 6) (w : World) (hG : GL w) : Calls Tryd.prog 62 #[.int .i64 s] w fun e w' => e = .returned (.tuple #[.int .i64 (vsentHeaders s).1, .agg #[.int .i64 (vsentHeaders s).2.1, .int .i64 (vsentHeaders s).2.2]]) ∧ Below w.heap.size w w' := by
  obtain rfl | rfl | rfl | rfl | rfl | rfl | rfl : s = 0 ∨ s = 1 ∨ s = 2 ∨ s = 3 ∨ s = 4 ∨ s = 5 ∨ s = 6 := by omega
  · exact w_sentHeaders_0 w hG
  · exact w_sentHeaders_1 w hG
  · exact w_sentHeaders_2 w hG
  · exact w_sentHeaders_3 w hG
  · exact w_sentHeaders_4 w hG
  · exact w_sentHeaders_5 w hG
  · exact w_sentHeaders_6 w hG
theorem c_sentData (s : Int) (h0 : 0 ≤ s) (h6 : s ≤ 6) (w : World) (hG : GL w) : Calls Tryd.prog 66 #[.int .i64 s] w fun e w' => e = .returned (.tuple #[.int .i64 (vsentData s).1, .agg #[.int .i64 (vsentData s).2.1, .int .i64 (vsentData s).2.2]]) ∧ Below w.heap.size w w' := by
  obtain rfl | rfl | rfl | rfl | rfl | rfl | rfl : s = 0 ∨ s = 1 ∨ s = 2 ∨ s = 3 ∨ s = 4 ∨ s = 5 ∨ s = 6 := by omega
  · exact w_sentData_0 w hG
  · exact w_sentData_1 w hG
  · exact w_sentData_2 w hG
  · exact w_sentData_3 w hG
  · exact w_sentData_4 w hG
  · exact w_sentData_5 w hG
  · exact w_sentData_6 w hG
theorem c_sentPromise (s : Int) (h0 : 0 ≤ s) (h6 : s ≤ 6) (w : World) (hG : GL w) : Calls Tryd.prog 70 #[.int .i64 s] w fun e w' => e = .returned (.tuple #[.int .i64 (vsentPromise s).1, .agg #[.int .i64 (vsentPromise s).2.1, .int .i64 (vsentPromise s).2.2]]) ∧ Below w.heap.size w w' := by
  obtain rfl | rfl | rfl | rfl | rfl | rfl | rfl : s = 0 ∨ s = 1 ∨ s = 2 ∨ s = 3 ∨ s = 4 ∨ s = 5 ∨ s = 6 := by omega
  · exact w_sentPromise_0 w hG
  · exact w_sentPromise_1 w hG
  · exact w_sentPromise_2 w hG
  · exact w_sentPromise_3 w hG
  · exact w_sentPromise_4 w hG
  · exact w_sentPromise_5 w hG
  · exact w_sentPromise_6 w hG
theorem c_sentReset (s : Int) (h0 : 0 ≤ s) (h6 : s ≤ 6) (w : World) (hG : GL w) : Calls Tryd.prog 72 #[.int .i64 s] w fun e w' => e = .returned (.tuple #[.int .i64 (vsentReset s).1, .agg #[.int .i64 (vsentReset s).2.1, .int .i64 (vsentReset s).2.2]]) ∧ Below w.heap.size w w' := by
  obtain rfl | rfl | rfl | rfl | rfl | rfl | rfl : s = 0 ∨ s = 1 ∨ s = 2 ∨ s = 3 ∨ s = 4 ∨ s = 5 ∨ s = 6 := by omega
  · exact w_sentReset_0 w hG
  · exact w_sentReset_1 w hG
  · exact w_sentReset_2 w hG
  · exact w_sentReset_3 w hG
  · exact w_sentReset_4 w hG
  · exact w_sentReset_5 w hG
  · exact w_sentReset_6 w hG
theorem c_sentWindow (s : Int) (h0 : 0 ≤ s) (h6 : s ≤ 6) (w : World) (hG : GL w) : Calls Tryd.prog 74 #[.int .i64 s] w fun e w' => e = .returned (.tuple #[.int .i64 (vsentWindow s).1, .agg #[.int .i64 (vsentWindow s).2.1, .int .i64 (vsentWindow s).2.2]]) ∧ Below w.heap.size w w' := by
  obtain rfl | rfl | rfl | rfl | rfl | rfl | rfl : s = 0 ∨ s = 1 ∨ s = 2 ∨ s = 3 ∨ s = 4 ∨ s = 5 ∨ s = 6 := by omega
  · exact w_sentWindow_0 w hG
  · exact w_sentWindow_1 w hG
  · exact w_sentWindow_2 w hG
  · exact w_sentWindow_3 w hG
  · exact w_sentWindow_4 w hG
  · exact w_sentWindow_5 w hG
  · exact w_sentWindow_6 w hG
theorem c_sentPriority (s : Int) (h0 : 0 ≤ s) (h6 : s ≤ 6) (w : World) (hG : GL w) : Calls Tryd.prog 76 #[.int .i64 s] w fun e w' => e = .returned (.tuple #[.int .i64 (vsentPriority s).1, .agg #[.int .i64 (vsentPriority s).2.1, .int .i64 (vsentPriority s).2.2]]) ∧ Below w.heap.size w w' := by
  obtain rfl | rfl | rfl | rfl | rfl | rfl | rfl : s = 0 ∨ s = 1 ∨ s = 2 ∨ s = 3 ∨ s = 4 ∨ s = 5 ∨ s = 6 := by omega
  · exact w_sentPriority_0 w hG
  · exact w_sentPriority_1 w hG
  · exact w_sentPriority_2 w hG
  · exact w_sentPriority_3 w hG
  · exact w_sentPriority_4 w hG
  · exact w_sentPriority_5 w hG
  · exact w_sentPriority_6 w hG
theorem c_gotPromise (s : Int) (h0 : 0 ≤ s) (h6 : s ≤ 6) (w : World) (hG : GL w) : Calls Tryd.prog 71 #[.int .i64 s] w fun e w' => e = .returned (.tuple #[.int .i64 (vgotPromise s).1, .agg #[.int .i64 (vgotPromise s).2.1, .int .i64 (vgotPromise s).2.2]]) ∧ Below w.heap.size w w' := by
  obtain rfl | rfl | rfl | rfl | rfl | rfl | rfl : s = 0 ∨ s = 1 ∨ s = 2 ∨ s = 3 ∨ s = 4 ∨ s = 5 ∨ s = 6 := by omega
  · exact w_gotPromise_0 w hG
  · exact w_gotPromise_1 w hG
  · exact w_gotPromise_2 w hG
  · exact w_gotPromise_3 w hG
  · exact w_gotPromise_4 w hG
  · exact w_gotPromise_5 w hG
  · exact w_gotPromise_6 w hG
theorem c_gotReset (s : Int) (h0 : 0 ≤ s) (h6 : s ≤ 6) (w : World) (hG : GL w) : Calls Tryd.prog 73 #[.int .i64 s] w fun e w' => e = .returned (.tuple #[.int .i64 (vgotReset s).1, .agg #[.int .i64 (vgotReset s).2.1, .int .i64 (vgotReset s).2.2]]) ∧ Below w.heap.size w w' := by
  obtain rfl | rfl | rfl | rfl | rfl | rfl | rfl : s = 0 ∨ s = 1 ∨ s = 2 ∨ s = 3 ∨ s = 4 ∨ s = 5 ∨ s = 6 := by omega
  · exact w_gotReset_0 w hG
  · exact w_gotReset_1 w hG
  · exact w_gotReset_2 w hG
  · exact w_gotReset_3 w hG
  · exact w_gotReset_4 w hG
  · exact w_gotReset_5 w hG
  · exact w_gotReset_6 w hG
theorem c_gotWindow (s : Int) (h0 : 0 ≤ s) (h6 : s ≤ 6) (w : World) (hG : GL w) : Calls Tryd.prog 75 #[.int .i64 s] w fun e w' => e = .returned (.tuple #[.int .i64 (vgotWindow s).1, .agg #[.int .i64 (vgotWindow s).2.1, .int .i64 (vgotWindow s).2.2]]) ∧ Below w.heap.size w w' := by
  obtain rfl | rfl | rfl | rfl | rfl | rfl | rfl : s = 0 ∨ s = 1 ∨ s = 2 ∨ s = 3 ∨ s = 4 ∨ s = 5 ∨ s = 6 := by omega
  · exact w_gotWindow_0 w hG
  · exact w_gotWindow_1 w hG
  · exact w_gotWindow_2 w hG
  · exact w_gotWindow_3 w hG
  · exact w_gotWindow_4 w hG
  · exact w_gotWindow_5 w hG
  · exact w_gotWindow_6 w hG
theorem c_gotPriority (s : Int) (h0 : 0 ≤ s) (h6 : s ≤ 6) (w : World) (hG : GL w) : Calls Tryd.prog 77 #[.int .i64 s] w fun e w' => e = .returned (.tuple #[.int .i64 (vgotPriority s).1, .agg #[.int .i64 (vgotPriority s).2.1, .int .i64 (vgotPriority s).2.2]]) ∧ Below w.heap.size w w' := by
  obtain rfl | rfl | rfl | rfl | rfl | rfl | rfl : s = 0 ∨ s = 1 ∨ s = 2 ∨ s = 3 ∨ s = 4 ∨ s = 5 ∨ s = 6 := by omega
  · exact w_gotPriority_0 w hG
  · exact w_gotPriority_1 w hG
  · exact w_gotPriority_2 w hG
  · exact w_gotPriority_3 w hG
  · exact w_gotPriority_4 w hG
  · exact w_gotPriority_5 w hG
  · exact w_gotPriority_6 w hG
theorem c_gotHeaders (s : Int) (h0 : 0 ≤ s) (h6 : s ≤ 6) (w : World) (hG : GL w) : Calls Tryd.prog 63 #[.int .i64 s] w fun e w' => e = .returned (.tuple #[.int .i64 (vgotHeaders s).1, .agg #[.int .i64 (vgotHeaders s).2.1, .int .i64 (vgotHeaders s).2.2]]) ∧ Below w.heap.size w w' := by
  obtain rfl | rfl | rfl | rfl | rfl | rfl | rfl : s = 0 ∨ s = 1 ∨ s = 2 ∨ s = 3 ∨ s = 4 ∨ s = 5 ∨ s = 6 := by omega
  · exact w_gotHeaders_0 w hG
  · exact w_gotHeaders_1 w hG
  · exact w_gotHeaders_2 w hG
  · exact w_gotHeaders_3 w hG
  · exact w_gotHeaders_4 w hG
  · exact w_gotHeaders_5 w hG
  · exact w_gotHeaders_6 w hG
theorem c_sentHeadersEnd (s : Int) (h0 : 0 ≤ s) (h6 : s ≤ 6) (w : World) (hG : GL w) : Calls Tryd.prog 64 #[.int .i64 s] w fun e w' => e = .returned (.tuple #[.int .i64 (vsentHeadersEnd s).1, .agg #[.int .i64 (vsentHeadersEnd s).2.1, .int .i64 (vsentHeadersEnd s).2.2]]) ∧ Below w.heap.size w w' := by
  obtain rfl | rfl | rfl | rfl | rfl | rfl | rfl : s = 0 ∨ s = 1 ∨ s = 2 ∨ s = 3 ∨ s = 4 ∨ s = 5 ∨ s = 6 := by omega
  · exact w_sentHeadersEnd_0 w hG
  · exact w_sentHeadersEnd_1 w hG
  · exact w_sentHeadersEnd_2 w hG
  · exact w_sentHeadersEnd_3 w hG
  · exact w_sentHeadersEnd_4 w hG
  · exact w_sentHeadersEnd_5 w hG
  · exact w_sentHeadersEnd_6 w hG
theorem c_gotHeadersEnd (s : Int) (h0 : 0 ≤ s) (h6 : s ≤ 6) (w : World) (hG : GL w) : Calls Tryd.prog 65 #[.int .i64 s] w fun e w' => e = .returned (.tuple #[.int .i64 (vgotHeadersEnd s).1, .agg #[.int .i64 (vgotHeadersEnd s).2.1, .int .i64 (vgotHeadersEnd s).2.2]]) ∧ Below w.heap.size w w' := by
  obtain rfl | rfl | rfl | rfl | rfl | rfl | rfl : s = 0 ∨ s = 1 ∨ s = 2 ∨ s = 3 ∨ s = 4 ∨ s = 5 ∨ s = 6 := by omega
  · exact w_gotHeadersEnd_0 w hG
  · exact w_gotHeadersEnd_1 w hG
  · exact w_gotHeadersEnd_2 w hG
  · exact w_gotHeadersEnd_3 w hG
  · exact w_gotHeadersEnd_4 w hG
  · exact w_gotHeadersEnd_5 w hG
  · exact w_gotHeadersEnd_6 w hG
theorem c_gotData (s : Int) (h0 : 0 ≤ s) (h6 : s ≤ 6) (w : World) (hG : GL w) : Calls Tryd.prog 67 #[.int .i64 s] w fun e w' => e = .returned (.tuple #[.int .i64 (vgotData s).1, .agg #[.int .i64 (vgotData s).2.1, .int .i64 (vgotData s).2.2]]) ∧ Below w.heap.size w w' := by
  obtain rfl | rfl | rfl | rfl | rfl | rfl | rfl : s = 0 ∨ s = 1 ∨ s = 2 ∨ s = 3 ∨ s = 4 ∨ s = 5 ∨ s = 6 := by omega
  · exact w_gotData_0 w hG
  · exact w_gotData_1 w hG
  · exact w_gotData_2 w hG
  · exact w_gotData_3 w hG
  · exact w_gotData_4 w hG
  · exact w_gotData_5 w hG
  · exact w_gotData_6 w hG
theorem c_sentDataEnd (s : Int) (h0 : 0 ≤ s) (h6 : s ≤ 6) (w : World) (hG : GL w) : Calls Tryd.prog 68 #[.int .i64 s] w fun e w' => e = .returned (.tuple #[.int .i64 (vsentDataEnd s).1, .agg #[.int .i64 (vsentDataEnd s).2.1, .int .i64 (vsentDataEnd s).2.2]]) ∧ Below w.heap.size w w' := by
  obtain rfl | rfl | rfl | rfl | rfl | rfl | rfl : s = 0 ∨ s = 1 ∨ s = 2 ∨ s = 3 ∨ s = 4 ∨ s = 5 ∨ s = 6 := by omega
  · exact w_sentDataEnd_0 w hG
  · exact w_sentDataEnd_1 w hG
  · exact w_sentDataEnd_2 w hG
  · exact w_sentDataEnd_3 w hG
  · exact w_sentDataEnd_4 w hG
  · exact w_sentDataEnd_5 w hG
  · exact w_sentDataEnd_6 w hG
theorem c_gotDataEnd (s : Int) (h0 : 0 ≤ s) (h6 : s ≤ 6) (w : World) (hG : GL w) : Calls Tryd.prog 69 #[.int .i64 s] w fun e w' => e = .returned (.tuple #[.int .i64 (vgotDataEnd s).1, .agg #[.int .i64 (vgotDataEnd s).2.1, .int .i64 (vgotDataEnd s).2.2]]) ∧ Below w.heap.size w w' := by
  obtain rfl | rfl | rfl | rfl | rfl | rfl | rfl : s = 0 ∨ s = 1 ∨ s = 2 ∨ s = 3 ∨ s = 4 ∨ s = 5 ∨ s = 6 := by omega
  · exact w_gotDataEnd_0 w hG
  · exact w_gotDataEnd_1 w hG
  · exact w_gotDataEnd_2 w hG
  · exact w_gotDataEnd_3 w hG
  · exact w_gotDataEnd_4 w hG
  · exact w_gotDataEnd_5 w hG
  · exact w_gotDataEnd_6 w hG
theorem w_kindOf_1 (w : World) : Calls Tryd.prog 50 #[.int .i64 1] w fun e w' => e = .returned (.agg #[.func (.func 62) #[] #[], .func (.func 63) #[] #[]]) ∧ Below w.heap.size w w' := by
  go_enter Tryd.func50, Tryd.ntmps50
  go_wp2
  refine bodyPost_ret (v := .agg #[.func (.func 62) #[] #[], .func (.func 63) #[] #[]]) (by simp [results, Tryd.results50, go_sem]) rfl ⟨rfl, ?_⟩
  repeat (first | exact Below.refl _ _ | apply below_alloc | apply below_drew | apply pw_below_drewN | refine below_set ?_ (Nat.le_refl _))
theorem w_kindOf_2 (w : World) : Calls Tryd.prog 50 #[.int .i64 2] w fun e w' => e = .returned (.agg #[.func (.func 64) #[] #[], .func (.func 65) #[] #[]]) ∧ Below w.heap.size w w' := by
  go_enter Tryd.func50, Tryd.ntmps50
  go_wp2
  refine bodyPost_ret (v := .agg #[.func (.func 64) #[] #[], .func (.func 65) #[] #[]]) (by simp [results, Tryd.results50, go_sem]) rfl ⟨rfl, ?_⟩
  repeat (first | exact Below.refl _ _ | apply below_alloc | apply below_drew | apply pw_below_drewN | refine below_set ?_ (Nat.le_refl _))
theorem w_kindOf_3 (w : World) : Calls Tryd.prog 50 #[.int .i64 3] w fun e w' => e = .returned (.agg #[.func (.func 66) #[] #[], .func (.func 67) #[] #[]]) ∧ Below w.heap.size w w' := by
  go_enter Tryd.func50, Tryd.ntmps50
  go_wp2
  refine bodyPost_ret (v := .agg #[.func (.func 66) #[] #[], .func (.func 67) #[] #[]]) (by simp [results, Tryd.results50, go_sem]) rfl ⟨rfl, ?_⟩
  repeat (first | exact Below.refl _ _ | apply below_alloc | apply below_drew | apply pw_below_drewN | refine below_set ?_ (Nat.le_refl _))
theorem w_kindOf_4 (w : World) : Calls Tryd.prog 50 #[.int .i64 4] w fun e w' => e = .returned (.agg #[.func (.func 68) #[] #[], .func (.func 69) #[] #[]]) ∧ Below w.heap.size w w' := by
  go_enter Tryd.func50, Tryd.ntmps50
  go_wp2
  refine bodyPost_ret (v := .agg #[.func (.func 68) #[] #[], .func (.func 69) #[] #[]]) (by simp [results, Tryd.results50, go_sem]) rfl ⟨rfl, ?_⟩
  repeat (first | exact Below.refl _ _ | apply below_alloc | apply below_drew | apply pw_below_drewN | refine below_set ?_ (Nat.le_refl _))
theorem w_kindOf_5 (w : World) : Calls Tryd.prog 50 #[.int .i64 5] w fun e w' => e = .returned (.agg #[.func (.func 70) #[] #[], .func (.func 71) #[] #[]]) ∧ Below w.heap.size w w' := by
  go_enter Tryd.func50, Tryd.ntmps50
  go_wp2
  refine bodyPost_ret (v := .agg #[.func (.func 70) #[] #[], .func (.func 71) #[] #[]]) (by simp [results, Tryd.results50, go_sem]) rfl ⟨rfl, ?_⟩
  repeat (first | exact Below.refl _ _ | apply below_alloc | apply below_drew | apply pw_below_drewN | refine below_set ?_ (Nat.le_refl _))
theorem w_kindOf_6 (w : World) : Calls Tryd.prog 50 #[.int .i64 6] w fun e w' => e = .returned (.agg #[.func (.func 72) #[] #[], .func (.func 73) #[] #[]]) ∧ Below w.heap.size w w' := by
  go_enter Tryd.func50, Tryd.ntmps50
  go_wp2
  refine bodyPost_ret (v := .agg #[.func (.func 72) #[] #[], .func (.func 73) #[] #[]]) (by simp [results, Tryd.results50, go_sem]) rfl ⟨rfl, ?_⟩
  repeat (first | exact Below.refl _ _ | apply below_alloc | apply below_drew | apply pw_below_drewN | refine below_set ?_ (Nat.le_refl _))
theorem w_kindOf_7 (w : World) : Calls Tryd.prog 50 #[.int .i64 7] w fun e w' => e = .returned (.agg #[.func (.func 74) #[] #[], .func (.func 75) #[] #[]]) ∧ Below w.heap.size w w' := by
  go_enter Tryd.func50, Tryd.ntmps50
  go_wp2
  refine bodyPost_ret (v := .agg #[.func (.func 74) #[] #[], .func (.func 75) #[] #[]]) (by simp [results, Tryd.results50, go_sem]) rfl ⟨rfl, ?_⟩
  repeat (first | exact Below.refl _ _ | apply below_alloc | apply below_drew | apply pw_below_drewN | refine below_set ?_ (Nat.le_refl _))
theorem w_kindOf_8 (w : World) : Calls Tryd.prog 50 #[.int .i64 8] w fun e w' => e = .returned (.agg #[.func (.func 76) #[] #[], .func (.func 77) #[] #[]]) ∧ Below w.heap.size w w' := by
  go_enter Tryd.func50, Tryd.ntmps50
  go_wp2
  refine bodyPost_ret (v := .agg #[.func (.func 76) #[] #[], .func (.func 77) #[] #[]]) (by simp [results, Tryd.results50, go_sem]) rfl ⟨rfl, ?_⟩
  repeat (first | exact Below.refl _ _ | apply below_alloc | apply below_drew | apply pw_below_drewN | refine below_set ?_ (Nat.le_refl _))
def nx (got : Bool) (k s : Int) : Int × Int × Int :=
  if got = true then (if k = 1 then vgotHeaders s else if k = 2 then vgotHeadersEnd s else if k = 3 then vgotData s else if k = 4 then vgotDataEnd s else if k = 5 then vgotPromise s else if k = 6 then vgotReset s else if k = 7 then vgotWindow s else vgotPriority s) else (if k = 1 then vsentHeaders s else if k = 2 then vsentHeadersEnd s else if k = 3 then vsentData s else if k = 4 then vsentDataEnd s else if k = 5 then vsentPromise s else if k = 6 then vsentReset s else if k = 7 then vsentWindow s else vsentPriority s)
def state_Next.f (s : Int) (got : Bool) (k : Int) : Option (Int × Int × Int) := if s < 0 ∨ 6 < s ∨ k < 1 ∨ 8 < k then some (s, 4, 0) else some (nx got k s)
end Go.Proofs.YtagkncjdohljgaaDoor.QL
