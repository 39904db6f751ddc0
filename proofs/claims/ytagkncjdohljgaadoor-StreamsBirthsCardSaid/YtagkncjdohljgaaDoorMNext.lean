/- What Next of the package state answers at each kind of event, sent and got, from any of the seven states; the package's variables hold what the program lays. No other condition. -/
import Derived.Test.YtagkncjdohljgaaDoorMKind
import Derived.RegionTactic
import Derived.ChangeAlike
namespace Go.Proofs.YtagkncjdohljgaaDoor.QL
open Go Go.RowKit Go.Proofs.YtagkncjdohljgaaDoorW.PrintWords Go.Proofs.YtagkncjdohljgaaDoorW.PrintLast
set_option linter.unusedSimpArgs false
set_option linter.unusedVariables false
theorem two_blocks {w w3 : World} {c1 c2 : Array Value} {t1 t2 : TypeId} (hb : Below ((w.alloc (.cells c1 t1)).alloc (.cells c2 t2)).heap.size ((w.alloc (.cells c1 t1)).alloc (.cells c2 t2)) w3) :
    w3.heap[w.heap.size]? = some (.cells c1 t1 (0, 0)) ∧ w3.heap[w.heap.size + 1]? = some (.cells c2 t2 (0, 0)) ∧ w.heap.size + 1 < w3.heap.size := by
  have h0 : ((w.alloc (.cells c1 t1)).alloc (.cells c2 t2)).heap.size = w.heap.size + 1 + 1 := by rw [World.size_alloc, World.size_alloc]
  have h1 : (w.alloc (.cells c1 t1)).heap.size = w.heap.size + 1 := by rw [World.size_alloc]
  refine ⟨?_, ?_, ?_⟩
  · rw [hb.block _ (by omega)]
    exact blk_alloc (blk_new _ _) _
  · rw [hb.block _ (by omega), ← h1]
    exact blk_new _ _
  · have := hb.size
    omega
set_option maxHeartbeats 4000000 in
theorem w_Next_1_sent (s : Int) (h0 : 0 ≤ s) (h6 : s ≤ 6) (w : World) (hG : GL w) : Calls Tryd.prog 45 #[.int .i64 s, .agg #[.bool false, .int .i64 1]] w fun e w' => e = .returned (.tuple #[.int .i64 (vsentHeaders s).1, .agg #[.int .i64 (vsentHeaders s).2.1, .int .i64 (vsentHeaders s).2.2]]) ∧ Below w.heap.size w w' := by
  have d0 : decide (s < 0) = false := decide_eq_false (by omega)
  have d6 : decide (6 < s) = false := decide_eq_false (by omega)
  have H0 := Aside0.mk h0
  have H6 := Aside0.mk h6
  clear h0 h6
  have hG := Aside0.mk hG
  obtain ⟨r0, hr0⟩ : ∃ x, (vsentHeaders s).1 = x := ⟨_, rfl⟩
  obtain ⟨r1, hr1⟩ : ∃ x, (vsentHeaders s).2.1 = x := ⟨_, rfl⟩
  obtain ⟨r2, hr2⟩ : ∃ x, (vsentHeaders s).2.2 = x := ⟨_, rfl⟩
  rw [hr0, hr1, hr2]
  have HC : Aside0 (∀ w, GL w → Calls Tryd.prog 62 #[.int .i64 s] w fun e w' => e = .returned (.tuple #[.int .i64 r0, .agg #[.int .i64 r1, .int .i64 r2]]) ∧ Below w.heap.size w w') := ⟨by rw [← hr0, ← hr1, ← hr2]; exact c_sentHeaders s H0.out H6.out⟩
  clear hr0 hr1 hr2
  go_enter Tryd.func45, Tryd.ntmps45
  go_wp2_with (first | (go_at_call 50; refine (w_kindOf_1 _).mono ?_; rintro e w3 ⟨rfl, hb3⟩; obtain ⟨hk0, hk1, hs3⟩ := two_blocks hb3; have hs4 : w.heap.size < w3.heap.size := (by omega); have e0 : w3.cell? ⟨w.heap.size, 0, none⟩ = some (.bool false) := blk_cell hk0 0; have e1 : w3.cell? ⟨w.heap.size, 1, none⟩ = some (.int .i64 1) := blk_cell hk0 1; have q0 : w3.cell? ⟨w.heap.size + 1, 0, none⟩ = some (.int .i64 0) := blk_cell hk1 0; have q1 : w3.cell? ⟨w.heap.size + 1, 1, none⟩ = some (.int .i64 0) := blk_cell hk1 1; have p0 : w3.frozen? ⟨w.heap.size + 1, 0, none⟩ = false := blk_frozen hk1 0; have p1 : w3.frozen? ⟨w.heap.size + 1, 1, none⟩ = false := blk_frozen hk1 1; have HK1 := Aside0.mk hk1; clear hk0 hk1; have HB3 := Aside0.mk hb3; clear hb3) | (go_at_call 62; refine (HC.out _ (((hG.out.alloc _).alloc _).below HB3.out |>.alloc _)).mono ?_; rintro e w4 ⟨rfl, hb4⟩; have hk4 := blk_below (blk_alloc HK1.out _) hb4; have q4 : w4.cell? ⟨w.heap.size + 1, 0, none⟩ = some (.int .i64 0) := blk_cell hk4 0; have q5 : w4.cell? ⟨w.heap.size + 1, 1, none⟩ = some (.int .i64 0) := blk_cell hk4 1; have p4 : w4.frozen? ⟨w.heap.size + 1, 0, none⟩ = false := blk_frozen hk4 0; have p5 : w4.frozen? ⟨w.heap.size + 1, 1, none⟩ = false := blk_frozen hk4 1; have HB4 := Aside0.mk hb4; clear hb4 hk4))
  refine bodyPost_ret (v := .tuple #[.int .i64 r0, .agg #[.int .i64 r1, .int .i64 r2]]) (by simp [results, Tryd.results45, go_sem, q4, q5, p4, p5]) rfl ⟨rfl, ?_⟩
  have hb1 : Below w.heap.size w w3 := below_step (below_alloc (below_alloc (Below.refl _ _) _) _) HB3.out
  have hb2 : Below w.heap.size w w4 := below_step (below_alloc hb1 _) HB4.out
  exact below_set (below_set hb2 (by omega)) (by omega)

set_option maxHeartbeats 4000000 in
theorem w_Next_1_got (s : Int) (h0 : 0 ≤ s) (h6 : s ≤ 6) (w : World) (hG : GL w) : Calls Tryd.prog 45 #[.int .i64 s, .agg #[.bool true, .int .i64 1]] w fun e w' => e = .returned (.tuple #[.int .i64 (vgotHeaders s).1, .agg #[.int .i64 (vgotHeaders s).2.1, .int .i64 (vgotHeaders s).2.2]]) ∧ Below w.heap.size w w' := by
  have d0 : decide (s < 0) = false := decide_eq_false (by omega)
  have d6 : decide (6 < s) = false := decide_eq_false (by omega)
  have H0 := Aside0.mk h0
  have H6 := Aside0.mk h6
  clear h0 h6
  have hG := Aside0.mk hG
  obtain ⟨r0, hr0⟩ : ∃ x, (vgotHeaders s).1 = x := ⟨_, rfl⟩
  obtain ⟨r1, hr1⟩ : ∃ x, (vgotHeaders s).2.1 = x := ⟨_, rfl⟩
  obtain ⟨r2, hr2⟩ : ∃ x, (vgotHeaders s).2.2 = x := ⟨_, rfl⟩
  rw [hr0, hr1, hr2]
  have HC : Aside0 (∀ w, GL w → Calls Tryd.prog 63 #[.int .i64 s] w fun e w' => e = .returned (.tuple #[.int .i64 r0, .agg #[.int .i64 r1, .int .i64 r2]]) ∧ Below w.heap.size w w') := ⟨by rw [← hr0, ← hr1, ← hr2]; exact c_gotHeaders s H0.out H6.out⟩
  clear hr0 hr1 hr2
  go_enter Tryd.func45, Tryd.ntmps45
  go_wp2_with (first | (go_at_call 50; refine (w_kindOf_1 _).mono ?_; rintro e w3 ⟨rfl, hb3⟩; obtain ⟨hk0, hk1, hs3⟩ := two_blocks hb3; have hs4 : w.heap.size < w3.heap.size := (by omega); have e0 : w3.cell? ⟨w.heap.size, 0, none⟩ = some (.bool true) := blk_cell hk0 0; have e1 : w3.cell? ⟨w.heap.size, 1, none⟩ = some (.int .i64 1) := blk_cell hk0 1; have q0 : w3.cell? ⟨w.heap.size + 1, 0, none⟩ = some (.int .i64 0) := blk_cell hk1 0; have q1 : w3.cell? ⟨w.heap.size + 1, 1, none⟩ = some (.int .i64 0) := blk_cell hk1 1; have p0 : w3.frozen? ⟨w.heap.size + 1, 0, none⟩ = false := blk_frozen hk1 0; have p1 : w3.frozen? ⟨w.heap.size + 1, 1, none⟩ = false := blk_frozen hk1 1; have HK1 := Aside0.mk hk1; clear hk0 hk1; have HB3 := Aside0.mk hb3; clear hb3) | (go_at_call 63; refine (HC.out _ (((hG.out.alloc _).alloc _).below HB3.out |>.alloc _)).mono ?_; rintro e w4 ⟨rfl, hb4⟩; have hk4 := blk_below (blk_alloc HK1.out _) hb4; have q4 : w4.cell? ⟨w.heap.size + 1, 0, none⟩ = some (.int .i64 0) := blk_cell hk4 0; have q5 : w4.cell? ⟨w.heap.size + 1, 1, none⟩ = some (.int .i64 0) := blk_cell hk4 1; have p4 : w4.frozen? ⟨w.heap.size + 1, 0, none⟩ = false := blk_frozen hk4 0; have p5 : w4.frozen? ⟨w.heap.size + 1, 1, none⟩ = false := blk_frozen hk4 1; have HB4 := Aside0.mk hb4; clear hb4 hk4))
  refine bodyPost_ret (v := .tuple #[.int .i64 r0, .agg #[.int .i64 r1, .int .i64 r2]]) (by simp [results, Tryd.results45, go_sem, q4, q5, p4, p5]) rfl ⟨rfl, ?_⟩
  have hb1 : Below w.heap.size w w3 := below_step (below_alloc (below_alloc (Below.refl _ _) _) _) HB3.out
  have hb2 : Below w.heap.size w w4 := below_step (below_alloc hb1 _) HB4.out
  exact below_set (below_set hb2 (by omega)) (by omega)

set_option maxHeartbeats 4000000 in
theorem w_Next_2_sent (s : Int) (h0 : 0 ≤ s) (h6 : s ≤ 6) (w : World) (hG : GL w) : Calls Tryd.prog 45 #[.int .i64 s, .agg #[.bool false, .int .i64 2]] w fun e w' => e = .returned (.tuple #[.int .i64 (vsentHeadersEnd s).1, .agg #[.int .i64 (vsentHeadersEnd s).2.1, .int .i64 (vsentHeadersEnd s).2.2]]) ∧ Below w.heap.size w w' := by
  have d0 : decide (s < 0) = false := decide_eq_false (by omega)
  have d6 : decide (6 < s) = false := decide_eq_false (by omega)
  have H0 := Aside0.mk h0
  have H6 := Aside0.mk h6
  clear h0 h6
  have hG := Aside0.mk hG
  obtain ⟨r0, hr0⟩ : ∃ x, (vsentHeadersEnd s).1 = x := ⟨_, rfl⟩
  obtain ⟨r1, hr1⟩ : ∃ x, (vsentHeadersEnd s).2.1 = x := ⟨_, rfl⟩
  obtain ⟨r2, hr2⟩ : ∃ x, (vsentHeadersEnd s).2.2 = x := ⟨_, rfl⟩
  rw [hr0, hr1, hr2]
  have HC : Aside0 (∀ w, GL w → Calls Tryd.prog 64 #[.int .i64 s] w fun e w' => e = .returned (.tuple #[.int .i64 r0, .agg #[.int .i64 r1, .int .i64 r2]]) ∧ Below w.heap.size w w') := ⟨by rw [← hr0, ← hr1, ← hr2]; exact c_sentHeadersEnd s H0.out H6.out⟩
  clear hr0 hr1 hr2
  go_enter Tryd.func45, Tryd.ntmps45
  go_wp2_with (first | (go_at_call 50; refine (w_kindOf_2 _).mono ?_; rintro e w3 ⟨rfl, hb3⟩; obtain ⟨hk0, hk1, hs3⟩ := two_blocks hb3; have hs4 : w.heap.size < w3.heap.size := (by omega); have e0 : w3.cell? ⟨w.heap.size, 0, none⟩ = some (.bool false) := blk_cell hk0 0; have e1 : w3.cell? ⟨w.heap.size, 1, none⟩ = some (.int .i64 2) := blk_cell hk0 1; have q0 : w3.cell? ⟨w.heap.size + 1, 0, none⟩ = some (.int .i64 0) := blk_cell hk1 0; have q1 : w3.cell? ⟨w.heap.size + 1, 1, none⟩ = some (.int .i64 0) := blk_cell hk1 1; have p0 : w3.frozen? ⟨w.heap.size + 1, 0, none⟩ = false := blk_frozen hk1 0; have p1 : w3.frozen? ⟨w.heap.size + 1, 1, none⟩ = false := blk_frozen hk1 1; have HK1 := Aside0.mk hk1; clear hk0 hk1; have HB3 := Aside0.mk hb3; clear hb3) | (go_at_call 64; refine (HC.out _ (((hG.out.alloc _).alloc _).below HB3.out |>.alloc _)).mono ?_; rintro e w4 ⟨rfl, hb4⟩; have hk4 := blk_below (blk_alloc HK1.out _) hb4; have q4 : w4.cell? ⟨w.heap.size + 1, 0, none⟩ = some (.int .i64 0) := blk_cell hk4 0; have q5 : w4.cell? ⟨w.heap.size + 1, 1, none⟩ = some (.int .i64 0) := blk_cell hk4 1; have p4 : w4.frozen? ⟨w.heap.size + 1, 0, none⟩ = false := blk_frozen hk4 0; have p5 : w4.frozen? ⟨w.heap.size + 1, 1, none⟩ = false := blk_frozen hk4 1; have HB4 := Aside0.mk hb4; clear hb4 hk4))
  refine bodyPost_ret (v := .tuple #[.int .i64 r0, .agg #[.int .i64 r1, .int .i64 r2]]) (by simp [results, Tryd.results45, go_sem, q4, q5, p4, p5]) rfl ⟨rfl, ?_⟩
  have hb1 : Below w.heap.size w w3 := below_step (below_alloc (below_alloc (Below.refl _ _) _) _) HB3.out
  have hb2 : Below w.heap.size w w4 := below_step (below_alloc hb1 _) HB4.out
  exact below_set (below_set hb2 (by omega)) (by omega)

set_option maxHeartbeats 4000000 in
theorem w_Next_2_got (s : Int) (h0 : 0 ≤ s) (h6 : s ≤ 6) (w : World) (hG : GL w) : Calls Tryd.prog 45 #[.int .i64 s, .agg #[.bool true, .int .i64 2]] w fun e w' => e = .returned (.tuple #[.int .i64 (vgotHeadersEnd s).1, .agg #[.int .i64 (vgotHeadersEnd s).2.1, .int .i64 (vgotHeadersEnd s).2.2]]) ∧ Below w.heap.size w w' := by
  have d0 : decide (s < 0) = false := decide_eq_false (by omega)
  have d6 : decide (6 < s) = false := decide_eq_false (by omega)
  have H0 := Aside0.mk h0
  have H6 := Aside0.mk h6
  clear h0 h6
  have hG := Aside0.mk hG
  obtain ⟨r0, hr0⟩ : ∃ x, (vgotHeadersEnd s).1 = x := ⟨_, rfl⟩
  obtain ⟨r1, hr1⟩ : ∃ x, (vgotHeadersEnd s).2.1 = x := ⟨_, rfl⟩
  obtain ⟨r2, hr2⟩ : ∃ x, (vgotHeadersEnd s).2.2 = x := ⟨_, rfl⟩
  rw [hr0, hr1, hr2]
  have HC : Aside0 (∀ w, GL w → Calls Tryd.prog 65 #[.int .i64 s] w fun e w' => e = .returned (.tuple #[.int .i64 r0, .agg #[.int .i64 r1, .int .i64 r2]]) ∧ Below w.heap.size w w') := ⟨by rw [← hr0, ← hr1, ← hr2]; exact c_gotHeadersEnd s H0.out H6.out⟩
  clear hr0 hr1 hr2
  go_enter Tryd.func45, Tryd.ntmps45
  go_wp2_with (first | (go_at_call 50; refine (w_kindOf_2 _).mono ?_; rintro e w3 ⟨rfl, hb3⟩; obtain ⟨hk0, hk1, hs3⟩ := two_blocks hb3; have hs4 : w.heap.size < w3.heap.size := (by omega); have e0 : w3.cell? ⟨w.heap.size, 0, none⟩ = some (.bool true) := blk_cell hk0 0; have e1 : w3.cell? ⟨w.heap.size, 1, none⟩ = some (.int .i64 2) := blk_cell hk0 1; have q0 : w3.cell? ⟨w.heap.size + 1, 0, none⟩ = some (.int .i64 0) := blk_cell hk1 0; have q1 : w3.cell? ⟨w.heap.size + 1, 1, none⟩ = some (.int .i64 0) := blk_cell hk1 1; have p0 : w3.frozen? ⟨w.heap.size + 1, 0, none⟩ = false := blk_frozen hk1 0; have p1 : w3.frozen? ⟨w.heap.size + 1, 1, none⟩ = false := blk_frozen hk1 1; have HK1 := Aside0.mk hk1; clear hk0 hk1; have HB3 := Aside0.mk hb3; clear hb3) | (go_at_call 65; refine (HC.out _ (((hG.out.alloc _).alloc _).below HB3.out |>.alloc _)).mono ?_; rintro e w4 ⟨rfl, hb4⟩; have hk4 := blk_below (blk_alloc HK1.out _) hb4; have q4 : w4.cell? ⟨w.heap.size + 1, 0, none⟩ = some (.int .i64 0) := blk_cell hk4 0; have q5 : w4.cell? ⟨w.heap.size + 1, 1, none⟩ = some (.int .i64 0) := blk_cell hk4 1; have p4 : w4.frozen? ⟨w.heap.size + 1, 0, none⟩ = false := blk_frozen hk4 0; have p5 : w4.frozen? ⟨w.heap.size + 1, 1, none⟩ = false := blk_frozen hk4 1; have HB4 := Aside0.mk hb4; clear hb4 hk4))
  refine bodyPost_ret (v := .tuple #[.int .i64 r0, .agg #[.int .i64 r1, .int .i64 r2]]) (by simp [results, Tryd.results45, go_sem, q4, q5, p4, p5]) rfl ⟨rfl, ?_⟩
  have hb1 : Below w.heap.size w w3 := below_step (below_alloc (below_alloc (Below.refl _ _) _) _) HB3.out
  have hb2 : Below w.heap.size w w4 := below_step (below_alloc hb1 _) HB4.out
  exact below_set (below_set hb2 (by omega)) (by omega)

set_option maxHeartbeats 4000000 in
theorem w_Next_3_sent (s : Int) (h0 : 0 ≤ s) (h6 : s ≤ 6) (w : World) (hG : GL w) : Calls Tryd.prog 45 #[.int .i64 s, .agg #[.bool false, .int .i64 3]] w fun e w' => e = .returned (.tuple #[.int .i64 (vsentData s).1, .agg #[.int .i64 (vsentData s).2.1, .int .i64 (vsentData s).2.2]]) ∧ Below w.heap.size w w' := by
  have d0 : decide (s < 0) = false := decide_eq_false (by omega)
  have d6 : decide (6 < s) = false := decide_eq_false (by omega)
  have H0 := Aside0.mk h0
  have H6 := Aside0.mk h6
  clear h0 h6
  have hG := Aside0.mk hG
  obtain ⟨r0, hr0⟩ : ∃ x, (vsentData s).1 = x := ⟨_, rfl⟩
  obtain ⟨r1, hr1⟩ : ∃ x, (vsentData s).2.1 = x := ⟨_, rfl⟩
  obtain ⟨r2, hr2⟩ : ∃ x, (vsentData s).2.2 = x := ⟨_, rfl⟩
  rw [hr0, hr1, hr2]
  have HC : Aside0 (∀ w, GL w → Calls Tryd.prog 66 #[.int .i64 s] w fun e w' => e = .returned (.tuple #[.int .i64 r0, .agg #[.int .i64 r1, .int .i64 r2]]) ∧ Below w.heap.size w w') := ⟨by rw [← hr0, ← hr1, ← hr2]; exact c_sentData s H0.out H6.out⟩
  clear hr0 hr1 hr2
  go_enter Tryd.func45, Tryd.ntmps45
  go_wp2_with (first | (go_at_call 50; refine (w_kindOf_3 _).mono ?_; rintro e w3 ⟨rfl, hb3⟩; obtain ⟨hk0, hk1, hs3⟩ := two_blocks hb3; have hs4 : w.heap.size < w3.heap.size := (by omega); have e0 : w3.cell? ⟨w.heap.size, 0, none⟩ = some (.bool false) := blk_cell hk0 0; have e1 : w3.cell? ⟨w.heap.size, 1, none⟩ = some (.int .i64 3) := blk_cell hk0 1; have q0 : w3.cell? ⟨w.heap.size + 1, 0, none⟩ = some (.int .i64 0) := blk_cell hk1 0; have q1 : w3.cell? ⟨w.heap.size + 1, 1, none⟩ = some (.int .i64 0) := blk_cell hk1 1; have p0 : w3.frozen? ⟨w.heap.size + 1, 0, none⟩ = false := blk_frozen hk1 0; have p1 : w3.frozen? ⟨w.heap.size + 1, 1, none⟩ = false := blk_frozen hk1 1; have HK1 := Aside0.mk hk1; clear hk0 hk1; have HB3 := Aside0.mk hb3; clear hb3) | (go_at_call 66; refine (HC.out _ (((hG.out.alloc _).alloc _).below HB3.out |>.alloc _)).mono ?_; rintro e w4 ⟨rfl, hb4⟩; have hk4 := blk_below (blk_alloc HK1.out _) hb4; have q4 : w4.cell? ⟨w.heap.size + 1, 0, none⟩ = some (.int .i64 0) := blk_cell hk4 0; have q5 : w4.cell? ⟨w.heap.size + 1, 1, none⟩ = some (.int .i64 0) := blk_cell hk4 1; have p4 : w4.frozen? ⟨w.heap.size + 1, 0, none⟩ = false := blk_frozen hk4 0; have p5 : w4.frozen? ⟨w.heap.size + 1, 1, none⟩ = false := blk_frozen hk4 1; have HB4 := Aside0.mk hb4; clear hb4 hk4))
  refine bodyPost_ret (v := .tuple #[.int .i64 r0, .agg #[.int .i64 r1, .int .i64 r2]]) (by simp [results, Tryd.results45, go_sem, q4, q5, p4, p5]) rfl ⟨rfl, ?_⟩
  have hb1 : Below w.heap.size w w3 := below_step (below_alloc (below_alloc (Below.refl _ _) _) _) HB3.out
  have hb2 : Below w.heap.size w w4 := below_step (below_alloc hb1 _) HB4.out
  exact below_set (below_set hb2 (by omega)) (by omega)

set_option maxHeartbeats 4000000 in
theorem w_Next_3_got (s : Int) (h0 : 0 ≤ s) (h6 : s ≤ 6) (w : World) (hG : GL w) : Calls Tryd.prog 45 #[.int .i64 s, .agg #[.bool true, .int .i64 3]] w fun e w' => e = .returned (.tuple #[.int .i64 (vgotData s).1, .agg #[.int .i64 (vgotData s).2.1, .int .i64 (vgotData s).2.2]]) ∧ Below w.heap.size w w' := by
  have d0 : decide (s < 0) = false := decide_eq_false (by omega)
  have d6 : decide (6 < s) = false := decide_eq_false (by omega)
  have H0 := Aside0.mk h0
  have H6 := Aside0.mk h6
  clear h0 h6
  have hG := Aside0.mk hG
  obtain ⟨r0, hr0⟩ : ∃ x, (vgotData s).1 = x := ⟨_, rfl⟩
  obtain ⟨r1, hr1⟩ : ∃ x, (vgotData s).2.1 = x := ⟨_, rfl⟩
  obtain ⟨r2, hr2⟩ : ∃ x, (vgotData s).2.2 = x := ⟨_, rfl⟩
  rw [hr0, hr1, hr2]
  have HC : Aside0 (∀ w, GL w → Calls Tryd.prog 67 #[.int .i64 s] w fun e w' => e = .returned (.tuple #[.int .i64 r0, .agg #[.int .i64 r1, .int .i64 r2]]) ∧ Below w.heap.size w w') := ⟨by rw [← hr0, ← hr1, ← hr2]; exact c_gotData s H0.out H6.out⟩
  clear hr0 hr1 hr2
  go_enter Tryd.func45, Tryd.ntmps45
  go_wp2_with (first | (go_at_call 50; refine (w_kindOf_3 _).mono ?_; rintro e w3 ⟨rfl, hb3⟩; obtain ⟨hk0, hk1, hs3⟩ := two_blocks hb3; have hs4 : w.heap.size < w3.heap.size := (by omega); have e0 : w3.cell? ⟨w.heap.size, 0, none⟩ = some (.bool true) := blk_cell hk0 0; have e1 : w3.cell? ⟨w.heap.size, 1, none⟩ = some (.int .i64 3) := blk_cell hk0 1; have q0 : w3.cell? ⟨w.heap.size + 1, 0, none⟩ = some (.int .i64 0) := blk_cell hk1 0; have q1 : w3.cell? ⟨w.heap.size + 1, 1, none⟩ = some (.int .i64 0) := blk_cell hk1 1; have p0 : w3.frozen? ⟨w.heap.size + 1, 0, none⟩ = false := blk_frozen hk1 0; have p1 : w3.frozen? ⟨w.heap.size + 1, 1, none⟩ = false := blk_frozen hk1 1; have HK1 := Aside0.mk hk1; clear hk0 hk1; have HB3 := Aside0.mk hb3; clear hb3) | (go_at_call 67; refine (HC.out _ (((hG.out.alloc _).alloc _).below HB3.out |>.alloc _)).mono ?_; rintro e w4 ⟨rfl, hb4⟩; have hk4 := blk_below (blk_alloc HK1.out _) hb4; have q4 : w4.cell? ⟨w.heap.size + 1, 0, none⟩ = some (.int .i64 0) := blk_cell hk4 0; have q5 : w4.cell? ⟨w.heap.size + 1, 1, none⟩ = some (.int .i64 0) := blk_cell hk4 1; have p4 : w4.frozen? ⟨w.heap.size + 1, 0, none⟩ = false := blk_frozen hk4 0; have p5 : w4.frozen? ⟨w.heap.size + 1, 1, none⟩ = false := blk_frozen hk4 1; have HB4 := Aside0.mk hb4; clear hb4 hk4))
  refine bodyPost_ret (v := .tuple #[.int .i64 r0, .agg #[.int .i64 r1, .int .i64 r2]]) (by simp [results, Tryd.results45, go_sem, q4, q5, p4, p5]) rfl ⟨rfl, ?_⟩
  have hb1 : Below w.heap.size w w3 := below_step (below_alloc (below_alloc (Below.refl _ _) _) _) HB3.out
  have hb2 : Below w.heap.size w w4 := below_step (below_alloc hb1 _) HB4.out
  exact below_set (below_set hb2 (by omega)) (by omega)

set_option maxHeartbeats 4000000 in
theorem w_Next_4_sent (s : Int) (h0 : 0 ≤ s) (h6 : s ≤ 6) (w : World) (hG : GL w) : Calls Tryd.prog 45 #[.int .i64 s, .agg #[.bool false, .int .i64 4]] w fun e w' => e = .returned (.tuple #[.int .i64 (vsentDataEnd s).1, .agg #[.int .i64 (vsentDataEnd s).2.1, .int .i64 (vsentDataEnd s).2.2]]) ∧ Below w.heap.size w w' := by
  have d0 : decide (s < 0) = false := decide_eq_false (by omega)
  have d6 : decide (6 < s) = false := decide_eq_false (by omega)
  have H0 := Aside0.mk h0
  have H6 := Aside0.mk h6
  clear h0 h6
  have hG := Aside0.mk hG
  obtain ⟨r0, hr0⟩ : ∃ x, (vsentDataEnd s).1 = x := ⟨_, rfl⟩
  obtain ⟨r1, hr1⟩ : ∃ x, (vsentDataEnd s).2.1 = x := ⟨_, rfl⟩
  obtain ⟨r2, hr2⟩ : ∃ x, (vsentDataEnd s).2.2 = x := ⟨_, rfl⟩
  rw [hr0, hr1, hr2]
  have HC : Aside0 (∀ w, GL w → Calls Tryd.prog 68 #[.int .i64 s] w fun e w' => e = .returned (.tuple #[.int .i64 r0, .agg #[.int .i64 r1, .int .i64 r2]]) ∧ Below w.heap.size w w') := ⟨by rw [← hr0, ← hr1, ← hr2]; exact c_sentDataEnd s H0.out H6.out⟩
  clear hr0 hr1 hr2
  go_enter Tryd.func45, Tryd.ntmps45
  go_wp2_with (first | (go_at_call 50; refine (w_kindOf_4 _).mono ?_; rintro e w3 ⟨rfl, hb3⟩; obtain ⟨hk0, hk1, hs3⟩ := two_blocks hb3; have hs4 : w.heap.size < w3.heap.size := (by omega); have e0 : w3.cell? ⟨w.heap.size, 0, none⟩ = some (.bool false) := blk_cell hk0 0; have e1 : w3.cell? ⟨w.heap.size, 1, none⟩ = some (.int .i64 4) := blk_cell hk0 1; have q0 : w3.cell? ⟨w.heap.size + 1, 0, none⟩ = some (.int .i64 0) := blk_cell hk1 0; have q1 : w3.cell? ⟨w.heap.size + 1, 1, none⟩ = some (.int .i64 0) := blk_cell hk1 1; have p0 : w3.frozen? ⟨w.heap.size + 1, 0, none⟩ = false := blk_frozen hk1 0; have p1 : w3.frozen? ⟨w.heap.size + 1, 1, none⟩ = false := blk_frozen hk1 1; have HK1 := Aside0.mk hk1; clear hk0 hk1; have HB3 := Aside0.mk hb3; clear hb3) | (go_at_call 68; refine (HC.out _ (((hG.out.alloc _).alloc _).below HB3.out |>.alloc _)).mono ?_; rintro e w4 ⟨rfl, hb4⟩; have hk4 := blk_below (blk_alloc HK1.out _) hb4; have q4 : w4.cell? ⟨w.heap.size + 1, 0, none⟩ = some (.int .i64 0) := blk_cell hk4 0; have q5 : w4.cell? ⟨w.heap.size + 1, 1, none⟩ = some (.int .i64 0) := blk_cell hk4 1; have p4 : w4.frozen? ⟨w.heap.size + 1, 0, none⟩ = false := blk_frozen hk4 0; have p5 : w4.frozen? ⟨w.heap.size + 1, 1, none⟩ = false := blk_frozen hk4 1; have HB4 := Aside0.mk hb4; clear hb4 hk4))
  refine bodyPost_ret (v := .tuple #[.int .i64 r0, .agg #[.int .i64 r1, .int .i64 r2]]) (by simp [results, Tryd.results45, go_sem, q4, q5, p4, p5]) rfl ⟨rfl, ?_⟩
  have hb1 : Below w.heap.size w w3 := below_step (below_alloc (below_alloc (Below.refl _ _) _) _) HB3.out
  have hb2 : Below w.heap.size w w4 := below_step (below_alloc hb1 _) HB4.out
  exact below_set (below_set hb2 (by omega)) (by omega)

set_option maxHeartbeats 4000000 in
theorem w_Next_4_got (s : Int) (h0 : 0 ≤ s) (h6 : s ≤ 6) (w : World) (hG : GL w) : Calls Tryd.prog 45 #[.int .i64 s, .agg #[.bool true, .int .i64 4]] w fun e w' => e = .returned (.tuple #[.int .i64 (vgotDataEnd s).1, .agg #[.int .i64 (vgotDataEnd s).2.1, .int .i64 (vgotDataEnd s).2.2]]) ∧ Below w.heap.size w w' := by
  have d0 : decide (s < 0) = false := decide_eq_false (by omega)
  have d6 : decide (6 < s) = false := decide_eq_false (by omega)
  have H0 := Aside0.mk h0
  have H6 := Aside0.mk h6
  clear h0 h6
  have hG := Aside0.mk hG
  obtain ⟨r0, hr0⟩ : ∃ x, (vgotDataEnd s).1 = x := ⟨_, rfl⟩
  obtain ⟨r1, hr1⟩ : ∃ x, (vgotDataEnd s).2.1 = x := ⟨_, rfl⟩
  obtain ⟨r2, hr2⟩ : ∃ x, (vgotDataEnd s).2.2 = x := ⟨_, rfl⟩
  rw [hr0, hr1, hr2]
  have HC : Aside0 (∀ w, GL w → Calls Tryd.prog 69 #[.int .i64 s] w fun e w' => e = .returned (.tuple #[.int .i64 r0, .agg #[.int .i64 r1, .int .i64 r2]]) ∧ Below w.heap.size w w') := ⟨by rw [← hr0, ← hr1, ← hr2]; exact c_gotDataEnd s H0.out H6.out⟩
  clear hr0 hr1 hr2
  go_enter Tryd.func45, Tryd.ntmps45
  go_wp2_with (first | (go_at_call 50; refine (w_kindOf_4 _).mono ?_; rintro e w3 ⟨rfl, hb3⟩; obtain ⟨hk0, hk1, hs3⟩ := two_blocks hb3; have hs4 : w.heap.size < w3.heap.size := (by omega); have e0 : w3.cell? ⟨w.heap.size, 0, none⟩ = some (.bool true) := blk_cell hk0 0; have e1 : w3.cell? ⟨w.heap.size, 1, none⟩ = some (.int .i64 4) := blk_cell hk0 1; have q0 : w3.cell? ⟨w.heap.size + 1, 0, none⟩ = some (.int .i64 0) := blk_cell hk1 0; have q1 : w3.cell? ⟨w.heap.size + 1, 1, none⟩ = some (.int .i64 0) := blk_cell hk1 1; have p0 : w3.frozen? ⟨w.heap.size + 1, 0, none⟩ = false := blk_frozen hk1 0; have p1 : w3.frozen? ⟨w.heap.size + 1, 1, none⟩ = false := blk_frozen hk1 1; have HK1 := Aside0.mk hk1; clear hk0 hk1; have HB3 := Aside0.mk hb3; clear hb3) | (go_at_call 69; refine (HC.out _ (((hG.out.alloc _).alloc _).below HB3.out |>.alloc _)).mono ?_; rintro e w4 ⟨rfl, hb4⟩; have hk4 := blk_below (blk_alloc HK1.out _) hb4; have q4 : w4.cell? ⟨w.heap.size + 1, 0, none⟩ = some (.int .i64 0) := blk_cell hk4 0; have q5 : w4.cell? ⟨w.heap.size + 1, 1, none⟩ = some (.int .i64 0) := blk_cell hk4 1; have p4 : w4.frozen? ⟨w.heap.size + 1, 0, none⟩ = false := blk_frozen hk4 0; have p5 : w4.frozen? ⟨w.heap.size + 1, 1, none⟩ = false := blk_frozen hk4 1; have HB4 := Aside0.mk hb4; clear hb4 hk4))
  refine bodyPost_ret (v := .tuple #[.int .i64 r0, .agg #[.int .i64 r1, .int .i64 r2]]) (by simp [results, Tryd.results45, go_sem, q4, q5, p4, p5]) rfl ⟨rfl, ?_⟩
  have hb1 : Below w.heap.size w w3 := below_step (below_alloc (below_alloc (Below.refl _ _) _) _) HB3.out
  have hb2 : Below w.heap.size w w4 := below_step (below_alloc hb1 _) HB4.out
  exact below_set (below_set hb2 (by omega)) (by omega)

set_option maxHeartbeats 4000000 in
theorem w_Next_5_sent (s : Int) (h0 : 0 ≤ s) (h6 : s ≤ 6) (w : World) (hG : GL w) : Calls Tryd.prog 45 #[.int .i64 s, .agg #[.bool false, .int .i64 5]] w fun e w' => e = .returned (.tuple #[.int .i64 (vsentPromise s).1, .agg #[.int .i64 (vsentPromise s).2.1, .int .i64 (vsentPromise s).2.2]]) ∧ Below w.heap.size w w' := by
  have d0 : decide (s < 0) = false := decide_eq_false (by omega)
  have d6 : decide (6 < s) = false := decide_eq_false (by omega)
  have H0 := Aside0.mk h0
  have H6 := Aside0.mk h6
  clear h0 h6
  have hG := Aside0.mk hG
  obtain ⟨r0, hr0⟩ : ∃ x, (vsentPromise s).1 = x := ⟨_, rfl⟩
  obtain ⟨r1, hr1⟩ : ∃ x, (vsentPromise s).2.1 = x := ⟨_, rfl⟩
  obtain ⟨r2, hr2⟩ : ∃ x, (vsentPromise s).2.2 = x := ⟨_, rfl⟩
  rw [hr0, hr1, hr2]
  have HC : Aside0 (∀ w, GL w → Calls Tryd.prog 70 #[.int .i64 s] w fun e w' => e = .returned (.tuple #[.int .i64 r0, .agg #[.int .i64 r1, .int .i64 r2]]) ∧ Below w.heap.size w w') := ⟨by rw [← hr0, ← hr1, ← hr2]; exact c_sentPromise s H0.out H6.out⟩
  clear hr0 hr1 hr2
  go_enter Tryd.func45, Tryd.ntmps45
  go_wp2_with (first | (go_at_call 50; refine (w_kindOf_5 _).mono ?_; rintro e w3 ⟨rfl, hb3⟩; obtain ⟨hk0, hk1, hs3⟩ := two_blocks hb3; have hs4 : w.heap.size < w3.heap.size := (by omega); have e0 : w3.cell? ⟨w.heap.size, 0, none⟩ = some (.bool false) := blk_cell hk0 0; have e1 : w3.cell? ⟨w.heap.size, 1, none⟩ = some (.int .i64 5) := blk_cell hk0 1; have q0 : w3.cell? ⟨w.heap.size + 1, 0, none⟩ = some (.int .i64 0) := blk_cell hk1 0; have q1 : w3.cell? ⟨w.heap.size + 1, 1, none⟩ = some (.int .i64 0) := blk_cell hk1 1; have p0 : w3.frozen? ⟨w.heap.size + 1, 0, none⟩ = false := blk_frozen hk1 0; have p1 : w3.frozen? ⟨w.heap.size + 1, 1, none⟩ = false := blk_frozen hk1 1; have HK1 := Aside0.mk hk1; clear hk0 hk1; have HB3 := Aside0.mk hb3; clear hb3) | (go_at_call 70; refine (HC.out _ (((hG.out.alloc _).alloc _).below HB3.out |>.alloc _)).mono ?_; rintro e w4 ⟨rfl, hb4⟩; have hk4 := blk_below (blk_alloc HK1.out _) hb4; have q4 : w4.cell? ⟨w.heap.size + 1, 0, none⟩ = some (.int .i64 0) := blk_cell hk4 0; have q5 : w4.cell? ⟨w.heap.size + 1, 1, none⟩ = some (.int .i64 0) := blk_cell hk4 1; have p4 : w4.frozen? ⟨w.heap.size + 1, 0, none⟩ = false := blk_frozen hk4 0; have p5 : w4.frozen? ⟨w.heap.size + 1, 1, none⟩ = false := blk_frozen hk4 1; have HB4 := Aside0.mk hb4; clear hb4 hk4))
  refine bodyPost_ret (v := .tuple #[.int .i64 r0, .agg #[.int .i64 r1, .int .i64 r2]]) (by simp [results, Tryd.results45, go_sem, q4, q5, p4, p5]) rfl ⟨rfl, ?_⟩
  have hb1 : Below w.heap.size w w3 := below_step (below_alloc (below_alloc (Below.refl _ _) _) _) HB3.out
  have hb2 : Below w.heap.size w w4 := below_step (below_alloc hb1 _) HB4.out
  exact below_set (below_set hb2 (by omega)) (by omega)

set_option maxHeartbeats 4000000 in
theorem w_Next_5_got (s : Int) (h0 : 0 ≤ s) (h6 : s ≤ 6) (w : World) (hG : GL w) : Calls Tryd.prog 45 #[.int .i64 s, .agg #[.bool true, .int .i64 5]] w fun e w' => e = .returned (.tuple #[.int .i64 (vgotPromise s).1, .agg #[.int .i64 (vgotPromise s).2.1, .int .i64 (vgotPromise s).2.2]]) ∧ Below w.heap.size w w' := by
  have d0 : decide (s < 0) = false := decide_eq_false (by omega)
  have d6 : decide (6 < s) = false := decide_eq_false (by omega)
  have H0 := Aside0.mk h0
  have H6 := Aside0.mk h6
  clear h0 h6
  have hG := Aside0.mk hG
  obtain ⟨r0, hr0⟩ : ∃ x, (vgotPromise s).1 = x := ⟨_, rfl⟩
  obtain ⟨r1, hr1⟩ : ∃ x, (vgotPromise s).2.1 = x := ⟨_, rfl⟩
  obtain ⟨r2, hr2⟩ : ∃ x, (vgotPromise s).2.2 = x := ⟨_, rfl⟩
  rw [hr0, hr1, hr2]
  have HC : Aside0 (∀ w, GL w → Calls Tryd.prog 71 #[.int .i64 s] w fun e w' => e = .returned (.tuple #[.int .i64 r0, .agg #[.int .i64 r1, .int .i64 r2]]) ∧ Below w.heap.size w w') := ⟨by rw [← hr0, ← hr1, ← hr2]; exact c_gotPromise s H0.out H6.out⟩
  clear hr0 hr1 hr2
  go_enter Tryd.func45, Tryd.ntmps45
  go_wp2_with (first | (go_at_call 50; refine (w_kindOf_5 _).mono ?_; rintro e w3 ⟨rfl, hb3⟩; obtain ⟨hk0, hk1, hs3⟩ := two_blocks hb3; have hs4 : w.heap.size < w3.heap.size := (by omega); have e0 : w3.cell? ⟨w.heap.size, 0, none⟩ = some (.bool true) := blk_cell hk0 0; have e1 : w3.cell? ⟨w.heap.size, 1, none⟩ = some (.int .i64 5) := blk_cell hk0 1; have q0 : w3.cell? ⟨w.heap.size + 1, 0, none⟩ = some (.int .i64 0) := blk_cell hk1 0; have q1 : w3.cell? ⟨w.heap.size + 1, 1, none⟩ = some (.int .i64 0) := blk_cell hk1 1; have p0 : w3.frozen? ⟨w.heap.size + 1, 0, none⟩ = false := blk_frozen hk1 0; have p1 : w3.frozen? ⟨w.heap.size + 1, 1, none⟩ = false := blk_frozen hk1 1; have HK1 := Aside0.mk hk1; clear hk0 hk1; have HB3 := Aside0.mk hb3; clear hb3) | (go_at_call 71; refine (HC.out _ (((hG.out.alloc _).alloc _).below HB3.out |>.alloc _)).mono ?_; rintro e w4 ⟨rfl, hb4⟩; have hk4 := blk_below (blk_alloc HK1.out _) hb4; have q4 : w4.cell? ⟨w.heap.size + 1, 0, none⟩ = some (.int .i64 0) := blk_cell hk4 0; have q5 : w4.cell? ⟨w.heap.size + 1, 1, none⟩ = some (.int .i64 0) := blk_cell hk4 1; have p4 : w4.frozen? ⟨w.heap.size + 1, 0, none⟩ = false := blk_frozen hk4 0; have p5 : w4.frozen? ⟨w.heap.size + 1, 1, none⟩ = false := blk_frozen hk4 1; have HB4 := Aside0.mk hb4; clear hb4 hk4))
  refine bodyPost_ret (v := .tuple #[.int .i64 r0, .agg #[.int .i64 r1, .int .i64 r2]]) (by simp [results, Tryd.results45, go_sem, q4, q5, p4, p5]) rfl ⟨rfl, ?_⟩
  have hb1 : Below w.heap.size w w3 := below_step (below_alloc (below_alloc (Below.refl _ _) _) _) HB3.out
  have hb2 : Below w.heap.size w w4 := below_step (below_alloc hb1 _) HB4.out
  exact below_set (below_set hb2 (by omega)) (by omega)

set_option maxHeartbeats 4000000 in
theorem w_Next_6_sent (s : Int) (h0 : 0 ≤ s) (h6 : s ≤ 6) (w : World) (hG : GL w) : Calls Tryd.prog 45 #[.int .i64 s, .agg #[.bool false, .int .i64 6]] w fun e w' => e = .returned (.tuple #[.int .i64 (vsentReset s).1, .agg #[.int .i64 (vsentReset s).2.1, .int .i64 (vsentReset s).2.2]]) ∧ Below w.heap.size w w' := by
  have d0 : decide (s < 0) = false := decide_eq_false (by omega)
  have d6 : decide (6 < s) = false := decide_eq_false (by omega)
  have H0 := Aside0.mk h0
  have H6 := Aside0.mk h6
  clear h0 h6
  have hG := Aside0.mk hG
  obtain ⟨r0, hr0⟩ : ∃ x, (vsentReset s).1 = x := ⟨_, rfl⟩
  obtain ⟨r1, hr1⟩ : ∃ x, (vsentReset s).2.1 = x := ⟨_, rfl⟩
  obtain ⟨r2, hr2⟩ : ∃ x, (vsentReset s).2.2 = x := ⟨_, rfl⟩
  rw [hr0, hr1, hr2]
  have HC : Aside0 (∀ w, GL w → Calls Tryd.prog 72 #[.int .i64 s] w fun e w' => e = .returned (.tuple #[.int .i64 r0, .agg #[.int .i64 r1, .int .i64 r2]]) ∧ Below w.heap.size w w') := ⟨by rw [← hr0, ← hr1, ← hr2]; exact c_sentReset s H0.out H6.out⟩
  clear hr0 hr1 hr2
  go_enter Tryd.func45, Tryd.ntmps45
  go_wp2_with (first | (go_at_call 50; refine (w_kindOf_6 _).mono ?_; rintro e w3 ⟨rfl, hb3⟩; obtain ⟨hk0, hk1, hs3⟩ := two_blocks hb3; have hs4 : w.heap.size < w3.heap.size := (by omega); have e0 : w3.cell? ⟨w.heap.size, 0, none⟩ = some (.bool false) := blk_cell hk0 0; have e1 : w3.cell? ⟨w.heap.size, 1, none⟩ = some (.int .i64 6) := blk_cell hk0 1; have q0 : w3.cell? ⟨w.heap.size + 1, 0, none⟩ = some (.int .i64 0) := blk_cell hk1 0; have q1 : w3.cell? ⟨w.heap.size + 1, 1, none⟩ = some (.int .i64 0) := blk_cell hk1 1; have p0 : w3.frozen? ⟨w.heap.size + 1, 0, none⟩ = false := blk_frozen hk1 0; have p1 : w3.frozen? ⟨w.heap.size + 1, 1, none⟩ = false := blk_frozen hk1 1; have HK1 := Aside0.mk hk1; clear hk0 hk1; have HB3 := Aside0.mk hb3; clear hb3) | (go_at_call 72; refine (HC.out _ (((hG.out.alloc _).alloc _).below HB3.out |>.alloc _)).mono ?_; rintro e w4 ⟨rfl, hb4⟩; have hk4 := blk_below (blk_alloc HK1.out _) hb4; have q4 : w4.cell? ⟨w.heap.size + 1, 0, none⟩ = some (.int .i64 0) := blk_cell hk4 0; have q5 : w4.cell? ⟨w.heap.size + 1, 1, none⟩ = some (.int .i64 0) := blk_cell hk4 1; have p4 : w4.frozen? ⟨w.heap.size + 1, 0, none⟩ = false := blk_frozen hk4 0; have p5 : w4.frozen? ⟨w.heap.size + 1, 1, none⟩ = false := blk_frozen hk4 1; have HB4 := Aside0.mk hb4; clear hb4 hk4))
  refine bodyPost_ret (v := .tuple #[.int .i64 r0, .agg #[.int .i64 r1, .int .i64 r2]]) (by simp [results, Tryd.results45, go_sem, q4, q5, p4, p5]) rfl ⟨rfl, ?_⟩
  have hb1 : Below w.heap.size w w3 := below_step (below_alloc (below_alloc (Below.refl _ _) _) _) HB3.out
  have hb2 : Below w.heap.size w w4 := below_step (below_alloc hb1 _) HB4.out
  exact below_set (below_set hb2 (by omega)) (by omega)

set_option maxHeartbeats 4000000 in
theorem w_Next_6_got (s : Int) (h0 : 0 ≤ s) (h6 : s ≤ 6) (w : World) (hG : GL w) : Calls Tryd.prog 45 #[.int .i64 s, .agg #[.bool true, .int .i64 6]] w fun e w' => e = .returned (.tuple #[.int .i64 (vgotReset s).1, .agg #[.int .i64 (vgotReset s).2.1, .int .i64 (vgotReset s).2.2]]) ∧ Below w.heap.size w w' := by
  have d0 : decide (s < 0) = false := decide_eq_false (by omega)
  have d6 : decide (6 < s) = false := decide_eq_false (by omega)
  have H0 := Aside0.mk h0
  have H6 := Aside0.mk h6
  clear h0 h6
  have hG := Aside0.mk hG
  obtain ⟨r0, hr0⟩ : ∃ x, (vgotReset s).1 = x := ⟨_, rfl⟩
  obtain ⟨r1, hr1⟩ : ∃ x, (vgotReset s).2.1 = x := ⟨_, rfl⟩
  obtain ⟨r2, hr2⟩ : ∃ x, (vgotReset s).2.2 = x := ⟨_, rfl⟩
  rw [hr0, hr1, hr2]
  have HC : Aside0 (∀ w, GL w → Calls Tryd.prog 73 #[.int .i64 s] w fun e w' => e = .returned (.tuple #[.int .i64 r0, .agg #[.int .i64 r1, .int .i64 r2]]) ∧ Below w.heap.size w w') := ⟨by rw [← hr0, ← hr1, ← hr2]; exact c_gotReset s H0.out H6.out⟩
  clear hr0 hr1 hr2
  go_enter Tryd.func45, Tryd.ntmps45
  go_wp2_with (first | (go_at_call 50; refine (w_kindOf_6 _).mono ?_; rintro e w3 ⟨rfl, hb3⟩; obtain ⟨hk0, hk1, hs3⟩ := two_blocks hb3; have hs4 : w.heap.size < w3.heap.size := (by omega); have e0 : w3.cell? ⟨w.heap.size, 0, none⟩ = some (.bool true) := blk_cell hk0 0; have e1 : w3.cell? ⟨w.heap.size, 1, none⟩ = some (.int .i64 6) := blk_cell hk0 1; have q0 : w3.cell? ⟨w.heap.size + 1, 0, none⟩ = some (.int .i64 0) := blk_cell hk1 0; have q1 : w3.cell? ⟨w.heap.size + 1, 1, none⟩ = some (.int .i64 0) := blk_cell hk1 1; have p0 : w3.frozen? ⟨w.heap.size + 1, 0, none⟩ = false := blk_frozen hk1 0; have p1 : w3.frozen? ⟨w.heap.size + 1, 1, none⟩ = false := blk_frozen hk1 1; have HK1 := Aside0.mk hk1; clear hk0 hk1; have HB3 := Aside0.mk hb3; clear hb3) | (go_at_call 73; refine (HC.out _ (((hG.out.alloc _).alloc _).below HB3.out |>.alloc _)).mono ?_; rintro e w4 ⟨rfl, hb4⟩; have hk4 := blk_below (blk_alloc HK1.out _) hb4; have q4 : w4.cell? ⟨w.heap.size + 1, 0, none⟩ = some (.int .i64 0) := blk_cell hk4 0; have q5 : w4.cell? ⟨w.heap.size + 1, 1, none⟩ = some (.int .i64 0) := blk_cell hk4 1; have p4 : w4.frozen? ⟨w.heap.size + 1, 0, none⟩ = false := blk_frozen hk4 0; have p5 : w4.frozen? ⟨w.heap.size + 1, 1, none⟩ = false := blk_frozen hk4 1; have HB4 := Aside0.mk hb4; clear hb4 hk4))
  refine bodyPost_ret (v := .tuple #[.int .i64 r0, .agg #[.int .i64 r1, .int .i64 r2]]) (by simp [results, Tryd.results45, go_sem, q4, q5, p4, p5]) rfl ⟨rfl, ?_⟩
  have hb1 : Below w.heap.size w w3 := below_step (below_alloc (below_alloc (Below.refl _ _) _) _) HB3.out
  have hb2 : Below w.heap.size w w4 := below_step (below_alloc hb1 _) HB4.out
  exact below_set (below_set hb2 (by omega)) (by omega)

set_option maxHeartbeats 4000000 in
theorem w_Next_7_sent (s : Int) (h0 : 0 ≤ s) (h6 : s ≤ 6) (w : World) (hG : GL w) : Calls Tryd.prog 45 #[.int .i64 s, .agg #[.bool false, .int .i64 7]] w fun e w' => e = .returned (.tuple #[.int .i64 (vsentWindow s).1, .agg #[.int .i64 (vsentWindow s).2.1, .int .i64 (vsentWindow s).2.2]]) ∧ Below w.heap.size w w' := by
  have d0 : decide (s < 0) = false := decide_eq_false (by omega)
  have d6 : decide (6 < s) = false := decide_eq_false (by omega)
  have H0 := Aside0.mk h0
  have H6 := Aside0.mk h6
  clear h0 h6
  have hG := Aside0.mk hG
  obtain ⟨r0, hr0⟩ : ∃ x, (vsentWindow s).1 = x := ⟨_, rfl⟩
  obtain ⟨r1, hr1⟩ : ∃ x, (vsentWindow s).2.1 = x := ⟨_, rfl⟩
  obtain ⟨r2, hr2⟩ : ∃ x, (vsentWindow s).2.2 = x := ⟨_, rfl⟩
  rw [hr0, hr1, hr2]
  have HC : Aside0 (∀ w, GL w → Calls Tryd.prog 74 #[.int .i64 s] w fun e w' => e = .returned (.tuple #[.int .i64 r0, .agg #[.int .i64 r1, .int .i64 r2]]) ∧ Below w.heap.size w w') := ⟨by rw [← hr0, ← hr1, ← hr2]; exact c_sentWindow s H0.out H6.out⟩
  clear hr0 hr1 hr2
  go_enter Tryd.func45, Tryd.ntmps45
  go_wp2_with (first | (go_at_call 50; refine (w_kindOf_7 _).mono ?_; rintro e w3 ⟨rfl, hb3⟩; obtain ⟨hk0, hk1, hs3⟩ := two_blocks hb3; have hs4 : w.heap.size < w3.heap.size := (by omega); have e0 : w3.cell? ⟨w.heap.size, 0, none⟩ = some (.bool false) := blk_cell hk0 0; have e1 : w3.cell? ⟨w.heap.size, 1, none⟩ = some (.int .i64 7) := blk_cell hk0 1; have q0 : w3.cell? ⟨w.heap.size + 1, 0, none⟩ = some (.int .i64 0) := blk_cell hk1 0; have q1 : w3.cell? ⟨w.heap.size + 1, 1, none⟩ = some (.int .i64 0) := blk_cell hk1 1; have p0 : w3.frozen? ⟨w.heap.size + 1, 0, none⟩ = false := blk_frozen hk1 0; have p1 : w3.frozen? ⟨w.heap.size + 1, 1, none⟩ = false := blk_frozen hk1 1; have HK1 := Aside0.mk hk1; clear hk0 hk1; have HB3 := Aside0.mk hb3; clear hb3) | (go_at_call 74; refine (HC.out _ (((hG.out.alloc _).alloc _).below HB3.out |>.alloc _)).mono ?_; rintro e w4 ⟨rfl, hb4⟩; have hk4 := blk_below (blk_alloc HK1.out _) hb4; have q4 : w4.cell? ⟨w.heap.size + 1, 0, none⟩ = some (.int .i64 0) := blk_cell hk4 0; have q5 : w4.cell? ⟨w.heap.size + 1, 1, none⟩ = some (.int .i64 0) := blk_cell hk4 1; have p4 : w4.frozen? ⟨w.heap.size + 1, 0, none⟩ = false := blk_frozen hk4 0; have p5 : w4.frozen? ⟨w.heap.size + 1, 1, none⟩ = false := blk_frozen hk4 1; have HB4 := Aside0.mk hb4; clear hb4 hk4))
  refine bodyPost_ret (v := .tuple #[.int .i64 r0, .agg #[.int .i64 r1, .int .i64 r2]]) (by simp [results, Tryd.results45, go_sem, q4, q5, p4, p5]) rfl ⟨rfl, ?_⟩
  have hb1 : Below w.heap.size w w3 := below_step (below_alloc (below_alloc (Below.refl _ _) _) _) HB3.out
  have hb2 : Below w.heap.size w w4 := below_step (below_alloc hb1 _) HB4.out
  exact below_set (below_set hb2 (by omega)) (by omega)

set_option maxHeartbeats 4000000 in
theorem w_Next_7_got (s : Int) (h0 : 0 ≤ s) (h6 : s ≤ 6) (w : World) (hG : GL w) : Calls Tryd.prog 45 #[.int .i64 s, .agg #[.bool true, .int .i64 7]] w fun e w' => e = .returned (.tuple #[.int .i64 (vgotWindow s).1, .agg #[.int .i64 (vgotWindow s).2.1, .int .i64 (vgotWindow s).2.2]]) ∧ Below w.heap.size w w' := by
  have d0 : decide (s < 0) = false := decide_eq_false (by omega)
  have d6 : decide (6 < s) = false := decide_eq_false (by omega)
  have H0 := Aside0.mk h0
  have H6 := Aside0.mk h6
  clear h0 h6
  have hG := Aside0.mk hG
  obtain ⟨r0, hr0⟩ : ∃ x, (vgotWindow s).1 = x := ⟨_, rfl⟩
  obtain ⟨r1, hr1⟩ : ∃ x, (vgotWindow s).2.1 = x := ⟨_, rfl⟩
  obtain ⟨r2, hr2⟩ : ∃ x, (vgotWindow s).2.2 = x := ⟨_, rfl⟩
  rw [hr0, hr1, hr2]
  have HC : Aside0 (∀ w, GL w → Calls Tryd.prog 75 #[.int .i64 s] w fun e w' => e = .returned (.tuple #[.int .i64 r0, .agg #[.int .i64 r1, .int .i64 r2]]) ∧ Below w.heap.size w w') := ⟨by rw [← hr0, ← hr1, ← hr2]; exact c_gotWindow s H0.out H6.out⟩
  clear hr0 hr1 hr2
  go_enter Tryd.func45, Tryd.ntmps45
  go_wp2_with (first | (go_at_call 50; refine (w_kindOf_7 _).mono ?_; rintro e w3 ⟨rfl, hb3⟩; obtain ⟨hk0, hk1, hs3⟩ := two_blocks hb3; have hs4 : w.heap.size < w3.heap.size := (by omega); have e0 : w3.cell? ⟨w.heap.size, 0, none⟩ = some (.bool true) := blk_cell hk0 0; have e1 : w3.cell? ⟨w.heap.size, 1, none⟩ = some (.int .i64 7) := blk_cell hk0 1; have q0 : w3.cell? ⟨w.heap.size + 1, 0, none⟩ = some (.int .i64 0) := blk_cell hk1 0; have q1 : w3.cell? ⟨w.heap.size + 1, 1, none⟩ = some (.int .i64 0) := blk_cell hk1 1; have p0 : w3.frozen? ⟨w.heap.size + 1, 0, none⟩ = false := blk_frozen hk1 0; have p1 : w3.frozen? ⟨w.heap.size + 1, 1, none⟩ = false := blk_frozen hk1 1; have HK1 := Aside0.mk hk1; clear hk0 hk1; have HB3 := Aside0.mk hb3; clear hb3) | (go_at_call 75; refine (HC.out _ (((hG.out.alloc _).alloc _).below HB3.out |>.alloc _)).mono ?_; rintro e w4 ⟨rfl, hb4⟩; have hk4 := blk_below (blk_alloc HK1.out _) hb4; have q4 : w4.cell? ⟨w.heap.size + 1, 0, none⟩ = some (.int .i64 0) := blk_cell hk4 0; have q5 : w4.cell? ⟨w.heap.size + 1, 1, none⟩ = some (.int .i64 0) := blk_cell hk4 1; have p4 : w4.frozen? ⟨w.heap.size + 1, 0, none⟩ = false := blk_frozen hk4 0; have p5 : w4.frozen? ⟨w.heap.size + 1, 1, none⟩ = false := blk_frozen hk4 1; have HB4 := Aside0.mk hb4; clear hb4 hk4))
  refine bodyPost_ret (v := .tuple #[.int .i64 r0, .agg #[.int .i64 r1, .int .i64 r2]]) (by simp [results, Tryd.results45, go_sem, q4, q5, p4, p5]) rfl ⟨rfl, ?_⟩
  have hb1 : Below w.heap.size w w3 := below_step (below_alloc (below_alloc (Below.refl _ _) _) _) HB3.out
  have hb2 : Below w.heap.size w w4 := below_step (below_alloc hb1 _) HB4.out
  exact below_set (below_set hb2 (by omega)) (by omega)

set_option maxHeartbeats 4000000 in
theorem w_Next_8_sent (s : Int) (h0 : 0 ≤ s) (h6 : s ≤ 6) (w : World) (hG : GL w) : Calls Tryd.prog 45 #[.int .i64 s, .agg #[.bool false, .int .i64 8]] w fun e w' => e = .returned (.tuple #[.int .i64 (vsentPriority s).1, .agg #[.int .i64 (vsentPriority s).2.1, .int .i64 (vsentPriority s).2.2]]) ∧ Below w.heap.size w w' := by
  have d0 : decide (s < 0) = false := decide_eq_false (by omega)
  have d6 : decide (6 < s) = false := decide_eq_false (by omega)
  have H0 := Aside0.mk h0
  have H6 := Aside0.mk h6
  clear h0 h6
  have hG := Aside0.mk hG
  obtain ⟨r0, hr0⟩ : ∃ x, (vsentPriority s).1 = x := ⟨_, rfl⟩
  obtain ⟨r1, hr1⟩ : ∃ x, (vsentPriority s).2.1 = x := ⟨_, rfl⟩
  obtain ⟨r2, hr2⟩ : ∃ x, (vsentPriority s).2.2 = x := ⟨_, rfl⟩
  rw [hr0, hr1, hr2]
  have HC : Aside0 (∀ w, GL w → Calls Tryd.prog 76 #[.int .i64 s] w fun e w' => e = .returned (.tuple #[.int .i64 r0, .agg #[.int .i64 r1, .int .i64 r2]]) ∧ Below w.heap.size w w') := ⟨by rw [← hr0, ← hr1, ← hr2]; exact c_sentPriority s H0.out H6.out⟩
  clear hr0 hr1 hr2
  go_enter Tryd.func45, Tryd.ntmps45
  go_wp2_with (first | (go_at_call 50; refine (w_kindOf_8 _).mono ?_; rintro e w3 ⟨rfl, hb3⟩; obtain ⟨hk0, hk1, hs3⟩ := two_blocks hb3; have hs4 : w.heap.size < w3.heap.size := (by omega); have e0 : w3.cell? ⟨w.heap.size, 0, none⟩ = some (.bool false) := blk_cell hk0 0; have e1 : w3.cell? ⟨w.heap.size, 1, none⟩ = some (.int .i64 8) := blk_cell hk0 1; have q0 : w3.cell? ⟨w.heap.size + 1, 0, none⟩ = some (.int .i64 0) := blk_cell hk1 0; have q1 : w3.cell? ⟨w.heap.size + 1, 1, none⟩ = some (.int .i64 0) := blk_cell hk1 1; have p0 : w3.frozen? ⟨w.heap.size + 1, 0, none⟩ = false := blk_frozen hk1 0; have p1 : w3.frozen? ⟨w.heap.size + 1, 1, none⟩ = false := blk_frozen hk1 1; have HK1 := Aside0.mk hk1; clear hk0 hk1; have HB3 := Aside0.mk hb3; clear hb3) | (go_at_call 76; refine (HC.out _ (((hG.out.alloc _).alloc _).below HB3.out |>.alloc _)).mono ?_; rintro e w4 ⟨rfl, hb4⟩; have hk4 := blk_below (blk_alloc HK1.out _) hb4; have q4 : w4.cell? ⟨w.heap.size + 1, 0, none⟩ = some (.int .i64 0) := blk_cell hk4 0; have q5 : w4.cell? ⟨w.heap.size + 1, 1, none⟩ = some (.int .i64 0) := blk_cell hk4 1; have p4 : w4.frozen? ⟨w.heap.size + 1, 0, none⟩ = false := blk_frozen hk4 0; have p5 : w4.frozen? ⟨w.heap.size + 1, 1, none⟩ = false := blk_frozen hk4 1; have HB4 := Aside0.mk hb4; clear hb4 hk4))
  refine bodyPost_ret (v := .tuple #[.int .i64 r0, .agg #[.int .i64 r1, .int .i64 r2]]) (by simp [results, Tryd.results45, go_sem, q4, q5, p4, p5]) rfl ⟨rfl, ?_⟩
  have hb1 : Below w.heap.size w w3 := below_step (below_alloc (below_alloc (Below.refl _ _) _) _) HB3.out
  have hb2 : Below w.heap.size w w4 := below_step (below_alloc hb1 _) HB4.out
  exact below_set (below_set hb2 (by omega)) (by omega)

set_option maxHeartbeats 4000000 in
theorem w_Next_8_got (s : Int) (h0 : 0 ≤ s) (h6 : s ≤ 6) (w : World) (hG : GL w) : Calls Tryd.prog 45 #[.int .i64 s, .agg #[.bool true, .int .i64 8]] w fun e w' => e = .returned (.tuple #[.int .i64 (vgotPriority s).1, .agg #[.int .i64 (vgotPriority s).2.1, .int .i64 (vgotPriority s).2.2]]) ∧ Below w.heap.size w w' := by
  have d0 : decide (s < 0) = false := decide_eq_false (by omega)
  have d6 : decide (6 < s) = false := decide_eq_false (by omega)
  have H0 := Aside0.mk h0
  have H6 := Aside0.mk h6
  clear h0 h6
  have hG := Aside0.mk hG
  obtain ⟨r0, hr0⟩ : ∃ x, (vgotPriority s).1 = x := ⟨_, rfl⟩
  obtain ⟨r1, hr1⟩ : ∃ x, (vgotPriority s).2.1 = x := ⟨_, rfl⟩
  obtain ⟨r2, hr2⟩ : ∃ x, (vgotPriority s).2.2 = x := ⟨_, rfl⟩
  rw [hr0, hr1, hr2]
  have HC : Aside0 (∀ w, GL w → Calls Tryd.prog 77 #[.int .i64 s] w fun e w' => e = .returned (.tuple #[.int .i64 r0, .agg #[.int .i64 r1, .int .i64 r2]]) ∧ Below w.heap.size w w') := ⟨by rw [← hr0, ← hr1, ← hr2]; exact c_gotPriority s H0.out H6.out⟩
  clear hr0 hr1 hr2
  go_enter Tryd.func45, Tryd.ntmps45
  go_wp2_with (first | (go_at_call 50; refine (w_kindOf_8 _).mono ?_; rintro e w3 ⟨rfl, hb3⟩; obtain ⟨hk0, hk1, hs3⟩ := two_blocks hb3; have hs4 : w.heap.size < w3.heap.size := (by omega); have e0 : w3.cell? ⟨w.heap.size, 0, none⟩ = some (.bool true) := blk_cell hk0 0; have e1 : w3.cell? ⟨w.heap.size, 1, none⟩ = some (.int .i64 8) := blk_cell hk0 1; have q0 : w3.cell? ⟨w.heap.size + 1, 0, none⟩ = some (.int .i64 0) := blk_cell hk1 0; have q1 : w3.cell? ⟨w.heap.size + 1, 1, none⟩ = some (.int .i64 0) := blk_cell hk1 1; have p0 : w3.frozen? ⟨w.heap.size + 1, 0, none⟩ = false := blk_frozen hk1 0; have p1 : w3.frozen? ⟨w.heap.size + 1, 1, none⟩ = false := blk_frozen hk1 1; have HK1 := Aside0.mk hk1; clear hk0 hk1; have HB3 := Aside0.mk hb3; clear hb3) | (go_at_call 77; refine (HC.out _ (((hG.out.alloc _).alloc _).below HB3.out |>.alloc _)).mono ?_; rintro e w4 ⟨rfl, hb4⟩; have hk4 := blk_below (blk_alloc HK1.out _) hb4; have q4 : w4.cell? ⟨w.heap.size + 1, 0, none⟩ = some (.int .i64 0) := blk_cell hk4 0; have q5 : w4.cell? ⟨w.heap.size + 1, 1, none⟩ = some (.int .i64 0) := blk_cell hk4 1; have p4 : w4.frozen? ⟨w.heap.size + 1, 0, none⟩ = false := blk_frozen hk4 0; have p5 : w4.frozen? ⟨w.heap.size + 1, 1, none⟩ = false := blk_frozen hk4 1; have HB4 := Aside0.mk hb4; clear hb4 hk4))
  refine bodyPost_ret (v := .tuple #[.int .i64 r0, .agg #[.int .i64 r1, .int .i64 r2]]) (by simp [results, Tryd.results45, go_sem, q4, q5, p4, p5]) rfl ⟨rfl, ?_⟩
  have hb1 : Below w.heap.size w w3 := below_step (below_alloc (below_alloc (Below.refl _ _) _) _) HB3.out
  have hb2 : Below w.heap.size w w4 := below_step (below_alloc hb1 _) HB4.out
  exact below_set (below_set hb2 (by omega)) (by omega)

end Go.Proofs.YtagkncjdohljgaaDoor.QL
