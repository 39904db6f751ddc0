/- The document's cells of the table, one by one: what is sent. No condition. -/
import Derived.Test.YtagkncjdohljgaaDoorMRefA
import Derived.RegionTactic
import Derived.ChangeAlike
import Derived.WalkLawsBesides
import Derived.WalkSpells
namespace Go.Proofs.YtagkncjdohljgaaDoor.QL
open Go Go.RowKit Go.Proofs.YtagkncjdohljgaaDoorW.PrintWords Go.Proofs.YtagkncjdohljgaaDoorW.PrintLast
set_option linter.unusedSimpArgs false
set_option linter.unusedVariables false
set_option maxHeartbeats 4000000 in
theorem r_next_sent_1_0 (w : World) : Calls Tryd.prog 31 #[.int .i64 0, .agg #[.bool false, .int .i64 1]] w fun e w' => e = .returned (.tuple #[.int .i64 3, .agg #[.int .i64 0, .int .i64 0]]) ∧ Below w.heap.size w w' := by
  have hbt : ((⟨#[51, 52, 66, 66, 49, 66, 66, 46]⟩ : ByteArray)[0]'(by decide)).toNat = 51 := rfl
  go_enter Tryd.func31, Tryd.ntmps31
  go_wp2_with (first | (go_at_call 46; refine (r_sent_0 _).mono ?_; rintro e w3 ⟨rfl, hb3⟩; obtain ⟨hk0, hk1, hs3⟩ := two_blocks hb3; have e0 : w3.cell? ⟨w.heap.size, 0, none⟩ = some (.bool false) := blk_cell hk0 0; have e1 : w3.cell? ⟨w.heap.size, 1, none⟩ = some (.int .i64 1) := blk_cell hk0 1; have q0 : w3.cell? ⟨w.heap.size + 1, 0, none⟩ = some (.int .i64 0) := blk_cell hk1 0; have q1 : w3.cell? ⟨w.heap.size + 1, 1, none⟩ = some (.int .i64 0) := blk_cell hk1 1; have p0 : w3.frozen? ⟨w.heap.size + 1, 0, none⟩ = false := blk_frozen hk1 0; have p1 : w3.frozen? ⟨w.heap.size + 1, 1, none⟩ = false := blk_frozen hk1 1; have HB3 := Aside0.mk (below_step (below_alloc (below_alloc (Below.refl w.heap.size w) _) _) hb3); clear hk0 hk1; have HS := Aside0.mk hb3; clear hb3))
  all_goals (try (go_region; go_wp2))
  refine bodyPost_ret (v := .tuple #[.int .i64 3, .agg #[.int .i64 0, .int .i64 0]]) (by simp [results, Tryd.results31, go_sem, q0, q1, p0, p1]) rfl ⟨rfl, ?_⟩
  repeat (first | exact HB3.out | apply below_alloc | apply below_drew | apply pw_below_drewN | refine below_set ?_ (by omega))
set_option maxHeartbeats 4000000 in
theorem r_next_sent_1_1 (w : World) : Calls Tryd.prog 31 #[.int .i64 1, .agg #[.bool false, .int .i64 1]] w fun e w' => e = .returned (.tuple #[.int .i64 5, .agg #[.int .i64 0, .int .i64 0]]) ∧ Below w.heap.size w w' := by
  have hbt : ((⟨#[53, 54, 66, 66, 66, 54, 66, 46]⟩ : ByteArray)[0]'(by decide)).toNat = 53 := rfl
  go_enter Tryd.func31, Tryd.ntmps31
  go_wp2_with (first | (go_at_call 46; refine (r_sent_1 _).mono ?_; rintro e w3 ⟨rfl, hb3⟩; obtain ⟨hk0, hk1, hs3⟩ := two_blocks hb3; have e0 : w3.cell? ⟨w.heap.size, 0, none⟩ = some (.bool false) := blk_cell hk0 0; have e1 : w3.cell? ⟨w.heap.size, 1, none⟩ = some (.int .i64 1) := blk_cell hk0 1; have q0 : w3.cell? ⟨w.heap.size + 1, 0, none⟩ = some (.int .i64 0) := blk_cell hk1 0; have q1 : w3.cell? ⟨w.heap.size + 1, 1, none⟩ = some (.int .i64 0) := blk_cell hk1 1; have p0 : w3.frozen? ⟨w.heap.size + 1, 0, none⟩ = false := blk_frozen hk1 0; have p1 : w3.frozen? ⟨w.heap.size + 1, 1, none⟩ = false := blk_frozen hk1 1; have HB3 := Aside0.mk (below_step (below_alloc (below_alloc (Below.refl w.heap.size w) _) _) hb3); clear hk0 hk1; have HS := Aside0.mk hb3; clear hb3))
  all_goals (try (go_region; go_wp2))
  refine bodyPost_ret (v := .tuple #[.int .i64 5, .agg #[.int .i64 0, .int .i64 0]]) (by simp [results, Tryd.results31, go_sem, q0, q1, p0, p1]) rfl ⟨rfl, ?_⟩
  repeat (first | exact HB3.out | apply below_alloc | apply below_drew | apply pw_below_drewN | refine below_set ?_ (by omega))
set_option maxHeartbeats 4000000 in
theorem r_next_sent_1_2 (w : World) : Calls Tryd.prog 31 #[.int .i64 2, .agg #[.bool false, .int .i64 1]] w fun e w' => e = .returned (.tuple #[.int .i64 2, .agg #[.int .i64 4, .int .i64 0]]) ∧ Below w.heap.size w w' := by
  have hbt : ((⟨#[66, 66, 66, 66, 66, 54, 46, 46]⟩ : ByteArray)[0]'(by decide)).toNat = 66 := rfl
  go_enter Tryd.func31, Tryd.ntmps31
  go_wp2_with (first | (go_at_call 46; refine (r_sent_2 _).mono ?_; rintro e w3 ⟨rfl, hb3⟩; obtain ⟨hk0, hk1, hs3⟩ := two_blocks hb3; have e0 : w3.cell? ⟨w.heap.size, 0, none⟩ = some (.bool false) := blk_cell hk0 0; have e1 : w3.cell? ⟨w.heap.size, 1, none⟩ = some (.int .i64 1) := blk_cell hk0 1; have q0 : w3.cell? ⟨w.heap.size + 1, 0, none⟩ = some (.int .i64 0) := blk_cell hk1 0; have q1 : w3.cell? ⟨w.heap.size + 1, 1, none⟩ = some (.int .i64 0) := blk_cell hk1 1; have p0 : w3.frozen? ⟨w.heap.size + 1, 0, none⟩ = false := blk_frozen hk1 0; have p1 : w3.frozen? ⟨w.heap.size + 1, 1, none⟩ = false := blk_frozen hk1 1; have HB3 := Aside0.mk (below_step (below_alloc (below_alloc (Below.refl w.heap.size w) _) _) hb3); clear hk0 hk1; have HS := Aside0.mk hb3; clear hb3))
  all_goals (try (go_region; go_wp2))
  refine bodyPost_ret (v := .tuple #[.int .i64 2, .agg #[.int .i64 4, .int .i64 0]]) (by simp [results, Tryd.results31, go_sem, q0, q1, p0, p1]) rfl ⟨rfl, ?_⟩
  repeat (first | exact HB3.out | apply below_alloc | apply below_drew | apply pw_below_drewN | refine below_set ?_ (by omega))
set_option maxHeartbeats 4000000 in
theorem r_next_sent_1_3 (w : World) : Calls Tryd.prog 31 #[.int .i64 3, .agg #[.bool false, .int .i64 1]] w fun e w' => e = .returned (.tuple #[.int .i64 3, .agg #[.int .i64 0, .int .i64 0]]) ∧ Below w.heap.size w w' := by
  have hbt : ((⟨#[46, 52, 46, 52, 66, 54, 46, 46]⟩ : ByteArray)[0]'(by decide)).toNat = 46 := rfl
  go_enter Tryd.func31, Tryd.ntmps31
  go_wp2_with (first | (go_at_call 46; refine (r_sent_3 _).mono ?_; rintro e w3 ⟨rfl, hb3⟩; obtain ⟨hk0, hk1, hs3⟩ := two_blocks hb3; have e0 : w3.cell? ⟨w.heap.size, 0, none⟩ = some (.bool false) := blk_cell hk0 0; have e1 : w3.cell? ⟨w.heap.size, 1, none⟩ = some (.int .i64 1) := blk_cell hk0 1; have q0 : w3.cell? ⟨w.heap.size + 1, 0, none⟩ = some (.int .i64 0) := blk_cell hk1 0; have q1 : w3.cell? ⟨w.heap.size + 1, 1, none⟩ = some (.int .i64 0) := blk_cell hk1 1; have p0 : w3.frozen? ⟨w.heap.size + 1, 0, none⟩ = false := blk_frozen hk1 0; have p1 : w3.frozen? ⟨w.heap.size + 1, 1, none⟩ = false := blk_frozen hk1 1; have HB3 := Aside0.mk (below_step (below_alloc (below_alloc (Below.refl w.heap.size w) _) _) hb3); clear hk0 hk1; have HS := Aside0.mk hb3; clear hb3))
  all_goals (try (go_region; go_wp2))
  refine bodyPost_ret (v := .tuple #[.int .i64 3, .agg #[.int .i64 0, .int .i64 0]]) (by simp [results, Tryd.results31, go_sem, q0, q1, p0, p1]) rfl ⟨rfl, ?_⟩
  repeat (first | exact HB3.out | apply below_alloc | apply below_drew | apply pw_below_drewN | refine below_set ?_ (by omega))
set_option maxHeartbeats 4000000 in
theorem r_next_sent_1_4 (w : World) : Calls Tryd.prog 31 #[.int .i64 4, .agg #[.bool false, .int .i64 1]] w fun e w' => e = .returned (.tuple #[.int .i64 4, .agg #[.int .i64 4, .int .i64 0]]) ∧ Below w.heap.size w w' := by
  have hbt : ((⟨#[66, 66, 66, 66, 66, 54, 46, 46]⟩ : ByteArray)[0]'(by decide)).toNat = 66 := rfl
  go_enter Tryd.func31, Tryd.ntmps31
  go_wp2_with (first | (go_at_call 46; refine (r_sent_4 _).mono ?_; rintro e w3 ⟨rfl, hb3⟩; obtain ⟨hk0, hk1, hs3⟩ := two_blocks hb3; have e0 : w3.cell? ⟨w.heap.size, 0, none⟩ = some (.bool false) := blk_cell hk0 0; have e1 : w3.cell? ⟨w.heap.size, 1, none⟩ = some (.int .i64 1) := blk_cell hk0 1; have q0 : w3.cell? ⟨w.heap.size + 1, 0, none⟩ = some (.int .i64 0) := blk_cell hk1 0; have q1 : w3.cell? ⟨w.heap.size + 1, 1, none⟩ = some (.int .i64 0) := blk_cell hk1 1; have p0 : w3.frozen? ⟨w.heap.size + 1, 0, none⟩ = false := blk_frozen hk1 0; have p1 : w3.frozen? ⟨w.heap.size + 1, 1, none⟩ = false := blk_frozen hk1 1; have HB3 := Aside0.mk (below_step (below_alloc (below_alloc (Below.refl w.heap.size w) _) _) hb3); clear hk0 hk1; have HS := Aside0.mk hb3; clear hb3))
  all_goals (try (go_region; go_wp2))
  refine bodyPost_ret (v := .tuple #[.int .i64 4, .agg #[.int .i64 4, .int .i64 0]]) (by simp [results, Tryd.results31, go_sem, q0, q1, p0, p1]) rfl ⟨rfl, ?_⟩
  repeat (first | exact HB3.out | apply below_alloc | apply below_drew | apply pw_below_drewN | refine below_set ?_ (by omega))
set_option maxHeartbeats 4000000 in
theorem r_next_sent_1_5 (w : World) : Calls Tryd.prog 31 #[.int .i64 5, .agg #[.bool false, .int .i64 1]] w fun e w' => e = .returned (.tuple #[.int .i64 5, .agg #[.int .i64 0, .int .i64 0]]) ∧ Below w.heap.size w w' := by
  have hbt : ((⟨#[46, 54, 46, 54, 66, 54, 46, 46]⟩ : ByteArray)[0]'(by decide)).toNat = 46 := rfl
  go_enter Tryd.func31, Tryd.ntmps31
  go_wp2_with (first | (go_at_call 46; refine (r_sent_5 _).mono ?_; rintro e w3 ⟨rfl, hb3⟩; obtain ⟨hk0, hk1, hs3⟩ := two_blocks hb3; have e0 : w3.cell? ⟨w.heap.size, 0, none⟩ = some (.bool false) := blk_cell hk0 0; have e1 : w3.cell? ⟨w.heap.size, 1, none⟩ = some (.int .i64 1) := blk_cell hk0 1; have q0 : w3.cell? ⟨w.heap.size + 1, 0, none⟩ = some (.int .i64 0) := blk_cell hk1 0; have q1 : w3.cell? ⟨w.heap.size + 1, 1, none⟩ = some (.int .i64 0) := blk_cell hk1 1; have p0 : w3.frozen? ⟨w.heap.size + 1, 0, none⟩ = false := blk_frozen hk1 0; have p1 : w3.frozen? ⟨w.heap.size + 1, 1, none⟩ = false := blk_frozen hk1 1; have HB3 := Aside0.mk (below_step (below_alloc (below_alloc (Below.refl w.heap.size w) _) _) hb3); clear hk0 hk1; have HS := Aside0.mk hb3; clear hb3))
  all_goals (try (go_region; go_wp2))
  refine bodyPost_ret (v := .tuple #[.int .i64 5, .agg #[.int .i64 0, .int .i64 0]]) (by simp [results, Tryd.results31, go_sem, q0, q1, p0, p1]) rfl ⟨rfl, ?_⟩
  repeat (first | exact HB3.out | apply below_alloc | apply below_drew | apply pw_below_drewN | refine below_set ?_ (by omega))
set_option maxHeartbeats 4000000 in
theorem r_next_sent_1_6 (w : World) : Calls Tryd.prog 31 #[.int .i64 6, .agg #[.bool false, .int .i64 1]] w fun e w' => e = .returned (.tuple #[.int .i64 6, .agg #[.int .i64 4, .int .i64 0]]) ∧ Below w.heap.size w w' := by
  have hbt : ((⟨#[66, 66, 66, 66, 66, 66, 66, 46]⟩ : ByteArray)[0]'(by decide)).toNat = 66 := rfl
  go_enter Tryd.func31, Tryd.ntmps31
  go_wp2_with (first | (go_at_call 46; refine (r_sent_6 _).mono ?_; rintro e w3 ⟨rfl, hb3⟩; obtain ⟨hk0, hk1, hs3⟩ := two_blocks hb3; have e0 : w3.cell? ⟨w.heap.size, 0, none⟩ = some (.bool false) := blk_cell hk0 0; have e1 : w3.cell? ⟨w.heap.size, 1, none⟩ = some (.int .i64 1) := blk_cell hk0 1; have q0 : w3.cell? ⟨w.heap.size + 1, 0, none⟩ = some (.int .i64 0) := blk_cell hk1 0; have q1 : w3.cell? ⟨w.heap.size + 1, 1, none⟩ = some (.int .i64 0) := blk_cell hk1 1; have p0 : w3.frozen? ⟨w.heap.size + 1, 0, none⟩ = false := blk_frozen hk1 0; have p1 : w3.frozen? ⟨w.heap.size + 1, 1, none⟩ = false := blk_frozen hk1 1; have HB3 := Aside0.mk (below_step (below_alloc (below_alloc (Below.refl w.heap.size w) _) _) hb3); clear hk0 hk1; have HS := Aside0.mk hb3; clear hb3))
  all_goals (try (go_region; go_wp2))
  refine bodyPost_ret (v := .tuple #[.int .i64 6, .agg #[.int .i64 4, .int .i64 0]]) (by simp [results, Tryd.results31, go_sem, q0, q1, p0, p1]) rfl ⟨rfl, ?_⟩
  repeat (first | exact HB3.out | apply below_alloc | apply below_drew | apply pw_below_drewN | refine below_set ?_ (by omega))
set_option maxHeartbeats 4000000 in
theorem r_next_sent_2_0 (w : World) : Calls Tryd.prog 31 #[.int .i64 0, .agg #[.bool false, .int .i64 2]] w fun e w' => e = .returned (.tuple #[.int .i64 4, .agg #[.int .i64 0, .int .i64 0]]) ∧ Below w.heap.size w w' := by
  have hbt : ((⟨#[51, 52, 66, 66, 49, 66, 66, 46]⟩ : ByteArray)[1]'(by decide)).toNat = 52 := rfl
  go_enter Tryd.func31, Tryd.ntmps31
  go_wp2_with (first | (go_at_call 46; refine (r_sent_0 _).mono ?_; rintro e w3 ⟨rfl, hb3⟩; obtain ⟨hk0, hk1, hs3⟩ := two_blocks hb3; have e0 : w3.cell? ⟨w.heap.size, 0, none⟩ = some (.bool false) := blk_cell hk0 0; have e1 : w3.cell? ⟨w.heap.size, 1, none⟩ = some (.int .i64 2) := blk_cell hk0 1; have q0 : w3.cell? ⟨w.heap.size + 1, 0, none⟩ = some (.int .i64 0) := blk_cell hk1 0; have q1 : w3.cell? ⟨w.heap.size + 1, 1, none⟩ = some (.int .i64 0) := blk_cell hk1 1; have p0 : w3.frozen? ⟨w.heap.size + 1, 0, none⟩ = false := blk_frozen hk1 0; have p1 : w3.frozen? ⟨w.heap.size + 1, 1, none⟩ = false := blk_frozen hk1 1; have HB3 := Aside0.mk (below_step (below_alloc (below_alloc (Below.refl w.heap.size w) _) _) hb3); clear hk0 hk1; have HS := Aside0.mk hb3; clear hb3))
  all_goals (try (go_region; go_wp2))
  refine bodyPost_ret (v := .tuple #[.int .i64 4, .agg #[.int .i64 0, .int .i64 0]]) (by simp [results, Tryd.results31, go_sem, q0, q1, p0, p1]) rfl ⟨rfl, ?_⟩
  repeat (first | exact HB3.out | apply below_alloc | apply below_drew | apply pw_below_drewN | refine below_set ?_ (by omega))
set_option maxHeartbeats 4000000 in
theorem r_next_sent_2_1 (w : World) : Calls Tryd.prog 31 #[.int .i64 1, .agg #[.bool false, .int .i64 2]] w fun e w' => e = .returned (.tuple #[.int .i64 6, .agg #[.int .i64 0, .int .i64 0]]) ∧ Below w.heap.size w w' := by
  have hbt : ((⟨#[53, 54, 66, 66, 66, 54, 66, 46]⟩ : ByteArray)[1]'(by decide)).toNat = 54 := rfl
  go_enter Tryd.func31, Tryd.ntmps31
  go_wp2_with (first | (go_at_call 46; refine (r_sent_1 _).mono ?_; rintro e w3 ⟨rfl, hb3⟩; obtain ⟨hk0, hk1, hs3⟩ := two_blocks hb3; have e0 : w3.cell? ⟨w.heap.size, 0, none⟩ = some (.bool false) := blk_cell hk0 0; have e1 : w3.cell? ⟨w.heap.size, 1, none⟩ = some (.int .i64 2) := blk_cell hk0 1; have q0 : w3.cell? ⟨w.heap.size + 1, 0, none⟩ = some (.int .i64 0) := blk_cell hk1 0; have q1 : w3.cell? ⟨w.heap.size + 1, 1, none⟩ = some (.int .i64 0) := blk_cell hk1 1; have p0 : w3.frozen? ⟨w.heap.size + 1, 0, none⟩ = false := blk_frozen hk1 0; have p1 : w3.frozen? ⟨w.heap.size + 1, 1, none⟩ = false := blk_frozen hk1 1; have HB3 := Aside0.mk (below_step (below_alloc (below_alloc (Below.refl w.heap.size w) _) _) hb3); clear hk0 hk1; have HS := Aside0.mk hb3; clear hb3))
  all_goals (try (go_region; go_wp2))
  refine bodyPost_ret (v := .tuple #[.int .i64 6, .agg #[.int .i64 0, .int .i64 0]]) (by simp [results, Tryd.results31, go_sem, q0, q1, p0, p1]) rfl ⟨rfl, ?_⟩
  repeat (first | exact HB3.out | apply below_alloc | apply below_drew | apply pw_below_drewN | refine below_set ?_ (by omega))
set_option maxHeartbeats 4000000 in
theorem r_next_sent_2_2 (w : World) : Calls Tryd.prog 31 #[.int .i64 2, .agg #[.bool false, .int .i64 2]] w fun e w' => e = .returned (.tuple #[.int .i64 2, .agg #[.int .i64 4, .int .i64 0]]) ∧ Below w.heap.size w w' := by
  have hbt : ((⟨#[66, 66, 66, 66, 66, 54, 46, 46]⟩ : ByteArray)[1]'(by decide)).toNat = 66 := rfl
  go_enter Tryd.func31, Tryd.ntmps31
  go_wp2_with (first | (go_at_call 46; refine (r_sent_2 _).mono ?_; rintro e w3 ⟨rfl, hb3⟩; obtain ⟨hk0, hk1, hs3⟩ := two_blocks hb3; have e0 : w3.cell? ⟨w.heap.size, 0, none⟩ = some (.bool false) := blk_cell hk0 0; have e1 : w3.cell? ⟨w.heap.size, 1, none⟩ = some (.int .i64 2) := blk_cell hk0 1; have q0 : w3.cell? ⟨w.heap.size + 1, 0, none⟩ = some (.int .i64 0) := blk_cell hk1 0; have q1 : w3.cell? ⟨w.heap.size + 1, 1, none⟩ = some (.int .i64 0) := blk_cell hk1 1; have p0 : w3.frozen? ⟨w.heap.size + 1, 0, none⟩ = false := blk_frozen hk1 0; have p1 : w3.frozen? ⟨w.heap.size + 1, 1, none⟩ = false := blk_frozen hk1 1; have HB3 := Aside0.mk (below_step (below_alloc (below_alloc (Below.refl w.heap.size w) _) _) hb3); clear hk0 hk1; have HS := Aside0.mk hb3; clear hb3))
  all_goals (try (go_region; go_wp2))
  refine bodyPost_ret (v := .tuple #[.int .i64 2, .agg #[.int .i64 4, .int .i64 0]]) (by simp [results, Tryd.results31, go_sem, q0, q1, p0, p1]) rfl ⟨rfl, ?_⟩
  repeat (first | exact HB3.out | apply below_alloc | apply below_drew | apply pw_below_drewN | refine below_set ?_ (by omega))
set_option maxHeartbeats 4000000 in
theorem r_next_sent_2_3 (w : World) : Calls Tryd.prog 31 #[.int .i64 3, .agg #[.bool false, .int .i64 2]] w fun e w' => e = .returned (.tuple #[.int .i64 4, .agg #[.int .i64 0, .int .i64 0]]) ∧ Below w.heap.size w w' := by
  have hbt : ((⟨#[46, 52, 46, 52, 66, 54, 46, 46]⟩ : ByteArray)[1]'(by decide)).toNat = 52 := rfl
  go_enter Tryd.func31, Tryd.ntmps31
  go_wp2_with (first | (go_at_call 46; refine (r_sent_3 _).mono ?_; rintro e w3 ⟨rfl, hb3⟩; obtain ⟨hk0, hk1, hs3⟩ := two_blocks hb3; have e0 : w3.cell? ⟨w.heap.size, 0, none⟩ = some (.bool false) := blk_cell hk0 0; have e1 : w3.cell? ⟨w.heap.size, 1, none⟩ = some (.int .i64 2) := blk_cell hk0 1; have q0 : w3.cell? ⟨w.heap.size + 1, 0, none⟩ = some (.int .i64 0) := blk_cell hk1 0; have q1 : w3.cell? ⟨w.heap.size + 1, 1, none⟩ = some (.int .i64 0) := blk_cell hk1 1; have p0 : w3.frozen? ⟨w.heap.size + 1, 0, none⟩ = false := blk_frozen hk1 0; have p1 : w3.frozen? ⟨w.heap.size + 1, 1, none⟩ = false := blk_frozen hk1 1; have HB3 := Aside0.mk (below_step (below_alloc (below_alloc (Below.refl w.heap.size w) _) _) hb3); clear hk0 hk1; have HS := Aside0.mk hb3; clear hb3))
  all_goals (try (go_region; go_wp2))
  refine bodyPost_ret (v := .tuple #[.int .i64 4, .agg #[.int .i64 0, .int .i64 0]]) (by simp [results, Tryd.results31, go_sem, q0, q1, p0, p1]) rfl ⟨rfl, ?_⟩
  repeat (first | exact HB3.out | apply below_alloc | apply below_drew | apply pw_below_drewN | refine below_set ?_ (by omega))
set_option maxHeartbeats 4000000 in
theorem r_next_sent_2_4 (w : World) : Calls Tryd.prog 31 #[.int .i64 4, .agg #[.bool false, .int .i64 2]] w fun e w' => e = .returned (.tuple #[.int .i64 4, .agg #[.int .i64 4, .int .i64 0]]) ∧ Below w.heap.size w w' := by
  have hbt : ((⟨#[66, 66, 66, 66, 66, 54, 46, 46]⟩ : ByteArray)[1]'(by decide)).toNat = 66 := rfl
  go_enter Tryd.func31, Tryd.ntmps31
  go_wp2_with (first | (go_at_call 46; refine (r_sent_4 _).mono ?_; rintro e w3 ⟨rfl, hb3⟩; obtain ⟨hk0, hk1, hs3⟩ := two_blocks hb3; have e0 : w3.cell? ⟨w.heap.size, 0, none⟩ = some (.bool false) := blk_cell hk0 0; have e1 : w3.cell? ⟨w.heap.size, 1, none⟩ = some (.int .i64 2) := blk_cell hk0 1; have q0 : w3.cell? ⟨w.heap.size + 1, 0, none⟩ = some (.int .i64 0) := blk_cell hk1 0; have q1 : w3.cell? ⟨w.heap.size + 1, 1, none⟩ = some (.int .i64 0) := blk_cell hk1 1; have p0 : w3.frozen? ⟨w.heap.size + 1, 0, none⟩ = false := blk_frozen hk1 0; have p1 : w3.frozen? ⟨w.heap.size + 1, 1, none⟩ = false := blk_frozen hk1 1; have HB3 := Aside0.mk (below_step (below_alloc (below_alloc (Below.refl w.heap.size w) _) _) hb3); clear hk0 hk1; have HS := Aside0.mk hb3; clear hb3))
  all_goals (try (go_region; go_wp2))
  refine bodyPost_ret (v := .tuple #[.int .i64 4, .agg #[.int .i64 4, .int .i64 0]]) (by simp [results, Tryd.results31, go_sem, q0, q1, p0, p1]) rfl ⟨rfl, ?_⟩
  repeat (first | exact HB3.out | apply below_alloc | apply below_drew | apply pw_below_drewN | refine below_set ?_ (by omega))
set_option maxHeartbeats 4000000 in
theorem r_next_sent_2_5 (w : World) : Calls Tryd.prog 31 #[.int .i64 5, .agg #[.bool false, .int .i64 2]] w fun e w' => e = .returned (.tuple #[.int .i64 6, .agg #[.int .i64 0, .int .i64 0]]) ∧ Below w.heap.size w w' := by
  have hbt : ((⟨#[46, 54, 46, 54, 66, 54, 46, 46]⟩ : ByteArray)[1]'(by decide)).toNat = 54 := rfl
  go_enter Tryd.func31, Tryd.ntmps31
  go_wp2_with (first | (go_at_call 46; refine (r_sent_5 _).mono ?_; rintro e w3 ⟨rfl, hb3⟩; obtain ⟨hk0, hk1, hs3⟩ := two_blocks hb3; have e0 : w3.cell? ⟨w.heap.size, 0, none⟩ = some (.bool false) := blk_cell hk0 0; have e1 : w3.cell? ⟨w.heap.size, 1, none⟩ = some (.int .i64 2) := blk_cell hk0 1; have q0 : w3.cell? ⟨w.heap.size + 1, 0, none⟩ = some (.int .i64 0) := blk_cell hk1 0; have q1 : w3.cell? ⟨w.heap.size + 1, 1, none⟩ = some (.int .i64 0) := blk_cell hk1 1; have p0 : w3.frozen? ⟨w.heap.size + 1, 0, none⟩ = false := blk_frozen hk1 0; have p1 : w3.frozen? ⟨w.heap.size + 1, 1, none⟩ = false := blk_frozen hk1 1; have HB3 := Aside0.mk (below_step (below_alloc (below_alloc (Below.refl w.heap.size w) _) _) hb3); clear hk0 hk1; have HS := Aside0.mk hb3; clear hb3))
  all_goals (try (go_region; go_wp2))
  refine bodyPost_ret (v := .tuple #[.int .i64 6, .agg #[.int .i64 0, .int .i64 0]]) (by simp [results, Tryd.results31, go_sem, q0, q1, p0, p1]) rfl ⟨rfl, ?_⟩
  repeat (first | exact HB3.out | apply below_alloc | apply below_drew | apply pw_below_drewN | refine below_set ?_ (by omega))
set_option maxHeartbeats 4000000 in
theorem r_next_sent_2_6 (w : World) : Calls Tryd.prog 31 #[.int .i64 6, .agg #[.bool false, .int .i64 2]] w fun e w' => e = .returned (.tuple #[.int .i64 6, .agg #[.int .i64 4, .int .i64 0]]) ∧ Below w.heap.size w w' := by
  have hbt : ((⟨#[66, 66, 66, 66, 66, 66, 66, 46]⟩ : ByteArray)[1]'(by decide)).toNat = 66 := rfl
  go_enter Tryd.func31, Tryd.ntmps31
  go_wp2_with (first | (go_at_call 46; refine (r_sent_6 _).mono ?_; rintro e w3 ⟨rfl, hb3⟩; obtain ⟨hk0, hk1, hs3⟩ := two_blocks hb3; have e0 : w3.cell? ⟨w.heap.size, 0, none⟩ = some (.bool false) := blk_cell hk0 0; have e1 : w3.cell? ⟨w.heap.size, 1, none⟩ = some (.int .i64 2) := blk_cell hk0 1; have q0 : w3.cell? ⟨w.heap.size + 1, 0, none⟩ = some (.int .i64 0) := blk_cell hk1 0; have q1 : w3.cell? ⟨w.heap.size + 1, 1, none⟩ = some (.int .i64 0) := blk_cell hk1 1; have p0 : w3.frozen? ⟨w.heap.size + 1, 0, none⟩ = false := blk_frozen hk1 0; have p1 : w3.frozen? ⟨w.heap.size + 1, 1, none⟩ = false := blk_frozen hk1 1; have HB3 := Aside0.mk (below_step (below_alloc (below_alloc (Below.refl w.heap.size w) _) _) hb3); clear hk0 hk1; have HS := Aside0.mk hb3; clear hb3))
  all_goals (try (go_region; go_wp2))
  refine bodyPost_ret (v := .tuple #[.int .i64 6, .agg #[.int .i64 4, .int .i64 0]]) (by simp [results, Tryd.results31, go_sem, q0, q1, p0, p1]) rfl ⟨rfl, ?_⟩
  repeat (first | exact HB3.out | apply below_alloc | apply below_drew | apply pw_below_drewN | refine below_set ?_ (by omega))
set_option maxHeartbeats 4000000 in
theorem r_next_sent_3_0 (w : World) : Calls Tryd.prog 31 #[.int .i64 0, .agg #[.bool false, .int .i64 3]] w fun e w' => e = .returned (.tuple #[.int .i64 0, .agg #[.int .i64 4, .int .i64 0]]) ∧ Below w.heap.size w w' := by
  have hbt : ((⟨#[51, 52, 66, 66, 49, 66, 66, 46]⟩ : ByteArray)[2]'(by decide)).toNat = 66 := rfl
  go_enter Tryd.func31, Tryd.ntmps31
  go_wp2_with (first | (go_at_call 46; refine (r_sent_0 _).mono ?_; rintro e w3 ⟨rfl, hb3⟩; obtain ⟨hk0, hk1, hs3⟩ := two_blocks hb3; have e0 : w3.cell? ⟨w.heap.size, 0, none⟩ = some (.bool false) := blk_cell hk0 0; have e1 : w3.cell? ⟨w.heap.size, 1, none⟩ = some (.int .i64 3) := blk_cell hk0 1; have q0 : w3.cell? ⟨w.heap.size + 1, 0, none⟩ = some (.int .i64 0) := blk_cell hk1 0; have q1 : w3.cell? ⟨w.heap.size + 1, 1, none⟩ = some (.int .i64 0) := blk_cell hk1 1; have p0 : w3.frozen? ⟨w.heap.size + 1, 0, none⟩ = false := blk_frozen hk1 0; have p1 : w3.frozen? ⟨w.heap.size + 1, 1, none⟩ = false := blk_frozen hk1 1; have HB3 := Aside0.mk (below_step (below_alloc (below_alloc (Below.refl w.heap.size w) _) _) hb3); clear hk0 hk1; have HS := Aside0.mk hb3; clear hb3))
  all_goals (try (go_region; go_wp2))
  refine bodyPost_ret (v := .tuple #[.int .i64 0, .agg #[.int .i64 4, .int .i64 0]]) (by simp [results, Tryd.results31, go_sem, q0, q1, p0, p1]) rfl ⟨rfl, ?_⟩
  repeat (first | exact HB3.out | apply below_alloc | apply below_drew | apply pw_below_drewN | refine below_set ?_ (by omega))
set_option maxHeartbeats 4000000 in
theorem r_next_sent_3_1 (w : World) : Calls Tryd.prog 31 #[.int .i64 1, .agg #[.bool false, .int .i64 3]] w fun e w' => e = .returned (.tuple #[.int .i64 1, .agg #[.int .i64 4, .int .i64 0]]) ∧ Below w.heap.size w w' := by
  have hbt : ((⟨#[53, 54, 66, 66, 66, 54, 66, 46]⟩ : ByteArray)[2]'(by decide)).toNat = 66 := rfl
  go_enter Tryd.func31, Tryd.ntmps31
  go_wp2_with (first | (go_at_call 46; refine (r_sent_1 _).mono ?_; rintro e w3 ⟨rfl, hb3⟩; obtain ⟨hk0, hk1, hs3⟩ := two_blocks hb3; have e0 : w3.cell? ⟨w.heap.size, 0, none⟩ = some (.bool false) := blk_cell hk0 0; have e1 : w3.cell? ⟨w.heap.size, 1, none⟩ = some (.int .i64 3) := blk_cell hk0 1; have q0 : w3.cell? ⟨w.heap.size + 1, 0, none⟩ = some (.int .i64 0) := blk_cell hk1 0; have q1 : w3.cell? ⟨w.heap.size + 1, 1, none⟩ = some (.int .i64 0) := blk_cell hk1 1; have p0 : w3.frozen? ⟨w.heap.size + 1, 0, none⟩ = false := blk_frozen hk1 0; have p1 : w3.frozen? ⟨w.heap.size + 1, 1, none⟩ = false := blk_frozen hk1 1; have HB3 := Aside0.mk (below_step (below_alloc (below_alloc (Below.refl w.heap.size w) _) _) hb3); clear hk0 hk1; have HS := Aside0.mk hb3; clear hb3))
  all_goals (try (go_region; go_wp2))
  refine bodyPost_ret (v := .tuple #[.int .i64 1, .agg #[.int .i64 4, .int .i64 0]]) (by simp [results, Tryd.results31, go_sem, q0, q1, p0, p1]) rfl ⟨rfl, ?_⟩
  repeat (first | exact HB3.out | apply below_alloc | apply below_drew | apply pw_below_drewN | refine below_set ?_ (by omega))
set_option maxHeartbeats 4000000 in
theorem r_next_sent_3_2 (w : World) : Calls Tryd.prog 31 #[.int .i64 2, .agg #[.bool false, .int .i64 3]] w fun e w' => e = .returned (.tuple #[.int .i64 2, .agg #[.int .i64 4, .int .i64 0]]) ∧ Below w.heap.size w w' := by
  have hbt : ((⟨#[66, 66, 66, 66, 66, 54, 46, 46]⟩ : ByteArray)[2]'(by decide)).toNat = 66 := rfl
  go_enter Tryd.func31, Tryd.ntmps31
  go_wp2_with (first | (go_at_call 46; refine (r_sent_2 _).mono ?_; rintro e w3 ⟨rfl, hb3⟩; obtain ⟨hk0, hk1, hs3⟩ := two_blocks hb3; have e0 : w3.cell? ⟨w.heap.size, 0, none⟩ = some (.bool false) := blk_cell hk0 0; have e1 : w3.cell? ⟨w.heap.size, 1, none⟩ = some (.int .i64 3) := blk_cell hk0 1; have q0 : w3.cell? ⟨w.heap.size + 1, 0, none⟩ = some (.int .i64 0) := blk_cell hk1 0; have q1 : w3.cell? ⟨w.heap.size + 1, 1, none⟩ = some (.int .i64 0) := blk_cell hk1 1; have p0 : w3.frozen? ⟨w.heap.size + 1, 0, none⟩ = false := blk_frozen hk1 0; have p1 : w3.frozen? ⟨w.heap.size + 1, 1, none⟩ = false := blk_frozen hk1 1; have HB3 := Aside0.mk (below_step (below_alloc (below_alloc (Below.refl w.heap.size w) _) _) hb3); clear hk0 hk1; have HS := Aside0.mk hb3; clear hb3))
  all_goals (try (go_region; go_wp2))
  refine bodyPost_ret (v := .tuple #[.int .i64 2, .agg #[.int .i64 4, .int .i64 0]]) (by simp [results, Tryd.results31, go_sem, q0, q1, p0, p1]) rfl ⟨rfl, ?_⟩
  repeat (first | exact HB3.out | apply below_alloc | apply below_drew | apply pw_below_drewN | refine below_set ?_ (by omega))
set_option maxHeartbeats 4000000 in
theorem r_next_sent_3_3 (w : World) : Calls Tryd.prog 31 #[.int .i64 3, .agg #[.bool false, .int .i64 3]] w fun e w' => e = .returned (.tuple #[.int .i64 3, .agg #[.int .i64 0, .int .i64 0]]) ∧ Below w.heap.size w w' := by
  have hbt : ((⟨#[46, 52, 46, 52, 66, 54, 46, 46]⟩ : ByteArray)[2]'(by decide)).toNat = 46 := rfl
  go_enter Tryd.func31, Tryd.ntmps31
  go_wp2_with (first | (go_at_call 46; refine (r_sent_3 _).mono ?_; rintro e w3 ⟨rfl, hb3⟩; obtain ⟨hk0, hk1, hs3⟩ := two_blocks hb3; have e0 : w3.cell? ⟨w.heap.size, 0, none⟩ = some (.bool false) := blk_cell hk0 0; have e1 : w3.cell? ⟨w.heap.size, 1, none⟩ = some (.int .i64 3) := blk_cell hk0 1; have q0 : w3.cell? ⟨w.heap.size + 1, 0, none⟩ = some (.int .i64 0) := blk_cell hk1 0; have q1 : w3.cell? ⟨w.heap.size + 1, 1, none⟩ = some (.int .i64 0) := blk_cell hk1 1; have p0 : w3.frozen? ⟨w.heap.size + 1, 0, none⟩ = false := blk_frozen hk1 0; have p1 : w3.frozen? ⟨w.heap.size + 1, 1, none⟩ = false := blk_frozen hk1 1; have HB3 := Aside0.mk (below_step (below_alloc (below_alloc (Below.refl w.heap.size w) _) _) hb3); clear hk0 hk1; have HS := Aside0.mk hb3; clear hb3))
  all_goals (try (go_region; go_wp2))
  refine bodyPost_ret (v := .tuple #[.int .i64 3, .agg #[.int .i64 0, .int .i64 0]]) (by simp [results, Tryd.results31, go_sem, q0, q1, p0, p1]) rfl ⟨rfl, ?_⟩
  repeat (first | exact HB3.out | apply below_alloc | apply below_drew | apply pw_below_drewN | refine below_set ?_ (by omega))
set_option maxHeartbeats 4000000 in
theorem r_next_sent_3_4 (w : World) : Calls Tryd.prog 31 #[.int .i64 4, .agg #[.bool false, .int .i64 3]] w fun e w' => e = .returned (.tuple #[.int .i64 4, .agg #[.int .i64 4, .int .i64 0]]) ∧ Below w.heap.size w w' := by
  have hbt : ((⟨#[66, 66, 66, 66, 66, 54, 46, 46]⟩ : ByteArray)[2]'(by decide)).toNat = 66 := rfl
  go_enter Tryd.func31, Tryd.ntmps31
  go_wp2_with (first | (go_at_call 46; refine (r_sent_4 _).mono ?_; rintro e w3 ⟨rfl, hb3⟩; obtain ⟨hk0, hk1, hs3⟩ := two_blocks hb3; have e0 : w3.cell? ⟨w.heap.size, 0, none⟩ = some (.bool false) := blk_cell hk0 0; have e1 : w3.cell? ⟨w.heap.size, 1, none⟩ = some (.int .i64 3) := blk_cell hk0 1; have q0 : w3.cell? ⟨w.heap.size + 1, 0, none⟩ = some (.int .i64 0) := blk_cell hk1 0; have q1 : w3.cell? ⟨w.heap.size + 1, 1, none⟩ = some (.int .i64 0) := blk_cell hk1 1; have p0 : w3.frozen? ⟨w.heap.size + 1, 0, none⟩ = false := blk_frozen hk1 0; have p1 : w3.frozen? ⟨w.heap.size + 1, 1, none⟩ = false := blk_frozen hk1 1; have HB3 := Aside0.mk (below_step (below_alloc (below_alloc (Below.refl w.heap.size w) _) _) hb3); clear hk0 hk1; have HS := Aside0.mk hb3; clear hb3))
  all_goals (try (go_region; go_wp2))
  refine bodyPost_ret (v := .tuple #[.int .i64 4, .agg #[.int .i64 4, .int .i64 0]]) (by simp [results, Tryd.results31, go_sem, q0, q1, p0, p1]) rfl ⟨rfl, ?_⟩
  repeat (first | exact HB3.out | apply below_alloc | apply below_drew | apply pw_below_drewN | refine below_set ?_ (by omega))
set_option maxHeartbeats 4000000 in
theorem r_next_sent_3_5 (w : World) : Calls Tryd.prog 31 #[.int .i64 5, .agg #[.bool false, .int .i64 3]] w fun e w' => e = .returned (.tuple #[.int .i64 5, .agg #[.int .i64 0, .int .i64 0]]) ∧ Below w.heap.size w w' := by
  have hbt : ((⟨#[46, 54, 46, 54, 66, 54, 46, 46]⟩ : ByteArray)[2]'(by decide)).toNat = 46 := rfl
  go_enter Tryd.func31, Tryd.ntmps31
  go_wp2_with (first | (go_at_call 46; refine (r_sent_5 _).mono ?_; rintro e w3 ⟨rfl, hb3⟩; obtain ⟨hk0, hk1, hs3⟩ := two_blocks hb3; have e0 : w3.cell? ⟨w.heap.size, 0, none⟩ = some (.bool false) := blk_cell hk0 0; have e1 : w3.cell? ⟨w.heap.size, 1, none⟩ = some (.int .i64 3) := blk_cell hk0 1; have q0 : w3.cell? ⟨w.heap.size + 1, 0, none⟩ = some (.int .i64 0) := blk_cell hk1 0; have q1 : w3.cell? ⟨w.heap.size + 1, 1, none⟩ = some (.int .i64 0) := blk_cell hk1 1; have p0 : w3.frozen? ⟨w.heap.size + 1, 0, none⟩ = false := blk_frozen hk1 0; have p1 : w3.frozen? ⟨w.heap.size + 1, 1, none⟩ = false := blk_frozen hk1 1; have HB3 := Aside0.mk (below_step (below_alloc (below_alloc (Below.refl w.heap.size w) _) _) hb3); clear hk0 hk1; have HS := Aside0.mk hb3; clear hb3))
  all_goals (try (go_region; go_wp2))
  refine bodyPost_ret (v := .tuple #[.int .i64 5, .agg #[.int .i64 0, .int .i64 0]]) (by simp [results, Tryd.results31, go_sem, q0, q1, p0, p1]) rfl ⟨rfl, ?_⟩
  repeat (first | exact HB3.out | apply below_alloc | apply below_drew | apply pw_below_drewN | refine below_set ?_ (by omega))
set_option maxHeartbeats 4000000 in
theorem r_next_sent_3_6 (w : World) : Calls Tryd.prog 31 #[.int .i64 6, .agg #[.bool false, .int .i64 3]] w fun e w' => e = .returned (.tuple #[.int .i64 6, .agg #[.int .i64 4, .int .i64 0]]) ∧ Below w.heap.size w w' := by
  have hbt : ((⟨#[66, 66, 66, 66, 66, 66, 66, 46]⟩ : ByteArray)[2]'(by decide)).toNat = 66 := rfl
  go_enter Tryd.func31, Tryd.ntmps31
  go_wp2_with (first | (go_at_call 46; refine (r_sent_6 _).mono ?_; rintro e w3 ⟨rfl, hb3⟩; obtain ⟨hk0, hk1, hs3⟩ := two_blocks hb3; have e0 : w3.cell? ⟨w.heap.size, 0, none⟩ = some (.bool false) := blk_cell hk0 0; have e1 : w3.cell? ⟨w.heap.size, 1, none⟩ = some (.int .i64 3) := blk_cell hk0 1; have q0 : w3.cell? ⟨w.heap.size + 1, 0, none⟩ = some (.int .i64 0) := blk_cell hk1 0; have q1 : w3.cell? ⟨w.heap.size + 1, 1, none⟩ = some (.int .i64 0) := blk_cell hk1 1; have p0 : w3.frozen? ⟨w.heap.size + 1, 0, none⟩ = false := blk_frozen hk1 0; have p1 : w3.frozen? ⟨w.heap.size + 1, 1, none⟩ = false := blk_frozen hk1 1; have HB3 := Aside0.mk (below_step (below_alloc (below_alloc (Below.refl w.heap.size w) _) _) hb3); clear hk0 hk1; have HS := Aside0.mk hb3; clear hb3))
  all_goals (try (go_region; go_wp2))
  refine bodyPost_ret (v := .tuple #[.int .i64 6, .agg #[.int .i64 4, .int .i64 0]]) (by simp [results, Tryd.results31, go_sem, q0, q1, p0, p1]) rfl ⟨rfl, ?_⟩
  repeat (first | exact HB3.out | apply below_alloc | apply below_drew | apply pw_below_drewN | refine below_set ?_ (by omega))
set_option maxHeartbeats 4000000 in
theorem r_next_sent_4_0 (w : World) : Calls Tryd.prog 31 #[.int .i64 0, .agg #[.bool false, .int .i64 4]] w fun e w' => e = .returned (.tuple #[.int .i64 0, .agg #[.int .i64 4, .int .i64 0]]) ∧ Below w.heap.size w w' := by
  have hbt : ((⟨#[51, 52, 66, 66, 49, 66, 66, 46]⟩ : ByteArray)[3]'(by decide)).toNat = 66 := rfl
  go_enter Tryd.func31, Tryd.ntmps31
  go_wp2_with (first | (go_at_call 46; refine (r_sent_0 _).mono ?_; rintro e w3 ⟨rfl, hb3⟩; obtain ⟨hk0, hk1, hs3⟩ := two_blocks hb3; have e0 : w3.cell? ⟨w.heap.size, 0, none⟩ = some (.bool false) := blk_cell hk0 0; have e1 : w3.cell? ⟨w.heap.size, 1, none⟩ = some (.int .i64 4) := blk_cell hk0 1; have q0 : w3.cell? ⟨w.heap.size + 1, 0, none⟩ = some (.int .i64 0) := blk_cell hk1 0; have q1 : w3.cell? ⟨w.heap.size + 1, 1, none⟩ = some (.int .i64 0) := blk_cell hk1 1; have p0 : w3.frozen? ⟨w.heap.size + 1, 0, none⟩ = false := blk_frozen hk1 0; have p1 : w3.frozen? ⟨w.heap.size + 1, 1, none⟩ = false := blk_frozen hk1 1; have HB3 := Aside0.mk (below_step (below_alloc (below_alloc (Below.refl w.heap.size w) _) _) hb3); clear hk0 hk1; have HS := Aside0.mk hb3; clear hb3))
  all_goals (try (go_region; go_wp2))
  refine bodyPost_ret (v := .tuple #[.int .i64 0, .agg #[.int .i64 4, .int .i64 0]]) (by simp [results, Tryd.results31, go_sem, q0, q1, p0, p1]) rfl ⟨rfl, ?_⟩
  repeat (first | exact HB3.out | apply below_alloc | apply below_drew | apply pw_below_drewN | refine below_set ?_ (by omega))
set_option maxHeartbeats 4000000 in
theorem r_next_sent_4_1 (w : World) : Calls Tryd.prog 31 #[.int .i64 1, .agg #[.bool false, .int .i64 4]] w fun e w' => e = .returned (.tuple #[.int .i64 1, .agg #[.int .i64 4, .int .i64 0]]) ∧ Below w.heap.size w w' := by
  have hbt : ((⟨#[53, 54, 66, 66, 66, 54, 66, 46]⟩ : ByteArray)[3]'(by decide)).toNat = 66 := rfl
  go_enter Tryd.func31, Tryd.ntmps31
  go_wp2_with (first | (go_at_call 46; refine (r_sent_1 _).mono ?_; rintro e w3 ⟨rfl, hb3⟩; obtain ⟨hk0, hk1, hs3⟩ := two_blocks hb3; have e0 : w3.cell? ⟨w.heap.size, 0, none⟩ = some (.bool false) := blk_cell hk0 0; have e1 : w3.cell? ⟨w.heap.size, 1, none⟩ = some (.int .i64 4) := blk_cell hk0 1; have q0 : w3.cell? ⟨w.heap.size + 1, 0, none⟩ = some (.int .i64 0) := blk_cell hk1 0; have q1 : w3.cell? ⟨w.heap.size + 1, 1, none⟩ = some (.int .i64 0) := blk_cell hk1 1; have p0 : w3.frozen? ⟨w.heap.size + 1, 0, none⟩ = false := blk_frozen hk1 0; have p1 : w3.frozen? ⟨w.heap.size + 1, 1, none⟩ = false := blk_frozen hk1 1; have HB3 := Aside0.mk (below_step (below_alloc (below_alloc (Below.refl w.heap.size w) _) _) hb3); clear hk0 hk1; have HS := Aside0.mk hb3; clear hb3))
  all_goals (try (go_region; go_wp2))
  refine bodyPost_ret (v := .tuple #[.int .i64 1, .agg #[.int .i64 4, .int .i64 0]]) (by simp [results, Tryd.results31, go_sem, q0, q1, p0, p1]) rfl ⟨rfl, ?_⟩
  repeat (first | exact HB3.out | apply below_alloc | apply below_drew | apply pw_below_drewN | refine below_set ?_ (by omega))
set_option maxHeartbeats 4000000 in
theorem r_next_sent_4_2 (w : World) : Calls Tryd.prog 31 #[.int .i64 2, .agg #[.bool false, .int .i64 4]] w fun e w' => e = .returned (.tuple #[.int .i64 2, .agg #[.int .i64 4, .int .i64 0]]) ∧ Below w.heap.size w w' := by
  have hbt : ((⟨#[66, 66, 66, 66, 66, 54, 46, 46]⟩ : ByteArray)[3]'(by decide)).toNat = 66 := rfl
  go_enter Tryd.func31, Tryd.ntmps31
  go_wp2_with (first | (go_at_call 46; refine (r_sent_2 _).mono ?_; rintro e w3 ⟨rfl, hb3⟩; obtain ⟨hk0, hk1, hs3⟩ := two_blocks hb3; have e0 : w3.cell? ⟨w.heap.size, 0, none⟩ = some (.bool false) := blk_cell hk0 0; have e1 : w3.cell? ⟨w.heap.size, 1, none⟩ = some (.int .i64 4) := blk_cell hk0 1; have q0 : w3.cell? ⟨w.heap.size + 1, 0, none⟩ = some (.int .i64 0) := blk_cell hk1 0; have q1 : w3.cell? ⟨w.heap.size + 1, 1, none⟩ = some (.int .i64 0) := blk_cell hk1 1; have p0 : w3.frozen? ⟨w.heap.size + 1, 0, none⟩ = false := blk_frozen hk1 0; have p1 : w3.frozen? ⟨w.heap.size + 1, 1, none⟩ = false := blk_frozen hk1 1; have HB3 := Aside0.mk (below_step (below_alloc (below_alloc (Below.refl w.heap.size w) _) _) hb3); clear hk0 hk1; have HS := Aside0.mk hb3; clear hb3))
  all_goals (try (go_region; go_wp2))
  refine bodyPost_ret (v := .tuple #[.int .i64 2, .agg #[.int .i64 4, .int .i64 0]]) (by simp [results, Tryd.results31, go_sem, q0, q1, p0, p1]) rfl ⟨rfl, ?_⟩
  repeat (first | exact HB3.out | apply below_alloc | apply below_drew | apply pw_below_drewN | refine below_set ?_ (by omega))
set_option maxHeartbeats 4000000 in
theorem r_next_sent_4_3 (w : World) : Calls Tryd.prog 31 #[.int .i64 3, .agg #[.bool false, .int .i64 4]] w fun e w' => e = .returned (.tuple #[.int .i64 4, .agg #[.int .i64 0, .int .i64 0]]) ∧ Below w.heap.size w w' := by
  have hbt : ((⟨#[46, 52, 46, 52, 66, 54, 46, 46]⟩ : ByteArray)[3]'(by decide)).toNat = 52 := rfl
  go_enter Tryd.func31, Tryd.ntmps31
  go_wp2_with (first | (go_at_call 46; refine (r_sent_3 _).mono ?_; rintro e w3 ⟨rfl, hb3⟩; obtain ⟨hk0, hk1, hs3⟩ := two_blocks hb3; have e0 : w3.cell? ⟨w.heap.size, 0, none⟩ = some (.bool false) := blk_cell hk0 0; have e1 : w3.cell? ⟨w.heap.size, 1, none⟩ = some (.int .i64 4) := blk_cell hk0 1; have q0 : w3.cell? ⟨w.heap.size + 1, 0, none⟩ = some (.int .i64 0) := blk_cell hk1 0; have q1 : w3.cell? ⟨w.heap.size + 1, 1, none⟩ = some (.int .i64 0) := blk_cell hk1 1; have p0 : w3.frozen? ⟨w.heap.size + 1, 0, none⟩ = false := blk_frozen hk1 0; have p1 : w3.frozen? ⟨w.heap.size + 1, 1, none⟩ = false := blk_frozen hk1 1; have HB3 := Aside0.mk (below_step (below_alloc (below_alloc (Below.refl w.heap.size w) _) _) hb3); clear hk0 hk1; have HS := Aside0.mk hb3; clear hb3))
  all_goals (try (go_region; go_wp2))
  refine bodyPost_ret (v := .tuple #[.int .i64 4, .agg #[.int .i64 0, .int .i64 0]]) (by simp [results, Tryd.results31, go_sem, q0, q1, p0, p1]) rfl ⟨rfl, ?_⟩
  repeat (first | exact HB3.out | apply below_alloc | apply below_drew | apply pw_below_drewN | refine below_set ?_ (by omega))
set_option maxHeartbeats 4000000 in
theorem r_next_sent_4_4 (w : World) : Calls Tryd.prog 31 #[.int .i64 4, .agg #[.bool false, .int .i64 4]] w fun e w' => e = .returned (.tuple #[.int .i64 4, .agg #[.int .i64 4, .int .i64 0]]) ∧ Below w.heap.size w w' := by
  have hbt : ((⟨#[66, 66, 66, 66, 66, 54, 46, 46]⟩ : ByteArray)[3]'(by decide)).toNat = 66 := rfl
  go_enter Tryd.func31, Tryd.ntmps31
  go_wp2_with (first | (go_at_call 46; refine (r_sent_4 _).mono ?_; rintro e w3 ⟨rfl, hb3⟩; obtain ⟨hk0, hk1, hs3⟩ := two_blocks hb3; have e0 : w3.cell? ⟨w.heap.size, 0, none⟩ = some (.bool false) := blk_cell hk0 0; have e1 : w3.cell? ⟨w.heap.size, 1, none⟩ = some (.int .i64 4) := blk_cell hk0 1; have q0 : w3.cell? ⟨w.heap.size + 1, 0, none⟩ = some (.int .i64 0) := blk_cell hk1 0; have q1 : w3.cell? ⟨w.heap.size + 1, 1, none⟩ = some (.int .i64 0) := blk_cell hk1 1; have p0 : w3.frozen? ⟨w.heap.size + 1, 0, none⟩ = false := blk_frozen hk1 0; have p1 : w3.frozen? ⟨w.heap.size + 1, 1, none⟩ = false := blk_frozen hk1 1; have HB3 := Aside0.mk (below_step (below_alloc (below_alloc (Below.refl w.heap.size w) _) _) hb3); clear hk0 hk1; have HS := Aside0.mk hb3; clear hb3))
  all_goals (try (go_region; go_wp2))
  refine bodyPost_ret (v := .tuple #[.int .i64 4, .agg #[.int .i64 4, .int .i64 0]]) (by simp [results, Tryd.results31, go_sem, q0, q1, p0, p1]) rfl ⟨rfl, ?_⟩
  repeat (first | exact HB3.out | apply below_alloc | apply below_drew | apply pw_below_drewN | refine below_set ?_ (by omega))
set_option maxHeartbeats 4000000 in
theorem r_next_sent_4_5 (w : World) : Calls Tryd.prog 31 #[.int .i64 5, .agg #[.bool false, .int .i64 4]] w fun e w' => e = .returned (.tuple #[.int .i64 6, .agg #[.int .i64 0, .int .i64 0]]) ∧ Below w.heap.size w w' := by
  have hbt : ((⟨#[46, 54, 46, 54, 66, 54, 46, 46]⟩ : ByteArray)[3]'(by decide)).toNat = 54 := rfl
  go_enter Tryd.func31, Tryd.ntmps31
  go_wp2_with (first | (go_at_call 46; refine (r_sent_5 _).mono ?_; rintro e w3 ⟨rfl, hb3⟩; obtain ⟨hk0, hk1, hs3⟩ := two_blocks hb3; have e0 : w3.cell? ⟨w.heap.size, 0, none⟩ = some (.bool false) := blk_cell hk0 0; have e1 : w3.cell? ⟨w.heap.size, 1, none⟩ = some (.int .i64 4) := blk_cell hk0 1; have q0 : w3.cell? ⟨w.heap.size + 1, 0, none⟩ = some (.int .i64 0) := blk_cell hk1 0; have q1 : w3.cell? ⟨w.heap.size + 1, 1, none⟩ = some (.int .i64 0) := blk_cell hk1 1; have p0 : w3.frozen? ⟨w.heap.size + 1, 0, none⟩ = false := blk_frozen hk1 0; have p1 : w3.frozen? ⟨w.heap.size + 1, 1, none⟩ = false := blk_frozen hk1 1; have HB3 := Aside0.mk (below_step (below_alloc (below_alloc (Below.refl w.heap.size w) _) _) hb3); clear hk0 hk1; have HS := Aside0.mk hb3; clear hb3))
  all_goals (try (go_region; go_wp2))
  refine bodyPost_ret (v := .tuple #[.int .i64 6, .agg #[.int .i64 0, .int .i64 0]]) (by simp [results, Tryd.results31, go_sem, q0, q1, p0, p1]) rfl ⟨rfl, ?_⟩
  repeat (first | exact HB3.out | apply below_alloc | apply below_drew | apply pw_below_drewN | refine below_set ?_ (by omega))
set_option maxHeartbeats 4000000 in
theorem r_next_sent_4_6 (w : World) : Calls Tryd.prog 31 #[.int .i64 6, .agg #[.bool false, .int .i64 4]] w fun e w' => e = .returned (.tuple #[.int .i64 6, .agg #[.int .i64 4, .int .i64 0]]) ∧ Below w.heap.size w w' := by
  have hbt : ((⟨#[66, 66, 66, 66, 66, 66, 66, 46]⟩ : ByteArray)[3]'(by decide)).toNat = 66 := rfl
  go_enter Tryd.func31, Tryd.ntmps31
  go_wp2_with (first | (go_at_call 46; refine (r_sent_6 _).mono ?_; rintro e w3 ⟨rfl, hb3⟩; obtain ⟨hk0, hk1, hs3⟩ := two_blocks hb3; have e0 : w3.cell? ⟨w.heap.size, 0, none⟩ = some (.bool false) := blk_cell hk0 0; have e1 : w3.cell? ⟨w.heap.size, 1, none⟩ = some (.int .i64 4) := blk_cell hk0 1; have q0 : w3.cell? ⟨w.heap.size + 1, 0, none⟩ = some (.int .i64 0) := blk_cell hk1 0; have q1 : w3.cell? ⟨w.heap.size + 1, 1, none⟩ = some (.int .i64 0) := blk_cell hk1 1; have p0 : w3.frozen? ⟨w.heap.size + 1, 0, none⟩ = false := blk_frozen hk1 0; have p1 : w3.frozen? ⟨w.heap.size + 1, 1, none⟩ = false := blk_frozen hk1 1; have HB3 := Aside0.mk (below_step (below_alloc (below_alloc (Below.refl w.heap.size w) _) _) hb3); clear hk0 hk1; have HS := Aside0.mk hb3; clear hb3))
  all_goals (try (go_region; go_wp2))
  refine bodyPost_ret (v := .tuple #[.int .i64 6, .agg #[.int .i64 4, .int .i64 0]]) (by simp [results, Tryd.results31, go_sem, q0, q1, p0, p1]) rfl ⟨rfl, ?_⟩
  repeat (first | exact HB3.out | apply below_alloc | apply below_drew | apply pw_below_drewN | refine below_set ?_ (by omega))
end Go.Proofs.YtagkncjdohljgaaDoor.QL
