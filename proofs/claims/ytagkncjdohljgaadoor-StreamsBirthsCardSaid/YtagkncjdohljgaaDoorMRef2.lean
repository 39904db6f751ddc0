/- The document's cells of the table, one by one: what is sent. No condition. -/
import Derived.Test.YtagkncjdohljgaaDoorMRefA
import Derived.RegionTactic
import Derived.ChangeAlike
import Derived.WalkLawsBesides
import Derived.WalkSpells
namespace Go.Proofs.YtagkncjdohljgaaDoor.QL
open Go Go.RowKit Go.Proofs.YtagkncjdohljgaaDoorW.PrintWords Go.Proofs.YtagkncjdohljgaaDoorW.PrintLast
set_option linter.unusedSimpArgs false
set_option linter.unusedVariables false
set_option maxHeartbeats 4000000 in
theorem r_next_sent_5_0 (w : World) : Calls Tryd.prog 31 #[.int .i64 0, .agg #[.bool false, .int .i64 5]] w fun e w' => e = .returned (.tuple #[.int .i64 1, .agg #[.int .i64 0, .int .i64 0]]) ∧ Below w.heap.size w w' := by
  have hbt : ((⟨#[51, 52, 66, 66, 49, 66, 66, 46]⟩ : ByteArray)[4]'(by decide)).toNat = 49 := rfl
  go_enter Tryd.func31, Tryd.ntmps31
  go_wp2_with (first | (go_at_call 46; refine (r_sent_0 _).mono ?_; rintro e w3 ⟨rfl, hb3⟩; obtain ⟨hk0, hk1, hs3⟩ := two_blocks hb3; have e0 : w3.cell? ⟨w.heap.size, 0, none⟩ = some (.bool false) := blk_cell hk0 0; have e1 : w3.cell? ⟨w.heap.size, 1, none⟩ = some (.int .i64 5) := blk_cell hk0 1; have q0 : w3.cell? ⟨w.heap.size + 1, 0, none⟩ = some (.int .i64 0) := blk_cell hk1 0; have q1 : w3.cell? ⟨w.heap.size + 1, 1, none⟩ = some (.int .i64 0) := blk_cell hk1 1; have p0 : w3.frozen? ⟨w.heap.size + 1, 0, none⟩ = false := blk_frozen hk1 0; have p1 : w3.frozen? ⟨w.heap.size + 1, 1, none⟩ = false := blk_frozen hk1 1; have HB3 := Aside0.mk (below_step (below_alloc (below_alloc (Below.refl w.heap.size w) _) _) hb3); clear hk0 hk1; have HS := Aside0.mk hb3; clear hb3))
  all_goals (try (go_region; go_wp2))
  refine bodyPost_ret (v := .tuple #[.int .i64 1, .agg #[.int .i64 0, .int .i64 0]]) (by simp [results, Tryd.results31, go_sem, q0, q1, p0, p1]) rfl ⟨rfl, ?_⟩
  repeat (first | exact HB3.out | apply below_alloc | apply below_drew | apply pw_below_drewN | refine below_set ?_ (by omega))
set_option maxHeartbeats 4000000 in
theorem r_next_sent_5_1 (w : World) : Calls Tryd.prog 31 #[.int .i64 1, .agg #[.bool false, .int .i64 5]] w fun e w' => e = .returned (.tuple #[.int .i64 1, .agg #[.int .i64 4, .int .i64 0]]) ∧ Below w.heap.size w w' := by
  have hbt : ((⟨#[53, 54, 66, 66, 66, 54, 66, 46]⟩ : ByteArray)[4]'(by decide)).toNat = 66 := rfl
  go_enter Tryd.func31, Tryd.ntmps31
  go_wp2_with (first | (go_at_call 46; refine (r_sent_1 _).mono ?_; rintro e w3 ⟨rfl, hb3⟩; obtain ⟨hk0, hk1, hs3⟩ := two_blocks hb3; have e0 : w3.cell? ⟨w.heap.size, 0, none⟩ = some (.bool false) := blk_cell hk0 0; have e1 : w3.cell? ⟨w.heap.size, 1, none⟩ = some (.int .i64 5) := blk_cell hk0 1; have q0 : w3.cell? ⟨w.heap.size + 1, 0, none⟩ = some (.int .i64 0) := blk_cell hk1 0; have q1 : w3.cell? ⟨w.heap.size + 1, 1, none⟩ = some (.int .i64 0) := blk_cell hk1 1; have p0 : w3.frozen? ⟨w.heap.size + 1, 0, none⟩ = false := blk_frozen hk1 0; have p1 : w3.frozen? ⟨w.heap.size + 1, 1, none⟩ = false := blk_frozen hk1 1; have HB3 := Aside0.mk (below_step (below_alloc (below_alloc (Below.refl w.heap.size w) _) _) hb3); clear hk0 hk1; have HS := Aside0.mk hb3; clear hb3))
  all_goals (try (go_region; go_wp2))
  refine bodyPost_ret (v := .tuple #[.int .i64 1, .agg #[.int .i64 4, .int .i64 0]]) (by simp [results, Tryd.results31, go_sem, q0, q1, p0, p1]) rfl ⟨rfl, ?_⟩
  repeat (first | exact HB3.out | apply below_alloc | apply below_drew | apply pw_below_drewN | refine below_set ?_ (by omega))
set_option maxHeartbeats 4000000 in
theorem r_next_sent_5_2 (w : World) : Calls Tryd.prog 31 #[.int .i64 2, .agg #[.bool false, .int .i64 5]] w fun e w' => e = .returned (.tuple #[.int .i64 2, .agg #[.int .i64 4, .int .i64 0]]) ∧ Below w.heap.size w w' := by
  have hbt : ((⟨#[66, 66, 66, 66, 66, 54, 46, 46]⟩ : ByteArray)[4]'(by decide)).toNat = 66 := rfl
  go_enter Tryd.func31, Tryd.ntmps31
  go_wp2_with (first | (go_at_call 46; refine (r_sent_2 _).mono ?_; rintro e w3 ⟨rfl, hb3⟩; obtain ⟨hk0, hk1, hs3⟩ := two_blocks hb3; have e0 : w3.cell? ⟨w.heap.size, 0, none⟩ = some (.bool false) := blk_cell hk0 0; have e1 : w3.cell? ⟨w.heap.size, 1, none⟩ = some (.int .i64 5) := blk_cell hk0 1; have q0 : w3.cell? ⟨w.heap.size + 1, 0, none⟩ = some (.int .i64 0) := blk_cell hk1 0; have q1 : w3.cell? ⟨w.heap.size + 1, 1, none⟩ = some (.int .i64 0) := blk_cell hk1 1; have p0 : w3.frozen? ⟨w.heap.size + 1, 0, none⟩ = false := blk_frozen hk1 0; have p1 : w3.frozen? ⟨w.heap.size + 1, 1, none⟩ = false := blk_frozen hk1 1; have HB3 := Aside0.mk (below_step (below_alloc (below_alloc (Below.refl w.heap.size w) _) _) hb3); clear hk0 hk1; have HS := Aside0.mk hb3; clear hb3))
  all_goals (try (go_region; go_wp2))
  refine bodyPost_ret (v := .tuple #[.int .i64 2, .agg #[.int .i64 4, .int .i64 0]]) (by simp [results, Tryd.results31, go_sem, q0, q1, p0, p1]) rfl ⟨rfl, ?_⟩
  repeat (first | exact HB3.out | apply below_alloc | apply below_drew | apply pw_below_drewN | refine below_set ?_ (by omega))
set_option maxHeartbeats 4000000 in
theorem r_next_sent_5_3 (w : World) : Calls Tryd.prog 31 #[.int .i64 3, .agg #[.bool false, .int .i64 5]] w fun e w' => e = .returned (.tuple #[.int .i64 3, .agg #[.int .i64 4, .int .i64 0]]) ∧ Below w.heap.size w w' := by
  have hbt : ((⟨#[46, 52, 46, 52, 66, 54, 46, 46]⟩ : ByteArray)[4]'(by decide)).toNat = 66 := rfl
  go_enter Tryd.func31, Tryd.ntmps31
  go_wp2_with (first | (go_at_call 46; refine (r_sent_3 _).mono ?_; rintro e w3 ⟨rfl, hb3⟩; obtain ⟨hk0, hk1, hs3⟩ := two_blocks hb3; have e0 : w3.cell? ⟨w.heap.size, 0, none⟩ = some (.bool false) := blk_cell hk0 0; have e1 : w3.cell? ⟨w.heap.size, 1, none⟩ = some (.int .i64 5) := blk_cell hk0 1; have q0 : w3.cell? ⟨w.heap.size + 1, 0, none⟩ = some (.int .i64 0) := blk_cell hk1 0; have q1 : w3.cell? ⟨w.heap.size + 1, 1, none⟩ = some (.int .i64 0) := blk_cell hk1 1; have p0 : w3.frozen? ⟨w.heap.size + 1, 0, none⟩ = false := blk_frozen hk1 0; have p1 : w3.frozen? ⟨w.heap.size + 1, 1, none⟩ = false := blk_frozen hk1 1; have HB3 := Aside0.mk (below_step (below_alloc (below_alloc (Below.refl w.heap.size w) _) _) hb3); clear hk0 hk1; have HS := Aside0.mk hb3; clear hb3))
  all_goals (try (go_region; go_wp2))
  refine bodyPost_ret (v := .tuple #[.int .i64 3, .agg #[.int .i64 4, .int .i64 0]]) (by simp [results, Tryd.results31, go_sem, q0, q1, p0, p1]) rfl ⟨rfl, ?_⟩
  repeat (first | exact HB3.out | apply below_alloc | apply below_drew | apply pw_below_drewN | refine below_set ?_ (by omega))
set_option maxHeartbeats 4000000 in
theorem r_next_sent_5_4 (w : World) : Calls Tryd.prog 31 #[.int .i64 4, .agg #[.bool false, .int .i64 5]] w fun e w' => e = .returned (.tuple #[.int .i64 4, .agg #[.int .i64 4, .int .i64 0]]) ∧ Below w.heap.size w w' := by
  have hbt : ((⟨#[66, 66, 66, 66, 66, 54, 46, 46]⟩ : ByteArray)[4]'(by decide)).toNat = 66 := rfl
  go_enter Tryd.func31, Tryd.ntmps31
  go_wp2_with (first | (go_at_call 46; refine (r_sent_4 _).mono ?_; rintro e w3 ⟨rfl, hb3⟩; obtain ⟨hk0, hk1, hs3⟩ := two_blocks hb3; have e0 : w3.cell? ⟨w.heap.size, 0, none⟩ = some (.bool false) := blk_cell hk0 0; have e1 : w3.cell? ⟨w.heap.size, 1, none⟩ = some (.int .i64 5) := blk_cell hk0 1; have q0 : w3.cell? ⟨w.heap.size + 1, 0, none⟩ = some (.int .i64 0) := blk_cell hk1 0; have q1 : w3.cell? ⟨w.heap.size + 1, 1, none⟩ = some (.int .i64 0) := blk_cell hk1 1; have p0 : w3.frozen? ⟨w.heap.size + 1, 0, none⟩ = false := blk_frozen hk1 0; have p1 : w3.frozen? ⟨w.heap.size + 1, 1, none⟩ = false := blk_frozen hk1 1; have HB3 := Aside0.mk (below_step (below_alloc (below_alloc (Below.refl w.heap.size w) _) _) hb3); clear hk0 hk1; have HS := Aside0.mk hb3; clear hb3))
  all_goals (try (go_region; go_wp2))
  refine bodyPost_ret (v := .tuple #[.int .i64 4, .agg #[.int .i64 4, .int .i64 0]]) (by simp [results, Tryd.results31, go_sem, q0, q1, p0, p1]) rfl ⟨rfl, ?_⟩
  repeat (first | exact HB3.out | apply below_alloc | apply below_drew | apply pw_below_drewN | refine below_set ?_ (by omega))
set_option maxHeartbeats 4000000 in
theorem r_next_sent_5_5 (w : World) : Calls Tryd.prog 31 #[.int .i64 5, .agg #[.bool false, .int .i64 5]] w fun e w' => e = .returned (.tuple #[.int .i64 5, .agg #[.int .i64 4, .int .i64 0]]) ∧ Below w.heap.size w w' := by
  have hbt : ((⟨#[46, 54, 46, 54, 66, 54, 46, 46]⟩ : ByteArray)[4]'(by decide)).toNat = 66 := rfl
  go_enter Tryd.func31, Tryd.ntmps31
  go_wp2_with (first | (go_at_call 46; refine (r_sent_5 _).mono ?_; rintro e w3 ⟨rfl, hb3⟩; obtain ⟨hk0, hk1, hs3⟩ := two_blocks hb3; have e0 : w3.cell? ⟨w.heap.size, 0, none⟩ = some (.bool false) := blk_cell hk0 0; have e1 : w3.cell? ⟨w.heap.size, 1, none⟩ = some (.int .i64 5) := blk_cell hk0 1; have q0 : w3.cell? ⟨w.heap.size + 1, 0, none⟩ = some (.int .i64 0) := blk_cell hk1 0; have q1 : w3.cell? ⟨w.heap.size + 1, 1, none⟩ = some (.int .i64 0) := blk_cell hk1 1; have p0 : w3.frozen? ⟨w.heap.size + 1, 0, none⟩ = false := blk_frozen hk1 0; have p1 : w3.frozen? ⟨w.heap.size + 1, 1, none⟩ = false := blk_frozen hk1 1; have HB3 := Aside0.mk (below_step (below_alloc (below_alloc (Below.refl w.heap.size w) _) _) hb3); clear hk0 hk1; have HS := Aside0.mk hb3; clear hb3))
  all_goals (try (go_region; go_wp2))
  refine bodyPost_ret (v := .tuple #[.int .i64 5, .agg #[.int .i64 4, .int .i64 0]]) (by simp [results, Tryd.results31, go_sem, q0, q1, p0, p1]) rfl ⟨rfl, ?_⟩
  repeat (first | exact HB3.out | apply below_alloc | apply below_drew | apply pw_below_drewN | refine below_set ?_ (by omega))
set_option maxHeartbeats 4000000 in
theorem r_next_sent_5_6 (w : World) : Calls Tryd.prog 31 #[.int .i64 6, .agg #[.bool false, .int .i64 5]] w fun e w' => e = .returned (.tuple #[.int .i64 6, .agg #[.int .i64 4, .int .i64 0]]) ∧ Below w.heap.size w w' := by
  have hbt : ((⟨#[66, 66, 66, 66, 66, 66, 66, 46]⟩ : ByteArray)[4]'(by decide)).toNat = 66 := rfl
  go_enter Tryd.func31, Tryd.ntmps31
  go_wp2_with (first | (go_at_call 46; refine (r_sent_6 _).mono ?_; rintro e w3 ⟨rfl, hb3⟩; obtain ⟨hk0, hk1, hs3⟩ := two_blocks hb3; have e0 : w3.cell? ⟨w.heap.size, 0, none⟩ = some (.bool false) := blk_cell hk0 0; have e1 : w3.cell? ⟨w.heap.size, 1, none⟩ = some (.int .i64 5) := blk_cell hk0 1; have q0 : w3.cell? ⟨w.heap.size + 1, 0, none⟩ = some (.int .i64 0) := blk_cell hk1 0; have q1 : w3.cell? ⟨w.heap.size + 1, 1, none⟩ = some (.int .i64 0) := blk_cell hk1 1; have p0 : w3.frozen? ⟨w.heap.size + 1, 0, none⟩ = false := blk_frozen hk1 0; have p1 : w3.frozen? ⟨w.heap.size + 1, 1, none⟩ = false := blk_frozen hk1 1; have HB3 := Aside0.mk (below_step (below_alloc (below_alloc (Below.refl w.heap.size w) _) _) hb3); clear hk0 hk1; have HS := Aside0.mk hb3; clear hb3))
  all_goals (try (go_region; go_wp2))
  refine bodyPost_ret (v := .tuple #[.int .i64 6, .agg #[.int .i64 4, .int .i64 0]]) (by simp [results, Tryd.results31, go_sem, q0, q1, p0, p1]) rfl ⟨rfl, ?_⟩
  repeat (first | exact HB3.out | apply below_alloc | apply below_drew | apply pw_below_drewN | refine below_set ?_ (by omega))
set_option maxHeartbeats 4000000 in
theorem r_next_sent_6_0 (w : World) : Calls Tryd.prog 31 #[.int .i64 0, .agg #[.bool false, .int .i64 6]] w fun e w' => e = .returned (.tuple #[.int .i64 0, .agg #[.int .i64 4, .int .i64 0]]) ∧ Below w.heap.size w w' := by
  have hbt : ((⟨#[51, 52, 66, 66, 49, 66, 66, 46]⟩ : ByteArray)[5]'(by decide)).toNat = 66 := rfl
  go_enter Tryd.func31, Tryd.ntmps31
  go_wp2_with (first | (go_at_call 46; refine (r_sent_0 _).mono ?_; rintro e w3 ⟨rfl, hb3⟩; obtain ⟨hk0, hk1, hs3⟩ := two_blocks hb3; have e0 : w3.cell? ⟨w.heap.size, 0, none⟩ = some (.bool false) := blk_cell hk0 0; have e1 : w3.cell? ⟨w.heap.size, 1, none⟩ = some (.int .i64 6) := blk_cell hk0 1; have q0 : w3.cell? ⟨w.heap.size + 1, 0, none⟩ = some (.int .i64 0) := blk_cell hk1 0; have q1 : w3.cell? ⟨w.heap.size + 1, 1, none⟩ = some (.int .i64 0) := blk_cell hk1 1; have p0 : w3.frozen? ⟨w.heap.size + 1, 0, none⟩ = false := blk_frozen hk1 0; have p1 : w3.frozen? ⟨w.heap.size + 1, 1, none⟩ = false := blk_frozen hk1 1; have HB3 := Aside0.mk (below_step (below_alloc (below_alloc (Below.refl w.heap.size w) _) _) hb3); clear hk0 hk1; have HS := Aside0.mk hb3; clear hb3))
  all_goals (try (go_region; go_wp2))
  refine bodyPost_ret (v := .tuple #[.int .i64 0, .agg #[.int .i64 4, .int .i64 0]]) (by simp [results, Tryd.results31, go_sem, q0, q1, p0, p1]) rfl ⟨rfl, ?_⟩
  repeat (first | exact HB3.out | apply below_alloc | apply below_drew | apply pw_below_drewN | refine below_set ?_ (by omega))
set_option maxHeartbeats 4000000 in
theorem r_next_sent_6_1 (w : World) : Calls Tryd.prog 31 #[.int .i64 1, .agg #[.bool false, .int .i64 6]] w fun e w' => e = .returned (.tuple #[.int .i64 6, .agg #[.int .i64 0, .int .i64 0]]) ∧ Below w.heap.size w w' := by
  have hbt : ((⟨#[53, 54, 66, 66, 66, 54, 66, 46]⟩ : ByteArray)[5]'(by decide)).toNat = 54 := rfl
  go_enter Tryd.func31, Tryd.ntmps31
  go_wp2_with (first | (go_at_call 46; refine (r_sent_1 _).mono ?_; rintro e w3 ⟨rfl, hb3⟩; obtain ⟨hk0, hk1, hs3⟩ := two_blocks hb3; have e0 : w3.cell? ⟨w.heap.size, 0, none⟩ = some (.bool false) := blk_cell hk0 0; have e1 : w3.cell? ⟨w.heap.size, 1, none⟩ = some (.int .i64 6) := blk_cell hk0 1; have q0 : w3.cell? ⟨w.heap.size + 1, 0, none⟩ = some (.int .i64 0) := blk_cell hk1 0; have q1 : w3.cell? ⟨w.heap.size + 1, 1, none⟩ = some (.int .i64 0) := blk_cell hk1 1; have p0 : w3.frozen? ⟨w.heap.size + 1, 0, none⟩ = false := blk_frozen hk1 0; have p1 : w3.frozen? ⟨w.heap.size + 1, 1, none⟩ = false := blk_frozen hk1 1; have HB3 := Aside0.mk (below_step (below_alloc (below_alloc (Below.refl w.heap.size w) _) _) hb3); clear hk0 hk1; have HS := Aside0.mk hb3; clear hb3))
  all_goals (try (go_region; go_wp2))
  refine bodyPost_ret (v := .tuple #[.int .i64 6, .agg #[.int .i64 0, .int .i64 0]]) (by simp [results, Tryd.results31, go_sem, q0, q1, p0, p1]) rfl ⟨rfl, ?_⟩
  repeat (first | exact HB3.out | apply below_alloc | apply below_drew | apply pw_below_drewN | refine below_set ?_ (by omega))
set_option maxHeartbeats 4000000 in
theorem r_next_sent_6_2 (w : World) : Calls Tryd.prog 31 #[.int .i64 2, .agg #[.bool false, .int .i64 6]] w fun e w' => e = .returned (.tuple #[.int .i64 6, .agg #[.int .i64 0, .int .i64 0]]) ∧ Below w.heap.size w w' := by
  have hbt : ((⟨#[66, 66, 66, 66, 66, 54, 46, 46]⟩ : ByteArray)[5]'(by decide)).toNat = 54 := rfl
  go_enter Tryd.func31, Tryd.ntmps31
  go_wp2_with (first | (go_at_call 46; refine (r_sent_2 _).mono ?_; rintro e w3 ⟨rfl, hb3⟩; obtain ⟨hk0, hk1, hs3⟩ := two_blocks hb3; have e0 : w3.cell? ⟨w.heap.size, 0, none⟩ = some (.bool false) := blk_cell hk0 0; have e1 : w3.cell? ⟨w.heap.size, 1, none⟩ = some (.int .i64 6) := blk_cell hk0 1; have q0 : w3.cell? ⟨w.heap.size + 1, 0, none⟩ = some (.int .i64 0) := blk_cell hk1 0; have q1 : w3.cell? ⟨w.heap.size + 1, 1, none⟩ = some (.int .i64 0) := blk_cell hk1 1; have p0 : w3.frozen? ⟨w.heap.size + 1, 0, none⟩ = false := blk_frozen hk1 0; have p1 : w3.frozen? ⟨w.heap.size + 1, 1, none⟩ = false := blk_frozen hk1 1; have HB3 := Aside0.mk (below_step (below_alloc (below_alloc (Below.refl w.heap.size w) _) _) hb3); clear hk0 hk1; have HS := Aside0.mk hb3; clear hb3))
  all_goals (try (go_region; go_wp2))
  refine bodyPost_ret (v := .tuple #[.int .i64 6, .agg #[.int .i64 0, .int .i64 0]]) (by simp [results, Tryd.results31, go_sem, q0, q1, p0, p1]) rfl ⟨rfl, ?_⟩
  repeat (first | exact HB3.out | apply below_alloc | apply below_drew | apply pw_below_drewN | refine below_set ?_ (by omega))
set_option maxHeartbeats 4000000 in
theorem r_next_sent_6_3 (w : World) : Calls Tryd.prog 31 #[.int .i64 3, .agg #[.bool false, .int .i64 6]] w fun e w' => e = .returned (.tuple #[.int .i64 6, .agg #[.int .i64 0, .int .i64 0]]) ∧ Below w.heap.size w w' := by
  have hbt : ((⟨#[46, 52, 46, 52, 66, 54, 46, 46]⟩ : ByteArray)[5]'(by decide)).toNat = 54 := rfl
  go_enter Tryd.func31, Tryd.ntmps31
  go_wp2_with (first | (go_at_call 46; refine (r_sent_3 _).mono ?_; rintro e w3 ⟨rfl, hb3⟩; obtain ⟨hk0, hk1, hs3⟩ := two_blocks hb3; have e0 : w3.cell? ⟨w.heap.size, 0, none⟩ = some (.bool false) := blk_cell hk0 0; have e1 : w3.cell? ⟨w.heap.size, 1, none⟩ = some (.int .i64 6) := blk_cell hk0 1; have q0 : w3.cell? ⟨w.heap.size + 1, 0, none⟩ = some (.int .i64 0) := blk_cell hk1 0; have q1 : w3.cell? ⟨w.heap.size + 1, 1, none⟩ = some (.int .i64 0) := blk_cell hk1 1; have p0 : w3.frozen? ⟨w.heap.size + 1, 0, none⟩ = false := blk_frozen hk1 0; have p1 : w3.frozen? ⟨w.heap.size + 1, 1, none⟩ = false := blk_frozen hk1 1; have HB3 := Aside0.mk (below_step (below_alloc (below_alloc (Below.refl w.heap.size w) _) _) hb3); clear hk0 hk1; have HS := Aside0.mk hb3; clear hb3))
  all_goals (try (go_region; go_wp2))
  refine bodyPost_ret (v := .tuple #[.int .i64 6, .agg #[.int .i64 0, .int .i64 0]]) (by simp [results, Tryd.results31, go_sem, q0, q1, p0, p1]) rfl ⟨rfl, ?_⟩
  repeat (first | exact HB3.out | apply below_alloc | apply below_drew | apply pw_below_drewN | refine below_set ?_ (by omega))
set_option maxHeartbeats 4000000 in
theorem r_next_sent_6_4 (w : World) : Calls Tryd.prog 31 #[.int .i64 4, .agg #[.bool false, .int .i64 6]] w fun e w' => e = .returned (.tuple #[.int .i64 6, .agg #[.int .i64 0, .int .i64 0]]) ∧ Below w.heap.size w w' := by
  have hbt : ((⟨#[66, 66, 66, 66, 66, 54, 46, 46]⟩ : ByteArray)[5]'(by decide)).toNat = 54 := rfl
  go_enter Tryd.func31, Tryd.ntmps31
  go_wp2_with (first | (go_at_call 46; refine (r_sent_4 _).mono ?_; rintro e w3 ⟨rfl, hb3⟩; obtain ⟨hk0, hk1, hs3⟩ := two_blocks hb3; have e0 : w3.cell? ⟨w.heap.size, 0, none⟩ = some (.bool false) := blk_cell hk0 0; have e1 : w3.cell? ⟨w.heap.size, 1, none⟩ = some (.int .i64 6) := blk_cell hk0 1; have q0 : w3.cell? ⟨w.heap.size + 1, 0, none⟩ = some (.int .i64 0) := blk_cell hk1 0; have q1 : w3.cell? ⟨w.heap.size + 1, 1, none⟩ = some (.int .i64 0) := blk_cell hk1 1; have p0 : w3.frozen? ⟨w.heap.size + 1, 0, none⟩ = false := blk_frozen hk1 0; have p1 : w3.frozen? ⟨w.heap.size + 1, 1, none⟩ = false := blk_frozen hk1 1; have HB3 := Aside0.mk (below_step (below_alloc (below_alloc (Below.refl w.heap.size w) _) _) hb3); clear hk0 hk1; have HS := Aside0.mk hb3; clear hb3))
  all_goals (try (go_region; go_wp2))
  refine bodyPost_ret (v := .tuple #[.int .i64 6, .agg #[.int .i64 0, .int .i64 0]]) (by simp [results, Tryd.results31, go_sem, q0, q1, p0, p1]) rfl ⟨rfl, ?_⟩
  repeat (first | exact HB3.out | apply below_alloc | apply below_drew | apply pw_below_drewN | refine below_set ?_ (by omega))
set_option maxHeartbeats 4000000 in
theorem r_next_sent_6_5 (w : World) : Calls Tryd.prog 31 #[.int .i64 5, .agg #[.bool false, .int .i64 6]] w fun e w' => e = .returned (.tuple #[.int .i64 6, .agg #[.int .i64 0, .int .i64 0]]) ∧ Below w.heap.size w w' := by
  have hbt : ((⟨#[46, 54, 46, 54, 66, 54, 46, 46]⟩ : ByteArray)[5]'(by decide)).toNat = 54 := rfl
  go_enter Tryd.func31, Tryd.ntmps31
  go_wp2_with (first | (go_at_call 46; refine (r_sent_5 _).mono ?_; rintro e w3 ⟨rfl, hb3⟩; obtain ⟨hk0, hk1, hs3⟩ := two_blocks hb3; have e0 : w3.cell? ⟨w.heap.size, 0, none⟩ = some (.bool false) := blk_cell hk0 0; have e1 : w3.cell? ⟨w.heap.size, 1, none⟩ = some (.int .i64 6) := blk_cell hk0 1; have q0 : w3.cell? ⟨w.heap.size + 1, 0, none⟩ = some (.int .i64 0) := blk_cell hk1 0; have q1 : w3.cell? ⟨w.heap.size + 1, 1, none⟩ = some (.int .i64 0) := blk_cell hk1 1; have p0 : w3.frozen? ⟨w.heap.size + 1, 0, none⟩ = false := blk_frozen hk1 0; have p1 : w3.frozen? ⟨w.heap.size + 1, 1, none⟩ = false := blk_frozen hk1 1; have HB3 := Aside0.mk (below_step (below_alloc (below_alloc (Below.refl w.heap.size w) _) _) hb3); clear hk0 hk1; have HS := Aside0.mk hb3; clear hb3))
  all_goals (try (go_region; go_wp2))
  refine bodyPost_ret (v := .tuple #[.int .i64 6, .agg #[.int .i64 0, .int .i64 0]]) (by simp [results, Tryd.results31, go_sem, q0, q1, p0, p1]) rfl ⟨rfl, ?_⟩
  repeat (first | exact HB3.out | apply below_alloc | apply below_drew | apply pw_below_drewN | refine below_set ?_ (by omega))
set_option maxHeartbeats 4000000 in
theorem r_next_sent_6_6 (w : World) : Calls Tryd.prog 31 #[.int .i64 6, .agg #[.bool false, .int .i64 6]] w fun e w' => e = .returned (.tuple #[.int .i64 6, .agg #[.int .i64 4, .int .i64 0]]) ∧ Below w.heap.size w w' := by
  have hbt : ((⟨#[66, 66, 66, 66, 66, 66, 66, 46]⟩ : ByteArray)[5]'(by decide)).toNat = 66 := rfl
  go_enter Tryd.func31, Tryd.ntmps31
  go_wp2_with (first | (go_at_call 46; refine (r_sent_6 _).mono ?_; rintro e w3 ⟨rfl, hb3⟩; obtain ⟨hk0, hk1, hs3⟩ := two_blocks hb3; have e0 : w3.cell? ⟨w.heap.size, 0, none⟩ = some (.bool false) := blk_cell hk0 0; have e1 : w3.cell? ⟨w.heap.size, 1, none⟩ = some (.int .i64 6) := blk_cell hk0 1; have q0 : w3.cell? ⟨w.heap.size + 1, 0, none⟩ = some (.int .i64 0) := blk_cell hk1 0; have q1 : w3.cell? ⟨w.heap.size + 1, 1, none⟩ = some (.int .i64 0) := blk_cell hk1 1; have p0 : w3.frozen? ⟨w.heap.size + 1, 0, none⟩ = false := blk_frozen hk1 0; have p1 : w3.frozen? ⟨w.heap.size + 1, 1, none⟩ = false := blk_frozen hk1 1; have HB3 := Aside0.mk (below_step (below_alloc (below_alloc (Below.refl w.heap.size w) _) _) hb3); clear hk0 hk1; have HS := Aside0.mk hb3; clear hb3))
  all_goals (try (go_region; go_wp2))
  refine bodyPost_ret (v := .tuple #[.int .i64 6, .agg #[.int .i64 4, .int .i64 0]]) (by simp [results, Tryd.results31, go_sem, q0, q1, p0, p1]) rfl ⟨rfl, ?_⟩
  repeat (first | exact HB3.out | apply below_alloc | apply below_drew | apply pw_below_drewN | refine below_set ?_ (by omega))
set_option maxHeartbeats 4000000 in
theorem r_next_sent_7_0 (w : World) : Calls Tryd.prog 31 #[.int .i64 0, .agg #[.bool false, .int .i64 7]] w fun e w' => e = .returned (.tuple #[.int .i64 0, .agg #[.int .i64 4, .int .i64 0]]) ∧ Below w.heap.size w w' := by
  have hbt : ((⟨#[51, 52, 66, 66, 49, 66, 66, 46]⟩ : ByteArray)[6]'(by decide)).toNat = 66 := rfl
  go_enter Tryd.func31, Tryd.ntmps31
  go_wp2_with (first | (go_at_call 46; refine (r_sent_0 _).mono ?_; rintro e w3 ⟨rfl, hb3⟩; obtain ⟨hk0, hk1, hs3⟩ := two_blocks hb3; have e0 : w3.cell? ⟨w.heap.size, 0, none⟩ = some (.bool false) := blk_cell hk0 0; have e1 : w3.cell? ⟨w.heap.size, 1, none⟩ = some (.int .i64 7) := blk_cell hk0 1; have q0 : w3.cell? ⟨w.heap.size + 1, 0, none⟩ = some (.int .i64 0) := blk_cell hk1 0; have q1 : w3.cell? ⟨w.heap.size + 1, 1, none⟩ = some (.int .i64 0) := blk_cell hk1 1; have p0 : w3.frozen? ⟨w.heap.size + 1, 0, none⟩ = false := blk_frozen hk1 0; have p1 : w3.frozen? ⟨w.heap.size + 1, 1, none⟩ = false := blk_frozen hk1 1; have HB3 := Aside0.mk (below_step (below_alloc (below_alloc (Below.refl w.heap.size w) _) _) hb3); clear hk0 hk1; have HS := Aside0.mk hb3; clear hb3))
  all_goals (try (go_region; go_wp2))
  refine bodyPost_ret (v := .tuple #[.int .i64 0, .agg #[.int .i64 4, .int .i64 0]]) (by simp [results, Tryd.results31, go_sem, q0, q1, p0, p1]) rfl ⟨rfl, ?_⟩
  repeat (first | exact HB3.out | apply below_alloc | apply below_drew | apply pw_below_drewN | refine below_set ?_ (by omega))
set_option maxHeartbeats 4000000 in
theorem r_next_sent_7_1 (w : World) : Calls Tryd.prog 31 #[.int .i64 1, .agg #[.bool false, .int .i64 7]] w fun e w' => e = .returned (.tuple #[.int .i64 1, .agg #[.int .i64 4, .int .i64 0]]) ∧ Below w.heap.size w w' := by
  have hbt : ((⟨#[53, 54, 66, 66, 66, 54, 66, 46]⟩ : ByteArray)[6]'(by decide)).toNat = 66 := rfl
  go_enter Tryd.func31, Tryd.ntmps31
  go_wp2_with (first | (go_at_call 46; refine (r_sent_1 _).mono ?_; rintro e w3 ⟨rfl, hb3⟩; obtain ⟨hk0, hk1, hs3⟩ := two_blocks hb3; have e0 : w3.cell? ⟨w.heap.size, 0, none⟩ = some (.bool false) := blk_cell hk0 0; have e1 : w3.cell? ⟨w.heap.size, 1, none⟩ = some (.int .i64 7) := blk_cell hk0 1; have q0 : w3.cell? ⟨w.heap.size + 1, 0, none⟩ = some (.int .i64 0) := blk_cell hk1 0; have q1 : w3.cell? ⟨w.heap.size + 1, 1, none⟩ = some (.int .i64 0) := blk_cell hk1 1; have p0 : w3.frozen? ⟨w.heap.size + 1, 0, none⟩ = false := blk_frozen hk1 0; have p1 : w3.frozen? ⟨w.heap.size + 1, 1, none⟩ = false := blk_frozen hk1 1; have HB3 := Aside0.mk (below_step (below_alloc (below_alloc (Below.refl w.heap.size w) _) _) hb3); clear hk0 hk1; have HS := Aside0.mk hb3; clear hb3))
  all_goals (try (go_region; go_wp2))
  refine bodyPost_ret (v := .tuple #[.int .i64 1, .agg #[.int .i64 4, .int .i64 0]]) (by simp [results, Tryd.results31, go_sem, q0, q1, p0, p1]) rfl ⟨rfl, ?_⟩
  repeat (first | exact HB3.out | apply below_alloc | apply below_drew | apply pw_below_drewN | refine below_set ?_ (by omega))
set_option maxHeartbeats 4000000 in
theorem r_next_sent_7_2 (w : World) : Calls Tryd.prog 31 #[.int .i64 2, .agg #[.bool false, .int .i64 7]] w fun e w' => e = .returned (.tuple #[.int .i64 2, .agg #[.int .i64 0, .int .i64 0]]) ∧ Below w.heap.size w w' := by
  have hbt : ((⟨#[66, 66, 66, 66, 66, 54, 46, 46]⟩ : ByteArray)[6]'(by decide)).toNat = 46 := rfl
  go_enter Tryd.func31, Tryd.ntmps31
  go_wp2_with (first | (go_at_call 46; refine (r_sent_2 _).mono ?_; rintro e w3 ⟨rfl, hb3⟩; obtain ⟨hk0, hk1, hs3⟩ := two_blocks hb3; have e0 : w3.cell? ⟨w.heap.size, 0, none⟩ = some (.bool false) := blk_cell hk0 0; have e1 : w3.cell? ⟨w.heap.size, 1, none⟩ = some (.int .i64 7) := blk_cell hk0 1; have q0 : w3.cell? ⟨w.heap.size + 1, 0, none⟩ = some (.int .i64 0) := blk_cell hk1 0; have q1 : w3.cell? ⟨w.heap.size + 1, 1, none⟩ = some (.int .i64 0) := blk_cell hk1 1; have p0 : w3.frozen? ⟨w.heap.size + 1, 0, none⟩ = false := blk_frozen hk1 0; have p1 : w3.frozen? ⟨w.heap.size + 1, 1, none⟩ = false := blk_frozen hk1 1; have HB3 := Aside0.mk (below_step (below_alloc (below_alloc (Below.refl w.heap.size w) _) _) hb3); clear hk0 hk1; have HS := Aside0.mk hb3; clear hb3))
  all_goals (try (go_region; go_wp2))
  refine bodyPost_ret (v := .tuple #[.int .i64 2, .agg #[.int .i64 0, .int .i64 0]]) (by simp [results, Tryd.results31, go_sem, q0, q1, p0, p1]) rfl ⟨rfl, ?_⟩
  repeat (first | exact HB3.out | apply below_alloc | apply below_drew | apply pw_below_drewN | refine below_set ?_ (by omega))
set_option maxHeartbeats 4000000 in
theorem r_next_sent_7_3 (w : World) : Calls Tryd.prog 31 #[.int .i64 3, .agg #[.bool false, .int .i64 7]] w fun e w' => e = .returned (.tuple #[.int .i64 3, .agg #[.int .i64 0, .int .i64 0]]) ∧ Below w.heap.size w w' := by
  have hbt : ((⟨#[46, 52, 46, 52, 66, 54, 46, 46]⟩ : ByteArray)[6]'(by decide)).toNat = 46 := rfl
  go_enter Tryd.func31, Tryd.ntmps31
  go_wp2_with (first | (go_at_call 46; refine (r_sent_3 _).mono ?_; rintro e w3 ⟨rfl, hb3⟩; obtain ⟨hk0, hk1, hs3⟩ := two_blocks hb3; have e0 : w3.cell? ⟨w.heap.size, 0, none⟩ = some (.bool false) := blk_cell hk0 0; have e1 : w3.cell? ⟨w.heap.size, 1, none⟩ = some (.int .i64 7) := blk_cell hk0 1; have q0 : w3.cell? ⟨w.heap.size + 1, 0, none⟩ = some (.int .i64 0) := blk_cell hk1 0; have q1 : w3.cell? ⟨w.heap.size + 1, 1, none⟩ = some (.int .i64 0) := blk_cell hk1 1; have p0 : w3.frozen? ⟨w.heap.size + 1, 0, none⟩ = false := blk_frozen hk1 0; have p1 : w3.frozen? ⟨w.heap.size + 1, 1, none⟩ = false := blk_frozen hk1 1; have HB3 := Aside0.mk (below_step (below_alloc (below_alloc (Below.refl w.heap.size w) _) _) hb3); clear hk0 hk1; have HS := Aside0.mk hb3; clear hb3))
  all_goals (try (go_region; go_wp2))
  refine bodyPost_ret (v := .tuple #[.int .i64 3, .agg #[.int .i64 0, .int .i64 0]]) (by simp [results, Tryd.results31, go_sem, q0, q1, p0, p1]) rfl ⟨rfl, ?_⟩
  repeat (first | exact HB3.out | apply below_alloc | apply below_drew | apply pw_below_drewN | refine below_set ?_ (by omega))
set_option maxHeartbeats 4000000 in
theorem r_next_sent_7_4 (w : World) : Calls Tryd.prog 31 #[.int .i64 4, .agg #[.bool false, .int .i64 7]] w fun e w' => e = .returned (.tuple #[.int .i64 4, .agg #[.int .i64 0, .int .i64 0]]) ∧ Below w.heap.size w w' := by
  have hbt : ((⟨#[66, 66, 66, 66, 66, 54, 46, 46]⟩ : ByteArray)[6]'(by decide)).toNat = 46 := rfl
  go_enter Tryd.func31, Tryd.ntmps31
  go_wp2_with (first | (go_at_call 46; refine (r_sent_4 _).mono ?_; rintro e w3 ⟨rfl, hb3⟩; obtain ⟨hk0, hk1, hs3⟩ := two_blocks hb3; have e0 : w3.cell? ⟨w.heap.size, 0, none⟩ = some (.bool false) := blk_cell hk0 0; have e1 : w3.cell? ⟨w.heap.size, 1, none⟩ = some (.int .i64 7) := blk_cell hk0 1; have q0 : w3.cell? ⟨w.heap.size + 1, 0, none⟩ = some (.int .i64 0) := blk_cell hk1 0; have q1 : w3.cell? ⟨w.heap.size + 1, 1, none⟩ = some (.int .i64 0) := blk_cell hk1 1; have p0 : w3.frozen? ⟨w.heap.size + 1, 0, none⟩ = false := blk_frozen hk1 0; have p1 : w3.frozen? ⟨w.heap.size + 1, 1, none⟩ = false := blk_frozen hk1 1; have HB3 := Aside0.mk (below_step (below_alloc (below_alloc (Below.refl w.heap.size w) _) _) hb3); clear hk0 hk1; have HS := Aside0.mk hb3; clear hb3))
  all_goals (try (go_region; go_wp2))
  refine bodyPost_ret (v := .tuple #[.int .i64 4, .agg #[.int .i64 0, .int .i64 0]]) (by simp [results, Tryd.results31, go_sem, q0, q1, p0, p1]) rfl ⟨rfl, ?_⟩
  repeat (first | exact HB3.out | apply below_alloc | apply below_drew | apply pw_below_drewN | refine below_set ?_ (by omega))
set_option maxHeartbeats 4000000 in
theorem r_next_sent_7_5 (w : World) : Calls Tryd.prog 31 #[.int .i64 5, .agg #[.bool false, .int .i64 7]] w fun e w' => e = .returned (.tuple #[.int .i64 5, .agg #[.int .i64 0, .int .i64 0]]) ∧ Below w.heap.size w w' := by
  have hbt : ((⟨#[46, 54, 46, 54, 66, 54, 46, 46]⟩ : ByteArray)[6]'(by decide)).toNat = 46 := rfl
  go_enter Tryd.func31, Tryd.ntmps31
  go_wp2_with (first | (go_at_call 46; refine (r_sent_5 _).mono ?_; rintro e w3 ⟨rfl, hb3⟩; obtain ⟨hk0, hk1, hs3⟩ := two_blocks hb3; have e0 : w3.cell? ⟨w.heap.size, 0, none⟩ = some (.bool false) := blk_cell hk0 0; have e1 : w3.cell? ⟨w.heap.size, 1, none⟩ = some (.int .i64 7) := blk_cell hk0 1; have q0 : w3.cell? ⟨w.heap.size + 1, 0, none⟩ = some (.int .i64 0) := blk_cell hk1 0; have q1 : w3.cell? ⟨w.heap.size + 1, 1, none⟩ = some (.int .i64 0) := blk_cell hk1 1; have p0 : w3.frozen? ⟨w.heap.size + 1, 0, none⟩ = false := blk_frozen hk1 0; have p1 : w3.frozen? ⟨w.heap.size + 1, 1, none⟩ = false := blk_frozen hk1 1; have HB3 := Aside0.mk (below_step (below_alloc (below_alloc (Below.refl w.heap.size w) _) _) hb3); clear hk0 hk1; have HS := Aside0.mk hb3; clear hb3))
  all_goals (try (go_region; go_wp2))
  refine bodyPost_ret (v := .tuple #[.int .i64 5, .agg #[.int .i64 0, .int .i64 0]]) (by simp [results, Tryd.results31, go_sem, q0, q1, p0, p1]) rfl ⟨rfl, ?_⟩
  repeat (first | exact HB3.out | apply below_alloc | apply below_drew | apply pw_below_drewN | refine below_set ?_ (by omega))
set_option maxHeartbeats 4000000 in
theorem r_next_sent_7_6 (w : World) : Calls Tryd.prog 31 #[.int .i64 6, .agg #[.bool false, .int .i64 7]] w fun e w' => e = .returned (.tuple #[.int .i64 6, .agg #[.int .i64 4, .int .i64 0]]) ∧ Below w.heap.size w w' := by
  have hbt : ((⟨#[66, 66, 66, 66, 66, 66, 66, 46]⟩ : ByteArray)[6]'(by decide)).toNat = 66 := rfl
  go_enter Tryd.func31, Tryd.ntmps31
  go_wp2_with (first | (go_at_call 46; refine (r_sent_6 _).mono ?_; rintro e w3 ⟨rfl, hb3⟩; obtain ⟨hk0, hk1, hs3⟩ := two_blocks hb3; have e0 : w3.cell? ⟨w.heap.size, 0, none⟩ = some (.bool false) := blk_cell hk0 0; have e1 : w3.cell? ⟨w.heap.size, 1, none⟩ = some (.int .i64 7) := blk_cell hk0 1; have q0 : w3.cell? ⟨w.heap.size + 1, 0, none⟩ = some (.int .i64 0) := blk_cell hk1 0; have q1 : w3.cell? ⟨w.heap.size + 1, 1, none⟩ = some (.int .i64 0) := blk_cell hk1 1; have p0 : w3.frozen? ⟨w.heap.size + 1, 0, none⟩ = false := blk_frozen hk1 0; have p1 : w3.frozen? ⟨w.heap.size + 1, 1, none⟩ = false := blk_frozen hk1 1; have HB3 := Aside0.mk (below_step (below_alloc (below_alloc (Below.refl w.heap.size w) _) _) hb3); clear hk0 hk1; have HS := Aside0.mk hb3; clear hb3))
  all_goals (try (go_region; go_wp2))
  refine bodyPost_ret (v := .tuple #[.int .i64 6, .agg #[.int .i64 4, .int .i64 0]]) (by simp [results, Tryd.results31, go_sem, q0, q1, p0, p1]) rfl ⟨rfl, ?_⟩
  repeat (first | exact HB3.out | apply below_alloc | apply below_drew | apply pw_below_drewN | refine below_set ?_ (by omega))
set_option maxHeartbeats 4000000 in
theorem r_next_sent_8_0 (w : World) : Calls Tryd.prog 31 #[.int .i64 0, .agg #[.bool false, .int .i64 8]] w fun e w' => e = .returned (.tuple #[.int .i64 0, .agg #[.int .i64 0, .int .i64 0]]) ∧ Below w.heap.size w w' := by
  have hbt : ((⟨#[51, 52, 66, 66, 49, 66, 66, 46]⟩ : ByteArray)[7]'(by decide)).toNat = 46 := rfl
  go_enter Tryd.func31, Tryd.ntmps31
  go_wp2_with (first | (go_at_call 46; refine (r_sent_0 _).mono ?_; rintro e w3 ⟨rfl, hb3⟩; obtain ⟨hk0, hk1, hs3⟩ := two_blocks hb3; have e0 : w3.cell? ⟨w.heap.size, 0, none⟩ = some (.bool false) := blk_cell hk0 0; have e1 : w3.cell? ⟨w.heap.size, 1, none⟩ = some (.int .i64 8) := blk_cell hk0 1; have q0 : w3.cell? ⟨w.heap.size + 1, 0, none⟩ = some (.int .i64 0) := blk_cell hk1 0; have q1 : w3.cell? ⟨w.heap.size + 1, 1, none⟩ = some (.int .i64 0) := blk_cell hk1 1; have p0 : w3.frozen? ⟨w.heap.size + 1, 0, none⟩ = false := blk_frozen hk1 0; have p1 : w3.frozen? ⟨w.heap.size + 1, 1, none⟩ = false := blk_frozen hk1 1; have HB3 := Aside0.mk (below_step (below_alloc (below_alloc (Below.refl w.heap.size w) _) _) hb3); clear hk0 hk1; have HS := Aside0.mk hb3; clear hb3))
  all_goals (try (go_region; go_wp2))
  refine bodyPost_ret (v := .tuple #[.int .i64 0, .agg #[.int .i64 0, .int .i64 0]]) (by simp [results, Tryd.results31, go_sem, q0, q1, p0, p1]) rfl ⟨rfl, ?_⟩
  repeat (first | exact HB3.out | apply below_alloc | apply below_drew | apply pw_below_drewN | refine below_set ?_ (by omega))
set_option maxHeartbeats 4000000 in
theorem r_next_sent_8_1 (w : World) : Calls Tryd.prog 31 #[.int .i64 1, .agg #[.bool false, .int .i64 8]] w fun e w' => e = .returned (.tuple #[.int .i64 1, .agg #[.int .i64 0, .int .i64 0]]) ∧ Below w.heap.size w w' := by
  have hbt : ((⟨#[53, 54, 66, 66, 66, 54, 66, 46]⟩ : ByteArray)[7]'(by decide)).toNat = 46 := rfl
  go_enter Tryd.func31, Tryd.ntmps31
  go_wp2_with (first | (go_at_call 46; refine (r_sent_1 _).mono ?_; rintro e w3 ⟨rfl, hb3⟩; obtain ⟨hk0, hk1, hs3⟩ := two_blocks hb3; have e0 : w3.cell? ⟨w.heap.size, 0, none⟩ = some (.bool false) := blk_cell hk0 0; have e1 : w3.cell? ⟨w.heap.size, 1, none⟩ = some (.int .i64 8) := blk_cell hk0 1; have q0 : w3.cell? ⟨w.heap.size + 1, 0, none⟩ = some (.int .i64 0) := blk_cell hk1 0; have q1 : w3.cell? ⟨w.heap.size + 1, 1, none⟩ = some (.int .i64 0) := blk_cell hk1 1; have p0 : w3.frozen? ⟨w.heap.size + 1, 0, none⟩ = false := blk_frozen hk1 0; have p1 : w3.frozen? ⟨w.heap.size + 1, 1, none⟩ = false := blk_frozen hk1 1; have HB3 := Aside0.mk (below_step (below_alloc (below_alloc (Below.refl w.heap.size w) _) _) hb3); clear hk0 hk1; have HS := Aside0.mk hb3; clear hb3))
  all_goals (try (go_region; go_wp2))
  refine bodyPost_ret (v := .tuple #[.int .i64 1, .agg #[.int .i64 0, .int .i64 0]]) (by simp [results, Tryd.results31, go_sem, q0, q1, p0, p1]) rfl ⟨rfl, ?_⟩
  repeat (first | exact HB3.out | apply below_alloc | apply below_drew | apply pw_below_drewN | refine below_set ?_ (by omega))
set_option maxHeartbeats 4000000 in
theorem r_next_sent_8_2 (w : World) : Calls Tryd.prog 31 #[.int .i64 2, .agg #[.bool false, .int .i64 8]] w fun e w' => e = .returned (.tuple #[.int .i64 2, .agg #[.int .i64 0, .int .i64 0]]) ∧ Below w.heap.size w w' := by
  have hbt : ((⟨#[66, 66, 66, 66, 66, 54, 46, 46]⟩ : ByteArray)[7]'(by decide)).toNat = 46 := rfl
  go_enter Tryd.func31, Tryd.ntmps31
  go_wp2_with (first | (go_at_call 46; refine (r_sent_2 _).mono ?_; rintro e w3 ⟨rfl, hb3⟩; obtain ⟨hk0, hk1, hs3⟩ := two_blocks hb3; have e0 : w3.cell? ⟨w.heap.size, 0, none⟩ = some (.bool false) := blk_cell hk0 0; have e1 : w3.cell? ⟨w.heap.size, 1, none⟩ = some (.int .i64 8) := blk_cell hk0 1; have q0 : w3.cell? ⟨w.heap.size + 1, 0, none⟩ = some (.int .i64 0) := blk_cell hk1 0; have q1 : w3.cell? ⟨w.heap.size + 1, 1, none⟩ = some (.int .i64 0) := blk_cell hk1 1; have p0 : w3.frozen? ⟨w.heap.size + 1, 0, none⟩ = false := blk_frozen hk1 0; have p1 : w3.frozen? ⟨w.heap.size + 1, 1, none⟩ = false := blk_frozen hk1 1; have HB3 := Aside0.mk (below_step (below_alloc (below_alloc (Below.refl w.heap.size w) _) _) hb3); clear hk0 hk1; have HS := Aside0.mk hb3; clear hb3))
  all_goals (try (go_region; go_wp2))
  refine bodyPost_ret (v := .tuple #[.int .i64 2, .agg #[.int .i64 0, .int .i64 0]]) (by simp [results, Tryd.results31, go_sem, q0, q1, p0, p1]) rfl ⟨rfl, ?_⟩
  repeat (first | exact HB3.out | apply below_alloc | apply below_drew | apply pw_below_drewN | refine below_set ?_ (by omega))
set_option maxHeartbeats 4000000 in
theorem r_next_sent_8_3 (w : World) : Calls Tryd.prog 31 #[.int .i64 3, .agg #[.bool false, .int .i64 8]] w fun e w' => e = .returned (.tuple #[.int .i64 3, .agg #[.int .i64 0, .int .i64 0]]) ∧ Below w.heap.size w w' := by
  have hbt : ((⟨#[46, 52, 46, 52, 66, 54, 46, 46]⟩ : ByteArray)[7]'(by decide)).toNat = 46 := rfl
  go_enter Tryd.func31, Tryd.ntmps31
  go_wp2_with (first | (go_at_call 46; refine (r_sent_3 _).mono ?_; rintro e w3 ⟨rfl, hb3⟩; obtain ⟨hk0, hk1, hs3⟩ := two_blocks hb3; have e0 : w3.cell? ⟨w.heap.size, 0, none⟩ = some (.bool false) := blk_cell hk0 0; have e1 : w3.cell? ⟨w.heap.size, 1, none⟩ = some (.int .i64 8) := blk_cell hk0 1; have q0 : w3.cell? ⟨w.heap.size + 1, 0, none⟩ = some (.int .i64 0) := blk_cell hk1 0; have q1 : w3.cell? ⟨w.heap.size + 1, 1, none⟩ = some (.int .i64 0) := blk_cell hk1 1; have p0 : w3.frozen? ⟨w.heap.size + 1, 0, none⟩ = false := blk_frozen hk1 0; have p1 : w3.frozen? ⟨w.heap.size + 1, 1, none⟩ = false := blk_frozen hk1 1; have HB3 := Aside0.mk (below_step (below_alloc (below_alloc (Below.refl w.heap.size w) _) _) hb3); clear hk0 hk1; have HS := Aside0.mk hb3; clear hb3))
  all_goals (try (go_region; go_wp2))
  refine bodyPost_ret (v := .tuple #[.int .i64 3, .agg #[.int .i64 0, .int .i64 0]]) (by simp [results, Tryd.results31, go_sem, q0, q1, p0, p1]) rfl ⟨rfl, ?_⟩
  repeat (first | exact HB3.out | apply below_alloc | apply below_drew | apply pw_below_drewN | refine below_set ?_ (by omega))
set_option maxHeartbeats 4000000 in
theorem r_next_sent_8_4 (w : World) : Calls Tryd.prog 31 #[.int .i64 4, .agg #[.bool false, .int .i64 8]] w fun e w' => e = .returned (.tuple #[.int .i64 4, .agg #[.int .i64 0, .int .i64 0]]) ∧ Below w.heap.size w w' := by
  have hbt : ((⟨#[66, 66, 66, 66, 66, 54, 46, 46]⟩ : ByteArray)[7]'(by decide)).toNat = 46 := rfl
  go_enter Tryd.func31, Tryd.ntmps31
  go_wp2_with (first | (go_at_call 46; refine (r_sent_4 _).mono ?_; rintro e w3 ⟨rfl, hb3⟩; obtain ⟨hk0, hk1, hs3⟩ := two_blocks hb3; have e0 : w3.cell? ⟨w.heap.size, 0, none⟩ = some (.bool false) := blk_cell hk0 0; have e1 : w3.cell? ⟨w.heap.size, 1, none⟩ = some (.int .i64 8) := blk_cell hk0 1; have q0 : w3.cell? ⟨w.heap.size + 1, 0, none⟩ = some (.int .i64 0) := blk_cell hk1 0; have q1 : w3.cell? ⟨w.heap.size + 1, 1, none⟩ = some (.int .i64 0) := blk_cell hk1 1; have p0 : w3.frozen? ⟨w.heap.size + 1, 0, none⟩ = false := blk_frozen hk1 0; have p1 : w3.frozen? ⟨w.heap.size + 1, 1, none⟩ = false := blk_frozen hk1 1; have HB3 := Aside0.mk (below_step (below_alloc (below_alloc (Below.refl w.heap.size w) _) _) hb3); clear hk0 hk1; have HS := Aside0.mk hb3; clear hb3))
  all_goals (try (go_region; go_wp2))
  refine bodyPost_ret (v := .tuple #[.int .i64 4, .agg #[.int .i64 0, .int .i64 0]]) (by simp [results, Tryd.results31, go_sem, q0, q1, p0, p1]) rfl ⟨rfl, ?_⟩
  repeat (first | exact HB3.out | apply below_alloc | apply below_drew | apply pw_below_drewN | refine below_set ?_ (by omega))
set_option maxHeartbeats 4000000 in
theorem r_next_sent_8_5 (w : World) : Calls Tryd.prog 31 #[.int .i64 5, .agg #[.bool false, .int .i64 8]] w fun e w' => e = .returned (.tuple #[.int .i64 5, .agg #[.int .i64 0, .int .i64 0]]) ∧ Below w.heap.size w w' := by
  have hbt : ((⟨#[46, 54, 46, 54, 66, 54, 46, 46]⟩ : ByteArray)[7]'(by decide)).toNat = 46 := rfl
  go_enter Tryd.func31, Tryd.ntmps31
  go_wp2_with (first | (go_at_call 46; refine (r_sent_5 _).mono ?_; rintro e w3 ⟨rfl, hb3⟩; obtain ⟨hk0, hk1, hs3⟩ := two_blocks hb3; have e0 : w3.cell? ⟨w.heap.size, 0, none⟩ = some (.bool false) := blk_cell hk0 0; have e1 : w3.cell? ⟨w.heap.size, 1, none⟩ = some (.int .i64 8) := blk_cell hk0 1; have q0 : w3.cell? ⟨w.heap.size + 1, 0, none⟩ = some (.int .i64 0) := blk_cell hk1 0; have q1 : w3.cell? ⟨w.heap.size + 1, 1, none⟩ = some (.int .i64 0) := blk_cell hk1 1; have p0 : w3.frozen? ⟨w.heap.size + 1, 0, none⟩ = false := blk_frozen hk1 0; have p1 : w3.frozen? ⟨w.heap.size + 1, 1, none⟩ = false := blk_frozen hk1 1; have HB3 := Aside0.mk (below_step (below_alloc (below_alloc (Below.refl w.heap.size w) _) _) hb3); clear hk0 hk1; have HS := Aside0.mk hb3; clear hb3))
  all_goals (try (go_region; go_wp2))
  refine bodyPost_ret (v := .tuple #[.int .i64 5, .agg #[.int .i64 0, .int .i64 0]]) (by simp [results, Tryd.results31, go_sem, q0, q1, p0, p1]) rfl ⟨rfl, ?_⟩
  repeat (first | exact HB3.out | apply below_alloc | apply below_drew | apply pw_below_drewN | refine below_set ?_ (by omega))
set_option maxHeartbeats 4000000 in
theorem r_next_sent_8_6 (w : World) : Calls Tryd.prog 31 #[.int .i64 6, .agg #[.bool false, .int .i64 8]] w fun e w' => e = .returned (.tuple #[.int .i64 6, .agg #[.int .i64 0, .int .i64 0]]) ∧ Below w.heap.size w w' := by
  have hbt : ((⟨#[66, 66, 66, 66, 66, 66, 66, 46]⟩ : ByteArray)[7]'(by decide)).toNat = 46 := rfl
  go_enter Tryd.func31, Tryd.ntmps31
  go_wp2_with (first | (go_at_call 46; refine (r_sent_6 _).mono ?_; rintro e w3 ⟨rfl, hb3⟩; obtain ⟨hk0, hk1, hs3⟩ := two_blocks hb3; have e0 : w3.cell? ⟨w.heap.size, 0, none⟩ = some (.bool false) := blk_cell hk0 0; have e1 : w3.cell? ⟨w.heap.size, 1, none⟩ = some (.int .i64 8) := blk_cell hk0 1; have q0 : w3.cell? ⟨w.heap.size + 1, 0, none⟩ = some (.int .i64 0) := blk_cell hk1 0; have q1 : w3.cell? ⟨w.heap.size + 1, 1, none⟩ = some (.int .i64 0) := blk_cell hk1 1; have p0 : w3.frozen? ⟨w.heap.size + 1, 0, none⟩ = false := blk_frozen hk1 0; have p1 : w3.frozen? ⟨w.heap.size + 1, 1, none⟩ = false := blk_frozen hk1 1; have HB3 := Aside0.mk (below_step (below_alloc (below_alloc (Below.refl w.heap.size w) _) _) hb3); clear hk0 hk1; have HS := Aside0.mk hb3; clear hb3))
  all_goals (try (go_region; go_wp2))
  refine bodyPost_ret (v := .tuple #[.int .i64 6, .agg #[.int .i64 0, .int .i64 0]]) (by simp [results, Tryd.results31, go_sem, q0, q1, p0, p1]) rfl ⟨rfl, ?_⟩
  repeat (first | exact HB3.out | apply below_alloc | apply below_drew | apply pw_below_drewN | refine below_set ?_ (by omega))
end Go.Proofs.YtagkncjdohljgaaDoor.QL
