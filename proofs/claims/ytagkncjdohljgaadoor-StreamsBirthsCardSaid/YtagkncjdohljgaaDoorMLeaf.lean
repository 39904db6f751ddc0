/- What the functions of the package state answer at each of the seven states, called where the package's variables hold what the program lays. No other condition. -/
import Derived.Test.YtagkncjdohljgaaDoorQLx1
import Derived.RegionTactic
import Derived.ChangeAlike

namespace Go.Proofs.YtagkncjdohljgaaDoor.QL
open Go Go.RowKit Go.Proofs.YtagkncjdohljgaaDoorW.PrintWords Go.Proofs.YtagkncjdohljgaaDoorW.PrintLast
def GL (w : World) : Prop := w.cell? ⟨0, 0, none⟩ = some (.int .i64 4) ∧ w.cell? ⟨0, 1, none⟩ = some (.int .i64 0) ∧ w.cell? ⟨1, 0, none⟩ = some (.int .i64 0) ∧ w.cell? ⟨1, 1, none⟩ = some (.int .i64 0) ∧ w.cell? ⟨2, 0, none⟩ = some (.int .i64 3) ∧ w.cell? ⟨2, 1, none⟩ = some (.int .i64 1) ∧ w.cell? ⟨3, 0, none⟩ = some (.int .i64 1) ∧ w.cell? ⟨3, 1, none⟩ = some (.int .i64 0) ∧ w.cell? ⟨4, 0, none⟩ = some (.int .i64 2) ∧ w.cell? ⟨4, 1, none⟩ = some (.int .i64 5) ∧ w.cell? ⟨5, 0, none⟩ = some (.int .i64 3) ∧ w.cell? ⟨5, 1, none⟩ = some (.int .i64 5)
theorem GL.all {w : World} (h : GL w) : w.cell? ⟨0, 0, none⟩ = some (.int .i64 4) ∧ w.cell? ⟨0, 1, none⟩ = some (.int .i64 0) ∧ w.cell? ⟨1, 0, none⟩ = some (.int .i64 0) ∧ w.cell? ⟨1, 1, none⟩ = some (.int .i64 0) ∧ w.cell? ⟨2, 0, none⟩ = some (.int .i64 3) ∧ w.cell? ⟨2, 1, none⟩ = some (.int .i64 1) ∧ w.cell? ⟨3, 0, none⟩ = some (.int .i64 1) ∧ w.cell? ⟨3, 1, none⟩ = some (.int .i64 0) ∧ w.cell? ⟨4, 0, none⟩ = some (.int .i64 2) ∧ w.cell? ⟨4, 1, none⟩ = some (.int .i64 5) ∧ w.cell? ⟨5, 0, none⟩ = some (.int .i64 3) ∧ w.cell? ⟨5, 1, none⟩ = some (.int .i64 5) ∧ 0 < w.heap.size ∧ 1 < w.heap.size ∧ 2 < w.heap.size ∧ 3 < w.heap.size ∧ 4 < w.heap.size ∧ 5 < w.heap.size := by
  obtain ⟨g00, g01, g10, g11, g20, g21, g30, g31, g40, g41, g50, g51⟩ := h
  exact ⟨g00, g01, g10, g11, g20, g21, g30, g31, g40, g41, g50, g51, World.block_lt_of_cell? w _ g00, World.block_lt_of_cell? w _ g10, World.block_lt_of_cell? w _ g20, World.block_lt_of_cell? w _ g30, World.block_lt_of_cell? w _ g40, World.block_lt_of_cell? w _ g50⟩
theorem GL.alloc {w : World} (h : GL w) (o : Obj) : GL (w.alloc o) := by
  have hb : Below w.heap.size w (w.alloc o) := below_alloc (Below.refl _ _) o
  obtain ⟨g00, g01, g10, g11, g20, g21, g30, g31, g40, g41, g50, g51⟩ := h
  exact ⟨pw_cell_below hb g00, pw_cell_below hb g01, pw_cell_below hb g10, pw_cell_below hb g11, pw_cell_below hb g20, pw_cell_below hb g21, pw_cell_below hb g30, pw_cell_below hb g31, pw_cell_below hb g40, pw_cell_below hb g41, pw_cell_below hb g50, pw_cell_below hb g51⟩
theorem GL.drewN {w : World} (h : GL w) (n : Nat) : GL (w.drewN n) := h
theorem GL.below {w w1 : World} (h : GL w) (hb : Below w.heap.size w w1) : GL w1 := by
  obtain ⟨g00, g01, g10, g11, g20, g21, g30, g31, g40, g41, g50, g51, z0, z1, z2, z3, z4, z5⟩ := h.all
  exact ⟨pw_cell_below hb g00, pw_cell_below hb g01, pw_cell_below hb g10, pw_cell_below hb g11, pw_cell_below hb g20, pw_cell_below hb g21, pw_cell_below hb g30, pw_cell_below hb g31, pw_cell_below hb g40, pw_cell_below hb g41, pw_cell_below hb g50, pw_cell_below hb g51⟩
theorem bcell {W w1 : World} (hb : Below W.heap.size W w1) : (∀ b o, b < W.heap.size → w1.cell? ⟨b, o, none⟩ = W.cell? ⟨b, o, none⟩) ∧ (∀ b o, b < W.heap.size → w1.frozen? ⟨b, o, none⟩ = W.frozen? ⟨b, o, none⟩) :=
  ⟨fun b o h => hb.cell (p := ⟨b, o, none⟩) h, fun b o h => hb.frozen (p := ⟨b, o, none⟩) h⟩
theorem C_new (W : World) (t : TypeId) (xs : List Int) (hl : xs.length ≤ 100) (n : Nat) (hn : n = W.heap.size) : Kd.C (Kd.int .i64) (W.alloc (.cells (xs.map (Value.int .i64)).toArray t)) (some ⟨n, 0, none⟩) xs.length xs := by
  subst hn
  refine ⟨rfl, by omega, fun _ => ⟨_, rfl, fun j p hp => ⟨[.int .i64 p], rfl, rfl, fun i u hu => ?_⟩⟩⟩
  have hi : i = 0 := by
    have := (List.getElem?_eq_some_iff.1 hu).1
    simp at this
    exact this
  subst hi
  obtain rfl : Value.int .i64 p = u := by simpa using hu
  have e : (⟨W.heap.size, 0, none⟩ : Addr).add (j * 1 + 0) = ⟨W.heap.size, j, none⟩ := by rw [Nat.mul_one, Nat.add_zero, add_plain]
  show (W.alloc _).cell? ((⟨W.heap.size, 0, none⟩ : Addr).add (j * 1 + 0)) = _
  rw [e, World.cell?_alloc_new]
  simp [hp]
def vendedHere (s : Int) : Int × Int × Int := ([(4, 0, 0), (6, 0, 0), (4, 0, 0), (4, 0, 0), (4, 0, 0), (6, 0, 0), (4, 0, 0)] : List (Int × Int × Int)).getD s.toNat (0, 0, 0)
def vendedThere (s : Int) : Int × Int × Int := ([(5, 0, 0), (5, 0, 0), (6, 0, 0), (5, 0, 0), (6, 0, 0), (5, 0, 0), (5, 0, 0)] : List (Int × Int × Int)).getD s.toNat (0, 0, 0)
def vlate (s : Int) : Int × Int × Int := ([(0, 3, 1), (1, 3, 1), (2, 3, 1), (3, 3, 1), (4, 3, 1), (5, 2, 5), (6, 3, 5)] : List (Int × Int × Int)).getD s.toNat (0, 0, 0)
def vsentHeaders (s : Int) : Int × Int × Int := ([(3, 0, 0), (5, 0, 0), (2, 4, 0), (3, 0, 0), (4, 4, 0), (5, 0, 0), (6, 4, 0)] : List (Int × Int × Int)).getD s.toNat (0, 0, 0)
def vsentData (s : Int) : Int × Int × Int := ([(0, 4, 0), (1, 4, 0), (2, 4, 0), (3, 0, 0), (4, 4, 0), (5, 0, 0), (6, 4, 0)] : List (Int × Int × Int)).getD s.toNat (0, 0, 0)
def vsentPromise (s : Int) : Int × Int × Int := ([(1, 0, 0), (1, 4, 0), (2, 4, 0), (3, 4, 0), (4, 4, 0), (5, 4, 0), (6, 4, 0)] : List (Int × Int × Int)).getD s.toNat (0, 0, 0)
def vsentReset (s : Int) : Int × Int × Int := ([(0, 4, 0), (6, 0, 0), (6, 0, 0), (6, 0, 0), (6, 0, 0), (6, 0, 0), (6, 4, 0)] : List (Int × Int × Int)).getD s.toNat (0, 0, 0)
def vsentWindow (s : Int) : Int × Int × Int := ([(0, 4, 0), (1, 4, 0), (2, 0, 0), (3, 0, 0), (4, 0, 0), (5, 0, 0), (6, 4, 0)] : List (Int × Int × Int)).getD s.toNat (0, 0, 0)
def vsentPriority (s : Int) : Int × Int × Int := ([(0, 0, 0), (1, 0, 0), (2, 0, 0), (3, 0, 0), (4, 0, 0), (5, 0, 0), (6, 0, 0)] : List (Int × Int × Int)).getD s.toNat (0, 0, 0)
def vgotPromise (s : Int) : Int × Int × Int := ([(2, 0, 0), (1, 3, 1), (2, 3, 1), (3, 3, 1), (4, 3, 1), (5, 3, 1), (6, 3, 1)] : List (Int × Int × Int)).getD s.toNat (0, 0, 0)
def vgotReset (s : Int) : Int × Int × Int := ([(0, 3, 1), (6, 0, 0), (6, 0, 0), (6, 0, 0), (6, 0, 0), (6, 0, 0), (6, 1, 0)] : List (Int × Int × Int)).getD s.toNat (0, 0, 0)
def vgotWindow (s : Int) : Int × Int × Int := ([(0, 3, 1), (1, 0, 0), (2, 3, 1), (3, 0, 0), (4, 0, 0), (5, 0, 0), (6, 1, 0)] : List (Int × Int × Int)).getD s.toNat (0, 0, 0)
def vgotPriority (s : Int) : Int × Int × Int := ([(0, 0, 0), (1, 0, 0), (2, 0, 0), (3, 0, 0), (4, 0, 0), (5, 0, 0), (6, 1, 0)] : List (Int × Int × Int)).getD s.toNat (0, 0, 0)
def vgotHeaders (s : Int) : Int × Int × Int := ([(3, 0, 0), (1, 3, 1), (4, 0, 0), (3, 0, 0), (4, 0, 0), (5, 2, 5), (6, 3, 5)] : List (Int × Int × Int)).getD s.toNat (0, 0, 0)
def vsentHeadersEnd (s : Int) : Int × Int × Int := ([(4, 0, 0), (6, 0, 0), (2, 4, 0), (4, 0, 0), (4, 4, 0), (6, 0, 0), (6, 4, 0)] : List (Int × Int × Int)).getD s.toNat (0, 0, 0)
def vgotHeadersEnd (s : Int) : Int × Int × Int := ([(5, 0, 0), (1, 3, 1), (6, 0, 0), (5, 0, 0), (6, 0, 0), (5, 2, 5), (6, 3, 5)] : List (Int × Int × Int)).getD s.toNat (0, 0, 0)
def vgotData (s : Int) : Int × Int × Int := ([(0, 3, 1), (1, 3, 1), (2, 3, 1), (3, 0, 0), (4, 0, 0), (5, 2, 5), (6, 3, 5)] : List (Int × Int × Int)).getD s.toNat (0, 0, 0)
def vsentDataEnd (s : Int) : Int × Int × Int := ([(0, 4, 0), (1, 4, 0), (2, 4, 0), (4, 0, 0), (4, 4, 0), (6, 0, 0), (6, 4, 0)] : List (Int × Int × Int)).getD s.toNat (0, 0, 0)
def vgotDataEnd (s : Int) : Int × Int × Int := ([(0, 3, 1), (1, 3, 1), (2, 3, 1), (5, 0, 0), (6, 0, 0), (5, 2, 5), (6, 3, 5)] : List (Int × Int × Int)).getD s.toNat (0, 0, 0)
set_option maxHeartbeats 1600000 in
set_option maxHeartbeats 1600000 in
theorem w_endedHere_0 (w : World) (hG : GL w) : Calls Tryd.prog 85 #[.int .i64 0] w fun e w' => e = .returned (.tuple #[.int .i64 4, .agg #[.int .i64 0, .int .i64 0]]) ∧ Below w.heap.size w w' := by
  have hG := Aside0.mk hG
  obtain ⟨g00, g01, g10, g11, g20, g21, g30, g31, g40, g41, g50, g51, z0, z1, z2, z3, z4, z5⟩ := hG.out.all
  go_enter Tryd.func85, Tryd.ntmps85
  go_wp2
  all_goals (try (go_region; go_wp2))
  all_goals (refine bodyPost_ret (v := .tuple #[.int .i64 4, .agg #[.int .i64 0, .int .i64 0]]) (by simp [results, Tryd.results85, go_sem]) rfl ⟨rfl, ?_⟩)
  all_goals (repeat (first | exact Below.refl _ _ | apply below_alloc | apply below_drew | apply pw_below_drewN | refine below_set ?_ (Nat.le_refl _) | refine below_step ?_ hb3))
set_option maxHeartbeats 1600000 in
theorem w_endedHere_1 (w : World) (hG : GL w) : Calls Tryd.prog 85 #[.int .i64 1] w fun e w' => e = .returned (.tuple #[.int .i64 6, .agg #[.int .i64 0, .int .i64 0]]) ∧ Below w.heap.size w w' := by
  have hG := Aside0.mk hG
  obtain ⟨g00, g01, g10, g11, g20, g21, g30, g31, g40, g41, g50, g51, z0, z1, z2, z3, z4, z5⟩ := hG.out.all
  go_enter Tryd.func85, Tryd.ntmps85
  go_wp2
  all_goals (try (go_region; go_wp2))
  all_goals (refine bodyPost_ret (v := .tuple #[.int .i64 6, .agg #[.int .i64 0, .int .i64 0]]) (by simp [results, Tryd.results85, go_sem]) rfl ⟨rfl, ?_⟩)
  all_goals (repeat (first | exact Below.refl _ _ | apply below_alloc | apply below_drew | apply pw_below_drewN | refine below_set ?_ (Nat.le_refl _) | refine below_step ?_ hb3))
set_option maxHeartbeats 1600000 in
theorem w_endedHere_2 (w : World) (hG : GL w) : Calls Tryd.prog 85 #[.int .i64 2] w fun e w' => e = .returned (.tuple #[.int .i64 4, .agg #[.int .i64 0, .int .i64 0]]) ∧ Below w.heap.size w w' := by
  have hG := Aside0.mk hG
  obtain ⟨g00, g01, g10, g11, g20, g21, g30, g31, g40, g41, g50, g51, z0, z1, z2, z3, z4, z5⟩ := hG.out.all
  go_enter Tryd.func85, Tryd.ntmps85
  go_wp2
  all_goals (try (go_region; go_wp2))
  all_goals (refine bodyPost_ret (v := .tuple #[.int .i64 4, .agg #[.int .i64 0, .int .i64 0]]) (by simp [results, Tryd.results85, go_sem]) rfl ⟨rfl, ?_⟩)
  all_goals (repeat (first | exact Below.refl _ _ | apply below_alloc | apply below_drew | apply pw_below_drewN | refine below_set ?_ (Nat.le_refl _) | refine below_step ?_ hb3))
set_option maxHeartbeats 1600000 in
theorem w_endedHere_3 (w : World) (hG : GL w) : Calls Tryd.prog 85 #[.int .i64 3] w fun e w' => e = .returned (.tuple #[.int .i64 4, .agg #[.int .i64 0, .int .i64 0]]) ∧ Below w.heap.size w w' := by
  have hG := Aside0.mk hG
  obtain ⟨g00, g01, g10, g11, g20, g21, g30, g31, g40, g41, g50, g51, z0, z1, z2, z3, z4, z5⟩ := hG.out.all
  go_enter Tryd.func85, Tryd.ntmps85
  go_wp2
  all_goals (try (go_region; go_wp2))
  all_goals (refine bodyPost_ret (v := .tuple #[.int .i64 4, .agg #[.int .i64 0, .int .i64 0]]) (by simp [results, Tryd.results85, go_sem]) rfl ⟨rfl, ?_⟩)
  all_goals (repeat (first | exact Below.refl _ _ | apply below_alloc | apply below_drew | apply pw_below_drewN | refine below_set ?_ (Nat.le_refl _) | refine below_step ?_ hb3))
set_option maxHeartbeats 1600000 in
theorem w_endedHere_4 (w : World) (hG : GL w) : Calls Tryd.prog 85 #[.int .i64 4] w fun e w' => e = .returned (.tuple #[.int .i64 4, .agg #[.int .i64 0, .int .i64 0]]) ∧ Below w.heap.size w w' := by
  have hG := Aside0.mk hG
  obtain ⟨g00, g01, g10, g11, g20, g21, g30, g31, g40, g41, g50, g51, z0, z1, z2, z3, z4, z5⟩ := hG.out.all
  go_enter Tryd.func85, Tryd.ntmps85
  go_wp2
  all_goals (try (go_region; go_wp2))
  all_goals (refine bodyPost_ret (v := .tuple #[.int .i64 4, .agg #[.int .i64 0, .int .i64 0]]) (by simp [results, Tryd.results85, go_sem]) rfl ⟨rfl, ?_⟩)
  all_goals (repeat (first | exact Below.refl _ _ | apply below_alloc | apply below_drew | apply pw_below_drewN | refine below_set ?_ (Nat.le_refl _) | refine below_step ?_ hb3))
set_option maxHeartbeats 1600000 in
theorem w_endedHere_5 (w : World) (hG : GL w) : Calls Tryd.prog 85 #[.int .i64 5] w fun e w' => e = .returned (.tuple #[.int .i64 6, .agg #[.int .i64 0, .int .i64 0]]) ∧ Below w.heap.size w w' := by
  have hG := Aside0.mk hG
  obtain ⟨g00, g01, g10, g11, g20, g21, g30, g31, g40, g41, g50, g51, z0, z1, z2, z3, z4, z5⟩ := hG.out.all
  go_enter Tryd.func85, Tryd.ntmps85
  go_wp2
  all_goals (try (go_region; go_wp2))
  all_goals (refine bodyPost_ret (v := .tuple #[.int .i64 6, .agg #[.int .i64 0, .int .i64 0]]) (by simp [results, Tryd.results85, go_sem]) rfl ⟨rfl, ?_⟩)
  all_goals (repeat (first | exact Below.refl _ _ | apply below_alloc | apply below_drew | apply pw_below_drewN | refine below_set ?_ (Nat.le_refl _) | refine below_step ?_ hb3))
set_option maxHeartbeats 1600000 in
theorem w_endedHere_6 (w : World) (hG : GL w) : Calls Tryd.prog 85 #[.int .i64 6] w fun e w' => e = .returned (.tuple #[.int .i64 4, .agg #[.int .i64 0, .int .i64 0]]) ∧ Below w.heap.size w w' := by
  have hG := Aside0.mk hG
  obtain ⟨g00, g01, g10, g11, g20, g21, g30, g31, g40, g41, g50, g51, z0, z1, z2, z3, z4, z5⟩ := hG.out.all
  go_enter Tryd.func85, Tryd.ntmps85
  go_wp2
  all_goals (try (go_region; go_wp2))
  all_goals (refine bodyPost_ret (v := .tuple #[.int .i64 4, .agg #[.int .i64 0, .int .i64 0]]) (by simp [results, Tryd.results85, go_sem]) rfl ⟨rfl, ?_⟩)
  all_goals (repeat (first | exact Below.refl _ _ | apply below_alloc | apply below_drew | apply pw_below_drewN | refine below_set ?_ (Nat.le_refl _) | refine below_step ?_ hb3))
set_option maxHeartbeats 1600000 in
set_option maxHeartbeats 1600000 in
theorem w_endedThere_0 (w : World) (hG : GL w) : Calls Tryd.prog 86 #[.int .i64 0] w fun e w' => e = .returned (.tuple #[.int .i64 5, .agg #[.int .i64 0, .int .i64 0]]) ∧ Below w.heap.size w w' := by
  have hG := Aside0.mk hG
  obtain ⟨g00, g01, g10, g11, g20, g21, g30, g31, g40, g41, g50, g51, z0, z1, z2, z3, z4, z5⟩ := hG.out.all
  go_enter Tryd.func86, Tryd.ntmps86
  go_wp2
  all_goals (try (go_region; go_wp2))
  all_goals (refine bodyPost_ret (v := .tuple #[.int .i64 5, .agg #[.int .i64 0, .int .i64 0]]) (by simp [results, Tryd.results86, go_sem]) rfl ⟨rfl, ?_⟩)
  all_goals (repeat (first | exact Below.refl _ _ | apply below_alloc | apply below_drew | apply pw_below_drewN | refine below_set ?_ (Nat.le_refl _) | refine below_step ?_ hb3))
set_option maxHeartbeats 1600000 in
theorem w_endedThere_1 (w : World) (hG : GL w) : Calls Tryd.prog 86 #[.int .i64 1] w fun e w' => e = .returned (.tuple #[.int .i64 5, .agg #[.int .i64 0, .int .i64 0]]) ∧ Below w.heap.size w w' := by
  have hG := Aside0.mk hG
  obtain ⟨g00, g01, g10, g11, g20, g21, g30, g31, g40, g41, g50, g51, z0, z1, z2, z3, z4, z5⟩ := hG.out.all
  go_enter Tryd.func86, Tryd.ntmps86
  go_wp2
  all_goals (try (go_region; go_wp2))
  all_goals (refine bodyPost_ret (v := .tuple #[.int .i64 5, .agg #[.int .i64 0, .int .i64 0]]) (by simp [results, Tryd.results86, go_sem]) rfl ⟨rfl, ?_⟩)
  all_goals (repeat (first | exact Below.refl _ _ | apply below_alloc | apply below_drew | apply pw_below_drewN | refine below_set ?_ (Nat.le_refl _) | refine below_step ?_ hb3))
set_option maxHeartbeats 1600000 in
theorem w_endedThere_2 (w : World) (hG : GL w) : Calls Tryd.prog 86 #[.int .i64 2] w fun e w' => e = .returned (.tuple #[.int .i64 6, .agg #[.int .i64 0, .int .i64 0]]) ∧ Below w.heap.size w w' := by
  have hG := Aside0.mk hG
  obtain ⟨g00, g01, g10, g11, g20, g21, g30, g31, g40, g41, g50, g51, z0, z1, z2, z3, z4, z5⟩ := hG.out.all
  go_enter Tryd.func86, Tryd.ntmps86
  go_wp2
  all_goals (try (go_region; go_wp2))
  all_goals (refine bodyPost_ret (v := .tuple #[.int .i64 6, .agg #[.int .i64 0, .int .i64 0]]) (by simp [results, Tryd.results86, go_sem]) rfl ⟨rfl, ?_⟩)
  all_goals (repeat (first | exact Below.refl _ _ | apply below_alloc | apply below_drew | apply pw_below_drewN | refine below_set ?_ (Nat.le_refl _) | refine below_step ?_ hb3))
set_option maxHeartbeats 1600000 in
theorem w_endedThere_3 (w : World) (hG : GL w) : Calls Tryd.prog 86 #[.int .i64 3] w fun e w' => e = .returned (.tuple #[.int .i64 5, .agg #[.int .i64 0, .int .i64 0]]) ∧ Below w.heap.size w w' := by
  have hG := Aside0.mk hG
  obtain ⟨g00, g01, g10, g11, g20, g21, g30, g31, g40, g41, g50, g51, z0, z1, z2, z3, z4, z5⟩ := hG.out.all
  go_enter Tryd.func86, Tryd.ntmps86
  go_wp2
  all_goals (try (go_region; go_wp2))
  all_goals (refine bodyPost_ret (v := .tuple #[.int .i64 5, .agg #[.int .i64 0, .int .i64 0]]) (by simp [results, Tryd.results86, go_sem]) rfl ⟨rfl, ?_⟩)
  all_goals (repeat (first | exact Below.refl _ _ | apply below_alloc | apply below_drew | apply pw_below_drewN | refine below_set ?_ (Nat.le_refl _) | refine below_step ?_ hb3))
set_option maxHeartbeats 1600000 in
theorem w_endedThere_4 (w : World) (hG : GL w) : Calls Tryd.prog 86 #[.int .i64 4] w fun e w' => e = .returned (.tuple #[.int .i64 6, .agg #[.int .i64 0, .int .i64 0]]) ∧ Below w.heap.size w w' := by
  have hG := Aside0.mk hG
  obtain ⟨g00, g01, g10, g11, g20, g21, g30, g31, g40, g41, g50, g51, z0, z1, z2, z3, z4, z5⟩ := hG.out.all
  go_enter Tryd.func86, Tryd.ntmps86
  go_wp2
  all_goals (try (go_region; go_wp2))
  all_goals (refine bodyPost_ret (v := .tuple #[.int .i64 6, .agg #[.int .i64 0, .int .i64 0]]) (by simp [results, Tryd.results86, go_sem]) rfl ⟨rfl, ?_⟩)
  all_goals (repeat (first | exact Below.refl _ _ | apply below_alloc | apply below_drew | apply pw_below_drewN | refine below_set ?_ (Nat.le_refl _) | refine below_step ?_ hb3))
set_option maxHeartbeats 1600000 in
theorem w_endedThere_5 (w : World) (hG : GL w) : Calls Tryd.prog 86 #[.int .i64 5] w fun e w' => e = .returned (.tuple #[.int .i64 5, .agg #[.int .i64 0, .int .i64 0]]) ∧ Below w.heap.size w w' := by
  have hG := Aside0.mk hG
  obtain ⟨g00, g01, g10, g11, g20, g21, g30, g31, g40, g41, g50, g51, z0, z1, z2, z3, z4, z5⟩ := hG.out.all
  go_enter Tryd.func86, Tryd.ntmps86
  go_wp2
  all_goals (try (go_region; go_wp2))
  all_goals (refine bodyPost_ret (v := .tuple #[.int .i64 5, .agg #[.int .i64 0, .int .i64 0]]) (by simp [results, Tryd.results86, go_sem]) rfl ⟨rfl, ?_⟩)
  all_goals (repeat (first | exact Below.refl _ _ | apply below_alloc | apply below_drew | apply pw_below_drewN | refine below_set ?_ (Nat.le_refl _) | refine below_step ?_ hb3))
set_option maxHeartbeats 1600000 in
theorem w_endedThere_6 (w : World) (hG : GL w) : Calls Tryd.prog 86 #[.int .i64 6] w fun e w' => e = .returned (.tuple #[.int .i64 5, .agg #[.int .i64 0, .int .i64 0]]) ∧ Below w.heap.size w w' := by
  have hG := Aside0.mk hG
  obtain ⟨g00, g01, g10, g11, g20, g21, g30, g31, g40, g41, g50, g51, z0, z1, z2, z3, z4, z5⟩ := hG.out.all
  go_enter Tryd.func86, Tryd.ntmps86
  go_wp2
  all_goals (try (go_region; go_wp2))
  all_goals (refine bodyPost_ret (v := .tuple #[.int .i64 5, .agg #[.int .i64 0, .int .i64 0]]) (by simp [results, Tryd.results86, go_sem]) rfl ⟨rfl, ?_⟩)
  all_goals (repeat (first | exact Below.refl _ _ | apply below_alloc | apply below_drew | apply pw_below_drewN | refine below_set ?_ (Nat.le_refl _) | refine below_step ?_ hb3))
set_option maxHeartbeats 1600000 in
set_option maxHeartbeats 1600000 in
theorem w_late_0 (w : World) (hG : GL w) : Calls Tryd.prog 84 #[.int .i64 0] w fun e w' => e = .returned (.tuple #[.int .i64 0, .agg #[.int .i64 3, .int .i64 1]]) ∧ Below w.heap.size w w' := by
  have hG := Aside0.mk hG
  obtain ⟨g00, g01, g10, g11, g20, g21, g30, g31, g40, g41, g50, g51, z0, z1, z2, z3, z4, z5⟩ := hG.out.all
  go_enter Tryd.func84, Tryd.ntmps84
  go_wp2
  all_goals (try (go_region; go_wp2))
  all_goals (refine bodyPost_ret (v := .tuple #[.int .i64 0, .agg #[.int .i64 3, .int .i64 1]]) (by simp [results, Tryd.results84, go_sem]) rfl ⟨rfl, ?_⟩)
  all_goals (repeat (first | exact Below.refl _ _ | apply below_alloc | apply below_drew | apply pw_below_drewN | refine below_set ?_ (Nat.le_refl _) | refine below_step ?_ hb3))
set_option maxHeartbeats 1600000 in
theorem w_late_1 (w : World) (hG : GL w) : Calls Tryd.prog 84 #[.int .i64 1] w fun e w' => e = .returned (.tuple #[.int .i64 1, .agg #[.int .i64 3, .int .i64 1]]) ∧ Below w.heap.size w w' := by
  have hG := Aside0.mk hG
  obtain ⟨g00, g01, g10, g11, g20, g21, g30, g31, g40, g41, g50, g51, z0, z1, z2, z3, z4, z5⟩ := hG.out.all
  go_enter Tryd.func84, Tryd.ntmps84
  go_wp2
  all_goals (try (go_region; go_wp2))
  all_goals (refine bodyPost_ret (v := .tuple #[.int .i64 1, .agg #[.int .i64 3, .int .i64 1]]) (by simp [results, Tryd.results84, go_sem]) rfl ⟨rfl, ?_⟩)
  all_goals (repeat (first | exact Below.refl _ _ | apply below_alloc | apply below_drew | apply pw_below_drewN | refine below_set ?_ (Nat.le_refl _) | refine below_step ?_ hb3))
set_option maxHeartbeats 1600000 in
theorem w_late_2 (w : World) (hG : GL w) : Calls Tryd.prog 84 #[.int .i64 2] w fun e w' => e = .returned (.tuple #[.int .i64 2, .agg #[.int .i64 3, .int .i64 1]]) ∧ Below w.heap.size w w' := by
  have hG := Aside0.mk hG
  obtain ⟨g00, g01, g10, g11, g20, g21, g30, g31, g40, g41, g50, g51, z0, z1, z2, z3, z4, z5⟩ := hG.out.all
  go_enter Tryd.func84, Tryd.ntmps84
  go_wp2
  all_goals (try (go_region; go_wp2))
  all_goals (refine bodyPost_ret (v := .tuple #[.int .i64 2, .agg #[.int .i64 3, .int .i64 1]]) (by simp [results, Tryd.results84, go_sem]) rfl ⟨rfl, ?_⟩)
  all_goals (repeat (first | exact Below.refl _ _ | apply below_alloc | apply below_drew | apply pw_below_drewN | refine below_set ?_ (Nat.le_refl _) | refine below_step ?_ hb3))
set_option maxHeartbeats 1600000 in
theorem w_late_3 (w : World) (hG : GL w) : Calls Tryd.prog 84 #[.int .i64 3] w fun e w' => e = .returned (.tuple #[.int .i64 3, .agg #[.int .i64 3, .int .i64 1]]) ∧ Below w.heap.size w w' := by
  have hG := Aside0.mk hG
  obtain ⟨g00, g01, g10, g11, g20, g21, g30, g31, g40, g41, g50, g51, z0, z1, z2, z3, z4, z5⟩ := hG.out.all
  go_enter Tryd.func84, Tryd.ntmps84
  go_wp2
  all_goals (try (go_region; go_wp2))
  all_goals (refine bodyPost_ret (v := .tuple #[.int .i64 3, .agg #[.int .i64 3, .int .i64 1]]) (by simp [results, Tryd.results84, go_sem]) rfl ⟨rfl, ?_⟩)
  all_goals (repeat (first | exact Below.refl _ _ | apply below_alloc | apply below_drew | apply pw_below_drewN | refine below_set ?_ (Nat.le_refl _) | refine below_step ?_ hb3))
set_option maxHeartbeats 1600000 in
theorem w_late_4 (w : World) (hG : GL w) : Calls Tryd.prog 84 #[.int .i64 4] w fun e w' => e = .returned (.tuple #[.int .i64 4, .agg #[.int .i64 3, .int .i64 1]]) ∧ Below w.heap.size w w' := by
  have hG := Aside0.mk hG
  obtain ⟨g00, g01, g10, g11, g20, g21, g30, g31, g40, g41, g50, g51, z0, z1, z2, z3, z4, z5⟩ := hG.out.all
  go_enter Tryd.func84, Tryd.ntmps84
  go_wp2
  all_goals (try (go_region; go_wp2))
  all_goals (refine bodyPost_ret (v := .tuple #[.int .i64 4, .agg #[.int .i64 3, .int .i64 1]]) (by simp [results, Tryd.results84, go_sem]) rfl ⟨rfl, ?_⟩)
  all_goals (repeat (first | exact Below.refl _ _ | apply below_alloc | apply below_drew | apply pw_below_drewN | refine below_set ?_ (Nat.le_refl _) | refine below_step ?_ hb3))
set_option maxHeartbeats 1600000 in
theorem w_late_5 (w : World) (hG : GL w) : Calls Tryd.prog 84 #[.int .i64 5] w fun e w' => e = .returned (.tuple #[.int .i64 5, .agg #[.int .i64 2, .int .i64 5]]) ∧ Below w.heap.size w w' := by
  have hG := Aside0.mk hG
  obtain ⟨g00, g01, g10, g11, g20, g21, g30, g31, g40, g41, g50, g51, z0, z1, z2, z3, z4, z5⟩ := hG.out.all
  go_enter Tryd.func84, Tryd.ntmps84
  go_wp2
  all_goals (try (go_region; go_wp2))
  all_goals (refine bodyPost_ret (v := .tuple #[.int .i64 5, .agg #[.int .i64 2, .int .i64 5]]) (by simp [results, Tryd.results84, go_sem]) rfl ⟨rfl, ?_⟩)
  all_goals (repeat (first | exact Below.refl _ _ | apply below_alloc | apply below_drew | apply pw_below_drewN | refine below_set ?_ (Nat.le_refl _) | refine below_step ?_ hb3))
set_option maxHeartbeats 1600000 in
theorem w_late_6 (w : World) (hG : GL w) : Calls Tryd.prog 84 #[.int .i64 6] w fun e w' => e = .returned (.tuple #[.int .i64 6, .agg #[.int .i64 3, .int .i64 5]]) ∧ Below w.heap.size w w' := by
  have hG := Aside0.mk hG
  obtain ⟨g00, g01, g10, g11, g20, g21, g30, g31, g40, g41, g50, g51, z0, z1, z2, z3, z4, z5⟩ := hG.out.all
  go_enter Tryd.func84, Tryd.ntmps84
  go_wp2
  all_goals (try (go_region; go_wp2))
  all_goals (refine bodyPost_ret (v := .tuple #[.int .i64 6, .agg #[.int .i64 3, .int .i64 5]]) (by simp [results, Tryd.results84, go_sem]) rfl ⟨rfl, ?_⟩)
  all_goals (repeat (first | exact Below.refl _ _ | apply below_alloc | apply below_drew | apply pw_below_drewN | refine below_set ?_ (Nat.le_refl _) | refine below_step ?_ hb3))
set_option maxHeartbeats 1600000 in
set_option maxHeartbeats 1600000 in
theorem w_sentHeaders_0 (w : World) (hG : GL w) : Calls Tryd.prog 62 #[.int .i64 0] w fun e w' => e = .returned (.tuple #[.int .i64 3, .agg #[.int .i64 0, .int .i64 0]]) ∧ Below w.heap.size w w' := by
  have hG := Aside0.mk hG
  obtain ⟨g00, g01, g10, g11, g20, g21, g30, g31, g40, g41, g50, g51, z0, z1, z2, z3, z4, z5⟩ := hG.out.all
  go_enter Tryd.func62, Tryd.ntmps62
  go_wp2
  all_goals (try (go_region; go_wp2))
  all_goals (refine bodyPost_ret (v := .tuple #[.int .i64 3, .agg #[.int .i64 0, .int .i64 0]]) (by simp [results, Tryd.results62, go_sem]) rfl ⟨rfl, ?_⟩)
  all_goals (repeat (first | exact Below.refl _ _ | apply below_alloc | apply below_drew | apply pw_below_drewN | refine below_set ?_ (Nat.le_refl _) | refine below_step ?_ hb3))
set_option maxHeartbeats 1600000 in
theorem w_sentHeaders_1 (w : World) (hG : GL w) : Calls Tryd.prog 62 #[.int .i64 1] w fun e w' => e = .returned (.tuple #[.int .i64 5, .agg #[.int .i64 0, .int .i64 0]]) ∧ Below w.heap.size w w' := by
  have hG := Aside0.mk hG
  obtain ⟨g00, g01, g10, g11, g20, g21, g30, g31, g40, g41, g50, g51, z0, z1, z2, z3, z4, z5⟩ := hG.out.all
  go_enter Tryd.func62, Tryd.ntmps62
  go_wp2
  all_goals (try (go_region; go_wp2))
  all_goals (refine bodyPost_ret (v := .tuple #[.int .i64 5, .agg #[.int .i64 0, .int .i64 0]]) (by simp [results, Tryd.results62, go_sem]) rfl ⟨rfl, ?_⟩)
  all_goals (repeat (first | exact Below.refl _ _ | apply below_alloc | apply below_drew | apply pw_below_drewN | refine below_set ?_ (Nat.le_refl _) | refine below_step ?_ hb3))
set_option maxHeartbeats 1600000 in
theorem w_sentHeaders_2 (w : World) (hG : GL w) : Calls Tryd.prog 62 #[.int .i64 2] w fun e w' => e = .returned (.tuple #[.int .i64 2, .agg #[.int .i64 4, .int .i64 0]]) ∧ Below w.heap.size w w' := by
  have hG := Aside0.mk hG
  obtain ⟨g00, g01, g10, g11, g20, g21, g30, g31, g40, g41, g50, g51, z0, z1, z2, z3, z4, z5⟩ := hG.out.all
  go_enter Tryd.func62, Tryd.ntmps62
  go_wp2
  all_goals (try (go_region; go_wp2))
  all_goals (refine bodyPost_ret (v := .tuple #[.int .i64 2, .agg #[.int .i64 4, .int .i64 0]]) (by simp [results, Tryd.results62, go_sem]) rfl ⟨rfl, ?_⟩)
  all_goals (repeat (first | exact Below.refl _ _ | apply below_alloc | apply below_drew | apply pw_below_drewN | refine below_set ?_ (Nat.le_refl _) | refine below_step ?_ hb3))
set_option maxHeartbeats 1600000 in
theorem w_sentHeaders_3 (w : World) (hG : GL w) : Calls Tryd.prog 62 #[.int .i64 3] w fun e w' => e = .returned (.tuple #[.int .i64 3, .agg #[.int .i64 0, .int .i64 0]]) ∧ Below w.heap.size w w' := by
  have hG := Aside0.mk hG
  obtain ⟨g00, g01, g10, g11, g20, g21, g30, g31, g40, g41, g50, g51, z0, z1, z2, z3, z4, z5⟩ := hG.out.all
  go_enter Tryd.func62, Tryd.ntmps62
  go_wp2
  all_goals (try (go_region; go_wp2))
  all_goals (refine bodyPost_ret (v := .tuple #[.int .i64 3, .agg #[.int .i64 0, .int .i64 0]]) (by simp [results, Tryd.results62, go_sem]) rfl ⟨rfl, ?_⟩)
  all_goals (repeat (first | exact Below.refl _ _ | apply below_alloc | apply below_drew | apply pw_below_drewN | refine below_set ?_ (Nat.le_refl _) | refine below_step ?_ hb3))
set_option maxHeartbeats 1600000 in
theorem w_sentHeaders_4 (w : World) (hG : GL w) : Calls Tryd.prog 62 #[.int .i64 4] w fun e w' => e = .returned (.tuple #[.int .i64 4, .agg #[.int .i64 4, .int .i64 0]]) ∧ Below w.heap.size w w' := by
  have hG := Aside0.mk hG
  obtain ⟨g00, g01, g10, g11, g20, g21, g30, g31, g40, g41, g50, g51, z0, z1, z2, z3, z4, z5⟩ := hG.out.all
  go_enter Tryd.func62, Tryd.ntmps62
  go_wp2
  all_goals (try (go_region; go_wp2))
  all_goals (refine bodyPost_ret (v := .tuple #[.int .i64 4, .agg #[.int .i64 4, .int .i64 0]]) (by simp [results, Tryd.results62, go_sem]) rfl ⟨rfl, ?_⟩)
  all_goals (repeat (first | exact Below.refl _ _ | apply below_alloc | apply below_drew | apply pw_below_drewN | refine below_set ?_ (Nat.le_refl _) | refine below_step ?_ hb3))
set_option maxHeartbeats 1600000 in
theorem w_sentHeaders_5 (w : World) (hG : GL w) : Calls Tryd.prog 62 #[.int .i64 5] w fun e w' => e = .returned (.tuple #[.int .i64 5, .agg #[.int .i64 0, .int .i64 0]]) ∧ Below w.heap.size w w' := by
  have hG := Aside0.mk hG
  obtain ⟨g00, g01, g10, g11, g20, g21, g30, g31, g40, g41, g50, g51, z0, z1, z2, z3, z4, z5⟩ := hG.out.all
  go_enter Tryd.func62, Tryd.ntmps62
  go_wp2
  all_goals (try (go_region; go_wp2))
  all_goals (refine bodyPost_ret (v := .tuple #[.int .i64 5, .agg #[.int .i64 0, .int .i64 0]]) (by simp [results, Tryd.results62, go_sem]) rfl ⟨rfl, ?_⟩)
  all_goals (repeat (first | exact Below.refl _ _ | apply below_alloc | apply below_drew | apply pw_below_drewN | refine below_set ?_ (Nat.le_refl _) | refine below_step ?_ hb3))
set_option maxHeartbeats 1600000 in
theorem w_sentHeaders_6 (w : World) (hG : GL w) : Calls Tryd.prog 62 #[.int .i64 6] w fun e w' => e = .returned (.tuple #[.int .i64 6, .agg #[.int .i64 4, .int .i64 0]]) ∧ Below w.heap.size w w' := by
  have hG := Aside0.mk hG
  obtain ⟨g00, g01, g10, g11, g20, g21, g30, g31, g40, g41, g50, g51, z0, z1, z2, z3, z4, z5⟩ := hG.out.all
  go_enter Tryd.func62, Tryd.ntmps62
  go_wp2
  all_goals (try (go_region; go_wp2))
  all_goals (refine bodyPost_ret (v := .tuple #[.int .i64 6, .agg #[.int .i64 4, .int .i64 0]]) (by simp [results, Tryd.results62, go_sem]) rfl ⟨rfl, ?_⟩)
  all_goals (repeat (first | exact Below.refl _ _ | apply below_alloc | apply below_drew | apply pw_below_drewN | refine below_set ?_ (Nat.le_refl _) | refine below_step ?_ hb3))
set_option maxHeartbeats 1600000 in
set_option maxHeartbeats 1600000 in
theorem w_sentData_0 (w : World) (hG : GL w) : Calls Tryd.prog 66 #[.int .i64 0] w fun e w' => e = .returned (.tuple #[.int .i64 0, .agg #[.int .i64 4, .int .i64 0]]) ∧ Below w.heap.size w w' := by
  have hG := Aside0.mk hG
  obtain ⟨g00, g01, g10, g11, g20, g21, g30, g31, g40, g41, g50, g51, z0, z1, z2, z3, z4, z5⟩ := hG.out.all
  go_enter Tryd.func66, Tryd.ntmps66
  go_wp2_with (first | (go_at_call 41; refine (state_is.calls 9 (0) (some (Addr.mk (w.heap.size + 1) 0 none)) 2 ([3, 5] : List Int) false _ (by exact C_new _ _ [3, 5] (by decide) _ (by simp)) (by decide) (by decide +kernel)).mono ?_; rintro e w2 ⟨rfl, ⟨⟨nd, rfl⟩⟩⟩))
  all_goals (try (go_region; go_wp2))
  all_goals (refine bodyPost_ret (v := .tuple #[.int .i64 0, .agg #[.int .i64 4, .int .i64 0]]) (by simp [results, Tryd.results66, go_sem]) rfl ⟨rfl, ?_⟩)
  all_goals (repeat (first | exact Below.refl _ _ | apply below_alloc | apply below_drew | apply pw_below_drewN | refine below_set ?_ (Nat.le_refl _) | refine below_step ?_ hb3))
set_option maxHeartbeats 1600000 in
theorem w_sentData_1 (w : World) (hG : GL w) : Calls Tryd.prog 66 #[.int .i64 1] w fun e w' => e = .returned (.tuple #[.int .i64 1, .agg #[.int .i64 4, .int .i64 0]]) ∧ Below w.heap.size w w' := by
  have hG := Aside0.mk hG
  obtain ⟨g00, g01, g10, g11, g20, g21, g30, g31, g40, g41, g50, g51, z0, z1, z2, z3, z4, z5⟩ := hG.out.all
  go_enter Tryd.func66, Tryd.ntmps66
  go_wp2_with (first | (go_at_call 41; refine (state_is.calls 9 (1) (some (Addr.mk (w.heap.size + 1) 0 none)) 2 ([3, 5] : List Int) false _ (by exact C_new _ _ [3, 5] (by decide) _ (by simp)) (by decide) (by decide +kernel)).mono ?_; rintro e w2 ⟨rfl, ⟨⟨nd, rfl⟩⟩⟩))
  all_goals (try (go_region; go_wp2))
  all_goals (refine bodyPost_ret (v := .tuple #[.int .i64 1, .agg #[.int .i64 4, .int .i64 0]]) (by simp [results, Tryd.results66, go_sem]) rfl ⟨rfl, ?_⟩)
  all_goals (repeat (first | exact Below.refl _ _ | apply below_alloc | apply below_drew | apply pw_below_drewN | refine below_set ?_ (Nat.le_refl _) | refine below_step ?_ hb3))
set_option maxHeartbeats 1600000 in
theorem w_sentData_2 (w : World) (hG : GL w) : Calls Tryd.prog 66 #[.int .i64 2] w fun e w' => e = .returned (.tuple #[.int .i64 2, .agg #[.int .i64 4, .int .i64 0]]) ∧ Below w.heap.size w w' := by
  have hG := Aside0.mk hG
  obtain ⟨g00, g01, g10, g11, g20, g21, g30, g31, g40, g41, g50, g51, z0, z1, z2, z3, z4, z5⟩ := hG.out.all
  go_enter Tryd.func66, Tryd.ntmps66
  go_wp2_with (first | (go_at_call 41; refine (state_is.calls 9 (2) (some (Addr.mk (w.heap.size + 1) 0 none)) 2 ([3, 5] : List Int) false _ (by exact C_new _ _ [3, 5] (by decide) _ (by simp)) (by decide) (by decide +kernel)).mono ?_; rintro e w2 ⟨rfl, ⟨⟨nd, rfl⟩⟩⟩))
  all_goals (try (go_region; go_wp2))
  all_goals (refine bodyPost_ret (v := .tuple #[.int .i64 2, .agg #[.int .i64 4, .int .i64 0]]) (by simp [results, Tryd.results66, go_sem]) rfl ⟨rfl, ?_⟩)
  all_goals (repeat (first | exact Below.refl _ _ | apply below_alloc | apply below_drew | apply pw_below_drewN | refine below_set ?_ (Nat.le_refl _) | refine below_step ?_ hb3))
set_option maxHeartbeats 1600000 in
theorem w_sentData_3 (w : World) (hG : GL w) : Calls Tryd.prog 66 #[.int .i64 3] w fun e w' => e = .returned (.tuple #[.int .i64 3, .agg #[.int .i64 0, .int .i64 0]]) ∧ Below w.heap.size w w' := by
  have hG := Aside0.mk hG
  obtain ⟨g00, g01, g10, g11, g20, g21, g30, g31, g40, g41, g50, g51, z0, z1, z2, z3, z4, z5⟩ := hG.out.all
  go_enter Tryd.func66, Tryd.ntmps66
  go_wp2_with (first | (go_at_call 41; refine (state_is.calls 9 (3) (some (Addr.mk (w.heap.size + 1) 0 none)) 2 ([3, 5] : List Int) true _ (by exact C_new _ _ [3, 5] (by decide) _ (by simp)) (by decide) (by decide +kernel)).mono ?_; rintro e w2 ⟨rfl, ⟨⟨nd, rfl⟩⟩⟩))
  all_goals (try (go_region; go_wp2))
  all_goals (refine bodyPost_ret (v := .tuple #[.int .i64 3, .agg #[.int .i64 0, .int .i64 0]]) (by simp [results, Tryd.results66, go_sem]) rfl ⟨rfl, ?_⟩)
  all_goals (repeat (first | exact Below.refl _ _ | apply below_alloc | apply below_drew | apply pw_below_drewN | refine below_set ?_ (Nat.le_refl _) | refine below_step ?_ hb3))
set_option maxHeartbeats 1600000 in
theorem w_sentData_4 (w : World) (hG : GL w) : Calls Tryd.prog 66 #[.int .i64 4] w fun e w' => e = .returned (.tuple #[.int .i64 4, .agg #[.int .i64 4, .int .i64 0]]) ∧ Below w.heap.size w w' := by
  have hG := Aside0.mk hG
  obtain ⟨g00, g01, g10, g11, g20, g21, g30, g31, g40, g41, g50, g51, z0, z1, z2, z3, z4, z5⟩ := hG.out.all
  go_enter Tryd.func66, Tryd.ntmps66
  go_wp2_with (first | (go_at_call 41; refine (state_is.calls 9 (4) (some (Addr.mk (w.heap.size + 1) 0 none)) 2 ([3, 5] : List Int) false _ (by exact C_new _ _ [3, 5] (by decide) _ (by simp)) (by decide) (by decide +kernel)).mono ?_; rintro e w2 ⟨rfl, ⟨⟨nd, rfl⟩⟩⟩))
  all_goals (try (go_region; go_wp2))
  all_goals (refine bodyPost_ret (v := .tuple #[.int .i64 4, .agg #[.int .i64 4, .int .i64 0]]) (by simp [results, Tryd.results66, go_sem]) rfl ⟨rfl, ?_⟩)
  all_goals (repeat (first | exact Below.refl _ _ | apply below_alloc | apply below_drew | apply pw_below_drewN | refine below_set ?_ (Nat.le_refl _) | refine below_step ?_ hb3))
set_option maxHeartbeats 1600000 in
theorem w_sentData_5 (w : World) (hG : GL w) : Calls Tryd.prog 66 #[.int .i64 5] w fun e w' => e = .returned (.tuple #[.int .i64 5, .agg #[.int .i64 0, .int .i64 0]]) ∧ Below w.heap.size w w' := by
  have hG := Aside0.mk hG
  obtain ⟨g00, g01, g10, g11, g20, g21, g30, g31, g40, g41, g50, g51, z0, z1, z2, z3, z4, z5⟩ := hG.out.all
  go_enter Tryd.func66, Tryd.ntmps66
  go_wp2_with (first | (go_at_call 41; refine (state_is.calls 9 (5) (some (Addr.mk (w.heap.size + 1) 0 none)) 2 ([3, 5] : List Int) true _ (by exact C_new _ _ [3, 5] (by decide) _ (by simp)) (by decide) (by decide +kernel)).mono ?_; rintro e w2 ⟨rfl, ⟨⟨nd, rfl⟩⟩⟩))
  all_goals (try (go_region; go_wp2))
  all_goals (refine bodyPost_ret (v := .tuple #[.int .i64 5, .agg #[.int .i64 0, .int .i64 0]]) (by simp [results, Tryd.results66, go_sem]) rfl ⟨rfl, ?_⟩)
  all_goals (repeat (first | exact Below.refl _ _ | apply below_alloc | apply below_drew | apply pw_below_drewN | refine below_set ?_ (Nat.le_refl _) | refine below_step ?_ hb3))
set_option maxHeartbeats 1600000 in
theorem w_sentData_6 (w : World) (hG : GL w) : Calls Tryd.prog 66 #[.int .i64 6] w fun e w' => e = .returned (.tuple #[.int .i64 6, .agg #[.int .i64 4, .int .i64 0]]) ∧ Below w.heap.size w w' := by
  have hG := Aside0.mk hG
  obtain ⟨g00, g01, g10, g11, g20, g21, g30, g31, g40, g41, g50, g51, z0, z1, z2, z3, z4, z5⟩ := hG.out.all
  go_enter Tryd.func66, Tryd.ntmps66
  go_wp2_with (first | (go_at_call 41; refine (state_is.calls 9 (6) (some (Addr.mk (w.heap.size + 1) 0 none)) 2 ([3, 5] : List Int) false _ (by exact C_new _ _ [3, 5] (by decide) _ (by simp)) (by decide) (by decide +kernel)).mono ?_; rintro e w2 ⟨rfl, ⟨⟨nd, rfl⟩⟩⟩))
  all_goals (try (go_region; go_wp2))
  all_goals (refine bodyPost_ret (v := .tuple #[.int .i64 6, .agg #[.int .i64 4, .int .i64 0]]) (by simp [results, Tryd.results66, go_sem]) rfl ⟨rfl, ?_⟩)
  all_goals (repeat (first | exact Below.refl _ _ | apply below_alloc | apply below_drew | apply pw_below_drewN | refine below_set ?_ (Nat.le_refl _) | refine below_step ?_ hb3))
set_option maxHeartbeats 1600000 in
set_option maxHeartbeats 1600000 in
theorem w_sentPromise_0 (w : World) (hG : GL w) : Calls Tryd.prog 70 #[.int .i64 0] w fun e w' => e = .returned (.tuple #[.int .i64 1, .agg #[.int .i64 0, .int .i64 0]]) ∧ Below w.heap.size w w' := by
  have hG := Aside0.mk hG
  obtain ⟨g00, g01, g10, g11, g20, g21, g30, g31, g40, g41, g50, g51, z0, z1, z2, z3, z4, z5⟩ := hG.out.all
  go_enter Tryd.func70, Tryd.ntmps70
  go_wp2
  all_goals (try (go_region; go_wp2))
  all_goals (refine bodyPost_ret (v := .tuple #[.int .i64 1, .agg #[.int .i64 0, .int .i64 0]]) (by simp [results, Tryd.results70, go_sem]) rfl ⟨rfl, ?_⟩)
  all_goals (repeat (first | exact Below.refl _ _ | apply below_alloc | apply below_drew | apply pw_below_drewN | refine below_set ?_ (Nat.le_refl _) | refine below_step ?_ hb3))
set_option maxHeartbeats 1600000 in
theorem w_sentPromise_1 (w : World) (hG : GL w) : Calls Tryd.prog 70 #[.int .i64 1] w fun e w' => e = .returned (.tuple #[.int .i64 1, .agg #[.int .i64 4, .int .i64 0]]) ∧ Below w.heap.size w w' := by
  have hG := Aside0.mk hG
  obtain ⟨g00, g01, g10, g11, g20, g21, g30, g31, g40, g41, g50, g51, z0, z1, z2, z3, z4, z5⟩ := hG.out.all
  go_enter Tryd.func70, Tryd.ntmps70
  go_wp2
  all_goals (try (go_region; go_wp2))
  all_goals (refine bodyPost_ret (v := .tuple #[.int .i64 1, .agg #[.int .i64 4, .int .i64 0]]) (by simp [results, Tryd.results70, go_sem]) rfl ⟨rfl, ?_⟩)
  all_goals (repeat (first | exact Below.refl _ _ | apply below_alloc | apply below_drew | apply pw_below_drewN | refine below_set ?_ (Nat.le_refl _) | refine below_step ?_ hb3))
set_option maxHeartbeats 1600000 in
theorem w_sentPromise_2 (w : World) (hG : GL w) : Calls Tryd.prog 70 #[.int .i64 2] w fun e w' => e = .returned (.tuple #[.int .i64 2, .agg #[.int .i64 4, .int .i64 0]]) ∧ Below w.heap.size w w' := by
  have hG := Aside0.mk hG
  obtain ⟨g00, g01, g10, g11, g20, g21, g30, g31, g40, g41, g50, g51, z0, z1, z2, z3, z4, z5⟩ := hG.out.all
  go_enter Tryd.func70, Tryd.ntmps70
  go_wp2
  all_goals (try (go_region; go_wp2))
  all_goals (refine bodyPost_ret (v := .tuple #[.int .i64 2, .agg #[.int .i64 4, .int .i64 0]]) (by simp [results, Tryd.results70, go_sem]) rfl ⟨rfl, ?_⟩)
  all_goals (repeat (first | exact Below.refl _ _ | apply below_alloc | apply below_drew | apply pw_below_drewN | refine below_set ?_ (Nat.le_refl _) | refine below_step ?_ hb3))
set_option maxHeartbeats 1600000 in
theorem w_sentPromise_3 (w : World) (hG : GL w) : Calls Tryd.prog 70 #[.int .i64 3] w fun e w' => e = .returned (.tuple #[.int .i64 3, .agg #[.int .i64 4, .int .i64 0]]) ∧ Below w.heap.size w w' := by
  have hG := Aside0.mk hG
  obtain ⟨g00, g01, g10, g11, g20, g21, g30, g31, g40, g41, g50, g51, z0, z1, z2, z3, z4, z5⟩ := hG.out.all
  go_enter Tryd.func70, Tryd.ntmps70
  go_wp2
  all_goals (try (go_region; go_wp2))
  all_goals (refine bodyPost_ret (v := .tuple #[.int .i64 3, .agg #[.int .i64 4, .int .i64 0]]) (by simp [results, Tryd.results70, go_sem]) rfl ⟨rfl, ?_⟩)
  all_goals (repeat (first | exact Below.refl _ _ | apply below_alloc | apply below_drew | apply pw_below_drewN | refine below_set ?_ (Nat.le_refl _) | refine below_step ?_ hb3))
set_option maxHeartbeats 1600000 in
theorem w_sentPromise_4 (w : World) (hG : GL w) : Calls Tryd.prog 70 #[.int .i64 4] w fun e w' => e = .returned (.tuple #[.int .i64 4, .agg #[.int .i64 4, .int .i64 0]]) ∧ Below w.heap.size w w' := by
  have hG := Aside0.mk hG
  obtain ⟨g00, g01, g10, g11, g20, g21, g30, g31, g40, g41, g50, g51, z0, z1, z2, z3, z4, z5⟩ := hG.out.all
  go_enter Tryd.func70, Tryd.ntmps70
  go_wp2
  all_goals (try (go_region; go_wp2))
  all_goals (refine bodyPost_ret (v := .tuple #[.int .i64 4, .agg #[.int .i64 4, .int .i64 0]]) (by simp [results, Tryd.results70, go_sem]) rfl ⟨rfl, ?_⟩)
  all_goals (repeat (first | exact Below.refl _ _ | apply below_alloc | apply below_drew | apply pw_below_drewN | refine below_set ?_ (Nat.le_refl _) | refine below_step ?_ hb3))
set_option maxHeartbeats 1600000 in
theorem w_sentPromise_5 (w : World) (hG : GL w) : Calls Tryd.prog 70 #[.int .i64 5] w fun e w' => e = .returned (.tuple #[.int .i64 5, .agg #[.int .i64 4, .int .i64 0]]) ∧ Below w.heap.size w w' := by
  have hG := Aside0.mk hG
  obtain ⟨g00, g01, g10, g11, g20, g21, g30, g31, g40, g41, g50, g51, z0, z1, z2, z3, z4, z5⟩ := hG.out.all
  go_enter Tryd.func70, Tryd.ntmps70
  go_wp2
  all_goals (try (go_region; go_wp2))
  all_goals (refine bodyPost_ret (v := .tuple #[.int .i64 5, .agg #[.int .i64 4, .int .i64 0]]) (by simp [results, Tryd.results70, go_sem]) rfl ⟨rfl, ?_⟩)
  all_goals (repeat (first | exact Below.refl _ _ | apply below_alloc | apply below_drew | apply pw_below_drewN | refine below_set ?_ (Nat.le_refl _) | refine below_step ?_ hb3))
set_option maxHeartbeats 1600000 in
theorem w_sentPromise_6 (w : World) (hG : GL w) : Calls Tryd.prog 70 #[.int .i64 6] w fun e w' => e = .returned (.tuple #[.int .i64 6, .agg #[.int .i64 4, .int .i64 0]]) ∧ Below w.heap.size w w' := by
  have hG := Aside0.mk hG
  obtain ⟨g00, g01, g10, g11, g20, g21, g30, g31, g40, g41, g50, g51, z0, z1, z2, z3, z4, z5⟩ := hG.out.all
  go_enter Tryd.func70, Tryd.ntmps70
  go_wp2
  all_goals (try (go_region; go_wp2))
  all_goals (refine bodyPost_ret (v := .tuple #[.int .i64 6, .agg #[.int .i64 4, .int .i64 0]]) (by simp [results, Tryd.results70, go_sem]) rfl ⟨rfl, ?_⟩)
  all_goals (repeat (first | exact Below.refl _ _ | apply below_alloc | apply below_drew | apply pw_below_drewN | refine below_set ?_ (Nat.le_refl _) | refine below_step ?_ hb3))
set_option maxHeartbeats 1600000 in
set_option maxHeartbeats 1600000 in
theorem w_sentReset_0 (w : World) (hG : GL w) : Calls Tryd.prog 72 #[.int .i64 0] w fun e w' => e = .returned (.tuple #[.int .i64 0, .agg #[.int .i64 4, .int .i64 0]]) ∧ Below w.heap.size w w' := by
  have hG := Aside0.mk hG
  obtain ⟨g00, g01, g10, g11, g20, g21, g30, g31, g40, g41, g50, g51, z0, z1, z2, z3, z4, z5⟩ := hG.out.all
  go_enter Tryd.func72, Tryd.ntmps72
  go_wp2_with (first | (go_at_call 41; refine (state_is.calls 9 (0) (some (Addr.mk (w.heap.size + 1) 0 none)) 2 ([0, 6] : List Int) true _ (by exact C_new _ _ [0, 6] (by decide) _ (by simp)) (by decide) (by decide +kernel)).mono ?_; rintro e w2 ⟨rfl, ⟨⟨nd, rfl⟩⟩⟩))
  all_goals (try (go_region; go_wp2))
  all_goals (refine bodyPost_ret (v := .tuple #[.int .i64 0, .agg #[.int .i64 4, .int .i64 0]]) (by simp [results, Tryd.results72, go_sem]) rfl ⟨rfl, ?_⟩)
  all_goals (repeat (first | exact Below.refl _ _ | apply below_alloc | apply below_drew | apply pw_below_drewN | refine below_set ?_ (Nat.le_refl _) | refine below_step ?_ hb3))
set_option maxHeartbeats 1600000 in
theorem w_sentReset_1 (w : World) (hG : GL w) : Calls Tryd.prog 72 #[.int .i64 1] w fun e w' => e = .returned (.tuple #[.int .i64 6, .agg #[.int .i64 0, .int .i64 0]]) ∧ Below w.heap.size w w' := by
  have hG := Aside0.mk hG
  obtain ⟨g00, g01, g10, g11, g20, g21, g30, g31, g40, g41, g50, g51, z0, z1, z2, z3, z4, z5⟩ := hG.out.all
  go_enter Tryd.func72, Tryd.ntmps72
  go_wp2_with (first | (go_at_call 41; refine (state_is.calls 9 (1) (some (Addr.mk (w.heap.size + 1) 0 none)) 2 ([0, 6] : List Int) false _ (by exact C_new _ _ [0, 6] (by decide) _ (by simp)) (by decide) (by decide +kernel)).mono ?_; rintro e w2 ⟨rfl, ⟨⟨nd, rfl⟩⟩⟩))
  all_goals (try (go_region; go_wp2))
  all_goals (refine bodyPost_ret (v := .tuple #[.int .i64 6, .agg #[.int .i64 0, .int .i64 0]]) (by simp [results, Tryd.results72, go_sem]) rfl ⟨rfl, ?_⟩)
  all_goals (repeat (first | exact Below.refl _ _ | apply below_alloc | apply below_drew | apply pw_below_drewN | refine below_set ?_ (Nat.le_refl _) | refine below_step ?_ hb3))
set_option maxHeartbeats 1600000 in
theorem w_sentReset_2 (w : World) (hG : GL w) : Calls Tryd.prog 72 #[.int .i64 2] w fun e w' => e = .returned (.tuple #[.int .i64 6, .agg #[.int .i64 0, .int .i64 0]]) ∧ Below w.heap.size w w' := by
  have hG := Aside0.mk hG
  obtain ⟨g00, g01, g10, g11, g20, g21, g30, g31, g40, g41, g50, g51, z0, z1, z2, z3, z4, z5⟩ := hG.out.all
  go_enter Tryd.func72, Tryd.ntmps72
  go_wp2_with (first | (go_at_call 41; refine (state_is.calls 9 (2) (some (Addr.mk (w.heap.size + 1) 0 none)) 2 ([0, 6] : List Int) false _ (by exact C_new _ _ [0, 6] (by decide) _ (by simp)) (by decide) (by decide +kernel)).mono ?_; rintro e w2 ⟨rfl, ⟨⟨nd, rfl⟩⟩⟩))
  all_goals (try (go_region; go_wp2))
  all_goals (refine bodyPost_ret (v := .tuple #[.int .i64 6, .agg #[.int .i64 0, .int .i64 0]]) (by simp [results, Tryd.results72, go_sem]) rfl ⟨rfl, ?_⟩)
  all_goals (repeat (first | exact Below.refl _ _ | apply below_alloc | apply below_drew | apply pw_below_drewN | refine below_set ?_ (Nat.le_refl _) | refine below_step ?_ hb3))
set_option maxHeartbeats 1600000 in
theorem w_sentReset_3 (w : World) (hG : GL w) : Calls Tryd.prog 72 #[.int .i64 3] w fun e w' => e = .returned (.tuple #[.int .i64 6, .agg #[.int .i64 0, .int .i64 0]]) ∧ Below w.heap.size w w' := by
  have hG := Aside0.mk hG
  obtain ⟨g00, g01, g10, g11, g20, g21, g30, g31, g40, g41, g50, g51, z0, z1, z2, z3, z4, z5⟩ := hG.out.all
  go_enter Tryd.func72, Tryd.ntmps72
  go_wp2_with (first | (go_at_call 41; refine (state_is.calls 9 (3) (some (Addr.mk (w.heap.size + 1) 0 none)) 2 ([0, 6] : List Int) false _ (by exact C_new _ _ [0, 6] (by decide) _ (by simp)) (by decide) (by decide +kernel)).mono ?_; rintro e w2 ⟨rfl, ⟨⟨nd, rfl⟩⟩⟩))
  all_goals (try (go_region; go_wp2))
  all_goals (refine bodyPost_ret (v := .tuple #[.int .i64 6, .agg #[.int .i64 0, .int .i64 0]]) (by simp [results, Tryd.results72, go_sem]) rfl ⟨rfl, ?_⟩)
  all_goals (repeat (first | exact Below.refl _ _ | apply below_alloc | apply below_drew | apply pw_below_drewN | refine below_set ?_ (Nat.le_refl _) | refine below_step ?_ hb3))
set_option maxHeartbeats 1600000 in
theorem w_sentReset_4 (w : World) (hG : GL w) : Calls Tryd.prog 72 #[.int .i64 4] w fun e w' => e = .returned (.tuple #[.int .i64 6, .agg #[.int .i64 0, .int .i64 0]]) ∧ Below w.heap.size w w' := by
  have hG := Aside0.mk hG
  obtain ⟨g00, g01, g10, g11, g20, g21, g30, g31, g40, g41, g50, g51, z0, z1, z2, z3, z4, z5⟩ := hG.out.all
  go_enter Tryd.func72, Tryd.ntmps72
  go_wp2_with (first | (go_at_call 41; refine (state_is.calls 9 (4) (some (Addr.mk (w.heap.size + 1) 0 none)) 2 ([0, 6] : List Int) false _ (by exact C_new _ _ [0, 6] (by decide) _ (by simp)) (by decide) (by decide +kernel)).mono ?_; rintro e w2 ⟨rfl, ⟨⟨nd, rfl⟩⟩⟩))
  all_goals (try (go_region; go_wp2))
  all_goals (refine bodyPost_ret (v := .tuple #[.int .i64 6, .agg #[.int .i64 0, .int .i64 0]]) (by simp [results, Tryd.results72, go_sem]) rfl ⟨rfl, ?_⟩)
  all_goals (repeat (first | exact Below.refl _ _ | apply below_alloc | apply below_drew | apply pw_below_drewN | refine below_set ?_ (Nat.le_refl _) | refine below_step ?_ hb3))
set_option maxHeartbeats 1600000 in
theorem w_sentReset_5 (w : World) (hG : GL w) : Calls Tryd.prog 72 #[.int .i64 5] w fun e w' => e = .returned (.tuple #[.int .i64 6, .agg #[.int .i64 0, .int .i64 0]]) ∧ Below w.heap.size w w' := by
  have hG := Aside0.mk hG
  obtain ⟨g00, g01, g10, g11, g20, g21, g30, g31, g40, g41, g50, g51, z0, z1, z2, z3, z4, z5⟩ := hG.out.all
  go_enter Tryd.func72, Tryd.ntmps72
  go_wp2_with (first | (go_at_call 41; refine (state_is.calls 9 (5) (some (Addr.mk (w.heap.size + 1) 0 none)) 2 ([0, 6] : List Int) false _ (by exact C_new _ _ [0, 6] (by decide) _ (by simp)) (by decide) (by decide +kernel)).mono ?_; rintro e w2 ⟨rfl, ⟨⟨nd, rfl⟩⟩⟩))
  all_goals (try (go_region; go_wp2))
  all_goals (refine bodyPost_ret (v := .tuple #[.int .i64 6, .agg #[.int .i64 0, .int .i64 0]]) (by simp [results, Tryd.results72, go_sem]) rfl ⟨rfl, ?_⟩)
  all_goals (repeat (first | exact Below.refl _ _ | apply below_alloc | apply below_drew | apply pw_below_drewN | refine below_set ?_ (Nat.le_refl _) | refine below_step ?_ hb3))
set_option maxHeartbeats 1600000 in
theorem w_sentReset_6 (w : World) (hG : GL w) : Calls Tryd.prog 72 #[.int .i64 6] w fun e w' => e = .returned (.tuple #[.int .i64 6, .agg #[.int .i64 4, .int .i64 0]]) ∧ Below w.heap.size w w' := by
  have hG := Aside0.mk hG
  obtain ⟨g00, g01, g10, g11, g20, g21, g30, g31, g40, g41, g50, g51, z0, z1, z2, z3, z4, z5⟩ := hG.out.all
  go_enter Tryd.func72, Tryd.ntmps72
  go_wp2_with (first | (go_at_call 41; refine (state_is.calls 9 (6) (some (Addr.mk (w.heap.size + 1) 0 none)) 2 ([0, 6] : List Int) true _ (by exact C_new _ _ [0, 6] (by decide) _ (by simp)) (by decide) (by decide +kernel)).mono ?_; rintro e w2 ⟨rfl, ⟨⟨nd, rfl⟩⟩⟩))
  all_goals (try (go_region; go_wp2))
  all_goals (refine bodyPost_ret (v := .tuple #[.int .i64 6, .agg #[.int .i64 4, .int .i64 0]]) (by simp [results, Tryd.results72, go_sem]) rfl ⟨rfl, ?_⟩)
  all_goals (repeat (first | exact Below.refl _ _ | apply below_alloc | apply below_drew | apply pw_below_drewN | refine below_set ?_ (Nat.le_refl _) | refine below_step ?_ hb3))
set_option maxHeartbeats 1600000 in
set_option maxHeartbeats 1600000 in
theorem w_sentWindow_0 (w : World) (hG : GL w) : Calls Tryd.prog 74 #[.int .i64 0] w fun e w' => e = .returned (.tuple #[.int .i64 0, .agg #[.int .i64 4, .int .i64 0]]) ∧ Below w.heap.size w w' := by
  have hG := Aside0.mk hG
  obtain ⟨g00, g01, g10, g11, g20, g21, g30, g31, g40, g41, g50, g51, z0, z1, z2, z3, z4, z5⟩ := hG.out.all
  go_enter Tryd.func74, Tryd.ntmps74
  go_wp2_with (first | (go_at_call 41; refine (state_is.calls 9 (0) (some (Addr.mk (w.heap.size + 1) 0 none)) 4 ([2, 3, 4, 5] : List Int) false _ (by exact C_new _ _ [2, 3, 4, 5] (by decide) _ (by simp)) (by decide) (by decide +kernel)).mono ?_; rintro e w2 ⟨rfl, ⟨⟨nd, rfl⟩⟩⟩))
  all_goals (try (go_region; go_wp2))
  all_goals (refine bodyPost_ret (v := .tuple #[.int .i64 0, .agg #[.int .i64 4, .int .i64 0]]) (by simp [results, Tryd.results74, go_sem]) rfl ⟨rfl, ?_⟩)
  all_goals (repeat (first | exact Below.refl _ _ | apply below_alloc | apply below_drew | apply pw_below_drewN | refine below_set ?_ (Nat.le_refl _) | refine below_step ?_ hb3))
set_option maxHeartbeats 1600000 in
theorem w_sentWindow_1 (w : World) (hG : GL w) : Calls Tryd.prog 74 #[.int .i64 1] w fun e w' => e = .returned (.tuple #[.int .i64 1, .agg #[.int .i64 4, .int .i64 0]]) ∧ Below w.heap.size w w' := by
  have hG := Aside0.mk hG
  obtain ⟨g00, g01, g10, g11, g20, g21, g30, g31, g40, g41, g50, g51, z0, z1, z2, z3, z4, z5⟩ := hG.out.all
  go_enter Tryd.func74, Tryd.ntmps74
  go_wp2_with (first | (go_at_call 41; refine (state_is.calls 9 (1) (some (Addr.mk (w.heap.size + 1) 0 none)) 4 ([2, 3, 4, 5] : List Int) false _ (by exact C_new _ _ [2, 3, 4, 5] (by decide) _ (by simp)) (by decide) (by decide +kernel)).mono ?_; rintro e w2 ⟨rfl, ⟨⟨nd, rfl⟩⟩⟩))
  all_goals (try (go_region; go_wp2))
  all_goals (refine bodyPost_ret (v := .tuple #[.int .i64 1, .agg #[.int .i64 4, .int .i64 0]]) (by simp [results, Tryd.results74, go_sem]) rfl ⟨rfl, ?_⟩)
  all_goals (repeat (first | exact Below.refl _ _ | apply below_alloc | apply below_drew | apply pw_below_drewN | refine below_set ?_ (Nat.le_refl _) | refine below_step ?_ hb3))
set_option maxHeartbeats 1600000 in
theorem w_sentWindow_2 (w : World) (hG : GL w) : Calls Tryd.prog 74 #[.int .i64 2] w fun e w' => e = .returned (.tuple #[.int .i64 2, .agg #[.int .i64 0, .int .i64 0]]) ∧ Below w.heap.size w w' := by
  have hG := Aside0.mk hG
  obtain ⟨g00, g01, g10, g11, g20, g21, g30, g31, g40, g41, g50, g51, z0, z1, z2, z3, z4, z5⟩ := hG.out.all
  go_enter Tryd.func74, Tryd.ntmps74
  go_wp2_with (first | (go_at_call 41; refine (state_is.calls 9 (2) (some (Addr.mk (w.heap.size + 1) 0 none)) 4 ([2, 3, 4, 5] : List Int) true _ (by exact C_new _ _ [2, 3, 4, 5] (by decide) _ (by simp)) (by decide) (by decide +kernel)).mono ?_; rintro e w2 ⟨rfl, ⟨⟨nd, rfl⟩⟩⟩))
  all_goals (try (go_region; go_wp2))
  all_goals (refine bodyPost_ret (v := .tuple #[.int .i64 2, .agg #[.int .i64 0, .int .i64 0]]) (by simp [results, Tryd.results74, go_sem]) rfl ⟨rfl, ?_⟩)
  all_goals (repeat (first | exact Below.refl _ _ | apply below_alloc | apply below_drew | apply pw_below_drewN | refine below_set ?_ (Nat.le_refl _) | refine below_step ?_ hb3))
set_option maxHeartbeats 1600000 in
theorem w_sentWindow_3 (w : World) (hG : GL w) : Calls Tryd.prog 74 #[.int .i64 3] w fun e w' => e = .returned (.tuple #[.int .i64 3, .agg #[.int .i64 0, .int .i64 0]]) ∧ Below w.heap.size w w' := by
  have hG := Aside0.mk hG
  obtain ⟨g00, g01, g10, g11, g20, g21, g30, g31, g40, g41, g50, g51, z0, z1, z2, z3, z4, z5⟩ := hG.out.all
  go_enter Tryd.func74, Tryd.ntmps74
  go_wp2_with (first | (go_at_call 41; refine (state_is.calls 9 (3) (some (Addr.mk (w.heap.size + 1) 0 none)) 4 ([2, 3, 4, 5] : List Int) true _ (by exact C_new _ _ [2, 3, 4, 5] (by decide) _ (by simp)) (by decide) (by decide +kernel)).mono ?_; rintro e w2 ⟨rfl, ⟨⟨nd, rfl⟩⟩⟩))
  all_goals (try (go_region; go_wp2))
  all_goals (refine bodyPost_ret (v := .tuple #[.int .i64 3, .agg #[.int .i64 0, .int .i64 0]]) (by simp [results, Tryd.results74, go_sem]) rfl ⟨rfl, ?_⟩)
  all_goals (repeat (first | exact Below.refl _ _ | apply below_alloc | apply below_drew | apply pw_below_drewN | refine below_set ?_ (Nat.le_refl _) | refine below_step ?_ hb3))
set_option maxHeartbeats 1600000 in
theorem w_sentWindow_4 (w : World) (hG : GL w) : Calls Tryd.prog 74 #[.int .i64 4] w fun e w' => e = .returned (.tuple #[.int .i64 4, .agg #[.int .i64 0, .int .i64 0]]) ∧ Below w.heap.size w w' := by
  have hG := Aside0.mk hG
  obtain ⟨g00, g01, g10, g11, g20, g21, g30, g31, g40, g41, g50, g51, z0, z1, z2, z3, z4, z5⟩ := hG.out.all
  go_enter Tryd.func74, Tryd.ntmps74
  go_wp2_with (first | (go_at_call 41; refine (state_is.calls 9 (4) (some (Addr.mk (w.heap.size + 1) 0 none)) 4 ([2, 3, 4, 5] : List Int) true _ (by exact C_new _ _ [2, 3, 4, 5] (by decide) _ (by simp)) (by decide) (by decide +kernel)).mono ?_; rintro e w2 ⟨rfl, ⟨⟨nd, rfl⟩⟩⟩))
  all_goals (try (go_region; go_wp2))
  all_goals (refine bodyPost_ret (v := .tuple #[.int .i64 4, .agg #[.int .i64 0, .int .i64 0]]) (by simp [results, Tryd.results74, go_sem]) rfl ⟨rfl, ?_⟩)
  all_goals (repeat (first | exact Below.refl _ _ | apply below_alloc | apply below_drew | apply pw_below_drewN | refine below_set ?_ (Nat.le_refl _) | refine below_step ?_ hb3))
set_option maxHeartbeats 1600000 in
theorem w_sentWindow_5 (w : World) (hG : GL w) : Calls Tryd.prog 74 #[.int .i64 5] w fun e w' => e = .returned (.tuple #[.int .i64 5, .agg #[.int .i64 0, .int .i64 0]]) ∧ Below w.heap.size w w' := by
  have hG := Aside0.mk hG
  obtain ⟨g00, g01, g10, g11, g20, g21, g30, g31, g40, g41, g50, g51, z0, z1, z2, z3, z4, z5⟩ := hG.out.all
  go_enter Tryd.func74, Tryd.ntmps74
  go_wp2_with (first | (go_at_call 41; refine (state_is.calls 9 (5) (some (Addr.mk (w.heap.size + 1) 0 none)) 4 ([2, 3, 4, 5] : List Int) true _ (by exact C_new _ _ [2, 3, 4, 5] (by decide) _ (by simp)) (by decide) (by decide +kernel)).mono ?_; rintro e w2 ⟨rfl, ⟨⟨nd, rfl⟩⟩⟩))
  all_goals (try (go_region; go_wp2))
  all_goals (refine bodyPost_ret (v := .tuple #[.int .i64 5, .agg #[.int .i64 0, .int .i64 0]]) (by simp [results, Tryd.results74, go_sem]) rfl ⟨rfl, ?_⟩)
  all_goals (repeat (first | exact Below.refl _ _ | apply below_alloc | apply below_drew | apply pw_below_drewN | refine below_set ?_ (Nat.le_refl _) | refine below_step ?_ hb3))
set_option maxHeartbeats 1600000 in
theorem w_sentWindow_6 (w : World) (hG : GL w) : Calls Tryd.prog 74 #[.int .i64 6] w fun e w' => e = .returned (.tuple #[.int .i64 6, .agg #[.int .i64 4, .int .i64 0]]) ∧ Below w.heap.size w w' := by
  have hG := Aside0.mk hG
  obtain ⟨g00, g01, g10, g11, g20, g21, g30, g31, g40, g41, g50, g51, z0, z1, z2, z3, z4, z5⟩ := hG.out.all
  go_enter Tryd.func74, Tryd.ntmps74
  go_wp2_with (first | (go_at_call 41; refine (state_is.calls 9 (6) (some (Addr.mk (w.heap.size + 1) 0 none)) 4 ([2, 3, 4, 5] : List Int) false _ (by exact C_new _ _ [2, 3, 4, 5] (by decide) _ (by simp)) (by decide) (by decide +kernel)).mono ?_; rintro e w2 ⟨rfl, ⟨⟨nd, rfl⟩⟩⟩))
  all_goals (try (go_region; go_wp2))
  all_goals (refine bodyPost_ret (v := .tuple #[.int .i64 6, .agg #[.int .i64 4, .int .i64 0]]) (by simp [results, Tryd.results74, go_sem]) rfl ⟨rfl, ?_⟩)
  all_goals (repeat (first | exact Below.refl _ _ | apply below_alloc | apply below_drew | apply pw_below_drewN | refine below_set ?_ (Nat.le_refl _) | refine below_step ?_ hb3))
set_option maxHeartbeats 1600000 in
set_option maxHeartbeats 1600000 in
theorem w_sentPriority_0 (w : World) (hG : GL w) : Calls Tryd.prog 76 #[.int .i64 0] w fun e w' => e = .returned (.tuple #[.int .i64 0, .agg #[.int .i64 0, .int .i64 0]]) ∧ Below w.heap.size w w' := by
  have hG := Aside0.mk hG
  obtain ⟨g00, g01, g10, g11, g20, g21, g30, g31, g40, g41, g50, g51, z0, z1, z2, z3, z4, z5⟩ := hG.out.all
  go_enter Tryd.func76, Tryd.ntmps76
  go_wp2
  all_goals (try (go_region; go_wp2))
  all_goals (refine bodyPost_ret (v := .tuple #[.int .i64 0, .agg #[.int .i64 0, .int .i64 0]]) (by simp [results, Tryd.results76, go_sem]) rfl ⟨rfl, ?_⟩)
  all_goals (repeat (first | exact Below.refl _ _ | apply below_alloc | apply below_drew | apply pw_below_drewN | refine below_set ?_ (Nat.le_refl _) | refine below_step ?_ hb3))
set_option maxHeartbeats 1600000 in
theorem w_sentPriority_1 (w : World) (hG : GL w) : Calls Tryd.prog 76 #[.int .i64 1] w fun e w' => e = .returned (.tuple #[.int .i64 1, .agg #[.int .i64 0, .int .i64 0]]) ∧ Below w.heap.size w w' := by
  have hG := Aside0.mk hG
  obtain ⟨g00, g01, g10, g11, g20, g21, g30, g31, g40, g41, g50, g51, z0, z1, z2, z3, z4, z5⟩ := hG.out.all
  go_enter Tryd.func76, Tryd.ntmps76
  go_wp2
  all_goals (try (go_region; go_wp2))
  all_goals (refine bodyPost_ret (v := .tuple #[.int .i64 1, .agg #[.int .i64 0, .int .i64 0]]) (by simp [results, Tryd.results76, go_sem]) rfl ⟨rfl, ?_⟩)
  all_goals (repeat (first | exact Below.refl _ _ | apply below_alloc | apply below_drew | apply pw_below_drewN | refine below_set ?_ (Nat.le_refl _) | refine below_step ?_ hb3))
set_option maxHeartbeats 1600000 in
theorem w_sentPriority_2 (w : World) (hG : GL w) : Calls Tryd.prog 76 #[.int .i64 2] w fun e w' => e = .returned (.tuple #[.int .i64 2, .agg #[.int .i64 0, .int .i64 0]]) ∧ Below w.heap.size w w' := by
  have hG := Aside0.mk hG
  obtain ⟨g00, g01, g10, g11, g20, g21, g30, g31, g40, g41, g50, g51, z0, z1, z2, z3, z4, z5⟩ := hG.out.all
  go_enter Tryd.func76, Tryd.ntmps76
  go_wp2
  all_goals (try (go_region; go_wp2))
  all_goals (refine bodyPost_ret (v := .tuple #[.int .i64 2, .agg #[.int .i64 0, .int .i64 0]]) (by simp [results, Tryd.results76, go_sem]) rfl ⟨rfl, ?_⟩)
  all_goals (repeat (first | exact Below.refl _ _ | apply below_alloc | apply below_drew | apply pw_below_drewN | refine below_set ?_ (Nat.le_refl _) | refine below_step ?_ hb3))
set_option maxHeartbeats 1600000 in
theorem w_sentPriority_3 (w : World) (hG : GL w) : Calls Tryd.prog 76 #[.int .i64 3] w fun e w' => e = .returned (.tuple #[.int .i64 3, .agg #[.int .i64 0, .int .i64 0]]) ∧ Below w.heap.size w w' := by
  have hG := Aside0.mk hG
  obtain ⟨g00, g01, g10, g11, g20, g21, g30, g31, g40, g41, g50, g51, z0, z1, z2, z3, z4, z5⟩ := hG.out.all
  go_enter Tryd.func76, Tryd.ntmps76
  go_wp2
  all_goals (try (go_region; go_wp2))
  all_goals (refine bodyPost_ret (v := .tuple #[.int .i64 3, .agg #[.int .i64 0, .int .i64 0]]) (by simp [results, Tryd.results76, go_sem]) rfl ⟨rfl, ?_⟩)
  all_goals (repeat (first | exact Below.refl _ _ | apply below_alloc | apply below_drew | apply pw_below_drewN | refine below_set ?_ (Nat.le_refl _) | refine below_step ?_ hb3))
set_option maxHeartbeats 1600000 in
theorem w_sentPriority_4 (w : World) (hG : GL w) : Calls Tryd.prog 76 #[.int .i64 4] w fun e w' => e = .returned (.tuple #[.int .i64 4, .agg #[.int .i64 0, .int .i64 0]]) ∧ Below w.heap.size w w' := by
  have hG := Aside0.mk hG
  obtain ⟨g00, g01, g10, g11, g20, g21, g30, g31, g40, g41, g50, g51, z0, z1, z2, z3, z4, z5⟩ := hG.out.all
  go_enter Tryd.func76, Tryd.ntmps76
  go_wp2
  all_goals (try (go_region; go_wp2))
  all_goals (refine bodyPost_ret (v := .tuple #[.int .i64 4, .agg #[.int .i64 0, .int .i64 0]]) (by simp [results, Tryd.results76, go_sem]) rfl ⟨rfl, ?_⟩)
  all_goals (repeat (first | exact Below.refl _ _ | apply below_alloc | apply below_drew | apply pw_below_drewN | refine below_set ?_ (Nat.le_refl _) | refine below_step ?_ hb3))
set_option maxHeartbeats 1600000 in
theorem w_sentPriority_5 (w : World) (hG : GL w) : Calls Tryd.prog 76 #[.int .i64 5] w fun e w' => e = .returned (.tuple #[.int .i64 5, .agg #[.int .i64 0, .int .i64 0]]) ∧ Below w.heap.size w w' := by
  have hG := Aside0.mk hG
  obtain ⟨g00, g01, g10, g11, g20, g21, g30, g31, g40, g41, g50, g51, z0, z1, z2, z3, z4, z5⟩ := hG.out.all
  go_enter Tryd.func76, Tryd.ntmps76
  go_wp2
  all_goals (try (go_region; go_wp2))
  all_goals (refine bodyPost_ret (v := .tuple #[.int .i64 5, .agg #[.int .i64 0, .int .i64 0]]) (by simp [results, Tryd.results76, go_sem]) rfl ⟨rfl, ?_⟩)
  all_goals (repeat (first | exact Below.refl _ _ | apply below_alloc | apply below_drew | apply pw_below_drewN | refine below_set ?_ (Nat.le_refl _) | refine below_step ?_ hb3))
set_option maxHeartbeats 1600000 in
theorem w_sentPriority_6 (w : World) (hG : GL w) : Calls Tryd.prog 76 #[.int .i64 6] w fun e w' => e = .returned (.tuple #[.int .i64 6, .agg #[.int .i64 0, .int .i64 0]]) ∧ Below w.heap.size w w' := by
  have hG := Aside0.mk hG
  obtain ⟨g00, g01, g10, g11, g20, g21, g30, g31, g40, g41, g50, g51, z0, z1, z2, z3, z4, z5⟩ := hG.out.all
  go_enter Tryd.func76, Tryd.ntmps76
  go_wp2
  all_goals (try (go_region; go_wp2))
  all_goals (refine bodyPost_ret (v := .tuple #[.int .i64 6, .agg #[.int .i64 0, .int .i64 0]]) (by simp [results, Tryd.results76, go_sem]) rfl ⟨rfl, ?_⟩)
  all_goals (repeat (first | exact Below.refl _ _ | apply below_alloc | apply below_drew | apply pw_below_drewN | refine below_set ?_ (Nat.le_refl _) | refine below_step ?_ hb3))
set_option maxHeartbeats 1600000 in
set_option maxHeartbeats 1600000 in
theorem w_gotPromise_0 (w : World) (hG : GL w) : Calls Tryd.prog 71 #[.int .i64 0] w fun e w' => e = .returned (.tuple #[.int .i64 2, .agg #[.int .i64 0, .int .i64 0]]) ∧ Below w.heap.size w w' := by
  have hG := Aside0.mk hG
  obtain ⟨g00, g01, g10, g11, g20, g21, g30, g31, g40, g41, g50, g51, z0, z1, z2, z3, z4, z5⟩ := hG.out.all
  go_enter Tryd.func71, Tryd.ntmps71
  go_wp2
  all_goals (try (go_region; go_wp2))
  all_goals (refine bodyPost_ret (v := .tuple #[.int .i64 2, .agg #[.int .i64 0, .int .i64 0]]) (by simp [results, Tryd.results71, go_sem]) rfl ⟨rfl, ?_⟩)
  all_goals (repeat (first | exact Below.refl _ _ | apply below_alloc | apply below_drew | apply pw_below_drewN | refine below_set ?_ (Nat.le_refl _) | refine below_step ?_ hb3))
set_option maxHeartbeats 1600000 in
theorem w_gotPromise_1 (w : World) (hG : GL w) : Calls Tryd.prog 71 #[.int .i64 1] w fun e w' => e = .returned (.tuple #[.int .i64 1, .agg #[.int .i64 3, .int .i64 1]]) ∧ Below w.heap.size w w' := by
  have hG := Aside0.mk hG
  obtain ⟨g00, g01, g10, g11, g20, g21, g30, g31, g40, g41, g50, g51, z0, z1, z2, z3, z4, z5⟩ := hG.out.all
  go_enter Tryd.func71, Tryd.ntmps71
  go_wp2
  all_goals (try (go_region; go_wp2))
  all_goals (refine bodyPost_ret (v := .tuple #[.int .i64 1, .agg #[.int .i64 3, .int .i64 1]]) (by simp [results, Tryd.results71, go_sem]) rfl ⟨rfl, ?_⟩)
  all_goals (repeat (first | exact Below.refl _ _ | apply below_alloc | apply below_drew | apply pw_below_drewN | refine below_set ?_ (Nat.le_refl _) | refine below_step ?_ hb3))
set_option maxHeartbeats 1600000 in
theorem w_gotPromise_2 (w : World) (hG : GL w) : Calls Tryd.prog 71 #[.int .i64 2] w fun e w' => e = .returned (.tuple #[.int .i64 2, .agg #[.int .i64 3, .int .i64 1]]) ∧ Below w.heap.size w w' := by
  have hG := Aside0.mk hG
  obtain ⟨g00, g01, g10, g11, g20, g21, g30, g31, g40, g41, g50, g51, z0, z1, z2, z3, z4, z5⟩ := hG.out.all
  go_enter Tryd.func71, Tryd.ntmps71
  go_wp2
  all_goals (try (go_region; go_wp2))
  all_goals (refine bodyPost_ret (v := .tuple #[.int .i64 2, .agg #[.int .i64 3, .int .i64 1]]) (by simp [results, Tryd.results71, go_sem]) rfl ⟨rfl, ?_⟩)
  all_goals (repeat (first | exact Below.refl _ _ | apply below_alloc | apply below_drew | apply pw_below_drewN | refine below_set ?_ (Nat.le_refl _) | refine below_step ?_ hb3))
set_option maxHeartbeats 1600000 in
theorem w_gotPromise_3 (w : World) (hG : GL w) : Calls Tryd.prog 71 #[.int .i64 3] w fun e w' => e = .returned (.tuple #[.int .i64 3, .agg #[.int .i64 3, .int .i64 1]]) ∧ Below w.heap.size w w' := by
  have hG := Aside0.mk hG
  obtain ⟨g00, g01, g10, g11, g20, g21, g30, g31, g40, g41, g50, g51, z0, z1, z2, z3, z4, z5⟩ := hG.out.all
  go_enter Tryd.func71, Tryd.ntmps71
  go_wp2
  all_goals (try (go_region; go_wp2))
  all_goals (refine bodyPost_ret (v := .tuple #[.int .i64 3, .agg #[.int .i64 3, .int .i64 1]]) (by simp [results, Tryd.results71, go_sem]) rfl ⟨rfl, ?_⟩)
  all_goals (repeat (first | exact Below.refl _ _ | apply below_alloc | apply below_drew | apply pw_below_drewN | refine below_set ?_ (Nat.le_refl _) | refine below_step ?_ hb3))
set_option maxHeartbeats 1600000 in
theorem w_gotPromise_4 (w : World) (hG : GL w) : Calls Tryd.prog 71 #[.int .i64 4] w fun e w' => e = .returned (.tuple #[.int .i64 4, .agg #[.int .i64 3, .int .i64 1]]) ∧ Below w.heap.size w w' := by
  have hG := Aside0.mk hG
  obtain ⟨g00, g01, g10, g11, g20, g21, g30, g31, g40, g41, g50, g51, z0, z1, z2, z3, z4, z5⟩ := hG.out.all
  go_enter Tryd.func71, Tryd.ntmps71
  go_wp2
  all_goals (try (go_region; go_wp2))
  all_goals (refine bodyPost_ret (v := .tuple #[.int .i64 4, .agg #[.int .i64 3, .int .i64 1]]) (by simp [results, Tryd.results71, go_sem]) rfl ⟨rfl, ?_⟩)
  all_goals (repeat (first | exact Below.refl _ _ | apply below_alloc | apply below_drew | apply pw_below_drewN | refine below_set ?_ (Nat.le_refl _) | refine below_step ?_ hb3))
set_option maxHeartbeats 1600000 in
theorem w_gotPromise_5 (w : World) (hG : GL w) : Calls Tryd.prog 71 #[.int .i64 5] w fun e w' => e = .returned (.tuple #[.int .i64 5, .agg #[.int .i64 3, .int .i64 1]]) ∧ Below w.heap.size w w' := by
  have hG := Aside0.mk hG
  obtain ⟨g00, g01, g10, g11, g20, g21, g30, g31, g40, g41, g50, g51, z0, z1, z2, z3, z4, z5⟩ := hG.out.all
  go_enter Tryd.func71, Tryd.ntmps71
  go_wp2
  all_goals (try (go_region; go_wp2))
  all_goals (refine bodyPost_ret (v := .tuple #[.int .i64 5, .agg #[.int .i64 3, .int .i64 1]]) (by simp [results, Tryd.results71, go_sem]) rfl ⟨rfl, ?_⟩)
  all_goals (repeat (first | exact Below.refl _ _ | apply below_alloc | apply below_drew | apply pw_below_drewN | refine below_set ?_ (Nat.le_refl _) | refine below_step ?_ hb3))
set_option maxHeartbeats 1600000 in
theorem w_gotPromise_6 (w : World) (hG : GL w) : Calls Tryd.prog 71 #[.int .i64 6] w fun e w' => e = .returned (.tuple #[.int .i64 6, .agg #[.int .i64 3, .int .i64 1]]) ∧ Below w.heap.size w w' := by
  have hG := Aside0.mk hG
  obtain ⟨g00, g01, g10, g11, g20, g21, g30, g31, g40, g41, g50, g51, z0, z1, z2, z3, z4, z5⟩ := hG.out.all
  go_enter Tryd.func71, Tryd.ntmps71
  go_wp2
  all_goals (try (go_region; go_wp2))
  all_goals (refine bodyPost_ret (v := .tuple #[.int .i64 6, .agg #[.int .i64 3, .int .i64 1]]) (by simp [results, Tryd.results71, go_sem]) rfl ⟨rfl, ?_⟩)
  all_goals (repeat (first | exact Below.refl _ _ | apply below_alloc | apply below_drew | apply pw_below_drewN | refine below_set ?_ (Nat.le_refl _) | refine below_step ?_ hb3))
set_option maxHeartbeats 1600000 in
set_option maxHeartbeats 1600000 in
theorem w_gotReset_0 (w : World) (hG : GL w) : Calls Tryd.prog 73 #[.int .i64 0] w fun e w' => e = .returned (.tuple #[.int .i64 0, .agg #[.int .i64 3, .int .i64 1]]) ∧ Below w.heap.size w w' := by
  have hG := Aside0.mk hG
  obtain ⟨g00, g01, g10, g11, g20, g21, g30, g31, g40, g41, g50, g51, z0, z1, z2, z3, z4, z5⟩ := hG.out.all
  go_enter Tryd.func73, Tryd.ntmps73
  go_wp2
  all_goals (try (go_region; go_wp2))
  all_goals (refine bodyPost_ret (v := .tuple #[.int .i64 0, .agg #[.int .i64 3, .int .i64 1]]) (by simp [results, Tryd.results73, go_sem]) rfl ⟨rfl, ?_⟩)
  all_goals (repeat (first | exact Below.refl _ _ | apply below_alloc | apply below_drew | apply pw_below_drewN | refine below_set ?_ (Nat.le_refl _) | refine below_step ?_ hb3))
set_option maxHeartbeats 1600000 in
theorem w_gotReset_1 (w : World) (hG : GL w) : Calls Tryd.prog 73 #[.int .i64 1] w fun e w' => e = .returned (.tuple #[.int .i64 6, .agg #[.int .i64 0, .int .i64 0]]) ∧ Below w.heap.size w w' := by
  have hG := Aside0.mk hG
  obtain ⟨g00, g01, g10, g11, g20, g21, g30, g31, g40, g41, g50, g51, z0, z1, z2, z3, z4, z5⟩ := hG.out.all
  go_enter Tryd.func73, Tryd.ntmps73
  go_wp2
  all_goals (try (go_region; go_wp2))
  all_goals (refine bodyPost_ret (v := .tuple #[.int .i64 6, .agg #[.int .i64 0, .int .i64 0]]) (by simp [results, Tryd.results73, go_sem]) rfl ⟨rfl, ?_⟩)
  all_goals (repeat (first | exact Below.refl _ _ | apply below_alloc | apply below_drew | apply pw_below_drewN | refine below_set ?_ (Nat.le_refl _) | refine below_step ?_ hb3))
set_option maxHeartbeats 1600000 in
theorem w_gotReset_2 (w : World) (hG : GL w) : Calls Tryd.prog 73 #[.int .i64 2] w fun e w' => e = .returned (.tuple #[.int .i64 6, .agg #[.int .i64 0, .int .i64 0]]) ∧ Below w.heap.size w w' := by
  have hG := Aside0.mk hG
  obtain ⟨g00, g01, g10, g11, g20, g21, g30, g31, g40, g41, g50, g51, z0, z1, z2, z3, z4, z5⟩ := hG.out.all
  go_enter Tryd.func73, Tryd.ntmps73
  go_wp2
  all_goals (try (go_region; go_wp2))
  all_goals (refine bodyPost_ret (v := .tuple #[.int .i64 6, .agg #[.int .i64 0, .int .i64 0]]) (by simp [results, Tryd.results73, go_sem]) rfl ⟨rfl, ?_⟩)
  all_goals (repeat (first | exact Below.refl _ _ | apply below_alloc | apply below_drew | apply pw_below_drewN | refine below_set ?_ (Nat.le_refl _) | refine below_step ?_ hb3))
set_option maxHeartbeats 1600000 in
theorem w_gotReset_3 (w : World) (hG : GL w) : Calls Tryd.prog 73 #[.int .i64 3] w fun e w' => e = .returned (.tuple #[.int .i64 6, .agg #[.int .i64 0, .int .i64 0]]) ∧ Below w.heap.size w w' := by
  have hG := Aside0.mk hG
  obtain ⟨g00, g01, g10, g11, g20, g21, g30, g31, g40, g41, g50, g51, z0, z1, z2, z3, z4, z5⟩ := hG.out.all
  go_enter Tryd.func73, Tryd.ntmps73
  go_wp2
  all_goals (try (go_region; go_wp2))
  all_goals (refine bodyPost_ret (v := .tuple #[.int .i64 6, .agg #[.int .i64 0, .int .i64 0]]) (by simp [results, Tryd.results73, go_sem]) rfl ⟨rfl, ?_⟩)
  all_goals (repeat (first | exact Below.refl _ _ | apply below_alloc | apply below_drew | apply pw_below_drewN | refine below_set ?_ (Nat.le_refl _) | refine below_step ?_ hb3))
set_option maxHeartbeats 1600000 in
theorem w_gotReset_4 (w : World) (hG : GL w) : Calls Tryd.prog 73 #[.int .i64 4] w fun e w' => e = .returned (.tuple #[.int .i64 6, .agg #[.int .i64 0, .int .i64 0]]) ∧ Below w.heap.size w w' := by
  have hG := Aside0.mk hG
  obtain ⟨g00, g01, g10, g11, g20, g21, g30, g31, g40, g41, g50, g51, z0, z1, z2, z3, z4, z5⟩ := hG.out.all
  go_enter Tryd.func73, Tryd.ntmps73
  go_wp2
  all_goals (try (go_region; go_wp2))
  all_goals (refine bodyPost_ret (v := .tuple #[.int .i64 6, .agg #[.int .i64 0, .int .i64 0]]) (by simp [results, Tryd.results73, go_sem]) rfl ⟨rfl, ?_⟩)
  all_goals (repeat (first | exact Below.refl _ _ | apply below_alloc | apply below_drew | apply pw_below_drewN | refine below_set ?_ (Nat.le_refl _) | refine below_step ?_ hb3))
set_option maxHeartbeats 1600000 in
theorem w_gotReset_5 (w : World) (hG : GL w) : Calls Tryd.prog 73 #[.int .i64 5] w fun e w' => e = .returned (.tuple #[.int .i64 6, .agg #[.int .i64 0, .int .i64 0]]) ∧ Below w.heap.size w w' := by
  have hG := Aside0.mk hG
  obtain ⟨g00, g01, g10, g11, g20, g21, g30, g31, g40, g41, g50, g51, z0, z1, z2, z3, z4, z5⟩ := hG.out.all
  go_enter Tryd.func73, Tryd.ntmps73
  go_wp2
  all_goals (try (go_region; go_wp2))
  all_goals (refine bodyPost_ret (v := .tuple #[.int .i64 6, .agg #[.int .i64 0, .int .i64 0]]) (by simp [results, Tryd.results73, go_sem]) rfl ⟨rfl, ?_⟩)
  all_goals (repeat (first | exact Below.refl _ _ | apply below_alloc | apply below_drew | apply pw_below_drewN | refine below_set ?_ (Nat.le_refl _) | refine below_step ?_ hb3))
set_option maxHeartbeats 1600000 in
theorem w_gotReset_6 (w : World) (hG : GL w) : Calls Tryd.prog 73 #[.int .i64 6] w fun e w' => e = .returned (.tuple #[.int .i64 6, .agg #[.int .i64 1, .int .i64 0]]) ∧ Below w.heap.size w w' := by
  have hG := Aside0.mk hG
  obtain ⟨g00, g01, g10, g11, g20, g21, g30, g31, g40, g41, g50, g51, z0, z1, z2, z3, z4, z5⟩ := hG.out.all
  go_enter Tryd.func73, Tryd.ntmps73
  go_wp2
  all_goals (try (go_region; go_wp2))
  all_goals (refine bodyPost_ret (v := .tuple #[.int .i64 6, .agg #[.int .i64 1, .int .i64 0]]) (by simp [results, Tryd.results73, go_sem]) rfl ⟨rfl, ?_⟩)
  all_goals (repeat (first | exact Below.refl _ _ | apply below_alloc | apply below_drew | apply pw_below_drewN | refine below_set ?_ (Nat.le_refl _) | refine below_step ?_ hb3))
set_option maxHeartbeats 1600000 in
set_option maxHeartbeats 1600000 in
theorem w_gotWindow_0 (w : World) (hG : GL w) : Calls Tryd.prog 75 #[.int .i64 0] w fun e w' => e = .returned (.tuple #[.int .i64 0, .agg #[.int .i64 3, .int .i64 1]]) ∧ Below w.heap.size w w' := by
  have hG := Aside0.mk hG
  obtain ⟨g00, g01, g10, g11, g20, g21, g30, g31, g40, g41, g50, g51, z0, z1, z2, z3, z4, z5⟩ := hG.out.all
  go_enter Tryd.func75, Tryd.ntmps75
  go_wp2
  all_goals (try (go_region; go_wp2))
  all_goals (refine bodyPost_ret (v := .tuple #[.int .i64 0, .agg #[.int .i64 3, .int .i64 1]]) (by simp [results, Tryd.results75, go_sem]) rfl ⟨rfl, ?_⟩)
  all_goals (repeat (first | exact Below.refl _ _ | apply below_alloc | apply below_drew | apply pw_below_drewN | refine below_set ?_ (Nat.le_refl _) | refine below_step ?_ hb3))
set_option maxHeartbeats 1600000 in
theorem w_gotWindow_1 (w : World) (hG : GL w) : Calls Tryd.prog 75 #[.int .i64 1] w fun e w' => e = .returned (.tuple #[.int .i64 1, .agg #[.int .i64 0, .int .i64 0]]) ∧ Below w.heap.size w w' := by
  have hG := Aside0.mk hG
  obtain ⟨g00, g01, g10, g11, g20, g21, g30, g31, g40, g41, g50, g51, z0, z1, z2, z3, z4, z5⟩ := hG.out.all
  go_enter Tryd.func75, Tryd.ntmps75
  go_wp2
  all_goals (try (go_region; go_wp2))
  all_goals (refine bodyPost_ret (v := .tuple #[.int .i64 1, .agg #[.int .i64 0, .int .i64 0]]) (by simp [results, Tryd.results75, go_sem]) rfl ⟨rfl, ?_⟩)
  all_goals (repeat (first | exact Below.refl _ _ | apply below_alloc | apply below_drew | apply pw_below_drewN | refine below_set ?_ (Nat.le_refl _) | refine below_step ?_ hb3))
set_option maxHeartbeats 1600000 in
theorem w_gotWindow_2 (w : World) (hG : GL w) : Calls Tryd.prog 75 #[.int .i64 2] w fun e w' => e = .returned (.tuple #[.int .i64 2, .agg #[.int .i64 3, .int .i64 1]]) ∧ Below w.heap.size w w' := by
  have hG := Aside0.mk hG
  obtain ⟨g00, g01, g10, g11, g20, g21, g30, g31, g40, g41, g50, g51, z0, z1, z2, z3, z4, z5⟩ := hG.out.all
  go_enter Tryd.func75, Tryd.ntmps75
  go_wp2
  all_goals (try (go_region; go_wp2))
  all_goals (refine bodyPost_ret (v := .tuple #[.int .i64 2, .agg #[.int .i64 3, .int .i64 1]]) (by simp [results, Tryd.results75, go_sem]) rfl ⟨rfl, ?_⟩)
  all_goals (repeat (first | exact Below.refl _ _ | apply below_alloc | apply below_drew | apply pw_below_drewN | refine below_set ?_ (Nat.le_refl _) | refine below_step ?_ hb3))
set_option maxHeartbeats 1600000 in
theorem w_gotWindow_3 (w : World) (hG : GL w) : Calls Tryd.prog 75 #[.int .i64 3] w fun e w' => e = .returned (.tuple #[.int .i64 3, .agg #[.int .i64 0, .int .i64 0]]) ∧ Below w.heap.size w w' := by
  have hG := Aside0.mk hG
  obtain ⟨g00, g01, g10, g11, g20, g21, g30, g31, g40, g41, g50, g51, z0, z1, z2, z3, z4, z5⟩ := hG.out.all
  go_enter Tryd.func75, Tryd.ntmps75
  go_wp2
  all_goals (try (go_region; go_wp2))
  all_goals (refine bodyPost_ret (v := .tuple #[.int .i64 3, .agg #[.int .i64 0, .int .i64 0]]) (by simp [results, Tryd.results75, go_sem]) rfl ⟨rfl, ?_⟩)
  all_goals (repeat (first | exact Below.refl _ _ | apply below_alloc | apply below_drew | apply pw_below_drewN | refine below_set ?_ (Nat.le_refl _) | refine below_step ?_ hb3))
set_option maxHeartbeats 1600000 in
theorem w_gotWindow_4 (w : World) (hG : GL w) : Calls Tryd.prog 75 #[.int .i64 4] w fun e w' => e = .returned (.tuple #[.int .i64 4, .agg #[.int .i64 0, .int .i64 0]]) ∧ Below w.heap.size w w' := by
  have hG := Aside0.mk hG
  obtain ⟨g00, g01, g10, g11, g20, g21, g30, g31, g40, g41, g50, g51, z0, z1, z2, z3, z4, z5⟩ := hG.out.all
  go_enter Tryd.func75, Tryd.ntmps75
  go_wp2
  all_goals (try (go_region; go_wp2))
  all_goals (refine bodyPost_ret (v := .tuple #[.int .i64 4, .agg #[.int .i64 0, .int .i64 0]]) (by simp [results, Tryd.results75, go_sem]) rfl ⟨rfl, ?_⟩)
  all_goals (repeat (first | exact Below.refl _ _ | apply below_alloc | apply below_drew | apply pw_below_drewN | refine below_set ?_ (Nat.le_refl _) | refine below_step ?_ hb3))
set_option maxHeartbeats 1600000 in
theorem w_gotWindow_5 (w : World) (hG : GL w) : Calls Tryd.prog 75 #[.int .i64 5] w fun e w' => e = .returned (.tuple #[.int .i64 5, .agg #[.int .i64 0, .int .i64 0]]) ∧ Below w.heap.size w w' := by
  have hG := Aside0.mk hG
  obtain ⟨g00, g01, g10, g11, g20, g21, g30, g31, g40, g41, g50, g51, z0, z1, z2, z3, z4, z5⟩ := hG.out.all
  go_enter Tryd.func75, Tryd.ntmps75
  go_wp2
  all_goals (try (go_region; go_wp2))
  all_goals (refine bodyPost_ret (v := .tuple #[.int .i64 5, .agg #[.int .i64 0, .int .i64 0]]) (by simp [results, Tryd.results75, go_sem]) rfl ⟨rfl, ?_⟩)
  all_goals (repeat (first | exact Below.refl _ _ | apply below_alloc | apply below_drew | apply pw_below_drewN | refine below_set ?_ (Nat.le_refl _) | refine below_step ?_ hb3))
set_option maxHeartbeats 1600000 in
theorem w_gotWindow_6 (w : World) (hG : GL w) : Calls Tryd.prog 75 #[.int .i64 6] w fun e w' => e = .returned (.tuple #[.int .i64 6, .agg #[.int .i64 1, .int .i64 0]]) ∧ Below w.heap.size w w' := by
  have hG := Aside0.mk hG
  obtain ⟨g00, g01, g10, g11, g20, g21, g30, g31, g40, g41, g50, g51, z0, z1, z2, z3, z4, z5⟩ := hG.out.all
  go_enter Tryd.func75, Tryd.ntmps75
  go_wp2
  all_goals (try (go_region; go_wp2))
  all_goals (refine bodyPost_ret (v := .tuple #[.int .i64 6, .agg #[.int .i64 1, .int .i64 0]]) (by simp [results, Tryd.results75, go_sem]) rfl ⟨rfl, ?_⟩)
  all_goals (repeat (first | exact Below.refl _ _ | apply below_alloc | apply below_drew | apply pw_below_drewN | refine below_set ?_ (Nat.le_refl _) | refine below_step ?_ hb3))
set_option maxHeartbeats 1600000 in
set_option maxHeartbeats 1600000 in
theorem w_gotPriority_0 (w : World) (hG : GL w) : Calls Tryd.prog 77 #[.int .i64 0] w fun e w' => e = .returned (.tuple #[.int .i64 0, .agg #[.int .i64 0, .int .i64 0]]) ∧ Below w.heap.size w w' := by
  have hG := Aside0.mk hG
  obtain ⟨g00, g01, g10, g11, g20, g21, g30, g31, g40, g41, g50, g51, z0, z1, z2, z3, z4, z5⟩ := hG.out.all
  go_enter Tryd.func77, Tryd.ntmps77
  go_wp2
  all_goals (try (go_region; go_wp2))
  all_goals (refine bodyPost_ret (v := .tuple #[.int .i64 0, .agg #[.int .i64 0, .int .i64 0]]) (by simp [results, Tryd.results77, go_sem]) rfl ⟨rfl, ?_⟩)
  all_goals (repeat (first | exact Below.refl _ _ | apply below_alloc | apply below_drew | apply pw_below_drewN | refine below_set ?_ (Nat.le_refl _) | refine below_step ?_ hb3))
set_option maxHeartbeats 1600000 in
theorem w_gotPriority_1 (w : World) (hG : GL w) : Calls Tryd.prog 77 #[.int .i64 1] w fun e w' => e = .returned (.tuple #[.int .i64 1, .agg #[.int .i64 0, .int .i64 0]]) ∧ Below w.heap.size w w' := by
  have hG := Aside0.mk hG
  obtain ⟨g00, g01, g10, g11, g20, g21, g30, g31, g40, g41, g50, g51, z0, z1, z2, z3, z4, z5⟩ := hG.out.all
  go_enter Tryd.func77, Tryd.ntmps77
  go_wp2
  all_goals (try (go_region; go_wp2))
  all_goals (refine bodyPost_ret (v := .tuple #[.int .i64 1, .agg #[.int .i64 0, .int .i64 0]]) (by simp [results, Tryd.results77, go_sem]) rfl ⟨rfl, ?_⟩)
  all_goals (repeat (first | exact Below.refl _ _ | apply below_alloc | apply below_drew | apply pw_below_drewN | refine below_set ?_ (Nat.le_refl _) | refine below_step ?_ hb3))
set_option maxHeartbeats 1600000 in
theorem w_gotPriority_2 (w : World) (hG : GL w) : Calls Tryd.prog 77 #[.int .i64 2] w fun e w' => e = .returned (.tuple #[.int .i64 2, .agg #[.int .i64 0, .int .i64 0]]) ∧ Below w.heap.size w w' := by
  have hG := Aside0.mk hG
  obtain ⟨g00, g01, g10, g11, g20, g21, g30, g31, g40, g41, g50, g51, z0, z1, z2, z3, z4, z5⟩ := hG.out.all
  go_enter Tryd.func77, Tryd.ntmps77
  go_wp2
  all_goals (try (go_region; go_wp2))
  all_goals (refine bodyPost_ret (v := .tuple #[.int .i64 2, .agg #[.int .i64 0, .int .i64 0]]) (by simp [results, Tryd.results77, go_sem]) rfl ⟨rfl, ?_⟩)
  all_goals (repeat (first | exact Below.refl _ _ | apply below_alloc | apply below_drew | apply pw_below_drewN | refine below_set ?_ (Nat.le_refl _) | refine below_step ?_ hb3))
set_option maxHeartbeats 1600000 in
theorem w_gotPriority_3 (w : World) (hG : GL w) : Calls Tryd.prog 77 #[.int .i64 3] w fun e w' => e = .returned (.tuple #[.int .i64 3, .agg #[.int .i64 0, .int .i64 0]]) ∧ Below w.heap.size w w' := by
  have hG := Aside0.mk hG
  obtain ⟨g00, g01, g10, g11, g20, g21, g30, g31, g40, g41, g50, g51, z0, z1, z2, z3, z4, z5⟩ := hG.out.all
  go_enter Tryd.func77, Tryd.ntmps77
  go_wp2
  all_goals (try (go_region; go_wp2))
  all_goals (refine bodyPost_ret (v := .tuple #[.int .i64 3, .agg #[.int .i64 0, .int .i64 0]]) (by simp [results, Tryd.results77, go_sem]) rfl ⟨rfl, ?_⟩)
  all_goals (repeat (first | exact Below.refl _ _ | apply below_alloc | apply below_drew | apply pw_below_drewN | refine below_set ?_ (Nat.le_refl _) | refine below_step ?_ hb3))
set_option maxHeartbeats 1600000 in
theorem w_gotPriority_4 (w : World) (hG : GL w) : Calls Tryd.prog 77 #[.int .i64 4] w fun e w' => e = .returned (.tuple #[.int .i64 4, .agg #[.int .i64 0, .int .i64 0]]) ∧ Below w.heap.size w w' := by
  have hG := Aside0.mk hG
  obtain ⟨g00, g01, g10, g11, g20, g21, g30, g31, g40, g41, g50, g51, z0, z1, z2, z3, z4, z5⟩ := hG.out.all
  go_enter Tryd.func77, Tryd.ntmps77
  go_wp2
  all_goals (try (go_region; go_wp2))
  all_goals (refine bodyPost_ret (v := .tuple #[.int .i64 4, .agg #[.int .i64 0, .int .i64 0]]) (by simp [results, Tryd.results77, go_sem]) rfl ⟨rfl, ?_⟩)
  all_goals (repeat (first | exact Below.refl _ _ | apply below_alloc | apply below_drew | apply pw_below_drewN | refine below_set ?_ (Nat.le_refl _) | refine below_step ?_ hb3))
set_option maxHeartbeats 1600000 in
theorem w_gotPriority_5 (w : World) (hG : GL w) : Calls Tryd.prog 77 #[.int .i64 5] w fun e w' => e = .returned (.tuple #[.int .i64 5, .agg #[.int .i64 0, .int .i64 0]]) ∧ Below w.heap.size w w' := by
  have hG := Aside0.mk hG
  obtain ⟨g00, g01, g10, g11, g20, g21, g30, g31, g40, g41, g50, g51, z0, z1, z2, z3, z4, z5⟩ := hG.out.all
  go_enter Tryd.func77, Tryd.ntmps77
  go_wp2
  all_goals (try (go_region; go_wp2))
  all_goals (refine bodyPost_ret (v := .tuple #[.int .i64 5, .agg #[.int .i64 0, .int .i64 0]]) (by simp [results, Tryd.results77, go_sem]) rfl ⟨rfl, ?_⟩)
  all_goals (repeat (first | exact Below.refl _ _ | apply below_alloc | apply below_drew | apply pw_below_drewN | refine below_set ?_ (Nat.le_refl _) | refine below_step ?_ hb3))
set_option maxHeartbeats 1600000 in
theorem w_gotPriority_6 (w : World) (hG : GL w) : Calls Tryd.prog 77 #[.int .i64 6] w fun e w' => e = .returned (.tuple #[.int .i64 6, .agg #[.int .i64 1, .int .i64 0]]) ∧ Below w.heap.size w w' := by
  have hG := Aside0.mk hG
  obtain ⟨g00, g01, g10, g11, g20, g21, g30, g31, g40, g41, g50, g51, z0, z1, z2, z3, z4, z5⟩ := hG.out.all
  go_enter Tryd.func77, Tryd.ntmps77
  go_wp2
  all_goals (try (go_region; go_wp2))
  all_goals (refine bodyPost_ret (v := .tuple #[.int .i64 6, .agg #[.int .i64 1, .int .i64 0]]) (by simp [results, Tryd.results77, go_sem]) rfl ⟨rfl, ?_⟩)
  all_goals (repeat (first | exact Below.refl _ _ | apply below_alloc | apply below_drew | apply pw_below_drewN | refine below_set ?_ (Nat.le_refl _) | refine below_step ?_ hb3))
set_option maxHeartbeats 1600000 in
set_option maxHeartbeats 1600000 in
theorem w_gotHeaders_0 (w : World) (hG : GL w) : Calls Tryd.prog 63 #[.int .i64 0] w fun e w' => e = .returned (.tuple #[.int .i64 3, .agg #[.int .i64 0, .int .i64 0]]) ∧ Below w.heap.size w w' := by
  have hG := Aside0.mk hG
  obtain ⟨g00, g01, g10, g11, g20, g21, g30, g31, g40, g41, g50, g51, z0, z1, z2, z3, z4, z5⟩ := hG.out.all
  go_enter Tryd.func63, Tryd.ntmps63
  go_wp2_with (first | (go_at_call 84; refine (w_late_0 _ (by first | exact hG.out | exact GL.alloc hG.out _ | exact (GL.alloc (GL.alloc hG.out _) _) | exact (GL.alloc (GL.alloc hG.out _) _).drewN _)).mono ?_; rintro e w3 ⟨rfl, hb3⟩; obtain ⟨hc3, hf3⟩ := bcell hb3; have q0 : w3.cell? ⟨w.heap.size, 0, none⟩ = some (.int .i64 0) := (hc3 _ _ (by first | (show w.heap.size < ((w.alloc _).alloc _).heap.size; rw [World.size_alloc, World.size_alloc]; omega) | (show w.heap.size < (w.alloc _).heap.size; simp))).trans (by first | (show ((w.alloc _).alloc _).cell? _ = _; simp [go_sem]; try omega) | (show (w.alloc _).cell? _ = _; simp [go_sem]; try omega)); have q1 : w3.cell? ⟨w.heap.size, 1, none⟩ = some (.int .i64 0) := (hc3 _ _ (by first | (show w.heap.size < ((w.alloc _).alloc _).heap.size; rw [World.size_alloc, World.size_alloc]; omega) | (show w.heap.size < (w.alloc _).heap.size; simp))).trans (by first | (show ((w.alloc _).alloc _).cell? _ = _; simp [go_sem]; try omega) | (show (w.alloc _).cell? _ = _; simp [go_sem]; try omega))))
  all_goals (try (go_region; go_wp2))
  all_goals (refine bodyPost_ret (v := .tuple #[.int .i64 3, .agg #[.int .i64 0, .int .i64 0]]) (by simp [results, Tryd.results63, go_sem]) rfl ⟨rfl, ?_⟩)
  all_goals (repeat (first | exact Below.refl _ _ | apply below_alloc | apply below_drew | apply pw_below_drewN | refine below_set ?_ (Nat.le_refl _) | refine below_step ?_ hb3))
set_option maxHeartbeats 1600000 in
theorem w_gotHeaders_1 (w : World) (hG : GL w) : Calls Tryd.prog 63 #[.int .i64 1] w fun e w' => e = .returned (.tuple #[.int .i64 1, .agg #[.int .i64 3, .int .i64 1]]) ∧ Below w.heap.size w w' := by
  have hG := Aside0.mk hG
  obtain ⟨g00, g01, g10, g11, g20, g21, g30, g31, g40, g41, g50, g51, z0, z1, z2, z3, z4, z5⟩ := hG.out.all
  go_enter Tryd.func63, Tryd.ntmps63
  go_wp2_with (first | (go_at_call 84; refine (w_late_1 _ (by first | exact hG.out | exact GL.alloc hG.out _ | exact (GL.alloc (GL.alloc hG.out _) _) | exact (GL.alloc (GL.alloc hG.out _) _).drewN _)).mono ?_; rintro e w3 ⟨rfl, hb3⟩; obtain ⟨hc3, hf3⟩ := bcell hb3; have q0 : w3.cell? ⟨w.heap.size, 0, none⟩ = some (.int .i64 0) := (hc3 _ _ (by first | (show w.heap.size < ((w.alloc _).alloc _).heap.size; rw [World.size_alloc, World.size_alloc]; omega) | (show w.heap.size < (w.alloc _).heap.size; simp))).trans (by first | (show ((w.alloc _).alloc _).cell? _ = _; simp [go_sem]; try omega) | (show (w.alloc _).cell? _ = _; simp [go_sem]; try omega)); have q1 : w3.cell? ⟨w.heap.size, 1, none⟩ = some (.int .i64 0) := (hc3 _ _ (by first | (show w.heap.size < ((w.alloc _).alloc _).heap.size; rw [World.size_alloc, World.size_alloc]; omega) | (show w.heap.size < (w.alloc _).heap.size; simp))).trans (by first | (show ((w.alloc _).alloc _).cell? _ = _; simp [go_sem]; try omega) | (show (w.alloc _).cell? _ = _; simp [go_sem]; try omega))))
  all_goals (try (go_region; go_wp2))
  all_goals (refine bodyPost_ret (v := .tuple #[.int .i64 1, .agg #[.int .i64 3, .int .i64 1]]) (by simp [results, Tryd.results63, go_sem, q0, q1]) rfl ⟨rfl, ?_⟩)
  all_goals (repeat (first | exact Below.refl _ _ | apply below_alloc | apply below_drew | apply pw_below_drewN | refine below_set ?_ (Nat.le_refl _) | refine below_step ?_ hb3))
set_option maxHeartbeats 1600000 in
theorem w_gotHeaders_2 (w : World) (hG : GL w) : Calls Tryd.prog 63 #[.int .i64 2] w fun e w' => e = .returned (.tuple #[.int .i64 4, .agg #[.int .i64 0, .int .i64 0]]) ∧ Below w.heap.size w w' := by
  have hG := Aside0.mk hG
  obtain ⟨g00, g01, g10, g11, g20, g21, g30, g31, g40, g41, g50, g51, z0, z1, z2, z3, z4, z5⟩ := hG.out.all
  go_enter Tryd.func63, Tryd.ntmps63
  go_wp2_with (first | (go_at_call 84; refine (w_late_2 _ (by first | exact hG.out | exact GL.alloc hG.out _ | exact (GL.alloc (GL.alloc hG.out _) _) | exact (GL.alloc (GL.alloc hG.out _) _).drewN _)).mono ?_; rintro e w3 ⟨rfl, hb3⟩; obtain ⟨hc3, hf3⟩ := bcell hb3; have q0 : w3.cell? ⟨w.heap.size, 0, none⟩ = some (.int .i64 0) := (hc3 _ _ (by first | (show w.heap.size < ((w.alloc _).alloc _).heap.size; rw [World.size_alloc, World.size_alloc]; omega) | (show w.heap.size < (w.alloc _).heap.size; simp))).trans (by first | (show ((w.alloc _).alloc _).cell? _ = _; simp [go_sem]; try omega) | (show (w.alloc _).cell? _ = _; simp [go_sem]; try omega)); have q1 : w3.cell? ⟨w.heap.size, 1, none⟩ = some (.int .i64 0) := (hc3 _ _ (by first | (show w.heap.size < ((w.alloc _).alloc _).heap.size; rw [World.size_alloc, World.size_alloc]; omega) | (show w.heap.size < (w.alloc _).heap.size; simp))).trans (by first | (show ((w.alloc _).alloc _).cell? _ = _; simp [go_sem]; try omega) | (show (w.alloc _).cell? _ = _; simp [go_sem]; try omega))))
  all_goals (try (go_region; go_wp2))
  all_goals (refine bodyPost_ret (v := .tuple #[.int .i64 4, .agg #[.int .i64 0, .int .i64 0]]) (by simp [results, Tryd.results63, go_sem]) rfl ⟨rfl, ?_⟩)
  all_goals (repeat (first | exact Below.refl _ _ | apply below_alloc | apply below_drew | apply pw_below_drewN | refine below_set ?_ (Nat.le_refl _) | refine below_step ?_ hb3))
set_option maxHeartbeats 1600000 in
theorem w_gotHeaders_3 (w : World) (hG : GL w) : Calls Tryd.prog 63 #[.int .i64 3] w fun e w' => e = .returned (.tuple #[.int .i64 3, .agg #[.int .i64 0, .int .i64 0]]) ∧ Below w.heap.size w w' := by
  have hG := Aside0.mk hG
  obtain ⟨g00, g01, g10, g11, g20, g21, g30, g31, g40, g41, g50, g51, z0, z1, z2, z3, z4, z5⟩ := hG.out.all
  go_enter Tryd.func63, Tryd.ntmps63
  go_wp2_with (first | (go_at_call 84; refine (w_late_3 _ (by first | exact hG.out | exact GL.alloc hG.out _ | exact (GL.alloc (GL.alloc hG.out _) _) | exact (GL.alloc (GL.alloc hG.out _) _).drewN _)).mono ?_; rintro e w3 ⟨rfl, hb3⟩; obtain ⟨hc3, hf3⟩ := bcell hb3; have q0 : w3.cell? ⟨w.heap.size, 0, none⟩ = some (.int .i64 0) := (hc3 _ _ (by first | (show w.heap.size < ((w.alloc _).alloc _).heap.size; rw [World.size_alloc, World.size_alloc]; omega) | (show w.heap.size < (w.alloc _).heap.size; simp))).trans (by first | (show ((w.alloc _).alloc _).cell? _ = _; simp [go_sem]; try omega) | (show (w.alloc _).cell? _ = _; simp [go_sem]; try omega)); have q1 : w3.cell? ⟨w.heap.size, 1, none⟩ = some (.int .i64 0) := (hc3 _ _ (by first | (show w.heap.size < ((w.alloc _).alloc _).heap.size; rw [World.size_alloc, World.size_alloc]; omega) | (show w.heap.size < (w.alloc _).heap.size; simp))).trans (by first | (show ((w.alloc _).alloc _).cell? _ = _; simp [go_sem]; try omega) | (show (w.alloc _).cell? _ = _; simp [go_sem]; try omega))))
  all_goals (try (go_region; go_wp2))
  all_goals (refine bodyPost_ret (v := .tuple #[.int .i64 3, .agg #[.int .i64 0, .int .i64 0]]) (by simp [results, Tryd.results63, go_sem]) rfl ⟨rfl, ?_⟩)
  all_goals (repeat (first | exact Below.refl _ _ | apply below_alloc | apply below_drew | apply pw_below_drewN | refine below_set ?_ (Nat.le_refl _) | refine below_step ?_ hb3))
set_option maxHeartbeats 1600000 in
theorem w_gotHeaders_4 (w : World) (hG : GL w) : Calls Tryd.prog 63 #[.int .i64 4] w fun e w' => e = .returned (.tuple #[.int .i64 4, .agg #[.int .i64 0, .int .i64 0]]) ∧ Below w.heap.size w w' := by
  have hG := Aside0.mk hG
  obtain ⟨g00, g01, g10, g11, g20, g21, g30, g31, g40, g41, g50, g51, z0, z1, z2, z3, z4, z5⟩ := hG.out.all
  go_enter Tryd.func63, Tryd.ntmps63
  go_wp2_with (first | (go_at_call 84; refine (w_late_4 _ (by first | exact hG.out | exact GL.alloc hG.out _ | exact (GL.alloc (GL.alloc hG.out _) _) | exact (GL.alloc (GL.alloc hG.out _) _).drewN _)).mono ?_; rintro e w3 ⟨rfl, hb3⟩; obtain ⟨hc3, hf3⟩ := bcell hb3; have q0 : w3.cell? ⟨w.heap.size, 0, none⟩ = some (.int .i64 0) := (hc3 _ _ (by first | (show w.heap.size < ((w.alloc _).alloc _).heap.size; rw [World.size_alloc, World.size_alloc]; omega) | (show w.heap.size < (w.alloc _).heap.size; simp))).trans (by first | (show ((w.alloc _).alloc _).cell? _ = _; simp [go_sem]; try omega) | (show (w.alloc _).cell? _ = _; simp [go_sem]; try omega)); have q1 : w3.cell? ⟨w.heap.size, 1, none⟩ = some (.int .i64 0) := (hc3 _ _ (by first | (show w.heap.size < ((w.alloc _).alloc _).heap.size; rw [World.size_alloc, World.size_alloc]; omega) | (show w.heap.size < (w.alloc _).heap.size; simp))).trans (by first | (show ((w.alloc _).alloc _).cell? _ = _; simp [go_sem]; try omega) | (show (w.alloc _).cell? _ = _; simp [go_sem]; try omega))))
  all_goals (try (go_region; go_wp2))
  all_goals (refine bodyPost_ret (v := .tuple #[.int .i64 4, .agg #[.int .i64 0, .int .i64 0]]) (by simp [results, Tryd.results63, go_sem]) rfl ⟨rfl, ?_⟩)
  all_goals (repeat (first | exact Below.refl _ _ | apply below_alloc | apply below_drew | apply pw_below_drewN | refine below_set ?_ (Nat.le_refl _) | refine below_step ?_ hb3))
set_option maxHeartbeats 1600000 in
theorem w_gotHeaders_5 (w : World) (hG : GL w) : Calls Tryd.prog 63 #[.int .i64 5] w fun e w' => e = .returned (.tuple #[.int .i64 5, .agg #[.int .i64 2, .int .i64 5]]) ∧ Below w.heap.size w w' := by
  have hG := Aside0.mk hG
  obtain ⟨g00, g01, g10, g11, g20, g21, g30, g31, g40, g41, g50, g51, z0, z1, z2, z3, z4, z5⟩ := hG.out.all
  go_enter Tryd.func63, Tryd.ntmps63
  go_wp2_with (first | (go_at_call 84; refine (w_late_5 _ (by first | exact hG.out | exact GL.alloc hG.out _ | exact (GL.alloc (GL.alloc hG.out _) _) | exact (GL.alloc (GL.alloc hG.out _) _).drewN _)).mono ?_; rintro e w3 ⟨rfl, hb3⟩; obtain ⟨hc3, hf3⟩ := bcell hb3; have q0 : w3.cell? ⟨w.heap.size, 0, none⟩ = some (.int .i64 0) := (hc3 _ _ (by first | (show w.heap.size < ((w.alloc _).alloc _).heap.size; rw [World.size_alloc, World.size_alloc]; omega) | (show w.heap.size < (w.alloc _).heap.size; simp))).trans (by first | (show ((w.alloc _).alloc _).cell? _ = _; simp [go_sem]; try omega) | (show (w.alloc _).cell? _ = _; simp [go_sem]; try omega)); have q1 : w3.cell? ⟨w.heap.size, 1, none⟩ = some (.int .i64 0) := (hc3 _ _ (by first | (show w.heap.size < ((w.alloc _).alloc _).heap.size; rw [World.size_alloc, World.size_alloc]; omega) | (show w.heap.size < (w.alloc _).heap.size; simp))).trans (by first | (show ((w.alloc _).alloc _).cell? _ = _; simp [go_sem]; try omega) | (show (w.alloc _).cell? _ = _; simp [go_sem]; try omega))))
  all_goals (try (go_region; go_wp2))
  all_goals (refine bodyPost_ret (v := .tuple #[.int .i64 5, .agg #[.int .i64 2, .int .i64 5]]) (by simp [results, Tryd.results63, go_sem, q0, q1]) rfl ⟨rfl, ?_⟩)
  all_goals (repeat (first | exact Below.refl _ _ | apply below_alloc | apply below_drew | apply pw_below_drewN | refine below_set ?_ (Nat.le_refl _) | refine below_step ?_ hb3))
set_option maxHeartbeats 1600000 in
theorem w_gotHeaders_6 (w : World) (hG : GL w) : Calls Tryd.prog 63 #[.int .i64 6] w fun e w' => e = .returned (.tuple #[.int .i64 6, .agg #[.int .i64 3, .int .i64 5]]) ∧ Below w.heap.size w w' := by
  have hG := Aside0.mk hG
  obtain ⟨g00, g01, g10, g11, g20, g21, g30, g31, g40, g41, g50, g51, z0, z1, z2, z3, z4, z5⟩ := hG.out.all
  go_enter Tryd.func63, Tryd.ntmps63
  go_wp2_with (first | (go_at_call 84; refine (w_late_6 _ (by first | exact hG.out | exact GL.alloc hG.out _ | exact (GL.alloc (GL.alloc hG.out _) _) | exact (GL.alloc (GL.alloc hG.out _) _).drewN _)).mono ?_; rintro e w3 ⟨rfl, hb3⟩; obtain ⟨hc3, hf3⟩ := bcell hb3; have q0 : w3.cell? ⟨w.heap.size, 0, none⟩ = some (.int .i64 0) := (hc3 _ _ (by first | (show w.heap.size < ((w.alloc _).alloc _).heap.size; rw [World.size_alloc, World.size_alloc]; omega) | (show w.heap.size < (w.alloc _).heap.size; simp))).trans (by first | (show ((w.alloc _).alloc _).cell? _ = _; simp [go_sem]; try omega) | (show (w.alloc _).cell? _ = _; simp [go_sem]; try omega)); have q1 : w3.cell? ⟨w.heap.size, 1, none⟩ = some (.int .i64 0) := (hc3 _ _ (by first | (show w.heap.size < ((w.alloc _).alloc _).heap.size; rw [World.size_alloc, World.size_alloc]; omega) | (show w.heap.size < (w.alloc _).heap.size; simp))).trans (by first | (show ((w.alloc _).alloc _).cell? _ = _; simp [go_sem]; try omega) | (show (w.alloc _).cell? _ = _; simp [go_sem]; try omega))))
  all_goals (try (go_region; go_wp2))
  all_goals (refine bodyPost_ret (v := .tuple #[.int .i64 6, .agg #[.int .i64 3, .int .i64 5]]) (by simp [results, Tryd.results63, go_sem, q0, q1]) rfl ⟨rfl, ?_⟩)
  all_goals (repeat (first | exact Below.refl _ _ | apply below_alloc | apply below_drew | apply pw_below_drewN | refine below_set ?_ (Nat.le_refl _) | refine below_step ?_ hb3))
set_option maxHeartbeats 1600000 in
set_option maxHeartbeats 1600000 in
theorem w_sentHeadersEnd_0 (w : World) (hG : GL w) : Calls Tryd.prog 64 #[.int .i64 0] w fun e w' => e = .returned (.tuple #[.int .i64 4, .agg #[.int .i64 0, .int .i64 0]]) ∧ Below w.heap.size w w' := by
  have hG := Aside0.mk hG
  obtain ⟨g00, g01, g10, g11, g20, g21, g30, g31, g40, g41, g50, g51, z0, z1, z2, z3, z4, z5⟩ := hG.out.all
  go_enter Tryd.func64, Tryd.ntmps64
  go_wp2_with (first | (go_at_call 41; refine (state_is.calls 9 (0) (some (Addr.mk (w.heap.size + 1) 0 none)) 4 ([0, 1, 3, 5] : List Int) true _ (by exact C_new _ _ [0, 1, 3, 5] (by decide) _ (by simp)) (by decide) (by decide +kernel)).mono ?_; rintro e w2 ⟨rfl, ⟨⟨nd, rfl⟩⟩⟩) | (go_at_call 85; refine (w_endedHere_0 _ (by first | exact hG.out | exact GL.alloc hG.out _ | exact (GL.alloc (GL.alloc hG.out _) _) | exact (GL.alloc (GL.alloc hG.out _) _).drewN _)).mono ?_; rintro e w3 ⟨rfl, hb3⟩; obtain ⟨hc3, hf3⟩ := bcell hb3; have q0 : w3.cell? ⟨w.heap.size, 0, none⟩ = some (.int .i64 0) := (hc3 _ _ (by first | (show w.heap.size < ((w.alloc _).alloc _).heap.size; rw [World.size_alloc, World.size_alloc]; omega) | (show w.heap.size < (w.alloc _).heap.size; simp))).trans (by first | (show ((w.alloc _).alloc _).cell? _ = _; simp [go_sem]; try omega) | (show (w.alloc _).cell? _ = _; simp [go_sem]; try omega)); have q1 : w3.cell? ⟨w.heap.size, 1, none⟩ = some (.int .i64 0) := (hc3 _ _ (by first | (show w.heap.size < ((w.alloc _).alloc _).heap.size; rw [World.size_alloc, World.size_alloc]; omega) | (show w.heap.size < (w.alloc _).heap.size; simp))).trans (by first | (show ((w.alloc _).alloc _).cell? _ = _; simp [go_sem]; try omega) | (show (w.alloc _).cell? _ = _; simp [go_sem]; try omega))))
  all_goals (try (go_region; go_wp2))
  all_goals (refine bodyPost_ret (v := .tuple #[.int .i64 4, .agg #[.int .i64 0, .int .i64 0]]) (by simp [results, Tryd.results64, go_sem, q0, q1]) rfl ⟨rfl, ?_⟩)
  all_goals (repeat (first | exact Below.refl _ _ | apply below_alloc | apply below_drew | apply pw_below_drewN | refine below_set ?_ (Nat.le_refl _) | refine below_step ?_ hb3))
set_option maxHeartbeats 1600000 in
theorem w_sentHeadersEnd_1 (w : World) (hG : GL w) : Calls Tryd.prog 64 #[.int .i64 1] w fun e w' => e = .returned (.tuple #[.int .i64 6, .agg #[.int .i64 0, .int .i64 0]]) ∧ Below w.heap.size w w' := by
  have hG := Aside0.mk hG
  obtain ⟨g00, g01, g10, g11, g20, g21, g30, g31, g40, g41, g50, g51, z0, z1, z2, z3, z4, z5⟩ := hG.out.all
  go_enter Tryd.func64, Tryd.ntmps64
  go_wp2_with (first | (go_at_call 41; refine (state_is.calls 9 (1) (some (Addr.mk (w.heap.size + 1) 0 none)) 4 ([0, 1, 3, 5] : List Int) true _ (by exact C_new _ _ [0, 1, 3, 5] (by decide) _ (by simp)) (by decide) (by decide +kernel)).mono ?_; rintro e w2 ⟨rfl, ⟨⟨nd, rfl⟩⟩⟩) | (go_at_call 85; refine (w_endedHere_1 _ (by first | exact hG.out | exact GL.alloc hG.out _ | exact (GL.alloc (GL.alloc hG.out _) _) | exact (GL.alloc (GL.alloc hG.out _) _).drewN _)).mono ?_; rintro e w3 ⟨rfl, hb3⟩; obtain ⟨hc3, hf3⟩ := bcell hb3; have q0 : w3.cell? ⟨w.heap.size, 0, none⟩ = some (.int .i64 0) := (hc3 _ _ (by first | (show w.heap.size < ((w.alloc _).alloc _).heap.size; rw [World.size_alloc, World.size_alloc]; omega) | (show w.heap.size < (w.alloc _).heap.size; simp))).trans (by first | (show ((w.alloc _).alloc _).cell? _ = _; simp [go_sem]; try omega) | (show (w.alloc _).cell? _ = _; simp [go_sem]; try omega)); have q1 : w3.cell? ⟨w.heap.size, 1, none⟩ = some (.int .i64 0) := (hc3 _ _ (by first | (show w.heap.size < ((w.alloc _).alloc _).heap.size; rw [World.size_alloc, World.size_alloc]; omega) | (show w.heap.size < (w.alloc _).heap.size; simp))).trans (by first | (show ((w.alloc _).alloc _).cell? _ = _; simp [go_sem]; try omega) | (show (w.alloc _).cell? _ = _; simp [go_sem]; try omega))))
  all_goals (try (go_region; go_wp2))
  all_goals (refine bodyPost_ret (v := .tuple #[.int .i64 6, .agg #[.int .i64 0, .int .i64 0]]) (by simp [results, Tryd.results64, go_sem, q0, q1]) rfl ⟨rfl, ?_⟩)
  all_goals (repeat (first | exact Below.refl _ _ | apply below_alloc | apply below_drew | apply pw_below_drewN | refine below_set ?_ (Nat.le_refl _) | refine below_step ?_ hb3))
set_option maxHeartbeats 1600000 in
theorem w_sentHeadersEnd_2 (w : World) (hG : GL w) : Calls Tryd.prog 64 #[.int .i64 2] w fun e w' => e = .returned (.tuple #[.int .i64 2, .agg #[.int .i64 4, .int .i64 0]]) ∧ Below w.heap.size w w' := by
  have hG := Aside0.mk hG
  obtain ⟨g00, g01, g10, g11, g20, g21, g30, g31, g40, g41, g50, g51, z0, z1, z2, z3, z4, z5⟩ := hG.out.all
  go_enter Tryd.func64, Tryd.ntmps64
  go_wp2_with (first | (go_at_call 41; refine (state_is.calls 9 (2) (some (Addr.mk (w.heap.size + 1) 0 none)) 4 ([0, 1, 3, 5] : List Int) false _ (by exact C_new _ _ [0, 1, 3, 5] (by decide) _ (by simp)) (by decide) (by decide +kernel)).mono ?_; rintro e w2 ⟨rfl, ⟨⟨nd, rfl⟩⟩⟩) | (go_at_call 85; refine (w_endedHere_2 _ (by first | exact hG.out | exact GL.alloc hG.out _ | exact (GL.alloc (GL.alloc hG.out _) _) | exact (GL.alloc (GL.alloc hG.out _) _).drewN _)).mono ?_; rintro e w3 ⟨rfl, hb3⟩; obtain ⟨hc3, hf3⟩ := bcell hb3; have q0 : w3.cell? ⟨w.heap.size, 0, none⟩ = some (.int .i64 0) := (hc3 _ _ (by first | (show w.heap.size < ((w.alloc _).alloc _).heap.size; rw [World.size_alloc, World.size_alloc]; omega) | (show w.heap.size < (w.alloc _).heap.size; simp))).trans (by first | (show ((w.alloc _).alloc _).cell? _ = _; simp [go_sem]; try omega) | (show (w.alloc _).cell? _ = _; simp [go_sem]; try omega)); have q1 : w3.cell? ⟨w.heap.size, 1, none⟩ = some (.int .i64 0) := (hc3 _ _ (by first | (show w.heap.size < ((w.alloc _).alloc _).heap.size; rw [World.size_alloc, World.size_alloc]; omega) | (show w.heap.size < (w.alloc _).heap.size; simp))).trans (by first | (show ((w.alloc _).alloc _).cell? _ = _; simp [go_sem]; try omega) | (show (w.alloc _).cell? _ = _; simp [go_sem]; try omega))))
  all_goals (try (go_region; go_wp2))
  all_goals (refine bodyPost_ret (v := .tuple #[.int .i64 2, .agg #[.int .i64 4, .int .i64 0]]) (by simp [results, Tryd.results64, go_sem]) rfl ⟨rfl, ?_⟩)
  all_goals (repeat (first | exact Below.refl _ _ | apply below_alloc | apply below_drew | apply pw_below_drewN | refine below_set ?_ (Nat.le_refl _) | refine below_step ?_ hb3))
set_option maxHeartbeats 1600000 in
theorem w_sentHeadersEnd_3 (w : World) (hG : GL w) : Calls Tryd.prog 64 #[.int .i64 3] w fun e w' => e = .returned (.tuple #[.int .i64 4, .agg #[.int .i64 0, .int .i64 0]]) ∧ Below w.heap.size w w' := by
  have hG := Aside0.mk hG
  obtain ⟨g00, g01, g10, g11, g20, g21, g30, g31, g40, g41, g50, g51, z0, z1, z2, z3, z4, z5⟩ := hG.out.all
  go_enter Tryd.func64, Tryd.ntmps64
  go_wp2_with (first | (go_at_call 41; refine (state_is.calls 9 (3) (some (Addr.mk (w.heap.size + 1) 0 none)) 4 ([0, 1, 3, 5] : List Int) true _ (by exact C_new _ _ [0, 1, 3, 5] (by decide) _ (by simp)) (by decide) (by decide +kernel)).mono ?_; rintro e w2 ⟨rfl, ⟨⟨nd, rfl⟩⟩⟩) | (go_at_call 85; refine (w_endedHere_3 _ (by first | exact hG.out | exact GL.alloc hG.out _ | exact (GL.alloc (GL.alloc hG.out _) _) | exact (GL.alloc (GL.alloc hG.out _) _).drewN _)).mono ?_; rintro e w3 ⟨rfl, hb3⟩; obtain ⟨hc3, hf3⟩ := bcell hb3; have q0 : w3.cell? ⟨w.heap.size, 0, none⟩ = some (.int .i64 0) := (hc3 _ _ (by first | (show w.heap.size < ((w.alloc _).alloc _).heap.size; rw [World.size_alloc, World.size_alloc]; omega) | (show w.heap.size < (w.alloc _).heap.size; simp))).trans (by first | (show ((w.alloc _).alloc _).cell? _ = _; simp [go_sem]; try omega) | (show (w.alloc _).cell? _ = _; simp [go_sem]; try omega)); have q1 : w3.cell? ⟨w.heap.size, 1, none⟩ = some (.int .i64 0) := (hc3 _ _ (by first | (show w.heap.size < ((w.alloc _).alloc _).heap.size; rw [World.size_alloc, World.size_alloc]; omega) | (show w.heap.size < (w.alloc _).heap.size; simp))).trans (by first | (show ((w.alloc _).alloc _).cell? _ = _; simp [go_sem]; try omega) | (show (w.alloc _).cell? _ = _; simp [go_sem]; try omega))))
  all_goals (try (go_region; go_wp2))
  all_goals (refine bodyPost_ret (v := .tuple #[.int .i64 4, .agg #[.int .i64 0, .int .i64 0]]) (by simp [results, Tryd.results64, go_sem, q0, q1]) rfl ⟨rfl, ?_⟩)
  all_goals (repeat (first | exact Below.refl _ _ | apply below_alloc | apply below_drew | apply pw_below_drewN | refine below_set ?_ (Nat.le_refl _) | refine below_step ?_ hb3))
set_option maxHeartbeats 1600000 in
theorem w_sentHeadersEnd_4 (w : World) (hG : GL w) : Calls Tryd.prog 64 #[.int .i64 4] w fun e w' => e = .returned (.tuple #[.int .i64 4, .agg #[.int .i64 4, .int .i64 0]]) ∧ Below w.heap.size w w' := by
  have hG := Aside0.mk hG
  obtain ⟨g00, g01, g10, g11, g20, g21, g30, g31, g40, g41, g50, g51, z0, z1, z2, z3, z4, z5⟩ := hG.out.all
  go_enter Tryd.func64, Tryd.ntmps64
  go_wp2_with (first | (go_at_call 41; refine (state_is.calls 9 (4) (some (Addr.mk (w.heap.size + 1) 0 none)) 4 ([0, 1, 3, 5] : List Int) false _ (by exact C_new _ _ [0, 1, 3, 5] (by decide) _ (by simp)) (by decide) (by decide +kernel)).mono ?_; rintro e w2 ⟨rfl, ⟨⟨nd, rfl⟩⟩⟩) | (go_at_call 85; refine (w_endedHere_4 _ (by first | exact hG.out | exact GL.alloc hG.out _ | exact (GL.alloc (GL.alloc hG.out _) _) | exact (GL.alloc (GL.alloc hG.out _) _).drewN _)).mono ?_; rintro e w3 ⟨rfl, hb3⟩; obtain ⟨hc3, hf3⟩ := bcell hb3; have q0 : w3.cell? ⟨w.heap.size, 0, none⟩ = some (.int .i64 0) := (hc3 _ _ (by first | (show w.heap.size < ((w.alloc _).alloc _).heap.size; rw [World.size_alloc, World.size_alloc]; omega) | (show w.heap.size < (w.alloc _).heap.size; simp))).trans (by first | (show ((w.alloc _).alloc _).cell? _ = _; simp [go_sem]; try omega) | (show (w.alloc _).cell? _ = _; simp [go_sem]; try omega)); have q1 : w3.cell? ⟨w.heap.size, 1, none⟩ = some (.int .i64 0) := (hc3 _ _ (by first | (show w.heap.size < ((w.alloc _).alloc _).heap.size; rw [World.size_alloc, World.size_alloc]; omega) | (show w.heap.size < (w.alloc _).heap.size; simp))).trans (by first | (show ((w.alloc _).alloc _).cell? _ = _; simp [go_sem]; try omega) | (show (w.alloc _).cell? _ = _; simp [go_sem]; try omega))))
  all_goals (try (go_region; go_wp2))
  all_goals (refine bodyPost_ret (v := .tuple #[.int .i64 4, .agg #[.int .i64 4, .int .i64 0]]) (by simp [results, Tryd.results64, go_sem]) rfl ⟨rfl, ?_⟩)
  all_goals (repeat (first | exact Below.refl _ _ | apply below_alloc | apply below_drew | apply pw_below_drewN | refine below_set ?_ (Nat.le_refl _) | refine below_step ?_ hb3))
set_option maxHeartbeats 1600000 in
theorem w_sentHeadersEnd_5 (w : World) (hG : GL w) : Calls Tryd.prog 64 #[.int .i64 5] w fun e w' => e = .returned (.tuple #[.int .i64 6, .agg #[.int .i64 0, .int .i64 0]]) ∧ Below w.heap.size w w' := by
  have hG := Aside0.mk hG
  obtain ⟨g00, g01, g10, g11, g20, g21, g30, g31, g40, g41, g50, g51, z0, z1, z2, z3, z4, z5⟩ := hG.out.all
  go_enter Tryd.func64, Tryd.ntmps64
  go_wp2_with (first | (go_at_call 41; refine (state_is.calls 9 (5) (some (Addr.mk (w.heap.size + 1) 0 none)) 4 ([0, 1, 3, 5] : List Int) true _ (by exact C_new _ _ [0, 1, 3, 5] (by decide) _ (by simp)) (by decide) (by decide +kernel)).mono ?_; rintro e w2 ⟨rfl, ⟨⟨nd, rfl⟩⟩⟩) | (go_at_call 85; refine (w_endedHere_5 _ (by first | exact hG.out | exact GL.alloc hG.out _ | exact (GL.alloc (GL.alloc hG.out _) _) | exact (GL.alloc (GL.alloc hG.out _) _).drewN _)).mono ?_; rintro e w3 ⟨rfl, hb3⟩; obtain ⟨hc3, hf3⟩ := bcell hb3; have q0 : w3.cell? ⟨w.heap.size, 0, none⟩ = some (.int .i64 0) := (hc3 _ _ (by first | (show w.heap.size < ((w.alloc _).alloc _).heap.size; rw [World.size_alloc, World.size_alloc]; omega) | (show w.heap.size < (w.alloc _).heap.size; simp))).trans (by first | (show ((w.alloc _).alloc _).cell? _ = _; simp [go_sem]; try omega) | (show (w.alloc _).cell? _ = _; simp [go_sem]; try omega)); have q1 : w3.cell? ⟨w.heap.size, 1, none⟩ = some (.int .i64 0) := (hc3 _ _ (by first | (show w.heap.size < ((w.alloc _).alloc _).heap.size; rw [World.size_alloc, World.size_alloc]; omega) | (show w.heap.size < (w.alloc _).heap.size; simp))).trans (by first | (show ((w.alloc _).alloc _).cell? _ = _; simp [go_sem]; try omega) | (show (w.alloc _).cell? _ = _; simp [go_sem]; try omega))))
  all_goals (try (go_region; go_wp2))
  all_goals (refine bodyPost_ret (v := .tuple #[.int .i64 6, .agg #[.int .i64 0, .int .i64 0]]) (by simp [results, Tryd.results64, go_sem, q0, q1]) rfl ⟨rfl, ?_⟩)
  all_goals (repeat (first | exact Below.refl _ _ | apply below_alloc | apply below_drew | apply pw_below_drewN | refine below_set ?_ (Nat.le_refl _) | refine below_step ?_ hb3))
set_option maxHeartbeats 1600000 in
theorem w_sentHeadersEnd_6 (w : World) (hG : GL w) : Calls Tryd.prog 64 #[.int .i64 6] w fun e w' => e = .returned (.tuple #[.int .i64 6, .agg #[.int .i64 4, .int .i64 0]]) ∧ Below w.heap.size w w' := by
  have hG := Aside0.mk hG
  obtain ⟨g00, g01, g10, g11, g20, g21, g30, g31, g40, g41, g50, g51, z0, z1, z2, z3, z4, z5⟩ := hG.out.all
  go_enter Tryd.func64, Tryd.ntmps64
  go_wp2_with (first | (go_at_call 41; refine (state_is.calls 9 (6) (some (Addr.mk (w.heap.size + 1) 0 none)) 4 ([0, 1, 3, 5] : List Int) false _ (by exact C_new _ _ [0, 1, 3, 5] (by decide) _ (by simp)) (by decide) (by decide +kernel)).mono ?_; rintro e w2 ⟨rfl, ⟨⟨nd, rfl⟩⟩⟩) | (go_at_call 85; refine (w_endedHere_6 _ (by first | exact hG.out | exact GL.alloc hG.out _ | exact (GL.alloc (GL.alloc hG.out _) _) | exact (GL.alloc (GL.alloc hG.out _) _).drewN _)).mono ?_; rintro e w3 ⟨rfl, hb3⟩; obtain ⟨hc3, hf3⟩ := bcell hb3; have q0 : w3.cell? ⟨w.heap.size, 0, none⟩ = some (.int .i64 0) := (hc3 _ _ (by first | (show w.heap.size < ((w.alloc _).alloc _).heap.size; rw [World.size_alloc, World.size_alloc]; omega) | (show w.heap.size < (w.alloc _).heap.size; simp))).trans (by first | (show ((w.alloc _).alloc _).cell? _ = _; simp [go_sem]; try omega) | (show (w.alloc _).cell? _ = _; simp [go_sem]; try omega)); have q1 : w3.cell? ⟨w.heap.size, 1, none⟩ = some (.int .i64 0) := (hc3 _ _ (by first | (show w.heap.size < ((w.alloc _).alloc _).heap.size; rw [World.size_alloc, World.size_alloc]; omega) | (show w.heap.size < (w.alloc _).heap.size; simp))).trans (by first | (show ((w.alloc _).alloc _).cell? _ = _; simp [go_sem]; try omega) | (show (w.alloc _).cell? _ = _; simp [go_sem]; try omega))))
  all_goals (try (go_region; go_wp2))
  all_goals (refine bodyPost_ret (v := .tuple #[.int .i64 6, .agg #[.int .i64 4, .int .i64 0]]) (by simp [results, Tryd.results64, go_sem]) rfl ⟨rfl, ?_⟩)
  all_goals (repeat (first | exact Below.refl _ _ | apply below_alloc | apply below_drew | apply pw_below_drewN | refine below_set ?_ (Nat.le_refl _) | refine below_step ?_ hb3))
set_option maxHeartbeats 1600000 in
set_option maxHeartbeats 1600000 in
theorem w_gotHeadersEnd_0 (w : World) (hG : GL w) : Calls Tryd.prog 65 #[.int .i64 0] w fun e w' => e = .returned (.tuple #[.int .i64 5, .agg #[.int .i64 0, .int .i64 0]]) ∧ Below w.heap.size w w' := by
  have hG := Aside0.mk hG
  obtain ⟨g00, g01, g10, g11, g20, g21, g30, g31, g40, g41, g50, g51, z0, z1, z2, z3, z4, z5⟩ := hG.out.all
  go_enter Tryd.func65, Tryd.ntmps65
  go_wp2_with (first | (go_at_call 41; refine (state_is.calls 9 (0) (some (Addr.mk (w.heap.size + 1) 0 none)) 4 ([0, 2, 3, 4] : List Int) true _ (by exact C_new _ _ [0, 2, 3, 4] (by decide) _ (by simp)) (by decide) (by decide +kernel)).mono ?_; rintro e w2 ⟨rfl, ⟨⟨nd, rfl⟩⟩⟩) | (go_at_call 86; refine (w_endedThere_0 _ (by first | exact hG.out | exact GL.alloc hG.out _ | exact (GL.alloc (GL.alloc hG.out _) _) | exact (GL.alloc (GL.alloc hG.out _) _).drewN _)).mono ?_; rintro e w3 ⟨rfl, hb3⟩; obtain ⟨hc3, hf3⟩ := bcell hb3; have q0 : w3.cell? ⟨w.heap.size, 0, none⟩ = some (.int .i64 0) := (hc3 _ _ (by first | (show w.heap.size < ((w.alloc _).alloc _).heap.size; rw [World.size_alloc, World.size_alloc]; omega) | (show w.heap.size < (w.alloc _).heap.size; simp))).trans (by first | (show ((w.alloc _).alloc _).cell? _ = _; simp [go_sem]; try omega) | (show (w.alloc _).cell? _ = _; simp [go_sem]; try omega)); have q1 : w3.cell? ⟨w.heap.size, 1, none⟩ = some (.int .i64 0) := (hc3 _ _ (by first | (show w.heap.size < ((w.alloc _).alloc _).heap.size; rw [World.size_alloc, World.size_alloc]; omega) | (show w.heap.size < (w.alloc _).heap.size; simp))).trans (by first | (show ((w.alloc _).alloc _).cell? _ = _; simp [go_sem]; try omega) | (show (w.alloc _).cell? _ = _; simp [go_sem]; try omega))) | (go_at_call 84; refine (w_late_0 _ (by first | exact hG.out | exact GL.alloc hG.out _ | exact (GL.alloc (GL.alloc hG.out _) _) | exact (GL.alloc (GL.alloc hG.out _) _).drewN _)).mono ?_; rintro e w3 ⟨rfl, hb3⟩; obtain ⟨hc3, hf3⟩ := bcell hb3; have q0 : w3.cell? ⟨w.heap.size, 0, none⟩ = some (.int .i64 0) := (hc3 _ _ (by first | (show w.heap.size < ((w.alloc _).alloc _).heap.size; rw [World.size_alloc, World.size_alloc]; omega) | (show w.heap.size < (w.alloc _).heap.size; simp))).trans (by first | (show ((w.alloc _).alloc _).cell? _ = _; simp [go_sem]; try omega) | (show (w.alloc _).cell? _ = _; simp [go_sem]; try omega)); have q1 : w3.cell? ⟨w.heap.size, 1, none⟩ = some (.int .i64 0) := (hc3 _ _ (by first | (show w.heap.size < ((w.alloc _).alloc _).heap.size; rw [World.size_alloc, World.size_alloc]; omega) | (show w.heap.size < (w.alloc _).heap.size; simp))).trans (by first | (show ((w.alloc _).alloc _).cell? _ = _; simp [go_sem]; try omega) | (show (w.alloc _).cell? _ = _; simp [go_sem]; try omega))))
  all_goals (try (go_region; go_wp2))
  all_goals (refine bodyPost_ret (v := .tuple #[.int .i64 5, .agg #[.int .i64 0, .int .i64 0]]) (by simp [results, Tryd.results65, go_sem, q0, q1]) rfl ⟨rfl, ?_⟩)
  all_goals (repeat (first | exact Below.refl _ _ | apply below_alloc | apply below_drew | apply pw_below_drewN | refine below_set ?_ (Nat.le_refl _) | refine below_step ?_ hb3))
set_option maxHeartbeats 1600000 in
theorem w_gotHeadersEnd_1 (w : World) (hG : GL w) : Calls Tryd.prog 65 #[.int .i64 1] w fun e w' => e = .returned (.tuple #[.int .i64 1, .agg #[.int .i64 3, .int .i64 1]]) ∧ Below w.heap.size w w' := by
  have hG := Aside0.mk hG
  obtain ⟨g00, g01, g10, g11, g20, g21, g30, g31, g40, g41, g50, g51, z0, z1, z2, z3, z4, z5⟩ := hG.out.all
  go_enter Tryd.func65, Tryd.ntmps65
  go_wp2_with (first | (go_at_call 41; refine (state_is.calls 9 (1) (some (Addr.mk (w.heap.size + 1) 0 none)) 4 ([0, 2, 3, 4] : List Int) false _ (by exact C_new _ _ [0, 2, 3, 4] (by decide) _ (by simp)) (by decide) (by decide +kernel)).mono ?_; rintro e w2 ⟨rfl, ⟨⟨nd, rfl⟩⟩⟩) | (go_at_call 86; refine (w_endedThere_1 _ (by first | exact hG.out | exact GL.alloc hG.out _ | exact (GL.alloc (GL.alloc hG.out _) _) | exact (GL.alloc (GL.alloc hG.out _) _).drewN _)).mono ?_; rintro e w3 ⟨rfl, hb3⟩; obtain ⟨hc3, hf3⟩ := bcell hb3; have q0 : w3.cell? ⟨w.heap.size, 0, none⟩ = some (.int .i64 0) := (hc3 _ _ (by first | (show w.heap.size < ((w.alloc _).alloc _).heap.size; rw [World.size_alloc, World.size_alloc]; omega) | (show w.heap.size < (w.alloc _).heap.size; simp))).trans (by first | (show ((w.alloc _).alloc _).cell? _ = _; simp [go_sem]; try omega) | (show (w.alloc _).cell? _ = _; simp [go_sem]; try omega)); have q1 : w3.cell? ⟨w.heap.size, 1, none⟩ = some (.int .i64 0) := (hc3 _ _ (by first | (show w.heap.size < ((w.alloc _).alloc _).heap.size; rw [World.size_alloc, World.size_alloc]; omega) | (show w.heap.size < (w.alloc _).heap.size; simp))).trans (by first | (show ((w.alloc _).alloc _).cell? _ = _; simp [go_sem]; try omega) | (show (w.alloc _).cell? _ = _; simp [go_sem]; try omega))) | (go_at_call 84; refine (w_late_1 _ (by first | exact hG.out | exact GL.alloc hG.out _ | exact (GL.alloc (GL.alloc hG.out _) _) | exact (GL.alloc (GL.alloc hG.out _) _).drewN _)).mono ?_; rintro e w3 ⟨rfl, hb3⟩; obtain ⟨hc3, hf3⟩ := bcell hb3; have q0 : w3.cell? ⟨w.heap.size, 0, none⟩ = some (.int .i64 0) := (hc3 _ _ (by first | (show w.heap.size < ((w.alloc _).alloc _).heap.size; rw [World.size_alloc, World.size_alloc]; omega) | (show w.heap.size < (w.alloc _).heap.size; simp))).trans (by first | (show ((w.alloc _).alloc _).cell? _ = _; simp [go_sem]; try omega) | (show (w.alloc _).cell? _ = _; simp [go_sem]; try omega)); have q1 : w3.cell? ⟨w.heap.size, 1, none⟩ = some (.int .i64 0) := (hc3 _ _ (by first | (show w.heap.size < ((w.alloc _).alloc _).heap.size; rw [World.size_alloc, World.size_alloc]; omega) | (show w.heap.size < (w.alloc _).heap.size; simp))).trans (by first | (show ((w.alloc _).alloc _).cell? _ = _; simp [go_sem]; try omega) | (show (w.alloc _).cell? _ = _; simp [go_sem]; try omega))))
  all_goals (try (go_region; go_wp2))
  all_goals (refine bodyPost_ret (v := .tuple #[.int .i64 1, .agg #[.int .i64 3, .int .i64 1]]) (by simp [results, Tryd.results65, go_sem, q0, q1]) rfl ⟨rfl, ?_⟩)
  all_goals (repeat (first | exact Below.refl _ _ | apply below_alloc | apply below_drew | apply pw_below_drewN | refine below_set ?_ (Nat.le_refl _) | refine below_step ?_ hb3))
set_option maxHeartbeats 1600000 in
theorem w_gotHeadersEnd_2 (w : World) (hG : GL w) : Calls Tryd.prog 65 #[.int .i64 2] w fun e w' => e = .returned (.tuple #[.int .i64 6, .agg #[.int .i64 0, .int .i64 0]]) ∧ Below w.heap.size w w' := by
  have hG := Aside0.mk hG
  obtain ⟨g00, g01, g10, g11, g20, g21, g30, g31, g40, g41, g50, g51, z0, z1, z2, z3, z4, z5⟩ := hG.out.all
  go_enter Tryd.func65, Tryd.ntmps65
  go_wp2_with (first | (go_at_call 41; refine (state_is.calls 9 (2) (some (Addr.mk (w.heap.size + 1) 0 none)) 4 ([0, 2, 3, 4] : List Int) true _ (by exact C_new _ _ [0, 2, 3, 4] (by decide) _ (by simp)) (by decide) (by decide +kernel)).mono ?_; rintro e w2 ⟨rfl, ⟨⟨nd, rfl⟩⟩⟩) | (go_at_call 86; refine (w_endedThere_2 _ (by first | exact hG.out | exact GL.alloc hG.out _ | exact (GL.alloc (GL.alloc hG.out _) _) | exact (GL.alloc (GL.alloc hG.out _) _).drewN _)).mono ?_; rintro e w3 ⟨rfl, hb3⟩; obtain ⟨hc3, hf3⟩ := bcell hb3; have q0 : w3.cell? ⟨w.heap.size, 0, none⟩ = some (.int .i64 0) := (hc3 _ _ (by first | (show w.heap.size < ((w.alloc _).alloc _).heap.size; rw [World.size_alloc, World.size_alloc]; omega) | (show w.heap.size < (w.alloc _).heap.size; simp))).trans (by first | (show ((w.alloc _).alloc _).cell? _ = _; simp [go_sem]; try omega) | (show (w.alloc _).cell? _ = _; simp [go_sem]; try omega)); have q1 : w3.cell? ⟨w.heap.size, 1, none⟩ = some (.int .i64 0) := (hc3 _ _ (by first | (show w.heap.size < ((w.alloc _).alloc _).heap.size; rw [World.size_alloc, World.size_alloc]; omega) | (show w.heap.size < (w.alloc _).heap.size; simp))).trans (by first | (show ((w.alloc _).alloc _).cell? _ = _; simp [go_sem]; try omega) | (show (w.alloc _).cell? _ = _; simp [go_sem]; try omega))) | (go_at_call 84; refine (w_late_2 _ (by first | exact hG.out | exact GL.alloc hG.out _ | exact (GL.alloc (GL.alloc hG.out _) _) | exact (GL.alloc (GL.alloc hG.out _) _).drewN _)).mono ?_; rintro e w3 ⟨rfl, hb3⟩; obtain ⟨hc3, hf3⟩ := bcell hb3; have q0 : w3.cell? ⟨w.heap.size, 0, none⟩ = some (.int .i64 0) := (hc3 _ _ (by first | (show w.heap.size < ((w.alloc _).alloc _).heap.size; rw [World.size_alloc, World.size_alloc]; omega) | (show w.heap.size < (w.alloc _).heap.size; simp))).trans (by first | (show ((w.alloc _).alloc _).cell? _ = _; simp [go_sem]; try omega) | (show (w.alloc _).cell? _ = _; simp [go_sem]; try omega)); have q1 : w3.cell? ⟨w.heap.size, 1, none⟩ = some (.int .i64 0) := (hc3 _ _ (by first | (show w.heap.size < ((w.alloc _).alloc _).heap.size; rw [World.size_alloc, World.size_alloc]; omega) | (show w.heap.size < (w.alloc _).heap.size; simp))).trans (by first | (show ((w.alloc _).alloc _).cell? _ = _; simp [go_sem]; try omega) | (show (w.alloc _).cell? _ = _; simp [go_sem]; try omega))))
  all_goals (try (go_region; go_wp2))
  all_goals (refine bodyPost_ret (v := .tuple #[.int .i64 6, .agg #[.int .i64 0, .int .i64 0]]) (by simp [results, Tryd.results65, go_sem, q0, q1]) rfl ⟨rfl, ?_⟩)
  all_goals (repeat (first | exact Below.refl _ _ | apply below_alloc | apply below_drew | apply pw_below_drewN | refine below_set ?_ (Nat.le_refl _) | refine below_step ?_ hb3))
set_option maxHeartbeats 1600000 in
theorem w_gotHeadersEnd_3 (w : World) (hG : GL w) : Calls Tryd.prog 65 #[.int .i64 3] w fun e w' => e = .returned (.tuple #[.int .i64 5, .agg #[.int .i64 0, .int .i64 0]]) ∧ Below w.heap.size w w' := by
  have hG := Aside0.mk hG
  obtain ⟨g00, g01, g10, g11, g20, g21, g30, g31, g40, g41, g50, g51, z0, z1, z2, z3, z4, z5⟩ := hG.out.all
  go_enter Tryd.func65, Tryd.ntmps65
  go_wp2_with (first | (go_at_call 41; refine (state_is.calls 9 (3) (some (Addr.mk (w.heap.size + 1) 0 none)) 4 ([0, 2, 3, 4] : List Int) true _ (by exact C_new _ _ [0, 2, 3, 4] (by decide) _ (by simp)) (by decide) (by decide +kernel)).mono ?_; rintro e w2 ⟨rfl, ⟨⟨nd, rfl⟩⟩⟩) | (go_at_call 86; refine (w_endedThere_3 _ (by first | exact hG.out | exact GL.alloc hG.out _ | exact (GL.alloc (GL.alloc hG.out _) _) | exact (GL.alloc (GL.alloc hG.out _) _).drewN _)).mono ?_; rintro e w3 ⟨rfl, hb3⟩; obtain ⟨hc3, hf3⟩ := bcell hb3; have q0 : w3.cell? ⟨w.heap.size, 0, none⟩ = some (.int .i64 0) := (hc3 _ _ (by first | (show w.heap.size < ((w.alloc _).alloc _).heap.size; rw [World.size_alloc, World.size_alloc]; omega) | (show w.heap.size < (w.alloc _).heap.size; simp))).trans (by first | (show ((w.alloc _).alloc _).cell? _ = _; simp [go_sem]; try omega) | (show (w.alloc _).cell? _ = _; simp [go_sem]; try omega)); have q1 : w3.cell? ⟨w.heap.size, 1, none⟩ = some (.int .i64 0) := (hc3 _ _ (by first | (show w.heap.size < ((w.alloc _).alloc _).heap.size; rw [World.size_alloc, World.size_alloc]; omega) | (show w.heap.size < (w.alloc _).heap.size; simp))).trans (by first | (show ((w.alloc _).alloc _).cell? _ = _; simp [go_sem]; try omega) | (show (w.alloc _).cell? _ = _; simp [go_sem]; try omega))) | (go_at_call 84; refine (w_late_3 _ (by first | exact hG.out | exact GL.alloc hG.out _ | exact (GL.alloc (GL.alloc hG.out _) _) | exact (GL.alloc (GL.alloc hG.out _) _).drewN _)).mono ?_; rintro e w3 ⟨rfl, hb3⟩; obtain ⟨hc3, hf3⟩ := bcell hb3; have q0 : w3.cell? ⟨w.heap.size, 0, none⟩ = some (.int .i64 0) := (hc3 _ _ (by first | (show w.heap.size < ((w.alloc _).alloc _).heap.size; rw [World.size_alloc, World.size_alloc]; omega) | (show w.heap.size < (w.alloc _).heap.size; simp))).trans (by first | (show ((w.alloc _).alloc _).cell? _ = _; simp [go_sem]; try omega) | (show (w.alloc _).cell? _ = _; simp [go_sem]; try omega)); have q1 : w3.cell? ⟨w.heap.size, 1, none⟩ = some (.int .i64 0) := (hc3 _ _ (by first | (show w.heap.size < ((w.alloc _).alloc _).heap.size; rw [World.size_alloc, World.size_alloc]; omega) | (show w.heap.size < (w.alloc _).heap.size; simp))).trans (by first | (show ((w.alloc _).alloc _).cell? _ = _; simp [go_sem]; try omega) | (show (w.alloc _).cell? _ = _; simp [go_sem]; try omega))))
  all_goals (try (go_region; go_wp2))
  all_goals (refine bodyPost_ret (v := .tuple #[.int .i64 5, .agg #[.int .i64 0, .int .i64 0]]) (by simp [results, Tryd.results65, go_sem, q0, q1]) rfl ⟨rfl, ?_⟩)
  all_goals (repeat (first | exact Below.refl _ _ | apply below_alloc | apply below_drew | apply pw_below_drewN | refine below_set ?_ (Nat.le_refl _) | refine below_step ?_ hb3))
set_option maxHeartbeats 1600000 in
theorem w_gotHeadersEnd_4 (w : World) (hG : GL w) : Calls Tryd.prog 65 #[.int .i64 4] w fun e w' => e = .returned (.tuple #[.int .i64 6, .agg #[.int .i64 0, .int .i64 0]]) ∧ Below w.heap.size w w' := by
  have hG := Aside0.mk hG
  obtain ⟨g00, g01, g10, g11, g20, g21, g30, g31, g40, g41, g50, g51, z0, z1, z2, z3, z4, z5⟩ := hG.out.all
  go_enter Tryd.func65, Tryd.ntmps65
  go_wp2_with (first | (go_at_call 41; refine (state_is.calls 9 (4) (some (Addr.mk (w.heap.size + 1) 0 none)) 4 ([0, 2, 3, 4] : List Int) true _ (by exact C_new _ _ [0, 2, 3, 4] (by decide) _ (by simp)) (by decide) (by decide +kernel)).mono ?_; rintro e w2 ⟨rfl, ⟨⟨nd, rfl⟩⟩⟩) | (go_at_call 86; refine (w_endedThere_4 _ (by first | exact hG.out | exact GL.alloc hG.out _ | exact (GL.alloc (GL.alloc hG.out _) _) | exact (GL.alloc (GL.alloc hG.out _) _).drewN _)).mono ?_; rintro e w3 ⟨rfl, hb3⟩; obtain ⟨hc3, hf3⟩ := bcell hb3; have q0 : w3.cell? ⟨w.heap.size, 0, none⟩ = some (.int .i64 0) := (hc3 _ _ (by first | (show w.heap.size < ((w.alloc _).alloc _).heap.size; rw [World.size_alloc, World.size_alloc]; omega) | (show w.heap.size < (w.alloc _).heap.size; simp))).trans (by first | (show ((w.alloc _).alloc _).cell? _ = _; simp [go_sem]; try omega) | (show (w.alloc _).cell? _ = _; simp [go_sem]; try omega)); have q1 : w3.cell? ⟨w.heap.size, 1, none⟩ = some (.int .i64 0) := (hc3 _ _ (by first | (show w.heap.size < ((w.alloc _).alloc _).heap.size; rw [World.size_alloc, World.size_alloc]; omega) | (show w.heap.size < (w.alloc _).heap.size; simp))).trans (by first | (show ((w.alloc _).alloc _).cell? _ = _; simp [go_sem]; try omega) | (show (w.alloc _).cell? _ = _; simp [go_sem]; try omega))) | (go_at_call 84; refine (w_late_4 _ (by first | exact hG.out | exact GL.alloc hG.out _ | exact (GL.alloc (GL.alloc hG.out _) _) | exact (GL.alloc (GL.alloc hG.out _) _).drewN _)).mono ?_; rintro e w3 ⟨rfl, hb3⟩; obtain ⟨hc3, hf3⟩ := bcell hb3; have q0 : w3.cell? ⟨w.heap.size, 0, none⟩ = some (.int .i64 0) := (hc3 _ _ (by first | (show w.heap.size < ((w.alloc _).alloc _).heap.size; rw [World.size_alloc, World.size_alloc]; omega) | (show w.heap.size < (w.alloc _).heap.size; simp))).trans (by first | (show ((w.alloc _).alloc _).cell? _ = _; simp [go_sem]; try omega) | (show (w.alloc _).cell? _ = _; simp [go_sem]; try omega)); have q1 : w3.cell? ⟨w.heap.size, 1, none⟩ = some (.int .i64 0) := (hc3 _ _ (by first | (show w.heap.size < ((w.alloc _).alloc _).heap.size; rw [World.size_alloc, World.size_alloc]; omega) | (show w.heap.size < (w.alloc _).heap.size; simp))).trans (by first | (show ((w.alloc _).alloc _).cell? _ = _; simp [go_sem]; try omega) | (show (w.alloc _).cell? _ = _; simp [go_sem]; try omega))))
  all_goals (try (go_region; go_wp2))
  all_goals (refine bodyPost_ret (v := .tuple #[.int .i64 6, .agg #[.int .i64 0, .int .i64 0]]) (by simp [results, Tryd.results65, go_sem, q0, q1]) rfl ⟨rfl, ?_⟩)
  all_goals (repeat (first | exact Below.refl _ _ | apply below_alloc | apply below_drew | apply pw_below_drewN | refine below_set ?_ (Nat.le_refl _) | refine below_step ?_ hb3))
set_option maxHeartbeats 1600000 in
theorem w_gotHeadersEnd_5 (w : World) (hG : GL w) : Calls Tryd.prog 65 #[.int .i64 5] w fun e w' => e = .returned (.tuple #[.int .i64 5, .agg #[.int .i64 2, .int .i64 5]]) ∧ Below w.heap.size w w' := by
  have hG := Aside0.mk hG
  obtain ⟨g00, g01, g10, g11, g20, g21, g30, g31, g40, g41, g50, g51, z0, z1, z2, z3, z4, z5⟩ := hG.out.all
  go_enter Tryd.func65, Tryd.ntmps65
  go_wp2_with (first | (go_at_call 41; refine (state_is.calls 9 (5) (some (Addr.mk (w.heap.size + 1) 0 none)) 4 ([0, 2, 3, 4] : List Int) false _ (by exact C_new _ _ [0, 2, 3, 4] (by decide) _ (by simp)) (by decide) (by decide +kernel)).mono ?_; rintro e w2 ⟨rfl, ⟨⟨nd, rfl⟩⟩⟩) | (go_at_call 86; refine (w_endedThere_5 _ (by first | exact hG.out | exact GL.alloc hG.out _ | exact (GL.alloc (GL.alloc hG.out _) _) | exact (GL.alloc (GL.alloc hG.out _) _).drewN _)).mono ?_; rintro e w3 ⟨rfl, hb3⟩; obtain ⟨hc3, hf3⟩ := bcell hb3; have q0 : w3.cell? ⟨w.heap.size, 0, none⟩ = some (.int .i64 0) := (hc3 _ _ (by first | (show w.heap.size < ((w.alloc _).alloc _).heap.size; rw [World.size_alloc, World.size_alloc]; omega) | (show w.heap.size < (w.alloc _).heap.size; simp))).trans (by first | (show ((w.alloc _).alloc _).cell? _ = _; simp [go_sem]; try omega) | (show (w.alloc _).cell? _ = _; simp [go_sem]; try omega)); have q1 : w3.cell? ⟨w.heap.size, 1, none⟩ = some (.int .i64 0) := (hc3 _ _ (by first | (show w.heap.size < ((w.alloc _).alloc _).heap.size; rw [World.size_alloc, World.size_alloc]; omega) | (show w.heap.size < (w.alloc _).heap.size; simp))).trans (by first | (show ((w.alloc _).alloc _).cell? _ = _; simp [go_sem]; try omega) | (show (w.alloc _).cell? _ = _; simp [go_sem]; try omega))) | (go_at_call 84; refine (w_late_5 _ (by first | exact hG.out | exact GL.alloc hG.out _ | exact (GL.alloc (GL.alloc hG.out _) _) | exact (GL.alloc (GL.alloc hG.out _) _).drewN _)).mono ?_; rintro e w3 ⟨rfl, hb3⟩; obtain ⟨hc3, hf3⟩ := bcell hb3; have q0 : w3.cell? ⟨w.heap.size, 0, none⟩ = some (.int .i64 0) := (hc3 _ _ (by first | (show w.heap.size < ((w.alloc _).alloc _).heap.size; rw [World.size_alloc, World.size_alloc]; omega) | (show w.heap.size < (w.alloc _).heap.size; simp))).trans (by first | (show ((w.alloc _).alloc _).cell? _ = _; simp [go_sem]; try omega) | (show (w.alloc _).cell? _ = _; simp [go_sem]; try omega)); have q1 : w3.cell? ⟨w.heap.size, 1, none⟩ = some (.int .i64 0) := (hc3 _ _ (by first | (show w.heap.size < ((w.alloc _).alloc _).heap.size; rw [World.size_alloc, World.size_alloc]; omega) | (show w.heap.size < (w.alloc _).heap.size; simp))).trans (by first | (show ((w.alloc _).alloc _).cell? _ = _; simp [go_sem]; try omega) | (show (w.alloc _).cell? _ = _; simp [go_sem]; try omega))))
  all_goals (try (go_region; go_wp2))
  all_goals (refine bodyPost_ret (v := .tuple #[.int .i64 5, .agg #[.int .i64 2, .int .i64 5]]) (by simp [results, Tryd.results65, go_sem, q0, q1]) rfl ⟨rfl, ?_⟩)
  all_goals (repeat (first | exact Below.refl _ _ | apply below_alloc | apply below_drew | apply pw_below_drewN | refine below_set ?_ (Nat.le_refl _) | refine below_step ?_ hb3))
set_option maxHeartbeats 1600000 in
theorem w_gotHeadersEnd_6 (w : World) (hG : GL w) : Calls Tryd.prog 65 #[.int .i64 6] w fun e w' => e = .returned (.tuple #[.int .i64 6, .agg #[.int .i64 3, .int .i64 5]]) ∧ Below w.heap.size w w' := by
  have hG := Aside0.mk hG
  obtain ⟨g00, g01, g10, g11, g20, g21, g30, g31, g40, g41, g50, g51, z0, z1, z2, z3, z4, z5⟩ := hG.out.all
  go_enter Tryd.func65, Tryd.ntmps65
  go_wp2_with (first | (go_at_call 41; refine (state_is.calls 9 (6) (some (Addr.mk (w.heap.size + 1) 0 none)) 4 ([0, 2, 3, 4] : List Int) false _ (by exact C_new _ _ [0, 2, 3, 4] (by decide) _ (by simp)) (by decide) (by decide +kernel)).mono ?_; rintro e w2 ⟨rfl, ⟨⟨nd, rfl⟩⟩⟩) | (go_at_call 86; refine (w_endedThere_6 _ (by first | exact hG.out | exact GL.alloc hG.out _ | exact (GL.alloc (GL.alloc hG.out _) _) | exact (GL.alloc (GL.alloc hG.out _) _).drewN _)).mono ?_; rintro e w3 ⟨rfl, hb3⟩; obtain ⟨hc3, hf3⟩ := bcell hb3; have q0 : w3.cell? ⟨w.heap.size, 0, none⟩ = some (.int .i64 0) := (hc3 _ _ (by first | (show w.heap.size < ((w.alloc _).alloc _).heap.size; rw [World.size_alloc, World.size_alloc]; omega) | (show w.heap.size < (w.alloc _).heap.size; simp))).trans (by first | (show ((w.alloc _).alloc _).cell? _ = _; simp [go_sem]; try omega) | (show (w.alloc _).cell? _ = _; simp [go_sem]; try omega)); have q1 : w3.cell? ⟨w.heap.size, 1, none⟩ = some (.int .i64 0) := (hc3 _ _ (by first | (show w.heap.size < ((w.alloc _).alloc _).heap.size; rw [World.size_alloc, World.size_alloc]; omega) | (show w.heap.size < (w.alloc _).heap.size; simp))).trans (by first | (show ((w.alloc _).alloc _).cell? _ = _; simp [go_sem]; try omega) | (show (w.alloc _).cell? _ = _; simp [go_sem]; try omega))) | (go_at_call 84; refine (w_late_6 _ (by first | exact hG.out | exact GL.alloc hG.out _ | exact (GL.alloc (GL.alloc hG.out _) _) | exact (GL.alloc (GL.alloc hG.out _) _).drewN _)).mono ?_; rintro e w3 ⟨rfl, hb3⟩; obtain ⟨hc3, hf3⟩ := bcell hb3; have q0 : w3.cell? ⟨w.heap.size, 0, none⟩ = some (.int .i64 0) := (hc3 _ _ (by first | (show w.heap.size < ((w.alloc _).alloc _).heap.size; rw [World.size_alloc, World.size_alloc]; omega) | (show w.heap.size < (w.alloc _).heap.size; simp))).trans (by first | (show ((w.alloc _).alloc _).cell? _ = _; simp [go_sem]; try omega) | (show (w.alloc _).cell? _ = _; simp [go_sem]; try omega)); have q1 : w3.cell? ⟨w.heap.size, 1, none⟩ = some (.int .i64 0) := (hc3 _ _ (by first | (show w.heap.size < ((w.alloc _).alloc _).heap.size; rw [World.size_alloc, World.size_alloc]; omega) | (show w.heap.size < (w.alloc _).heap.size; simp))).trans (by first | (show ((w.alloc _).alloc _).cell? _ = _; simp [go_sem]; try omega) | (show (w.alloc _).cell? _ = _; simp [go_sem]; try omega))))
  all_goals (try (go_region; go_wp2))
  all_goals (refine bodyPost_ret (v := .tuple #[.int .i64 6, .agg #[.int .i64 3, .int .i64 5]]) (by simp [results, Tryd.results65, go_sem, q0, q1]) rfl ⟨rfl, ?_⟩)
  all_goals (repeat (first | exact Below.refl _ _ | apply below_alloc | apply below_drew | apply pw_below_drewN | refine below_set ?_ (Nat.le_refl _) | refine below_step ?_ hb3))
set_option maxHeartbeats 1600000 in
set_option maxHeartbeats 1600000 in
theorem w_gotData_0 (w : World) (hG : GL w) : Calls Tryd.prog 67 #[.int .i64 0] w fun e w' => e = .returned (.tuple #[.int .i64 0, .agg #[.int .i64 3, .int .i64 1]]) ∧ Below w.heap.size w w' := by
  have hG := Aside0.mk hG
  obtain ⟨g00, g01, g10, g11, g20, g21, g30, g31, g40, g41, g50, g51, z0, z1, z2, z3, z4, z5⟩ := hG.out.all
  go_enter Tryd.func67, Tryd.ntmps67
  go_wp2_with (first | (go_at_call 41; refine (state_is.calls 9 (0) (some (Addr.mk (w.heap.size + 1) 0 none)) 2 ([3, 4] : List Int) false _ (by exact C_new _ _ [3, 4] (by decide) _ (by simp)) (by decide) (by decide +kernel)).mono ?_; rintro e w2 ⟨rfl, ⟨⟨nd, rfl⟩⟩⟩) | (go_at_call 84; refine (w_late_0 _ (by first | exact hG.out | exact GL.alloc hG.out _ | exact (GL.alloc (GL.alloc hG.out _) _) | exact (GL.alloc (GL.alloc hG.out _) _).drewN _)).mono ?_; rintro e w3 ⟨rfl, hb3⟩; obtain ⟨hc3, hf3⟩ := bcell hb3; have q0 : w3.cell? ⟨w.heap.size, 0, none⟩ = some (.int .i64 0) := (hc3 _ _ (by first | (show w.heap.size < ((w.alloc _).alloc _).heap.size; rw [World.size_alloc, World.size_alloc]; omega) | (show w.heap.size < (w.alloc _).heap.size; simp))).trans (by first | (show ((w.alloc _).alloc _).cell? _ = _; simp [go_sem]; try omega) | (show (w.alloc _).cell? _ = _; simp [go_sem]; try omega)); have q1 : w3.cell? ⟨w.heap.size, 1, none⟩ = some (.int .i64 0) := (hc3 _ _ (by first | (show w.heap.size < ((w.alloc _).alloc _).heap.size; rw [World.size_alloc, World.size_alloc]; omega) | (show w.heap.size < (w.alloc _).heap.size; simp))).trans (by first | (show ((w.alloc _).alloc _).cell? _ = _; simp [go_sem]; try omega) | (show (w.alloc _).cell? _ = _; simp [go_sem]; try omega))))
  all_goals (try (go_region; go_wp2))
  all_goals (refine bodyPost_ret (v := .tuple #[.int .i64 0, .agg #[.int .i64 3, .int .i64 1]]) (by simp [results, Tryd.results67, go_sem, q0, q1]) rfl ⟨rfl, ?_⟩)
  all_goals (repeat (first | exact Below.refl _ _ | apply below_alloc | apply below_drew | apply pw_below_drewN | refine below_set ?_ (Nat.le_refl _) | refine below_step ?_ hb3))
set_option maxHeartbeats 1600000 in
theorem w_gotData_1 (w : World) (hG : GL w) : Calls Tryd.prog 67 #[.int .i64 1] w fun e w' => e = .returned (.tuple #[.int .i64 1, .agg #[.int .i64 3, .int .i64 1]]) ∧ Below w.heap.size w w' := by
  have hG := Aside0.mk hG
  obtain ⟨g00, g01, g10, g11, g20, g21, g30, g31, g40, g41, g50, g51, z0, z1, z2, z3, z4, z5⟩ := hG.out.all
  go_enter Tryd.func67, Tryd.ntmps67
  go_wp2_with (first | (go_at_call 41; refine (state_is.calls 9 (1) (some (Addr.mk (w.heap.size + 1) 0 none)) 2 ([3, 4] : List Int) false _ (by exact C_new _ _ [3, 4] (by decide) _ (by simp)) (by decide) (by decide +kernel)).mono ?_; rintro e w2 ⟨rfl, ⟨⟨nd, rfl⟩⟩⟩) | (go_at_call 84; refine (w_late_1 _ (by first | exact hG.out | exact GL.alloc hG.out _ | exact (GL.alloc (GL.alloc hG.out _) _) | exact (GL.alloc (GL.alloc hG.out _) _).drewN _)).mono ?_; rintro e w3 ⟨rfl, hb3⟩; obtain ⟨hc3, hf3⟩ := bcell hb3; have q0 : w3.cell? ⟨w.heap.size, 0, none⟩ = some (.int .i64 0) := (hc3 _ _ (by first | (show w.heap.size < ((w.alloc _).alloc _).heap.size; rw [World.size_alloc, World.size_alloc]; omega) | (show w.heap.size < (w.alloc _).heap.size; simp))).trans (by first | (show ((w.alloc _).alloc _).cell? _ = _; simp [go_sem]; try omega) | (show (w.alloc _).cell? _ = _; simp [go_sem]; try omega)); have q1 : w3.cell? ⟨w.heap.size, 1, none⟩ = some (.int .i64 0) := (hc3 _ _ (by first | (show w.heap.size < ((w.alloc _).alloc _).heap.size; rw [World.size_alloc, World.size_alloc]; omega) | (show w.heap.size < (w.alloc _).heap.size; simp))).trans (by first | (show ((w.alloc _).alloc _).cell? _ = _; simp [go_sem]; try omega) | (show (w.alloc _).cell? _ = _; simp [go_sem]; try omega))))
  all_goals (try (go_region; go_wp2))
  all_goals (refine bodyPost_ret (v := .tuple #[.int .i64 1, .agg #[.int .i64 3, .int .i64 1]]) (by simp [results, Tryd.results67, go_sem, q0, q1]) rfl ⟨rfl, ?_⟩)
  all_goals (repeat (first | exact Below.refl _ _ | apply below_alloc | apply below_drew | apply pw_below_drewN | refine below_set ?_ (Nat.le_refl _) | refine below_step ?_ hb3))
set_option maxHeartbeats 1600000 in
theorem w_gotData_2 (w : World) (hG : GL w) : Calls Tryd.prog 67 #[.int .i64 2] w fun e w' => e = .returned (.tuple #[.int .i64 2, .agg #[.int .i64 3, .int .i64 1]]) ∧ Below w.heap.size w w' := by
  have hG := Aside0.mk hG
  obtain ⟨g00, g01, g10, g11, g20, g21, g30, g31, g40, g41, g50, g51, z0, z1, z2, z3, z4, z5⟩ := hG.out.all
  go_enter Tryd.func67, Tryd.ntmps67
  go_wp2_with (first | (go_at_call 41; refine (state_is.calls 9 (2) (some (Addr.mk (w.heap.size + 1) 0 none)) 2 ([3, 4] : List Int) false _ (by exact C_new _ _ [3, 4] (by decide) _ (by simp)) (by decide) (by decide +kernel)).mono ?_; rintro e w2 ⟨rfl, ⟨⟨nd, rfl⟩⟩⟩) | (go_at_call 84; refine (w_late_2 _ (by first | exact hG.out | exact GL.alloc hG.out _ | exact (GL.alloc (GL.alloc hG.out _) _) | exact (GL.alloc (GL.alloc hG.out _) _).drewN _)).mono ?_; rintro e w3 ⟨rfl, hb3⟩; obtain ⟨hc3, hf3⟩ := bcell hb3; have q0 : w3.cell? ⟨w.heap.size, 0, none⟩ = some (.int .i64 0) := (hc3 _ _ (by first | (show w.heap.size < ((w.alloc _).alloc _).heap.size; rw [World.size_alloc, World.size_alloc]; omega) | (show w.heap.size < (w.alloc _).heap.size; simp))).trans (by first | (show ((w.alloc _).alloc _).cell? _ = _; simp [go_sem]; try omega) | (show (w.alloc _).cell? _ = _; simp [go_sem]; try omega)); have q1 : w3.cell? ⟨w.heap.size, 1, none⟩ = some (.int .i64 0) := (hc3 _ _ (by first | (show w.heap.size < ((w.alloc _).alloc _).heap.size; rw [World.size_alloc, World.size_alloc]; omega) | (show w.heap.size < (w.alloc _).heap.size; simp))).trans (by first | (show ((w.alloc _).alloc _).cell? _ = _; simp [go_sem]; try omega) | (show (w.alloc _).cell? _ = _; simp [go_sem]; try omega))))
  all_goals (try (go_region; go_wp2))
  all_goals (refine bodyPost_ret (v := .tuple #[.int .i64 2, .agg #[.int .i64 3, .int .i64 1]]) (by simp [results, Tryd.results67, go_sem, q0, q1]) rfl ⟨rfl, ?_⟩)
  all_goals (repeat (first | exact Below.refl _ _ | apply below_alloc | apply below_drew | apply pw_below_drewN | refine below_set ?_ (Nat.le_refl _) | refine below_step ?_ hb3))
set_option maxHeartbeats 1600000 in
theorem w_gotData_3 (w : World) (hG : GL w) : Calls Tryd.prog 67 #[.int .i64 3] w fun e w' => e = .returned (.tuple #[.int .i64 3, .agg #[.int .i64 0, .int .i64 0]]) ∧ Below w.heap.size w w' := by
  have hG := Aside0.mk hG
  obtain ⟨g00, g01, g10, g11, g20, g21, g30, g31, g40, g41, g50, g51, z0, z1, z2, z3, z4, z5⟩ := hG.out.all
  go_enter Tryd.func67, Tryd.ntmps67
  go_wp2_with (first | (go_at_call 41; refine (state_is.calls 9 (3) (some (Addr.mk (w.heap.size + 1) 0 none)) 2 ([3, 4] : List Int) true _ (by exact C_new _ _ [3, 4] (by decide) _ (by simp)) (by decide) (by decide +kernel)).mono ?_; rintro e w2 ⟨rfl, ⟨⟨nd, rfl⟩⟩⟩) | (go_at_call 84; refine (w_late_3 _ (by first | exact hG.out | exact GL.alloc hG.out _ | exact (GL.alloc (GL.alloc hG.out _) _) | exact (GL.alloc (GL.alloc hG.out _) _).drewN _)).mono ?_; rintro e w3 ⟨rfl, hb3⟩; obtain ⟨hc3, hf3⟩ := bcell hb3; have q0 : w3.cell? ⟨w.heap.size, 0, none⟩ = some (.int .i64 0) := (hc3 _ _ (by first | (show w.heap.size < ((w.alloc _).alloc _).heap.size; rw [World.size_alloc, World.size_alloc]; omega) | (show w.heap.size < (w.alloc _).heap.size; simp))).trans (by first | (show ((w.alloc _).alloc _).cell? _ = _; simp [go_sem]; try omega) | (show (w.alloc _).cell? _ = _; simp [go_sem]; try omega)); have q1 : w3.cell? ⟨w.heap.size, 1, none⟩ = some (.int .i64 0) := (hc3 _ _ (by first | (show w.heap.size < ((w.alloc _).alloc _).heap.size; rw [World.size_alloc, World.size_alloc]; omega) | (show w.heap.size < (w.alloc _).heap.size; simp))).trans (by first | (show ((w.alloc _).alloc _).cell? _ = _; simp [go_sem]; try omega) | (show (w.alloc _).cell? _ = _; simp [go_sem]; try omega))))
  all_goals (try (go_region; go_wp2))
  all_goals (refine bodyPost_ret (v := .tuple #[.int .i64 3, .agg #[.int .i64 0, .int .i64 0]]) (by simp [results, Tryd.results67, go_sem]) rfl ⟨rfl, ?_⟩)
  all_goals (repeat (first | exact Below.refl _ _ | apply below_alloc | apply below_drew | apply pw_below_drewN | refine below_set ?_ (Nat.le_refl _) | refine below_step ?_ hb3))
set_option maxHeartbeats 1600000 in
theorem w_gotData_4 (w : World) (hG : GL w) : Calls Tryd.prog 67 #[.int .i64 4] w fun e w' => e = .returned (.tuple #[.int .i64 4, .agg #[.int .i64 0, .int .i64 0]]) ∧ Below w.heap.size w w' := by
  have hG := Aside0.mk hG
  obtain ⟨g00, g01, g10, g11, g20, g21, g30, g31, g40, g41, g50, g51, z0, z1, z2, z3, z4, z5⟩ := hG.out.all
  go_enter Tryd.func67, Tryd.ntmps67
  go_wp2_with (first | (go_at_call 41; refine (state_is.calls 9 (4) (some (Addr.mk (w.heap.size + 1) 0 none)) 2 ([3, 4] : List Int) true _ (by exact C_new _ _ [3, 4] (by decide) _ (by simp)) (by decide) (by decide +kernel)).mono ?_; rintro e w2 ⟨rfl, ⟨⟨nd, rfl⟩⟩⟩) | (go_at_call 84; refine (w_late_4 _ (by first | exact hG.out | exact GL.alloc hG.out _ | exact (GL.alloc (GL.alloc hG.out _) _) | exact (GL.alloc (GL.alloc hG.out _) _).drewN _)).mono ?_; rintro e w3 ⟨rfl, hb3⟩; obtain ⟨hc3, hf3⟩ := bcell hb3; have q0 : w3.cell? ⟨w.heap.size, 0, none⟩ = some (.int .i64 0) := (hc3 _ _ (by first | (show w.heap.size < ((w.alloc _).alloc _).heap.size; rw [World.size_alloc, World.size_alloc]; omega) | (show w.heap.size < (w.alloc _).heap.size; simp))).trans (by first | (show ((w.alloc _).alloc _).cell? _ = _; simp [go_sem]; try omega) | (show (w.alloc _).cell? _ = _; simp [go_sem]; try omega)); have q1 : w3.cell? ⟨w.heap.size, 1, none⟩ = some (.int .i64 0) := (hc3 _ _ (by first | (show w.heap.size < ((w.alloc _).alloc _).heap.size; rw [World.size_alloc, World.size_alloc]; omega) | (show w.heap.size < (w.alloc _).heap.size; simp))).trans (by first | (show ((w.alloc _).alloc _).cell? _ = _; simp [go_sem]; try omega) | (show (w.alloc _).cell? _ = _; simp [go_sem]; try omega))))
  all_goals (try (go_region; go_wp2))
  all_goals (refine bodyPost_ret (v := .tuple #[.int .i64 4, .agg #[.int .i64 0, .int .i64 0]]) (by simp [results, Tryd.results67, go_sem]) rfl ⟨rfl, ?_⟩)
  all_goals (repeat (first | exact Below.refl _ _ | apply below_alloc | apply below_drew | apply pw_below_drewN | refine below_set ?_ (Nat.le_refl _) | refine below_step ?_ hb3))
set_option maxHeartbeats 1600000 in
theorem w_gotData_5 (w : World) (hG : GL w) : Calls Tryd.prog 67 #[.int .i64 5] w fun e w' => e = .returned (.tuple #[.int .i64 5, .agg #[.int .i64 2, .int .i64 5]]) ∧ Below w.heap.size w w' := by
  have hG := Aside0.mk hG
  obtain ⟨g00, g01, g10, g11, g20, g21, g30, g31, g40, g41, g50, g51, z0, z1, z2, z3, z4, z5⟩ := hG.out.all
  go_enter Tryd.func67, Tryd.ntmps67
  go_wp2_with (first | (go_at_call 41; refine (state_is.calls 9 (5) (some (Addr.mk (w.heap.size + 1) 0 none)) 2 ([3, 4] : List Int) false _ (by exact C_new _ _ [3, 4] (by decide) _ (by simp)) (by decide) (by decide +kernel)).mono ?_; rintro e w2 ⟨rfl, ⟨⟨nd, rfl⟩⟩⟩) | (go_at_call 84; refine (w_late_5 _ (by first | exact hG.out | exact GL.alloc hG.out _ | exact (GL.alloc (GL.alloc hG.out _) _) | exact (GL.alloc (GL.alloc hG.out _) _).drewN _)).mono ?_; rintro e w3 ⟨rfl, hb3⟩; obtain ⟨hc3, hf3⟩ := bcell hb3; have q0 : w3.cell? ⟨w.heap.size, 0, none⟩ = some (.int .i64 0) := (hc3 _ _ (by first | (show w.heap.size < ((w.alloc _).alloc _).heap.size; rw [World.size_alloc, World.size_alloc]; omega) | (show w.heap.size < (w.alloc _).heap.size; simp))).trans (by first | (show ((w.alloc _).alloc _).cell? _ = _; simp [go_sem]; try omega) | (show (w.alloc _).cell? _ = _; simp [go_sem]; try omega)); have q1 : w3.cell? ⟨w.heap.size, 1, none⟩ = some (.int .i64 0) := (hc3 _ _ (by first | (show w.heap.size < ((w.alloc _).alloc _).heap.size; rw [World.size_alloc, World.size_alloc]; omega) | (show w.heap.size < (w.alloc _).heap.size; simp))).trans (by first | (show ((w.alloc _).alloc _).cell? _ = _; simp [go_sem]; try omega) | (show (w.alloc _).cell? _ = _; simp [go_sem]; try omega))))
  all_goals (try (go_region; go_wp2))
  all_goals (refine bodyPost_ret (v := .tuple #[.int .i64 5, .agg #[.int .i64 2, .int .i64 5]]) (by simp [results, Tryd.results67, go_sem, q0, q1]) rfl ⟨rfl, ?_⟩)
  all_goals (repeat (first | exact Below.refl _ _ | apply below_alloc | apply below_drew | apply pw_below_drewN | refine below_set ?_ (Nat.le_refl _) | refine below_step ?_ hb3))
set_option maxHeartbeats 1600000 in
theorem w_gotData_6 (w : World) (hG : GL w) : Calls Tryd.prog 67 #[.int .i64 6] w fun e w' => e = .returned (.tuple #[.int .i64 6, .agg #[.int .i64 3, .int .i64 5]]) ∧ Below w.heap.size w w' := by
  have hG := Aside0.mk hG
  obtain ⟨g00, g01, g10, g11, g20, g21, g30, g31, g40, g41, g50, g51, z0, z1, z2, z3, z4, z5⟩ := hG.out.all
  go_enter Tryd.func67, Tryd.ntmps67
  go_wp2_with (first | (go_at_call 41; refine (state_is.calls 9 (6) (some (Addr.mk (w.heap.size + 1) 0 none)) 2 ([3, 4] : List Int) false _ (by exact C_new _ _ [3, 4] (by decide) _ (by simp)) (by decide) (by decide +kernel)).mono ?_; rintro e w2 ⟨rfl, ⟨⟨nd, rfl⟩⟩⟩) | (go_at_call 84; refine (w_late_6 _ (by first | exact hG.out | exact GL.alloc hG.out _ | exact (GL.alloc (GL.alloc hG.out _) _) | exact (GL.alloc (GL.alloc hG.out _) _).drewN _)).mono ?_; rintro e w3 ⟨rfl, hb3⟩; obtain ⟨hc3, hf3⟩ := bcell hb3; have q0 : w3.cell? ⟨w.heap.size, 0, none⟩ = some (.int .i64 0) := (hc3 _ _ (by first | (show w.heap.size < ((w.alloc _).alloc _).heap.size; rw [World.size_alloc, World.size_alloc]; omega) | (show w.heap.size < (w.alloc _).heap.size; simp))).trans (by first | (show ((w.alloc _).alloc _).cell? _ = _; simp [go_sem]; try omega) | (show (w.alloc _).cell? _ = _; simp [go_sem]; try omega)); have q1 : w3.cell? ⟨w.heap.size, 1, none⟩ = some (.int .i64 0) := (hc3 _ _ (by first | (show w.heap.size < ((w.alloc _).alloc _).heap.size; rw [World.size_alloc, World.size_alloc]; omega) | (show w.heap.size < (w.alloc _).heap.size; simp))).trans (by first | (show ((w.alloc _).alloc _).cell? _ = _; simp [go_sem]; try omega) | (show (w.alloc _).cell? _ = _; simp [go_sem]; try omega))))
  all_goals (try (go_region; go_wp2))
  all_goals (refine bodyPost_ret (v := .tuple #[.int .i64 6, .agg #[.int .i64 3, .int .i64 5]]) (by simp [results, Tryd.results67, go_sem, q0, q1]) rfl ⟨rfl, ?_⟩)
  all_goals (repeat (first | exact Below.refl _ _ | apply below_alloc | apply below_drew | apply pw_below_drewN | refine below_set ?_ (Nat.le_refl _) | refine below_step ?_ hb3))
set_option maxHeartbeats 1600000 in
set_option maxHeartbeats 1600000 in
theorem w_sentDataEnd_0 (w : World) (hG : GL w) : Calls Tryd.prog 68 #[.int .i64 0] w fun e w' => e = .returned (.tuple #[.int .i64 0, .agg #[.int .i64 4, .int .i64 0]]) ∧ Below w.heap.size w w' := by
  have hG := Aside0.mk hG
  obtain ⟨g00, g01, g10, g11, g20, g21, g30, g31, g40, g41, g50, g51, z0, z1, z2, z3, z4, z5⟩ := hG.out.all
  go_enter Tryd.func68, Tryd.ntmps68
  go_wp2_with (first | (go_at_call 41; refine (state_is.calls 9 (0) (some (Addr.mk (w.heap.size + 1) 0 none)) 2 ([3, 5] : List Int) false _ (by exact C_new _ _ [3, 5] (by decide) _ (by simp)) (by decide) (by decide +kernel)).mono ?_; rintro e w2 ⟨rfl, ⟨⟨nd, rfl⟩⟩⟩) | (go_at_call 85; refine (w_endedHere_0 _ (by first | exact hG.out | exact GL.alloc hG.out _ | exact (GL.alloc (GL.alloc hG.out _) _) | exact (GL.alloc (GL.alloc hG.out _) _).drewN _)).mono ?_; rintro e w3 ⟨rfl, hb3⟩; obtain ⟨hc3, hf3⟩ := bcell hb3; have q0 : w3.cell? ⟨w.heap.size, 0, none⟩ = some (.int .i64 0) := (hc3 _ _ (by first | (show w.heap.size < ((w.alloc _).alloc _).heap.size; rw [World.size_alloc, World.size_alloc]; omega) | (show w.heap.size < (w.alloc _).heap.size; simp))).trans (by first | (show ((w.alloc _).alloc _).cell? _ = _; simp [go_sem]; try omega) | (show (w.alloc _).cell? _ = _; simp [go_sem]; try omega)); have q1 : w3.cell? ⟨w.heap.size, 1, none⟩ = some (.int .i64 0) := (hc3 _ _ (by first | (show w.heap.size < ((w.alloc _).alloc _).heap.size; rw [World.size_alloc, World.size_alloc]; omega) | (show w.heap.size < (w.alloc _).heap.size; simp))).trans (by first | (show ((w.alloc _).alloc _).cell? _ = _; simp [go_sem]; try omega) | (show (w.alloc _).cell? _ = _; simp [go_sem]; try omega))))
  all_goals (try (go_region; go_wp2))
  all_goals (refine bodyPost_ret (v := .tuple #[.int .i64 0, .agg #[.int .i64 4, .int .i64 0]]) (by simp [results, Tryd.results68, go_sem]) rfl ⟨rfl, ?_⟩)
  all_goals (repeat (first | exact Below.refl _ _ | apply below_alloc | apply below_drew | apply pw_below_drewN | refine below_set ?_ (Nat.le_refl _) | refine below_step ?_ hb3))
set_option maxHeartbeats 1600000 in
theorem w_sentDataEnd_1 (w : World) (hG : GL w) : Calls Tryd.prog 68 #[.int .i64 1] w fun e w' => e = .returned (.tuple #[.int .i64 1, .agg #[.int .i64 4, .int .i64 0]]) ∧ Below w.heap.size w w' := by
  have hG := Aside0.mk hG
  obtain ⟨g00, g01, g10, g11, g20, g21, g30, g31, g40, g41, g50, g51, z0, z1, z2, z3, z4, z5⟩ := hG.out.all
  go_enter Tryd.func68, Tryd.ntmps68
  go_wp2_with (first | (go_at_call 41; refine (state_is.calls 9 (1) (some (Addr.mk (w.heap.size + 1) 0 none)) 2 ([3, 5] : List Int) false _ (by exact C_new _ _ [3, 5] (by decide) _ (by simp)) (by decide) (by decide +kernel)).mono ?_; rintro e w2 ⟨rfl, ⟨⟨nd, rfl⟩⟩⟩) | (go_at_call 85; refine (w_endedHere_1 _ (by first | exact hG.out | exact GL.alloc hG.out _ | exact (GL.alloc (GL.alloc hG.out _) _) | exact (GL.alloc (GL.alloc hG.out _) _).drewN _)).mono ?_; rintro e w3 ⟨rfl, hb3⟩; obtain ⟨hc3, hf3⟩ := bcell hb3; have q0 : w3.cell? ⟨w.heap.size, 0, none⟩ = some (.int .i64 0) := (hc3 _ _ (by first | (show w.heap.size < ((w.alloc _).alloc _).heap.size; rw [World.size_alloc, World.size_alloc]; omega) | (show w.heap.size < (w.alloc _).heap.size; simp))).trans (by first | (show ((w.alloc _).alloc _).cell? _ = _; simp [go_sem]; try omega) | (show (w.alloc _).cell? _ = _; simp [go_sem]; try omega)); have q1 : w3.cell? ⟨w.heap.size, 1, none⟩ = some (.int .i64 0) := (hc3 _ _ (by first | (show w.heap.size < ((w.alloc _).alloc _).heap.size; rw [World.size_alloc, World.size_alloc]; omega) | (show w.heap.size < (w.alloc _).heap.size; simp))).trans (by first | (show ((w.alloc _).alloc _).cell? _ = _; simp [go_sem]; try omega) | (show (w.alloc _).cell? _ = _; simp [go_sem]; try omega))))
  all_goals (try (go_region; go_wp2))
  all_goals (refine bodyPost_ret (v := .tuple #[.int .i64 1, .agg #[.int .i64 4, .int .i64 0]]) (by simp [results, Tryd.results68, go_sem]) rfl ⟨rfl, ?_⟩)
  all_goals (repeat (first | exact Below.refl _ _ | apply below_alloc | apply below_drew | apply pw_below_drewN | refine below_set ?_ (Nat.le_refl _) | refine below_step ?_ hb3))
set_option maxHeartbeats 1600000 in
theorem w_sentDataEnd_2 (w : World) (hG : GL w) : Calls Tryd.prog 68 #[.int .i64 2] w fun e w' => e = .returned (.tuple #[.int .i64 2, .agg #[.int .i64 4, .int .i64 0]]) ∧ Below w.heap.size w w' := by
  have hG := Aside0.mk hG
  obtain ⟨g00, g01, g10, g11, g20, g21, g30, g31, g40, g41, g50, g51, z0, z1, z2, z3, z4, z5⟩ := hG.out.all
  go_enter Tryd.func68, Tryd.ntmps68
  go_wp2_with (first | (go_at_call 41; refine (state_is.calls 9 (2) (some (Addr.mk (w.heap.size + 1) 0 none)) 2 ([3, 5] : List Int) false _ (by exact C_new _ _ [3, 5] (by decide) _ (by simp)) (by decide) (by decide +kernel)).mono ?_; rintro e w2 ⟨rfl, ⟨⟨nd, rfl⟩⟩⟩) | (go_at_call 85; refine (w_endedHere_2 _ (by first | exact hG.out | exact GL.alloc hG.out _ | exact (GL.alloc (GL.alloc hG.out _) _) | exact (GL.alloc (GL.alloc hG.out _) _).drewN _)).mono ?_; rintro e w3 ⟨rfl, hb3⟩; obtain ⟨hc3, hf3⟩ := bcell hb3; have q0 : w3.cell? ⟨w.heap.size, 0, none⟩ = some (.int .i64 0) := (hc3 _ _ (by first | (show w.heap.size < ((w.alloc _).alloc _).heap.size; rw [World.size_alloc, World.size_alloc]; omega) | (show w.heap.size < (w.alloc _).heap.size; simp))).trans (by first | (show ((w.alloc _).alloc _).cell? _ = _; simp [go_sem]; try omega) | (show (w.alloc _).cell? _ = _; simp [go_sem]; try omega)); have q1 : w3.cell? ⟨w.heap.size, 1, none⟩ = some (.int .i64 0) := (hc3 _ _ (by first | (show w.heap.size < ((w.alloc _).alloc _).heap.size; rw [World.size_alloc, World.size_alloc]; omega) | (show w.heap.size < (w.alloc _).heap.size; simp))).trans (by first | (show ((w.alloc _).alloc _).cell? _ = _; simp [go_sem]; try omega) | (show (w.alloc _).cell? _ = _; simp [go_sem]; try omega))))
  all_goals (try (go_region; go_wp2))
  all_goals (refine bodyPost_ret (v := .tuple #[.int .i64 2, .agg #[.int .i64 4, .int .i64 0]]) (by simp [results, Tryd.results68, go_sem]) rfl ⟨rfl, ?_⟩)
  all_goals (repeat (first | exact Below.refl _ _ | apply below_alloc | apply below_drew | apply pw_below_drewN | refine below_set ?_ (Nat.le_refl _) | refine below_step ?_ hb3))
set_option maxHeartbeats 1600000 in
theorem w_sentDataEnd_3 (w : World) (hG : GL w) : Calls Tryd.prog 68 #[.int .i64 3] w fun e w' => e = .returned (.tuple #[.int .i64 4, .agg #[.int .i64 0, .int .i64 0]]) ∧ Below w.heap.size w w' := by
  have hG := Aside0.mk hG
  obtain ⟨g00, g01, g10, g11, g20, g21, g30, g31, g40, g41, g50, g51, z0, z1, z2, z3, z4, z5⟩ := hG.out.all
  go_enter Tryd.func68, Tryd.ntmps68
  go_wp2_with (first | (go_at_call 41; refine (state_is.calls 9 (3) (some (Addr.mk (w.heap.size + 1) 0 none)) 2 ([3, 5] : List Int) true _ (by exact C_new _ _ [3, 5] (by decide) _ (by simp)) (by decide) (by decide +kernel)).mono ?_; rintro e w2 ⟨rfl, ⟨⟨nd, rfl⟩⟩⟩) | (go_at_call 85; refine (w_endedHere_3 _ (by first | exact hG.out | exact GL.alloc hG.out _ | exact (GL.alloc (GL.alloc hG.out _) _) | exact (GL.alloc (GL.alloc hG.out _) _).drewN _)).mono ?_; rintro e w3 ⟨rfl, hb3⟩; obtain ⟨hc3, hf3⟩ := bcell hb3; have q0 : w3.cell? ⟨w.heap.size, 0, none⟩ = some (.int .i64 0) := (hc3 _ _ (by first | (show w.heap.size < ((w.alloc _).alloc _).heap.size; rw [World.size_alloc, World.size_alloc]; omega) | (show w.heap.size < (w.alloc _).heap.size; simp))).trans (by first | (show ((w.alloc _).alloc _).cell? _ = _; simp [go_sem]; try omega) | (show (w.alloc _).cell? _ = _; simp [go_sem]; try omega)); have q1 : w3.cell? ⟨w.heap.size, 1, none⟩ = some (.int .i64 0) := (hc3 _ _ (by first | (show w.heap.size < ((w.alloc _).alloc _).heap.size; rw [World.size_alloc, World.size_alloc]; omega) | (show w.heap.size < (w.alloc _).heap.size; simp))).trans (by first | (show ((w.alloc _).alloc _).cell? _ = _; simp [go_sem]; try omega) | (show (w.alloc _).cell? _ = _; simp [go_sem]; try omega))))
  all_goals (try (go_region; go_wp2))
  all_goals (refine bodyPost_ret (v := .tuple #[.int .i64 4, .agg #[.int .i64 0, .int .i64 0]]) (by simp [results, Tryd.results68, go_sem, q0, q1]) rfl ⟨rfl, ?_⟩)
  all_goals (repeat (first | exact Below.refl _ _ | apply below_alloc | apply below_drew | apply pw_below_drewN | refine below_set ?_ (Nat.le_refl _) | refine below_step ?_ hb3))
set_option maxHeartbeats 1600000 in
theorem w_sentDataEnd_4 (w : World) (hG : GL w) : Calls Tryd.prog 68 #[.int .i64 4] w fun e w' => e = .returned (.tuple #[.int .i64 4, .agg #[.int .i64 4, .int .i64 0]]) ∧ Below w.heap.size w w' := by
  have hG := Aside0.mk hG
  obtain ⟨g00, g01, g10, g11, g20, g21, g30, g31, g40, g41, g50, g51, z0, z1, z2, z3, z4, z5⟩ := hG.out.all
  go_enter Tryd.func68, Tryd.ntmps68
  go_wp2_with (first | (go_at_call 41; refine (state_is.calls 9 (4) (some (Addr.mk (w.heap.size + 1) 0 none)) 2 ([3, 5] : List Int) false _ (by exact C_new _ _ [3, 5] (by decide) _ (by simp)) (by decide) (by decide +kernel)).mono ?_; rintro e w2 ⟨rfl, ⟨⟨nd, rfl⟩⟩⟩) | (go_at_call 85; refine (w_endedHere_4 _ (by first | exact hG.out | exact GL.alloc hG.out _ | exact (GL.alloc (GL.alloc hG.out _) _) | exact (GL.alloc (GL.alloc hG.out _) _).drewN _)).mono ?_; rintro e w3 ⟨rfl, hb3⟩; obtain ⟨hc3, hf3⟩ := bcell hb3; have q0 : w3.cell? ⟨w.heap.size, 0, none⟩ = some (.int .i64 0) := (hc3 _ _ (by first | (show w.heap.size < ((w.alloc _).alloc _).heap.size; rw [World.size_alloc, World.size_alloc]; omega) | (show w.heap.size < (w.alloc _).heap.size; simp))).trans (by first | (show ((w.alloc _).alloc _).cell? _ = _; simp [go_sem]; try omega) | (show (w.alloc _).cell? _ = _; simp [go_sem]; try omega)); have q1 : w3.cell? ⟨w.heap.size, 1, none⟩ = some (.int .i64 0) := (hc3 _ _ (by first | (show w.heap.size < ((w.alloc _).alloc _).heap.size; rw [World.size_alloc, World.size_alloc]; omega) | (show w.heap.size < (w.alloc _).heap.size; simp))).trans (by first | (show ((w.alloc _).alloc _).cell? _ = _; simp [go_sem]; try omega) | (show (w.alloc _).cell? _ = _; simp [go_sem]; try omega))))
  all_goals (try (go_region; go_wp2))
  all_goals (refine bodyPost_ret (v := .tuple #[.int .i64 4, .agg #[.int .i64 4, .int .i64 0]]) (by simp [results, Tryd.results68, go_sem]) rfl ⟨rfl, ?_⟩)
  all_goals (repeat (first | exact Below.refl _ _ | apply below_alloc | apply below_drew | apply pw_below_drewN | refine below_set ?_ (Nat.le_refl _) | refine below_step ?_ hb3))
set_option maxHeartbeats 1600000 in
theorem w_sentDataEnd_5 (w : World) (hG : GL w) : Calls Tryd.prog 68 #[.int .i64 5] w fun e w' => e = .returned (.tuple #[.int .i64 6, .agg #[.int .i64 0, .int .i64 0]]) ∧ Below w.heap.size w w' := by
  have hG := Aside0.mk hG
  obtain ⟨g00, g01, g10, g11, g20, g21, g30, g31, g40, g41, g50, g51, z0, z1, z2, z3, z4, z5⟩ := hG.out.all
  go_enter Tryd.func68, Tryd.ntmps68
  go_wp2_with (first | (go_at_call 41; refine (state_is.calls 9 (5) (some (Addr.mk (w.heap.size + 1) 0 none)) 2 ([3, 5] : List Int) true _ (by exact C_new _ _ [3, 5] (by decide) _ (by simp)) (by decide) (by decide +kernel)).mono ?_; rintro e w2 ⟨rfl, ⟨⟨nd, rfl⟩⟩⟩) | (go_at_call 85; refine (w_endedHere_5 _ (by first | exact hG.out | exact GL.alloc hG.out _ | exact (GL.alloc (GL.alloc hG.out _) _) | exact (GL.alloc (GL.alloc hG.out _) _).drewN _)).mono ?_; rintro e w3 ⟨rfl, hb3⟩; obtain ⟨hc3, hf3⟩ := bcell hb3; have q0 : w3.cell? ⟨w.heap.size, 0, none⟩ = some (.int .i64 0) := (hc3 _ _ (by first | (show w.heap.size < ((w.alloc _).alloc _).heap.size; rw [World.size_alloc, World.size_alloc]; omega) | (show w.heap.size < (w.alloc _).heap.size; simp))).trans (by first | (show ((w.alloc _).alloc _).cell? _ = _; simp [go_sem]; try omega) | (show (w.alloc _).cell? _ = _; simp [go_sem]; try omega)); have q1 : w3.cell? ⟨w.heap.size, 1, none⟩ = some (.int .i64 0) := (hc3 _ _ (by first | (show w.heap.size < ((w.alloc _).alloc _).heap.size; rw [World.size_alloc, World.size_alloc]; omega) | (show w.heap.size < (w.alloc _).heap.size; simp))).trans (by first | (show ((w.alloc _).alloc _).cell? _ = _; simp [go_sem]; try omega) | (show (w.alloc _).cell? _ = _; simp [go_sem]; try omega))))
  all_goals (try (go_region; go_wp2))
  all_goals (refine bodyPost_ret (v := .tuple #[.int .i64 6, .agg #[.int .i64 0, .int .i64 0]]) (by simp [results, Tryd.results68, go_sem, q0, q1]) rfl ⟨rfl, ?_⟩)
  all_goals (repeat (first | exact Below.refl _ _ | apply below_alloc | apply below_drew | apply pw_below_drewN | refine below_set ?_ (Nat.le_refl _) | refine below_step ?_ hb3))
set_option maxHeartbeats 1600000 in
theorem w_sentDataEnd_6 (w : World) (hG : GL w) : Calls Tryd.prog 68 #[.int .i64 6] w fun e w' => e = .returned (.tuple #[.int .i64 6, .agg #[.int .i64 4, .int .i64 0]]) ∧ Below w.heap.size w w' := by
  have hG := Aside0.mk hG
  obtain ⟨g00, g01, g10, g11, g20, g21, g30, g31, g40, g41, g50, g51, z0, z1, z2, z3, z4, z5⟩ := hG.out.all
  go_enter Tryd.func68, Tryd.ntmps68
  go_wp2_with (first | (go_at_call 41; refine (state_is.calls 9 (6) (some (Addr.mk (w.heap.size + 1) 0 none)) 2 ([3, 5] : List Int) false _ (by exact C_new _ _ [3, 5] (by decide) _ (by simp)) (by decide) (by decide +kernel)).mono ?_; rintro e w2 ⟨rfl, ⟨⟨nd, rfl⟩⟩⟩) | (go_at_call 85; refine (w_endedHere_6 _ (by first | exact hG.out | exact GL.alloc hG.out _ | exact (GL.alloc (GL.alloc hG.out _) _) | exact (GL.alloc (GL.alloc hG.out _) _).drewN _)).mono ?_; rintro e w3 ⟨rfl, hb3⟩; obtain ⟨hc3, hf3⟩ := bcell hb3; have q0 : w3.cell? ⟨w.heap.size, 0, none⟩ = some (.int .i64 0) := (hc3 _ _ (by first | (show w.heap.size < ((w.alloc _).alloc _).heap.size; rw [World.size_alloc, World.size_alloc]; omega) | (show w.heap.size < (w.alloc _).heap.size; simp))).trans (by first | (show ((w.alloc _).alloc _).cell? _ = _; simp [go_sem]; try omega) | (show (w.alloc _).cell? _ = _; simp [go_sem]; try omega)); have q1 : w3.cell? ⟨w.heap.size, 1, none⟩ = some (.int .i64 0) := (hc3 _ _ (by first | (show w.heap.size < ((w.alloc _).alloc _).heap.size; rw [World.size_alloc, World.size_alloc]; omega) | (show w.heap.size < (w.alloc _).heap.size; simp))).trans (by first | (show ((w.alloc _).alloc _).cell? _ = _; simp [go_sem]; try omega) | (show (w.alloc _).cell? _ = _; simp [go_sem]; try omega))))
  all_goals (try (go_region; go_wp2))
  all_goals (refine bodyPost_ret (v := .tuple #[.int .i64 6, .agg #[.int .i64 4, .int .i64 0]]) (by simp [results, Tryd.results68, go_sem]) rfl ⟨rfl, ?_⟩)
  all_goals (repeat (first | exact Below.refl _ _ | apply below_alloc | apply below_drew | apply pw_below_drewN | refine below_set ?_ (Nat.le_refl _) | refine below_step ?_ hb3))
set_option maxHeartbeats 1600000 in
set_option maxHeartbeats 1600000 in
theorem w_gotDataEnd_0 (w : World) (hG : GL w) : Calls Tryd.prog 69 #[.int .i64 0] w fun e w' => e = .returned (.tuple #[.int .i64 0, .agg #[.int .i64 3, .int .i64 1]]) ∧ Below w.heap.size w w' := by
  have hG := Aside0.mk hG
  obtain ⟨g00, g01, g10, g11, g20, g21, g30, g31, g40, g41, g50, g51, z0, z1, z2, z3, z4, z5⟩ := hG.out.all
  go_enter Tryd.func69, Tryd.ntmps69
  go_wp2_with (first | (go_at_call 41; refine (state_is.calls 9 (0) (some (Addr.mk (w.heap.size + 1) 0 none)) 2 ([3, 4] : List Int) false _ (by exact C_new _ _ [3, 4] (by decide) _ (by simp)) (by decide) (by decide +kernel)).mono ?_; rintro e w2 ⟨rfl, ⟨⟨nd, rfl⟩⟩⟩) | (go_at_call 86; refine (w_endedThere_0 _ (by first | exact hG.out | exact GL.alloc hG.out _ | exact (GL.alloc (GL.alloc hG.out _) _) | exact (GL.alloc (GL.alloc hG.out _) _).drewN _)).mono ?_; rintro e w3 ⟨rfl, hb3⟩; obtain ⟨hc3, hf3⟩ := bcell hb3; have q0 : w3.cell? ⟨w.heap.size, 0, none⟩ = some (.int .i64 0) := (hc3 _ _ (by first | (show w.heap.size < ((w.alloc _).alloc _).heap.size; rw [World.size_alloc, World.size_alloc]; omega) | (show w.heap.size < (w.alloc _).heap.size; simp))).trans (by first | (show ((w.alloc _).alloc _).cell? _ = _; simp [go_sem]; try omega) | (show (w.alloc _).cell? _ = _; simp [go_sem]; try omega)); have q1 : w3.cell? ⟨w.heap.size, 1, none⟩ = some (.int .i64 0) := (hc3 _ _ (by first | (show w.heap.size < ((w.alloc _).alloc _).heap.size; rw [World.size_alloc, World.size_alloc]; omega) | (show w.heap.size < (w.alloc _).heap.size; simp))).trans (by first | (show ((w.alloc _).alloc _).cell? _ = _; simp [go_sem]; try omega) | (show (w.alloc _).cell? _ = _; simp [go_sem]; try omega))) | (go_at_call 84; refine (w_late_0 _ (by first | exact hG.out | exact GL.alloc hG.out _ | exact (GL.alloc (GL.alloc hG.out _) _) | exact (GL.alloc (GL.alloc hG.out _) _).drewN _)).mono ?_; rintro e w3 ⟨rfl, hb3⟩; obtain ⟨hc3, hf3⟩ := bcell hb3; have q0 : w3.cell? ⟨w.heap.size, 0, none⟩ = some (.int .i64 0) := (hc3 _ _ (by first | (show w.heap.size < ((w.alloc _).alloc _).heap.size; rw [World.size_alloc, World.size_alloc]; omega) | (show w.heap.size < (w.alloc _).heap.size; simp))).trans (by first | (show ((w.alloc _).alloc _).cell? _ = _; simp [go_sem]; try omega) | (show (w.alloc _).cell? _ = _; simp [go_sem]; try omega)); have q1 : w3.cell? ⟨w.heap.size, 1, none⟩ = some (.int .i64 0) := (hc3 _ _ (by first | (show w.heap.size < ((w.alloc _).alloc _).heap.size; rw [World.size_alloc, World.size_alloc]; omega) | (show w.heap.size < (w.alloc _).heap.size; simp))).trans (by first | (show ((w.alloc _).alloc _).cell? _ = _; simp [go_sem]; try omega) | (show (w.alloc _).cell? _ = _; simp [go_sem]; try omega))))
  all_goals (try (go_region; go_wp2))
  all_goals (refine bodyPost_ret (v := .tuple #[.int .i64 0, .agg #[.int .i64 3, .int .i64 1]]) (by simp [results, Tryd.results69, go_sem, q0, q1]) rfl ⟨rfl, ?_⟩)
  all_goals (repeat (first | exact Below.refl _ _ | apply below_alloc | apply below_drew | apply pw_below_drewN | refine below_set ?_ (Nat.le_refl _) | refine below_step ?_ hb3))
set_option maxHeartbeats 1600000 in
theorem w_gotDataEnd_1 (w : World) (hG : GL w) : Calls Tryd.prog 69 #[.int .i64 1] w fun e w' => e = .returned (.tuple #[.int .i64 1, .agg #[.int .i64 3, .int .i64 1]]) ∧ Below w.heap.size w w' := by
  have hG := Aside0.mk hG
  obtain ⟨g00, g01, g10, g11, g20, g21, g30, g31, g40, g41, g50, g51, z0, z1, z2, z3, z4, z5⟩ := hG.out.all
  go_enter Tryd.func69, Tryd.ntmps69
  go_wp2_with (first | (go_at_call 41; refine (state_is.calls 9 (1) (some (Addr.mk (w.heap.size + 1) 0 none)) 2 ([3, 4] : List Int) false _ (by exact C_new _ _ [3, 4] (by decide) _ (by simp)) (by decide) (by decide +kernel)).mono ?_; rintro e w2 ⟨rfl, ⟨⟨nd, rfl⟩⟩⟩) | (go_at_call 86; refine (w_endedThere_1 _ (by first | exact hG.out | exact GL.alloc hG.out _ | exact (GL.alloc (GL.alloc hG.out _) _) | exact (GL.alloc (GL.alloc hG.out _) _).drewN _)).mono ?_; rintro e w3 ⟨rfl, hb3⟩; obtain ⟨hc3, hf3⟩ := bcell hb3; have q0 : w3.cell? ⟨w.heap.size, 0, none⟩ = some (.int .i64 0) := (hc3 _ _ (by first | (show w.heap.size < ((w.alloc _).alloc _).heap.size; rw [World.size_alloc, World.size_alloc]; omega) | (show w.heap.size < (w.alloc _).heap.size; simp))).trans (by first | (show ((w.alloc _).alloc _).cell? _ = _; simp [go_sem]; try omega) | (show (w.alloc _).cell? _ = _; simp [go_sem]; try omega)); have q1 : w3.cell? ⟨w.heap.size, 1, none⟩ = some (.int .i64 0) := (hc3 _ _ (by first | (show w.heap.size < ((w.alloc _).alloc _).heap.size; rw [World.size_alloc, World.size_alloc]; omega) | (show w.heap.size < (w.alloc _).heap.size; simp))).trans (by first | (show ((w.alloc _).alloc _).cell? _ = _; simp [go_sem]; try omega) | (show (w.alloc _).cell? _ = _; simp [go_sem]; try omega))) | (go_at_call 84; refine (w_late_1 _ (by first | exact hG.out | exact GL.alloc hG.out _ | exact (GL.alloc (GL.alloc hG.out _) _) | exact (GL.alloc (GL.alloc hG.out _) _).drewN _)).mono ?_; rintro e w3 ⟨rfl, hb3⟩; obtain ⟨hc3, hf3⟩ := bcell hb3; have q0 : w3.cell? ⟨w.heap.size, 0, none⟩ = some (.int .i64 0) := (hc3 _ _ (by first | (show w.heap.size < ((w.alloc _).alloc _).heap.size; rw [World.size_alloc, World.size_alloc]; omega) | (show w.heap.size < (w.alloc _).heap.size; simp))).trans (by first | (show ((w.alloc _).alloc _).cell? _ = _; simp [go_sem]; try omega) | (show (w.alloc _).cell? _ = _; simp [go_sem]; try omega)); have q1 : w3.cell? ⟨w.heap.size, 1, none⟩ = some (.int .i64 0) := (hc3 _ _ (by first | (show w.heap.size < ((w.alloc _).alloc _).heap.size; rw [World.size_alloc, World.size_alloc]; omega) | (show w.heap.size < (w.alloc _).heap.size; simp))).trans (by first | (show ((w.alloc _).alloc _).cell? _ = _; simp [go_sem]; try omega) | (show (w.alloc _).cell? _ = _; simp [go_sem]; try omega))))
  all_goals (try (go_region; go_wp2))
  all_goals (refine bodyPost_ret (v := .tuple #[.int .i64 1, .agg #[.int .i64 3, .int .i64 1]]) (by simp [results, Tryd.results69, go_sem, q0, q1]) rfl ⟨rfl, ?_⟩)
  all_goals (repeat (first | exact Below.refl _ _ | apply below_alloc | apply below_drew | apply pw_below_drewN | refine below_set ?_ (Nat.le_refl _) | refine below_step ?_ hb3))
set_option maxHeartbeats 1600000 in
theorem w_gotDataEnd_2 (w : World) (hG : GL w) : Calls Tryd.prog 69 #[.int .i64 2] w fun e w' => e = .returned (.tuple #[.int .i64 2, .agg #[.int .i64 3, .int .i64 1]]) ∧ Below w.heap.size w w' := by
  have hG := Aside0.mk hG
  obtain ⟨g00, g01, g10, g11, g20, g21, g30, g31, g40, g41, g50, g51, z0, z1, z2, z3, z4, z5⟩ := hG.out.all
  go_enter Tryd.func69, Tryd.ntmps69
  go_wp2_with (first | (go_at_call 41; refine (state_is.calls 9 (2) (some (Addr.mk (w.heap.size + 1) 0 none)) 2 ([3, 4] : List Int) false _ (by exact C_new _ _ [3, 4] (by decide) _ (by simp)) (by decide) (by decide +kernel)).mono ?_; rintro e w2 ⟨rfl, ⟨⟨nd, rfl⟩⟩⟩) | (go_at_call 86; refine (w_endedThere_2 _ (by first | exact hG.out | exact GL.alloc hG.out _ | exact (GL.alloc (GL.alloc hG.out _) _) | exact (GL.alloc (GL.alloc hG.out _) _).drewN _)).mono ?_; rintro e w3 ⟨rfl, hb3⟩; obtain ⟨hc3, hf3⟩ := bcell hb3; have q0 : w3.cell? ⟨w.heap.size, 0, none⟩ = some (.int .i64 0) := (hc3 _ _ (by first | (show w.heap.size < ((w.alloc _).alloc _).heap.size; rw [World.size_alloc, World.size_alloc]; omega) | (show w.heap.size < (w.alloc _).heap.size; simp))).trans (by first | (show ((w.alloc _).alloc _).cell? _ = _; simp [go_sem]; try omega) | (show (w.alloc _).cell? _ = _; simp [go_sem]; try omega)); have q1 : w3.cell? ⟨w.heap.size, 1, none⟩ = some (.int .i64 0) := (hc3 _ _ (by first | (show w.heap.size < ((w.alloc _).alloc _).heap.size; rw [World.size_alloc, World.size_alloc]; omega) | (show w.heap.size < (w.alloc _).heap.size; simp))).trans (by first | (show ((w.alloc _).alloc _).cell? _ = _; simp [go_sem]; try omega) | (show (w.alloc _).cell? _ = _; simp [go_sem]; try omega))) | (go_at_call 84; refine (w_late_2 _ (by first | exact hG.out | exact GL.alloc hG.out _ | exact (GL.alloc (GL.alloc hG.out _) _) | exact (GL.alloc (GL.alloc hG.out _) _).drewN _)).mono ?_; rintro e w3 ⟨rfl, hb3⟩; obtain ⟨hc3, hf3⟩ := bcell hb3; have q0 : w3.cell? ⟨w.heap.size, 0, none⟩ = some (.int .i64 0) := (hc3 _ _ (by first | (show w.heap.size < ((w.alloc _).alloc _).heap.size; rw [World.size_alloc, World.size_alloc]; omega) | (show w.heap.size < (w.alloc _).heap.size; simp))).trans (by first | (show ((w.alloc _).alloc _).cell? _ = _; simp [go_sem]; try omega) | (show (w.alloc _).cell? _ = _; simp [go_sem]; try omega)); have q1 : w3.cell? ⟨w.heap.size, 1, none⟩ = some (.int .i64 0) := (hc3 _ _ (by first | (show w.heap.size < ((w.alloc _).alloc _).heap.size; rw [World.size_alloc, World.size_alloc]; omega) | (show w.heap.size < (w.alloc _).heap.size; simp))).trans (by first | (show ((w.alloc _).alloc _).cell? _ = _; simp [go_sem]; try omega) | (show (w.alloc _).cell? _ = _; simp [go_sem]; try omega))))
  all_goals (try (go_region; go_wp2))
  all_goals (refine bodyPost_ret (v := .tuple #[.int .i64 2, .agg #[.int .i64 3, .int .i64 1]]) (by simp [results, Tryd.results69, go_sem, q0, q1]) rfl ⟨rfl, ?_⟩)
  all_goals (repeat (first | exact Below.refl _ _ | apply below_alloc | apply below_drew | apply pw_below_drewN | refine below_set ?_ (Nat.le_refl _) | refine below_step ?_ hb3))
set_option maxHeartbeats 1600000 in
theorem w_gotDataEnd_3 (w : World) (hG : GL w) : Calls Tryd.prog 69 #[.int .i64 3] w fun e w' => e = .returned (.tuple #[.int .i64 5, .agg #[.int .i64 0, .int .i64 0]]) ∧ Below w.heap.size w w' := by
  have hG := Aside0.mk hG
  obtain ⟨g00, g01, g10, g11, g20, g21, g30, g31, g40, g41, g50, g51, z0, z1, z2, z3, z4, z5⟩ := hG.out.all
  go_enter Tryd.func69, Tryd.ntmps69
  go_wp2_with (first | (go_at_call 41; refine (state_is.calls 9 (3) (some (Addr.mk (w.heap.size + 1) 0 none)) 2 ([3, 4] : List Int) true _ (by exact C_new _ _ [3, 4] (by decide) _ (by simp)) (by decide) (by decide +kernel)).mono ?_; rintro e w2 ⟨rfl, ⟨⟨nd, rfl⟩⟩⟩) | (go_at_call 86; refine (w_endedThere_3 _ (by first | exact hG.out | exact GL.alloc hG.out _ | exact (GL.alloc (GL.alloc hG.out _) _) | exact (GL.alloc (GL.alloc hG.out _) _).drewN _)).mono ?_; rintro e w3 ⟨rfl, hb3⟩; obtain ⟨hc3, hf3⟩ := bcell hb3; have q0 : w3.cell? ⟨w.heap.size, 0, none⟩ = some (.int .i64 0) := (hc3 _ _ (by first | (show w.heap.size < ((w.alloc _).alloc _).heap.size; rw [World.size_alloc, World.size_alloc]; omega) | (show w.heap.size < (w.alloc _).heap.size; simp))).trans (by first | (show ((w.alloc _).alloc _).cell? _ = _; simp [go_sem]; try omega) | (show (w.alloc _).cell? _ = _; simp [go_sem]; try omega)); have q1 : w3.cell? ⟨w.heap.size, 1, none⟩ = some (.int .i64 0) := (hc3 _ _ (by first | (show w.heap.size < ((w.alloc _).alloc _).heap.size; rw [World.size_alloc, World.size_alloc]; omega) | (show w.heap.size < (w.alloc _).heap.size; simp))).trans (by first | (show ((w.alloc _).alloc _).cell? _ = _; simp [go_sem]; try omega) | (show (w.alloc _).cell? _ = _; simp [go_sem]; try omega))) | (go_at_call 84; refine (w_late_3 _ (by first | exact hG.out | exact GL.alloc hG.out _ | exact (GL.alloc (GL.alloc hG.out _) _) | exact (GL.alloc (GL.alloc hG.out _) _).drewN _)).mono ?_; rintro e w3 ⟨rfl, hb3⟩; obtain ⟨hc3, hf3⟩ := bcell hb3; have q0 : w3.cell? ⟨w.heap.size, 0, none⟩ = some (.int .i64 0) := (hc3 _ _ (by first | (show w.heap.size < ((w.alloc _).alloc _).heap.size; rw [World.size_alloc, World.size_alloc]; omega) | (show w.heap.size < (w.alloc _).heap.size; simp))).trans (by first | (show ((w.alloc _).alloc _).cell? _ = _; simp [go_sem]; try omega) | (show (w.alloc _).cell? _ = _; simp [go_sem]; try omega)); have q1 : w3.cell? ⟨w.heap.size, 1, none⟩ = some (.int .i64 0) := (hc3 _ _ (by first | (show w.heap.size < ((w.alloc _).alloc _).heap.size; rw [World.size_alloc, World.size_alloc]; omega) | (show w.heap.size < (w.alloc _).heap.size; simp))).trans (by first | (show ((w.alloc _).alloc _).cell? _ = _; simp [go_sem]; try omega) | (show (w.alloc _).cell? _ = _; simp [go_sem]; try omega))))
  all_goals (try (go_region; go_wp2))
  all_goals (refine bodyPost_ret (v := .tuple #[.int .i64 5, .agg #[.int .i64 0, .int .i64 0]]) (by simp [results, Tryd.results69, go_sem, q0, q1]) rfl ⟨rfl, ?_⟩)
  all_goals (repeat (first | exact Below.refl _ _ | apply below_alloc | apply below_drew | apply pw_below_drewN | refine below_set ?_ (Nat.le_refl _) | refine below_step ?_ hb3))
set_option maxHeartbeats 1600000 in
theorem w_gotDataEnd_4 (w : World) (hG : GL w) : Calls Tryd.prog 69 #[.int .i64 4] w fun e w' => e = .returned (.tuple #[.int .i64 6, .agg #[.int .i64 0, .int .i64 0]]) ∧ Below w.heap.size w w' := by
  have hG := Aside0.mk hG
  obtain ⟨g00, g01, g10, g11, g20, g21, g30, g31, g40, g41, g50, g51, z0, z1, z2, z3, z4, z5⟩ := hG.out.all
  go_enter Tryd.func69, Tryd.ntmps69
  go_wp2_with (first | (go_at_call 41; refine (state_is.calls 9 (4) (some (Addr.mk (w.heap.size + 1) 0 none)) 2 ([3, 4] : List Int) true _ (by exact C_new _ _ [3, 4] (by decide) _ (by simp)) (by decide) (by decide +kernel)).mono ?_; rintro e w2 ⟨rfl, ⟨⟨nd, rfl⟩⟩⟩) | (go_at_call 86; refine (w_endedThere_4 _ (by first | exact hG.out | exact GL.alloc hG.out _ | exact (GL.alloc (GL.alloc hG.out _) _) | exact (GL.alloc (GL.alloc hG.out _) _).drewN _)).mono ?_; rintro e w3 ⟨rfl, hb3⟩; obtain ⟨hc3, hf3⟩ := bcell hb3; have q0 : w3.cell? ⟨w.heap.size, 0, none⟩ = some (.int .i64 0) := (hc3 _ _ (by first | (show w.heap.size < ((w.alloc _).alloc _).heap.size; rw [World.size_alloc, World.size_alloc]; omega) | (show w.heap.size < (w.alloc _).heap.size; simp))).trans (by first | (show ((w.alloc _).alloc _).cell? _ = _; simp [go_sem]; try omega) | (show (w.alloc _).cell? _ = _; simp [go_sem]; try omega)); have q1 : w3.cell? ⟨w.heap.size, 1, none⟩ = some (.int .i64 0) := (hc3 _ _ (by first | (show w.heap.size < ((w.alloc _).alloc _).heap.size; rw [World.size_alloc, World.size_alloc]; omega) | (show w.heap.size < (w.alloc _).heap.size; simp))).trans (by first | (show ((w.alloc _).alloc _).cell? _ = _; simp [go_sem]; try omega) | (show (w.alloc _).cell? _ = _; simp [go_sem]; try omega))) | (go_at_call 84; refine (w_late_4 _ (by first | exact hG.out | exact GL.alloc hG.out _ | exact (GL.alloc (GL.alloc hG.out _) _) | exact (GL.alloc (GL.alloc hG.out _) _).drewN _)).mono ?_; rintro e w3 ⟨rfl, hb3⟩; obtain ⟨hc3, hf3⟩ := bcell hb3; have q0 : w3.cell? ⟨w.heap.size, 0, none⟩ = some (.int .i64 0) := (hc3 _ _ (by first | (show w.heap.size < ((w.alloc _).alloc _).heap.size; rw [World.size_alloc, World.size_alloc]; omega) | (show w.heap.size < (w.alloc _).heap.size; simp))).trans (by first | (show ((w.alloc _).alloc _).cell? _ = _; simp [go_sem]; try omega) | (show (w.alloc _).cell? _ = _; simp [go_sem]; try omega)); have q1 : w3.cell? ⟨w.heap.size, 1, none⟩ = some (.int .i64 0) := (hc3 _ _ (by first | (show w.heap.size < ((w.alloc _).alloc _).heap.size; rw [World.size_alloc, World.size_alloc]; omega) | (show w.heap.size < (w.alloc _).heap.size; simp))).trans (by first | (show ((w.alloc _).alloc _).cell? _ = _; simp [go_sem]; try omega) | (show (w.alloc _).cell? _ = _; simp [go_sem]; try omega))))
  all_goals (try (go_region; go_wp2))
  all_goals (refine bodyPost_ret (v := .tuple #[.int .i64 6, .agg #[.int .i64 0, .int .i64 0]]) (by simp [results, Tryd.results69, go_sem, q0, q1]) rfl ⟨rfl, ?_⟩)
  all_goals (repeat (first | exact Below.refl _ _ | apply below_alloc | apply below_drew | apply pw_below_drewN | refine below_set ?_ (Nat.le_refl _) | refine below_step ?_ hb3))
set_option maxHeartbeats 1600000 in
theorem w_gotDataEnd_5 (w : World) (hG : GL w) : Calls Tryd.prog 69 #[.int .i64 5] w fun e w' => e = .returned (.tuple #[.int .i64 5, .agg #[.int .i64 2, .int .i64 5]]) ∧ Below w.heap.size w w' := by
  have hG := Aside0.mk hG
  obtain ⟨g00, g01, g10, g11, g20, g21, g30, g31, g40, g41, g50, g51, z0, z1, z2, z3, z4, z5⟩ := hG.out.all
  go_enter Tryd.func69, Tryd.ntmps69
  go_wp2_with (first | (go_at_call 41; refine (state_is.calls 9 (5) (some (Addr.mk (w.heap.size + 1) 0 none)) 2 ([3, 4] : List Int) false _ (by exact C_new _ _ [3, 4] (by decide) _ (by simp)) (by decide) (by decide +kernel)).mono ?_; rintro e w2 ⟨rfl, ⟨⟨nd, rfl⟩⟩⟩) | (go_at_call 86; refine (w_endedThere_5 _ (by first | exact hG.out | exact GL.alloc hG.out _ | exact (GL.alloc (GL.alloc hG.out _) _) | exact (GL.alloc (GL.alloc hG.out _) _).drewN _)).mono ?_; rintro e w3 ⟨rfl, hb3⟩; obtain ⟨hc3, hf3⟩ := bcell hb3; have q0 : w3.cell? ⟨w.heap.size, 0, none⟩ = some (.int .i64 0) := (hc3 _ _ (by first | (show w.heap.size < ((w.alloc _).alloc _).heap.size; rw [World.size_alloc, World.size_alloc]; omega) | (show w.heap.size < (w.alloc _).heap.size; simp))).trans (by first | (show ((w.alloc _).alloc _).cell? _ = _; simp [go_sem]; try omega) | (show (w.alloc _).cell? _ = _; simp [go_sem]; try omega)); have q1 : w3.cell? ⟨w.heap.size, 1, none⟩ = some (.int .i64 0) := (hc3 _ _ (by first | (show w.heap.size < ((w.alloc _).alloc _).heap.size; rw [World.size_alloc, World.size_alloc]; omega) | (show w.heap.size < (w.alloc _).heap.size; simp))).trans (by first | (show ((w.alloc _).alloc _).cell? _ = _; simp [go_sem]; try omega) | (show (w.alloc _).cell? _ = _; simp [go_sem]; try omega))) | (go_at_call 84; refine (w_late_5 _ (by first | exact hG.out | exact GL.alloc hG.out _ | exact (GL.alloc (GL.alloc hG.out _) _) | exact (GL.alloc (GL.alloc hG.out _) _).drewN _)).mono ?_; rintro e w3 ⟨rfl, hb3⟩; obtain ⟨hc3, hf3⟩ := bcell hb3; have q0 : w3.cell? ⟨w.heap.size, 0, none⟩ = some (.int .i64 0) := (hc3 _ _ (by first | (show w.heap.size < ((w.alloc _).alloc _).heap.size; rw [World.size_alloc, World.size_alloc]; omega) | (show w.heap.size < (w.alloc _).heap.size; simp))).trans (by first | (show ((w.alloc _).alloc _).cell? _ = _; simp [go_sem]; try omega) | (show (w.alloc _).cell? _ = _; simp [go_sem]; try omega)); have q1 : w3.cell? ⟨w.heap.size, 1, none⟩ = some (.int .i64 0) := (hc3 _ _ (by first | (show w.heap.size < ((w.alloc _).alloc _).heap.size; rw [World.size_alloc, World.size_alloc]; omega) | (show w.heap.size < (w.alloc _).heap.size; simp))).trans (by first | (show ((w.alloc _).alloc _).cell? _ = _; simp [go_sem]; try omega) | (show (w.alloc _).cell? _ = _; simp [go_sem]; try omega))))
  all_goals (try (go_region; go_wp2))
  all_goals (refine bodyPost_ret (v := .tuple #[.int .i64 5, .agg #[.int .i64 2, .int .i64 5]]) (by simp [results, Tryd.results69, go_sem, q0, q1]) rfl ⟨rfl, ?_⟩)
  all_goals (repeat (first | exact Below.refl _ _ | apply below_alloc | apply below_drew | apply pw_below_drewN | refine below_set ?_ (Nat.le_refl _) | refine below_step ?_ hb3))
set_option maxHeartbeats 1600000 in
theorem w_gotDataEnd_6 (w : World) (hG : GL w) : Calls Tryd.prog 69 #[.int .i64 6] w fun e w' => e = .returned (.tuple #[.int .i64 6, .agg #[.int .i64 3, .int .i64 5]]) ∧ Below w.heap.size w w' := by
  have hG := Aside0.mk hG
  obtain ⟨g00, g01, g10, g11, g20, g21, g30, g31, g40, g41, g50, g51, z0, z1, z2, z3, z4, z5⟩ := hG.out.all
  go_enter Tryd.func69, Tryd.ntmps69
  go_wp2_with (first | (go_at_call 41; refine (state_is.calls 9 (6) (some (Addr.mk (w.heap.size + 1) 0 none)) 2 ([3, 4] : List Int) false _ (by exact C_new _ _ [3, 4] (by decide) _ (by simp)) (by decide) (by decide +kernel)).mono ?_; rintro e w2 ⟨rfl, ⟨⟨nd, rfl⟩⟩⟩) | (go_at_call 86; refine (w_endedThere_6 _ (by first | exact hG.out | exact GL.alloc hG.out _ | exact (GL.alloc (GL.alloc hG.out _) _) | exact (GL.alloc (GL.alloc hG.out _) _).drewN _)).mono ?_; rintro e w3 ⟨rfl, hb3⟩; obtain ⟨hc3, hf3⟩ := bcell hb3; have q0 : w3.cell? ⟨w.heap.size, 0, none⟩ = some (.int .i64 0) := (hc3 _ _ (by first | (show w.heap.size < ((w.alloc _).alloc _).heap.size; rw [World.size_alloc, World.size_alloc]; omega) | (show w.heap.size < (w.alloc _).heap.size; simp))).trans (by first | (show ((w.alloc _).alloc _).cell? _ = _; simp [go_sem]; try omega) | (show (w.alloc _).cell? _ = _; simp [go_sem]; try omega)); have q1 : w3.cell? ⟨w.heap.size, 1, none⟩ = some (.int .i64 0) := (hc3 _ _ (by first | (show w.heap.size < ((w.alloc _).alloc _).heap.size; rw [World.size_alloc, World.size_alloc]; omega) | (show w.heap.size < (w.alloc _).heap.size; simp))).trans (by first | (show ((w.alloc _).alloc _).cell? _ = _; simp [go_sem]; try omega) | (show (w.alloc _).cell? _ = _; simp [go_sem]; try omega))) | (go_at_call 84; refine (w_late_6 _ (by first | exact hG.out | exact GL.alloc hG.out _ | exact (GL.alloc (GL.alloc hG.out _) _) | exact (GL.alloc (GL.alloc hG.out _) _).drewN _)).mono ?_; rintro e w3 ⟨rfl, hb3⟩; obtain ⟨hc3, hf3⟩ := bcell hb3; have q0 : w3.cell? ⟨w.heap.size, 0, none⟩ = some (.int .i64 0) := (hc3 _ _ (by first | (show w.heap.size < ((w.alloc _).alloc _).heap.size; rw [World.size_alloc, World.size_alloc]; omega) | (show w.heap.size < (w.alloc _).heap.size; simp))).trans (by first | (show ((w.alloc _).alloc _).cell? _ = _; simp [go_sem]; try omega) | (show (w.alloc _).cell? _ = _; simp [go_sem]; try omega)); have q1 : w3.cell? ⟨w.heap.size, 1, none⟩ = some (.int .i64 0) := (hc3 _ _ (by first | (show w.heap.size < ((w.alloc _).alloc _).heap.size; rw [World.size_alloc, World.size_alloc]; omega) | (show w.heap.size < (w.alloc _).heap.size; simp))).trans (by first | (show ((w.alloc _).alloc _).cell? _ = _; simp [go_sem]; try omega) | (show (w.alloc _).cell? _ = _; simp [go_sem]; try omega))))
  all_goals (try (go_region; go_wp2))
  all_goals (refine bodyPost_ret (v := .tuple #[.int .i64 6, .agg #[.int .i64 3, .int .i64 5]]) (by simp [results, Tryd.results69, go_sem, q0, q1]) rfl ⟨rfl, ?_⟩)
  all_goals (repeat (first | exact Below.refl _ _ | apply below_alloc | apply below_drew | apply pw_below_drewN | refine below_set ?_ (Nat.le_refl _) | refine below_step ?_ hb3))
end Go.Proofs.YtagkncjdohljgaaDoor.QL
