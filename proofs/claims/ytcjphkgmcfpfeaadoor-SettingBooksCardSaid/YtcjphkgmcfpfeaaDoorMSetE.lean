/- Ack of the book of the package setting, by hand. No condition but those in each statement. -/
import Derived.Test.YtcjphkgmcfpfeaaDoorMSetD
namespace Go.Proofs.YtcjphkgmcfpfeaaDoor.MS
open Go Go.RowKit Go.Proofs.YtcjphkgmcfpfeaaDoorW.PrintWords Go.Proofs.YtcjphkgmcfpfeaaDoorW.PrintLast Go.Proofs.YtcjphkgmcfpfeaaDoorW.PrintMore Go.Proofs.YtcjphkgmcfpfeaaDoor.QL
set_option linter.unusedSimpArgs false
set_option linter.unusedVariables false
set_option maxHeartbeats 4000000
set_option maxRecDepth 100000
def rd_L2 (xs : List (List S28)) (i : Int) : (List S28) := xs.getD i.toNat ([] : List S28)
theorem at_L2 {w : World} {A : Option Addr} {n : Nat} {xs : List (List S28)} (h : Kd.C (Kd.slice 28 k28) w A n xs) (i : Int) (h0 : 0 ≤ i) (h1 : i < n) : ∃ ad A0 c0, A = some ad ∧ w.cell? (ad.add i.toNat) = some (.slice A0 (rd_L2 xs i).length c0) ∧ (rd_L2 xs i).length ≤ c0 ∧ k28.C w A0 (rd_L2 xs i).length (rd_L2 xs i) := by
  obtain ⟨ad, c, e, _, hK, hc0⟩ := Kd.C_get h ([] : List S28) i h0 h1
  have hc : ∀ j u, c[j]? = some u → w.cell? (ad.add (i.toNat * 1 + j)) = some u := hc0
  obtain ⟨A0, c0, rfl, l0, g0⟩ := hK
  exact ⟨ad, A0, c0, e, by have hq := hc 0 _ rfl; rwa [Nat.mul_one, Nat.add_zero] at hq, l0, g0⟩
theorem apply_ex (s0 : St) (A : Option Addr) (c : Nat) (l : List S28) (cl : Bool) (w : World) (hr : Kd.C k28 w A l.length l) (hc : l.length ≤ c) :
    Calls Tryd.prog 11 #[.agg s0.arr, .slice A l.length c, .bool cl] w fun e w' => e = .returned (.tuple #[.agg #[.int .i64 (apply cl s0 l).1.a, .int .i64 (apply cl s0 l).1.b, .int .i64 (apply cl s0 l).1.c, .int .i64 (apply cl s0 l).1.d, .int .i64 (apply cl s0 l).1.e, .int .i64 (apply cl s0 l).1.f], .int .i64 (apply cl s0 l).2]) ∧ Below w.heap.size w w' := apply_calls s0 A c l cl w hr hc
theorem ack_none (base g : Nat) (F : Nat → Prop) (cl : Bool) (s : St) (w : World) (hI : IsB base w g F cl s []) :
    Calls Tryd.prog 33 #[.pointer (some ⟨g, 0, none⟩)] w fun e w' => e = .returned (.tuple #[.agg St.zero.arr, .bool false]) ∧ Below w.heap.size w w' := by
  have HB := Aside0.mk (Below.refl w.heap.size w)
  obtain ⟨v, h⟩ := hI
  obtain ⟨A, c, rfl, hc⟩ := Kd.Q_slice h.row
  have z7 : w.cell? ⟨g, 7, none⟩ = some (.slice A 0 c) := blk_cell h.blk 7
  have hlt := blk_lt h.blk
  clear h hc
  go_enter Tryd.func33, Tryd.ntmps33
  go_wp2_with fail
  refine bodyPost_ret (v := .tuple #[.agg St.zero.arr, .bool false]) (by simp [results, Tryd.results33, go_sem, St.arr, St.zero, *]) rfl ⟨rfl, ?_⟩
  repeat (first | exact HB.out | exact below_alloc HB.out _ | refine Below.setCell ?_ (by simp) _)
theorem ack_some (base g : Nat) (F : Nat → Prop) (cl : Bool) (s : St) (l : List S28) (t : List (List S28)) (w : World) (hI : IsB base w g F cl s (l :: t)) :
    Calls Tryd.prog 33 #[.pointer (some ⟨g, 0, none⟩)] w fun e w' => e = .returned (.tuple #[.agg (apply cl s l).1.arr, .bool true]) ∧ IsB base w' g F cl (apply cl s l).1 t ∧ Kept w w' F ∧ Below base w w' := by
  have HB := Aside0.mk (Below.refl w.heap.size w)
  obtain ⟨v, h⟩ := hI
  obtain ⟨VA, vc, rfl, hvc⟩ := Kd.Q_slice h.row
  obtain ⟨_, _, hC⟩ := Kd.Q_reads' h.row
  obtain ⟨ad, A0, q0, rfl, y, hq, hL⟩ := at_L2 hC (0 : Int) (by omega) (by simp)
  have e0 : rd_L2 (l :: t) 0 = l := rfl
  rw [e0] at y hq hL
  have ea : ad.add (0 : Int).toNat = ad := by simp [Addr.add]
  rw [ea] at y
  clear ea e0 hC
  have H := Aside0.mk h
  have HL := Aside0.mk (Kd.C_below hL (below_alloc (Below.refl _ _) (.cells #[.int .i64 0, .int .i64 0, .int .i64 0, .int .i64 0, .int .i64 0, .int .i64 0] 23)))
  have HQ := Aside0.mk hq
  have hlt := blk_lt h.blk
  have yl := World.block_lt_of_cell? w _ y
  have hi0 := info_parts info24
  obtain ⟨i0, hi, _, hsz, _⟩ := hi0
  have hcut := cut_from (P := Tryd.prog) 52 24 .i64 Tryd.underlying52 hi 1 hsz (some ad) (t.length + 1) vc 1 (by omega) (by omega)
  have hQ := Kd.Q_drop (k := 1) h.row (by simp)
  obtain ⟨A1, hA1⟩ : ∃ A1, A1 = (if vc = 1 then some ad else (some ad : Option Addr).map (·.add (1 * 1))) := ⟨_, rfl⟩
  obtain ⟨c1, hc1⟩ : ∃ c1, c1 = vc - 1 := ⟨_, rfl⟩
  replace hcut : ∀ W, (Instr.slice 52 (.slice (some ad) (t.length + 1) vc) (some (.int .i64 1)) none none).run Tryd.prog W = .ok (.slice A1 t.length c1) W := by
    rw [hA1, hc1]; exact hcut
  have HV : Aside0 ((Kd.slice 28 k28).Q 24 w base (fun k => F k ∧ k ≠ g) (.slice A1 t.length c1) t) := ⟨by rw [hA1, hc1]; exact hQ⟩
  clear hA1 hc1 hQ hi hsz h hL hq
  have d0 : w.cell? ⟨g, 0, none⟩ = some (.bool cl) := blk_cell H.out.blk 0
  have d1 : w.cell? ⟨g, 1, none⟩ = some (.int .i64 s.a) := blk_cell H.out.blk 1
  have d2 : w.cell? ⟨g, 2, none⟩ = some (.int .i64 s.b) := blk_cell H.out.blk 2
  have d3 : w.cell? ⟨g, 3, none⟩ = some (.int .i64 s.c) := blk_cell H.out.blk 3
  have d4 : w.cell? ⟨g, 4, none⟩ = some (.int .i64 s.d) := blk_cell H.out.blk 4
  have d5 : w.cell? ⟨g, 5, none⟩ = some (.int .i64 s.e) := blk_cell H.out.blk 5
  have d6 : w.cell? ⟨g, 6, none⟩ = some (.int .i64 s.f) := blk_cell H.out.blk 6
  have d7 : w.cell? ⟨g, 7, none⟩ = some (.slice (some ad) (t.length + 1) vc) := blk_cell H.out.blk 7
  go_enter Tryd.func33, Tryd.ntmps33
  go_upto_region 3 with fail
  have c0 : (w.alloc (.cells #[.int .i64 0, .int .i64 0, .int .i64 0, .int .i64 0, .int .i64 0, .int .i64 0] 23)).cell? ⟨g, 0, none⟩ = some (.bool cl) := blk_cell (blk_alloc H.out.blk _) 0
  have c1 : (w.alloc (.cells #[.int .i64 0, .int .i64 0, .int .i64 0, .int .i64 0, .int .i64 0, .int .i64 0] 23)).cell? ⟨g, 1, none⟩ = some (.int .i64 s.a) := blk_cell (blk_alloc H.out.blk _) 1
  have c2 : (w.alloc (.cells #[.int .i64 0, .int .i64 0, .int .i64 0, .int .i64 0, .int .i64 0, .int .i64 0] 23)).cell? ⟨g, 2, none⟩ = some (.int .i64 s.b) := blk_cell (blk_alloc H.out.blk _) 2
  have c3 : (w.alloc (.cells #[.int .i64 0, .int .i64 0, .int .i64 0, .int .i64 0, .int .i64 0, .int .i64 0] 23)).cell? ⟨g, 3, none⟩ = some (.int .i64 s.c) := blk_cell (blk_alloc H.out.blk _) 3
  have c4 : (w.alloc (.cells #[.int .i64 0, .int .i64 0, .int .i64 0, .int .i64 0, .int .i64 0, .int .i64 0] 23)).cell? ⟨g, 4, none⟩ = some (.int .i64 s.d) := blk_cell (blk_alloc H.out.blk _) 4
  have c5 : (w.alloc (.cells #[.int .i64 0, .int .i64 0, .int .i64 0, .int .i64 0, .int .i64 0, .int .i64 0] 23)).cell? ⟨g, 5, none⟩ = some (.int .i64 s.e) := blk_cell (blk_alloc H.out.blk _) 5
  have c6 : (w.alloc (.cells #[.int .i64 0, .int .i64 0, .int .i64 0, .int .i64 0, .int .i64 0, .int .i64 0] 23)).cell? ⟨g, 6, none⟩ = some (.int .i64 s.f) := blk_cell (blk_alloc H.out.blk _) 6
  have c7 : (w.alloc (.cells #[.int .i64 0, .int .i64 0, .int .i64 0, .int .i64 0, .int .i64 0, .int .i64 0] 23)).frozen? ⟨g, 1, none⟩ = false := blk_frozen (blk_alloc H.out.blk _) 1
  have c8 : (w.alloc (.cells #[.int .i64 0, .int .i64 0, .int .i64 0, .int .i64 0, .int .i64 0, .int .i64 0] 23)).frozen? ⟨g, 2, none⟩ = false := blk_frozen (blk_alloc H.out.blk _) 2
  have c9 : (w.alloc (.cells #[.int .i64 0, .int .i64 0, .int .i64 0, .int .i64 0, .int .i64 0, .int .i64 0] 23)).frozen? ⟨g, 3, none⟩ = false := blk_frozen (blk_alloc H.out.blk _) 3
  have c10 : (w.alloc (.cells #[.int .i64 0, .int .i64 0, .int .i64 0, .int .i64 0, .int .i64 0, .int .i64 0] 23)).frozen? ⟨g, 4, none⟩ = false := blk_frozen (blk_alloc H.out.blk _) 4
  have c11 : (w.alloc (.cells #[.int .i64 0, .int .i64 0, .int .i64 0, .int .i64 0, .int .i64 0, .int .i64 0] 23)).frozen? ⟨g, 5, none⟩ = false := blk_frozen (blk_alloc H.out.blk _) 5
  have c12 : (w.alloc (.cells #[.int .i64 0, .int .i64 0, .int .i64 0, .int .i64 0, .int .i64 0, .int .i64 0] 23)).frozen? ⟨g, 6, none⟩ = false := blk_frozen (blk_alloc H.out.blk _) 6
  have c13 : (w.alloc (.cells #[.int .i64 0, .int .i64 0, .int .i64 0, .int .i64 0, .int .i64 0, .int .i64 0] 23)).cell? ⟨g, 7, none⟩ = some (.slice (some ad) (t.length + 1) vc) := blk_cell (blk_alloc H.out.blk _) 7
  have c14 : (w.alloc (.cells #[.int .i64 0, .int .i64 0, .int .i64 0, .int .i64 0, .int .i64 0, .int .i64 0] 23)).cell? ad = some (.slice A0 l.length q0) := ((below_alloc (Below.refl w.heap.size w) _).cell yl).trans y
  refine start_ (n := 22) (S := fun w' => w'.cell? ⟨g, 0, none⟩ = some (.bool cl) ∧ w'.cell? ⟨g, 1, none⟩ = some (.int .i64 s.a) ∧ w'.cell? ⟨g, 2, none⟩ = some (.int .i64 s.b) ∧ w'.cell? ⟨g, 3, none⟩ = some (.int .i64 s.c) ∧ w'.cell? ⟨g, 4, none⟩ = some (.int .i64 s.d) ∧ w'.cell? ⟨g, 5, none⟩ = some (.int .i64 s.e) ∧ w'.cell? ⟨g, 6, none⟩ = some (.int .i64 s.f) ∧ w'.frozen? ⟨g, 1, none⟩ = false ∧ w'.frozen? ⟨g, 2, none⟩ = false ∧ w'.frozen? ⟨g, 3, none⟩ = false ∧ w'.frozen? ⟨g, 4, none⟩ = false ∧ w'.frozen? ⟨g, 5, none⟩ = false ∧ w'.frozen? ⟨g, 6, none⟩ = false ∧ w'.cell? ⟨g, 7, none⟩ = some (.slice (some ad) (t.length + 1) vc) ∧ w'.cell? ad = some (.slice A0 l.length q0)) (ds := [21]) #[false, false, false, false, false, false, false, false, false, false, false, false, false, false, false, false, false, false, false, false, false, false] (by kernel_rfl) rfl rfl ⟨c0, c1, c2, c3, c4, c5, c6, c7, c8, c9, c10, c11, c12, c13, c14⟩ (fun hHeld => ?_)
  refine pure_ (i := 0) (N := some 12) (v := ?_) (a' := ?_) #[true, false, false, false, false, false, false, false, false, false, false, false, false, false, false, false, false, false, false, false, false, false] rfl rfl (by kernel_rfl) (fun _ _ _ h => h) (Or.inl ⟨by rfl, ?_⟩) ?_ ?_
  rotate_left
  · intro w'
    go_simp
    with_reducible rfl
  rotate_left
  · simp only [Act.put, List.setIfInBounds_toArray, List.set_cons_zero, List.set_cons_succ, i64_w, i32_w]
    rfl
  refine pure_ (i := 1) (N := some 13) (v := ?_) (a' := ?_) #[true, true, false, false, false, false, false, false, false, false, false, false, false, false, false, false, false, false, false, false, false, false] rfl rfl (by kernel_rfl) (fun _ _ _ h => h) (Or.inl ⟨by rfl, ?_⟩) ?_ ?_
  rotate_left
  · intro w'
    go_simp
    with_reducible rfl
  rotate_left
  · simp only [Act.put, List.setIfInBounds_toArray, List.set_cons_zero, List.set_cons_succ, i64_w, i32_w]
    rfl
  refine pure_ (i := 2) (N := some 14) (v := ?_) (a' := ?_) #[true, true, true, false, false, false, false, false, false, false, false, false, false, false, false, false, false, false, false, false, false, false] rfl rfl (by kernel_rfl) (fun _ _ _ h => h) (Or.inl ⟨by rfl, ?_⟩) ?_ ?_
  rotate_left
  · intro w'
    go_simp
    with_reducible rfl
  rotate_left
  · simp only [Act.put, List.setIfInBounds_toArray, List.set_cons_zero, List.set_cons_succ, i64_w, i32_w]
    rfl
  refine pure_ (i := 3) (N := some 15) (v := ?_) (a' := ?_) #[true, true, true, true, false, false, false, false, false, false, false, false, false, false, false, false, false, false, false, false, false, false] rfl rfl (by kernel_rfl) (fun _ _ _ h => h) (Or.inl ⟨by rfl, ?_⟩) ?_ ?_
  rotate_left
  · intro w'
    go_simp
    with_reducible rfl
  rotate_left
  · simp only [Act.put, List.setIfInBounds_toArray, List.set_cons_zero, List.set_cons_succ, i64_w, i32_w]
    rfl
  refine pure_ (i := 5) (N := some 17) (v := ?_) (a' := ?_) #[true, true, true, true, false, true, false, false, false, false, false, false, false, false, false, false, false, false, false, false, false, false] rfl rfl (by kernel_rfl) (fun _ _ _ h => h) (Or.inl ⟨by rfl, ?_⟩) ?_ ?_
  rotate_left
  · intro w'
    go_simp
    with_reducible rfl
  rotate_left
  · simp only [Act.put, List.setIfInBounds_toArray, List.set_cons_zero, List.set_cons_succ, i64_w, i32_w]
    rfl
  refine pure_ (i := 6) (N := some 18) (v := ?_) (a' := ?_) #[true, true, true, true, false, true, true, false, false, false, false, false, false, false, false, false, false, false, false, false, false, false] rfl rfl (by kernel_rfl) (fun _ _ _ h => h) (Or.inl ⟨by rfl, ?_⟩) ?_ ?_
  rotate_left
  · intro w'
    go_simp
    with_reducible rfl
  rotate_left
  · simp only [Act.put, List.setIfInBounds_toArray, List.set_cons_zero, List.set_cons_succ, i64_w, i32_w]
    rfl
  refine pure_ (i := 7) (N := some 19) (v := ?_) (a' := ?_) #[true, true, true, true, false, true, true, true, false, false, false, false, false, false, false, false, false, false, false, false, false, false] rfl rfl (by kernel_rfl) (fun _ _ _ h => h) (Or.inl ⟨by rfl, ?_⟩) ?_ ?_
  rotate_left
  · intro w'
    go_simp
    with_reducible rfl
  rotate_left
  · simp only [Act.put, List.setIfInBounds_toArray, List.set_cons_zero, List.set_cons_succ, i64_w, i32_w]
    rfl
  refine pure_ (i := 11) (N := some 23) (v := ?_) (a' := ?_) #[true, true, true, true, false, true, true, true, false, false, false, true, false, false, false, false, false, false, false, false, false, false] rfl rfl (by kernel_rfl) (fun _ _ _ h => h) (Or.inl ⟨by rfl, ?_⟩) ?_ ?_
  rotate_left
  · intro w'
    go_simp
    with_reducible rfl
  rotate_left
  · simp only [Act.put, List.setIfInBounds_toArray, List.set_cons_zero, List.set_cons_succ, i64_w, i32_w]
    rfl
  refine pure_ (i := 12) (N := some 24) (v := ?_) (a' := ?_) #[true, true, true, true, false, true, true, true, false, false, false, true, true, false, false, false, false, false, false, false, false, false] rfl rfl (by kernel_rfl) (fun _ _ _ h => h) (Or.inl ⟨by rfl, ?_⟩) ?_ ?_
  rotate_left
  · intro w'
    go_simp
    with_reducible rfl
  rotate_left
  · simp only [Act.put, List.setIfInBounds_toArray, List.set_cons_zero, List.set_cons_succ, i64_w, i32_w]
    rfl
  refine pure_ (i := 13) (N := some 25) (v := ?_) (a' := ?_) #[true, true, true, true, false, true, true, true, false, false, false, true, true, true, false, false, false, false, false, false, false, false] rfl rfl (by kernel_rfl) (fun _ _ _ h => h) (Or.inl ⟨by rfl, ?_⟩) ?_ ?_
  rotate_left
  · intro w'
    go_simp
    with_reducible rfl
  rotate_left
  · simp only [Act.put, List.setIfInBounds_toArray, List.set_cons_zero, List.set_cons_succ, i64_w, i32_w]
    rfl
  refine take_ (i := 4) (N := some 16) (v := ?_) (a' := ?_) #[true, true, true, true, true, true, true, true, false, false, false, true, true, true, false, false, false, false, false, false, false, false] rfl rfl (by kernel_rfl) (fun _ _ _ h => h) (Or.inl ⟨by rfl, ?_⟩) hHeld ?_ ?_
  rotate_left
  · rintro w' ⟨s0, s1, s2, s3, s4, s5, s6, s7, s8, s9, s10, s11, s12, s13, s14⟩
    go_simp
    with_reducible rfl
  rotate_left
  · simp only [Act.put, List.setIfInBounds_toArray, List.set_cons_zero, List.set_cons_succ, i64_w, i32_w]
    rfl
  refine take_ (i := 8) (N := some 20) (v := ?_) (a' := ?_) #[true, true, true, true, true, true, true, true, true, false, false, true, true, true, false, false, false, false, false, false, false, false] rfl rfl (by kernel_rfl) (fun _ _ _ h => h) (Or.inl ⟨by rfl, ?_⟩) hHeld ?_ ?_
  rotate_left
  · rintro w' ⟨s0, s1, s2, s3, s4, s5, s6, s7, s8, s9, s10, s11, s12, s13, s14⟩
    go_simp
    with_reducible rfl
  rotate_left
  · simp only [Act.put, List.setIfInBounds_toArray, List.set_cons_zero, List.set_cons_succ, i64_w, i32_w]
    rfl
  refine pure_ (i := 9) (N := some 21) (v := ?_) (a' := ?_) #[true, true, true, true, true, true, true, true, true, true, false, true, true, true, false, false, false, false, false, false, false, false] rfl rfl (by kernel_rfl) (fun _ _ _ h => h) (Or.inl ⟨by rfl, ?_⟩) ?_ ?_
  rotate_left
  · intro w'
    go_simp
    with_reducible rfl
  rotate_left
  · simp only [Act.put, List.setIfInBounds_toArray, List.set_cons_zero, List.set_cons_succ, i64_w, i32_w]
    rfl
  refine take_ (i := 10) (N := some 22) (v := ?_) (a' := ?_) #[true, true, true, true, true, true, true, true, true, true, true, true, true, true, false, false, false, false, false, false, false, false] rfl rfl (by kernel_rfl) (fun _ _ _ h => h) (Or.inl ⟨by rfl, ?_⟩) hHeld ?_ ?_
  rotate_left
  · rintro w' ⟨s0, s1, s2, s3, s4, s5, s6, s7, s8, s9, s10, s11, s12, s13, s14⟩
    go_simp
    with_reducible rfl
  rotate_left
  · simp only [Act.put, List.setIfInBounds_toArray, List.set_cons_zero, List.set_cons_succ, i64_w, i32_w]
    rfl
  refine take_ (i := 14) (N := some 26) (v := ?_) (a' := ?_) #[true, true, true, true, true, true, true, true, true, true, true, true, true, true, true, false, false, false, false, false, false, false] rfl rfl (by kernel_rfl) (fun _ _ _ h => h) (Or.inl ⟨by rfl, ?_⟩) hHeld ?_ ?_
  rotate_left
  · rintro w' ⟨s0, s1, s2, s3, s4, s5, s6, s7, s8, s9, s10, s11, s12, s13, s14⟩
    go_simp
    with_reducible rfl
  rotate_left
  · simp only [Act.put, List.setIfInBounds_toArray, List.set_cons_zero, List.set_cons_succ, i64_w, i32_w]
    rfl
  refine one_ (i := 15) (N := some 27) #[true, true, true, true, true, true, true, true, true, true, true, true, true, true, true, true, false, false, false, false, false, false] rfl rfl (by kernel_rfl) (by decide) (fun K hK => ?_)
  refine goes_ Tryd.func11 (by kernel_rfl) rfl #[.agg s.arr, .slice A0 l.length q0, .bool cl] (by rfl) rfl rfl (by simp only [List.map_toArray, List.map_cons, List.map_nil]; rfl) ?_
  with_reducible refine (apply_ex s A0 q0 l cl _ (Kd.C_below HL.out (below_drew (Below.refl _ _))) HQ.out).mono ?_
  rintro e w4 ⟨rfl, hb⟩
  refine ⟨_, rfl, ?_⟩
  have HB4 := Aside0.mk hb
  clear hb
  refine hK.out _ _ ⟨(HB4.out.cell (World.block_lt_of_cell? _ _ hHeld.1)).trans hHeld.1, (HB4.out.cell (World.block_lt_of_cell? _ _ hHeld.2.1)).trans hHeld.2.1, (HB4.out.cell (World.block_lt_of_cell? _ _ hHeld.2.2.1)).trans hHeld.2.2.1, (HB4.out.cell (World.block_lt_of_cell? _ _ hHeld.2.2.2.1)).trans hHeld.2.2.2.1, (HB4.out.cell (World.block_lt_of_cell? _ _ hHeld.2.2.2.2.1)).trans hHeld.2.2.2.2.1, (HB4.out.cell (World.block_lt_of_cell? _ _ hHeld.2.2.2.2.2.1)).trans hHeld.2.2.2.2.2.1, (HB4.out.cell (World.block_lt_of_cell? _ _ hHeld.2.2.2.2.2.2.1)).trans hHeld.2.2.2.2.2.2.1, (HB4.out.frozen (p := ⟨g, 1, none⟩) (World.block_lt_of_cell? _ _ hHeld.2.1)).trans hHeld.2.2.2.2.2.2.2.1, (HB4.out.frozen (p := ⟨g, 2, none⟩) (World.block_lt_of_cell? _ _ hHeld.2.2.1)).trans hHeld.2.2.2.2.2.2.2.2.1, (HB4.out.frozen (p := ⟨g, 3, none⟩) (World.block_lt_of_cell? _ _ hHeld.2.2.2.1)).trans hHeld.2.2.2.2.2.2.2.2.2.1, (HB4.out.frozen (p := ⟨g, 4, none⟩) (World.block_lt_of_cell? _ _ hHeld.2.2.2.2.1)).trans hHeld.2.2.2.2.2.2.2.2.2.2.1, (HB4.out.frozen (p := ⟨g, 5, none⟩) (World.block_lt_of_cell? _ _ hHeld.2.2.2.2.2.1)).trans hHeld.2.2.2.2.2.2.2.2.2.2.2.1, (HB4.out.frozen (p := ⟨g, 6, none⟩) (World.block_lt_of_cell? _ _ hHeld.2.2.2.2.2.2.1)).trans hHeld.2.2.2.2.2.2.2.2.2.2.2.2.1, (HB4.out.cell (World.block_lt_of_cell? _ _ hHeld.2.2.2.2.2.2.2.2.2.2.2.2.2.1)).trans hHeld.2.2.2.2.2.2.2.2.2.2.2.2.2.1, (HB4.out.cell (World.block_lt_of_cell? _ _ hHeld.2.2.2.2.2.2.2.2.2.2.2.2.2.2)).trans hHeld.2.2.2.2.2.2.2.2.2.2.2.2.2.2⟩ (fun hHeld => ?_)
  clear hK K
  refine norm_ (a' := ?_) ?_ ?_
  rotate_left
  · show Act.put _ (some 27) _ = _
    simp only [Act.put, List.setIfInBounds_toArray, List.set_cons_zero, List.set_cons_succ, i64_w, i32_w]
    rfl
  refine pure_ (i := 16) (N := some 11) (v := ?_) (a' := ?_) #[true, true, true, true, true, true, true, true, true, true, true, true, true, true, true, true, true, false, false, false, false, false] rfl rfl (by kernel_rfl) (fun _ _ _ h => h) (Or.inl ⟨by rfl, ?_⟩) ?_ ?_
  rotate_left
  · intro w'
    go_simp
    with_reducible rfl
  rotate_left
  · simp only [Act.put, List.setIfInBounds_toArray, List.set_cons_zero, List.set_cons_succ, i64_w, i32_w]
    rfl
  refine pure_ (i := 17) (N := some 28) (v := ?_) (a' := ?_) #[true, true, true, true, true, true, true, true, true, true, true, true, true, true, true, true, true, true, false, false, false, false] rfl rfl (by kernel_rfl) (fun _ _ _ h => h) (Or.inl ⟨by rfl, ?_⟩) ?_ ?_
  rotate_left
  · intro w'
    go_simp
    with_reducible rfl
  rotate_left
  · simp only [Act.put, List.setIfInBounds_toArray, List.set_cons_zero, List.set_cons_succ, i64_w, i32_w]
    rfl
  refine pure_ (i := 18) (N := some 29) (v := ?_) (a' := ?_) #[true, true, true, true, true, true, true, true, true, true, true, true, true, true, true, true, true, true, true, false, false, false] rfl rfl (by kernel_rfl) (fun _ _ _ h => h) (Or.inl ⟨by rfl, ?_⟩) ?_ ?_
  rotate_left
  · intro w'
    go_simp
    with_reducible rfl
  rotate_left
  · simp only [Act.put, List.setIfInBounds_toArray, List.set_cons_zero, List.set_cons_succ, i64_w, i32_w]
    rfl
  refine pure_ (i := 19) (N := some 30) (v := ?_) (a' := ?_) #[true, true, true, true, true, true, true, true, true, true, true, true, true, true, true, true, true, true, true, true, false, false] rfl rfl (by kernel_rfl) (fun _ _ _ h => h) (Or.inl ⟨by rfl, ?_⟩) ?_ ?_
  rotate_left
  · intro w'
    go_simp
    with_reducible rfl
  rotate_left
  · simp only [Act.put, List.setIfInBounds_toArray, List.set_cons_zero, List.set_cons_succ, i64_w, i32_w]
    rfl
  refine pure_ (i := 20) (N := some 31) (v := ?_) (a' := ?_) #[true, true, true, true, true, true, true, true, true, true, true, true, true, true, true, true, true, true, true, true, true, false] rfl rfl (by kernel_rfl) (fun _ _ _ h => h) (Or.inl ⟨by rfl, ?_⟩) ?_ ?_
  rotate_left
  · intro w'
    go_simp
    with_reducible rfl
  rotate_left
  · simp only [Act.put, List.setIfInBounds_toArray, List.set_cons_zero, List.set_cons_succ, i64_w, i32_w]
    rfl
  refine last_ (i := 21) (N := none) #[true, true, true, true, true, true, true, true, true, true, true, true, true, true, true, true, true, true, true, true, true, true] rfl rfl (by kernel_rfl) (by decide) (fun K hK => ?_)
  refine skip_ (w1 := ?_) (by rfl) rfl ?_ ?_
  rotate_left
  · go_simp
    rfl
  refine hK.out _ _ ?_
  clear hK K
  refine done_ (by kernel_rfl) ?_

  repeat (rename World.cell? _ _ = _ ∧ _ => hh; clear hh)
  clear c0 c1 c2 c3 c4 c5 c6 c7 c8 c9 c10 c11 c12 c13 c14 d0 d1 d2 d3 d4 d5 d6 d7 y
  have H4 := Aside0.mk ((H.out.below (below_alloc (Below.refl _ _) (.cells #[.int .i64 0, .int .i64 0, .int .i64 0, .int .i64 0, .int .i64 0, .int .i64 0] 23))).below (below_then (below_drew (Below.refl _ _)) (Nat.le_refl _) HB4.out))
  have R4 := Aside0.mk (blk_below (blk_new w (.cells #[.int .i64 0, .int .i64 0, .int .i64 0, .int .i64 0, .int .i64 0, .int .i64 0] 23)) (below_then (below_drew (Below.refl _ _)) (Nat.le_refl _) HB4.out))
  have W4 : Aside0 (Below w.heap.size w w4) := ⟨below_then (below_drew (below_alloc HB.out (.cells #[.int .i64 0, .int .i64 0, .int .i64 0, .int .i64 0, .int .i64 0, .int .i64 0] 23))) (by simp) HB4.out⟩
  generalize hr5 : (apply cl s l).1 = r5
  generalize hW5 : ((((((w4.setCell ⟨g, 1, none⟩ (.int .i64 r5.a)).setCell ⟨g, 2, none⟩ (.int .i64 r5.b)).setCell ⟨g, 3, none⟩ (.int .i64 r5.c)).setCell ⟨g, 4, none⟩ (.int .i64 r5.d)).setCell ⟨g, 5, none⟩ (.int .i64 r5.e)).setCell ⟨g, 6, none⟩ (.int .i64 r5.f)) = W5
  have hb := H4.out.bound g H4.out.mem
  have H5 : Aside0 (W5.heap[g]? = some (.cells (cells cl r5 (.slice (some ad) (t.length + 1) vc)) 70 (0, 0))) := ⟨by
    rw [← hW5]
    simpa [cells] using blk_set (blk_set (blk_set (blk_set (blk_set (blk_set H4.out.blk 1 (.int .i64 r5.a)) 2 (.int .i64 r5.b)) 3 (.int .i64 r5.c)) 4 (.int .i64 r5.d)) 5 (.int .i64 r5.e)) 6 (.int .i64 r5.f)⟩
  have hne : w.heap.size ≠ g := by omega
  have R5 : Aside0 (W5.heap[w.heap.size]? = some (.cells #[.int .i64 0, .int .i64 0, .int .i64 0, .int .i64 0, .int .i64 0, .int .i64 0] 23 (0, 0))) := ⟨by
    rw [← hW5]
    exact blk_far (p := ⟨g, 6, none⟩) (blk_far (p := ⟨g, 5, none⟩) (blk_far (p := ⟨g, 4, none⟩) (blk_far (p := ⟨g, 3, none⟩) (blk_far (p := ⟨g, 2, none⟩) (blk_far (p := ⟨g, 1, none⟩) R4.out hne _) hne _) hne _) hne _) hne _) hne _⟩
  have K5 : Aside0 (Kept w W5 F) := ⟨by
    rw [← hW5]
    exact ((((((Kept.of_below W4.out F).setCell (p := ⟨g, 1, none⟩) (.inl H.out.mem) _).setCell (p := ⟨g, 2, none⟩) (.inl H.out.mem) _).setCell (p := ⟨g, 3, none⟩) (.inl H.out.mem) _).setCell (p := ⟨g, 4, none⟩) (.inl H.out.mem) _).setCell (p := ⟨g, 5, none⟩) (.inl H.out.mem) _).setCell (p := ⟨g, 6, none⟩) (.inl H.out.mem) _⟩
  have B5 : Aside0 (Below base w W5) := ⟨by
    have h1 := below_lo W4.out (B' := base) (by have := H.out.bound g H.out.mem; omega)
    rw [← hW5]
    exact (((((h1.setCell (p := ⟨g, 1, none⟩) hb.1 _).setCell (p := ⟨g, 2, none⟩) hb.1 _).setCell (p := ⟨g, 3, none⟩) hb.1 _).setCell (p := ⟨g, 4, none⟩) hb.1 _).setCell (p := ⟨g, 5, none⟩) hb.1 _).setCell (p := ⟨g, 6, none⟩) hb.1 _⟩
  have Q5 : Aside0 ((Kd.slice 28 k28).Q 24 W5 base (fun k => F k ∧ k ≠ g) (.slice A1 t.length c1) t) := ⟨by
    rw [← hW5]
    have h0 := Kd.Q_below HV.out W4.out
    exact Kd.Q_far (p := ⟨g, 6, none⟩) (Kd.Q_far (p := ⟨g, 5, none⟩) (Kd.Q_far (p := ⟨g, 4, none⟩) (Kd.Q_far (p := ⟨g, 3, none⟩) (Kd.Q_far (p := ⟨g, 2, none⟩) (Kd.Q_far (p := ⟨g, 1, none⟩) h0 (fun _ hk => hk.2) _) (fun _ hk => hk.2) _) (fun _ hk => hk.2) _) (fun _ hk => hk.2) _) (fun _ hk => hk.2) _) (fun _ hk => hk.2) _⟩
  have H6 : Aside0 ((W5.setCell ⟨g, 7, none⟩ (.slice A1 t.length c1)).heap[g]? = some (.cells (cells cl r5 (.slice A1 t.length c1)) 70 (0, 0))) := ⟨by simpa [cells] using blk_set H5.out 7 (.slice A1 t.length c1)⟩
  have hlt5 := blk_lt R5.out
  have hlt6 := blk_lt H5.out
  have e1 : W5.cell? ⟨g, 1, none⟩ = some (.int .i64 r5.a) := blk_cell H5.out 1
  have e2 : W5.cell? ⟨g, 2, none⟩ = some (.int .i64 r5.b) := blk_cell H5.out 2
  have e3 : W5.cell? ⟨g, 3, none⟩ = some (.int .i64 r5.c) := blk_cell H5.out 3
  have e4 : W5.cell? ⟨g, 4, none⟩ = some (.int .i64 r5.d) := blk_cell H5.out 4
  have e5 : W5.cell? ⟨g, 5, none⟩ = some (.int .i64 r5.e) := blk_cell H5.out 5
  have e6 : W5.cell? ⟨g, 6, none⟩ = some (.int .i64 r5.f) := blk_cell H5.out 6
  have e7 : W5.cell? ⟨g, 7, none⟩ = some (.slice (some ad) (t.length + 1) vc) := blk_cell H5.out 7
  have f7 : W5.frozen? ⟨g, 7, none⟩ = false := blk_frozen H5.out 7
  have zr0 : W5.cell? ⟨w.heap.size, 0, none⟩ = some (.int .i64 0) := blk_cell R5.out 0
  have zr1 : W5.cell? ⟨w.heap.size, 1, none⟩ = some (.int .i64 0) := blk_cell R5.out 1
  have zr2 : W5.cell? ⟨w.heap.size, 2, none⟩ = some (.int .i64 0) := blk_cell R5.out 2
  have zr3 : W5.cell? ⟨w.heap.size, 3, none⟩ = some (.int .i64 0) := blk_cell R5.out 3
  have zr4 : W5.cell? ⟨w.heap.size, 4, none⟩ = some (.int .i64 0) := blk_cell R5.out 4
  have zr5 : W5.cell? ⟨w.heap.size, 5, none⟩ = some (.int .i64 0) := blk_cell R5.out 5
  have qq0 : W5.frozen? ⟨w.heap.size, 0, none⟩ = false := blk_frozen R5.out 0
  have q1 : W5.frozen? ⟨w.heap.size, 1, none⟩ = false := blk_frozen R5.out 1
  have q2 : W5.frozen? ⟨w.heap.size, 2, none⟩ = false := blk_frozen R5.out 2
  have q3 : W5.frozen? ⟨w.heap.size, 3, none⟩ = false := blk_frozen R5.out 3
  have q4 : W5.frozen? ⟨w.heap.size, 4, none⟩ = false := blk_frozen R5.out 4
  have q5 : W5.frozen? ⟨w.heap.size, 5, none⟩ = false := blk_frozen R5.out 5
  clear hW5 hb
  go_wp2_with fail
  have hgne : g ≠ w.heap.size := by omega
  refine bodyPost_ret (v := .tuple #[.agg r5.arr, .bool true]) (by simp [results, Tryd.results33, go_sem, St.arr, *]) rfl ⟨rfl, ?_, ?_, ?_⟩
  · refine ⟨.slice A1 t.length c1, ?_, H.out.mem, fun k hk => ⟨(H.out.bound k hk).1, ?_⟩, ?_, by have := H.out.few; simp at this; omega⟩
    · exact blk_far (p := ⟨w.heap.size, 5, none⟩) (blk_far (p := ⟨w.heap.size, 4, none⟩) (blk_far (p := ⟨w.heap.size, 3, none⟩) (blk_far (p := ⟨w.heap.size, 2, none⟩) (blk_far (p := ⟨w.heap.size, 1, none⟩) (blk_far (p := ⟨w.heap.size, 0, none⟩) H6.out hgne _) hgne _) hgne _) hgne _) hgne _) hgne _
    · have := (H.out.bound k hk).2; have := K5.out.1; simp; omega
    · have hw : ∀ k, F k ∧ k ≠ g → k ≠ w.heap.size := fun k hk => by have := (H.out.bound k hk.1).2; omega
      exact Kd.Q_far (p := ⟨w.heap.size, 5, none⟩) (Kd.Q_far (p := ⟨w.heap.size, 4, none⟩) (Kd.Q_far (p := ⟨w.heap.size, 3, none⟩) (Kd.Q_far (p := ⟨w.heap.size, 2, none⟩) (Kd.Q_far (p := ⟨w.heap.size, 1, none⟩) (Kd.Q_far (p := ⟨w.heap.size, 0, none⟩) (Kd.Q_far (p := ⟨g, 7, none⟩) Q5.out (fun _ hk => hk.2) _) hw _) hw _) hw _) hw _) hw _) hw _
  · exact ((((((K5.out.setCell (p := ⟨g, 7, none⟩) (.inl H.out.mem) _).setCell (p := ⟨w.heap.size, 0, none⟩) (.inr (Nat.le_refl _)) _).setCell (p := ⟨w.heap.size, 1, none⟩) (.inr (Nat.le_refl _)) _).setCell (p := ⟨w.heap.size, 2, none⟩) (.inr (Nat.le_refl _)) _).setCell (p := ⟨w.heap.size, 3, none⟩) (.inr (Nat.le_refl _)) _).setCell (p := ⟨w.heap.size, 4, none⟩) (.inr (Nat.le_refl _)) _).setCell (p := ⟨w.heap.size, 5, none⟩) (.inr (Nat.le_refl _)) _
  · have hbs : base ≤ w.heap.size := by have := H.out.bound g H.out.mem; omega
    exact ((((((B5.out.setCell (p := ⟨g, 7, none⟩) (H.out.bound g H.out.mem).1 _).setCell (p := ⟨w.heap.size, 0, none⟩) hbs _).setCell (p := ⟨w.heap.size, 1, none⟩) hbs _).setCell (p := ⟨w.heap.size, 2, none⟩) hbs _).setCell (p := ⟨w.heap.size, 3, none⟩) hbs _).setCell (p := ⟨w.heap.size, 4, none⟩) hbs _).setCell (p := ⟨w.heap.size, 5, none⟩) hbs _
end Go.Proofs.YtcjphkgmcfpfeaaDoor.MS
