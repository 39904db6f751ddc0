/- The document's book, by hand: Acked, Send, Ack; and a step on both books, walked. The lists fit in memory; the package's variable 'top' holds what the program lays. -/
import Derived.Test.YtcjphkgmcfpfeaaDoorMSetG
import Derived.BigQuiet
import Derived.Test.YtcjphkgmcfpfeaaDoorMSetK
namespace Go.Proofs.YtcjphkgmcfpfeaaDoor.MS
open Go Go.RowKit Go.Proofs.YtcjphkgmcfpfeaaDoorW.PrintWords Go.Proofs.YtcjphkgmcfpfeaaDoorW.PrintLast Go.Proofs.YtcjphkgmcfpfeaaDoorW.PrintMore Go.Proofs.YtcjphkgmcfpfeaaDoor.QL
set_option linter.unusedSimpArgs false
set_option linter.unusedVariables false
set_option maxHeartbeats 8000000
set_option maxRecDepth 100000
/-- The document's book at block g, its blocks among F: every list that was sent, and how many are acknowledged. -/
structure Bk8 (base : Nat) (W : World) (g : Nat) (F : Nat → Prop) (cl : Bool) (sent : List (List S28)) (dn : Nat) (v : Value) : Prop where
  blk : W.heap[g]? = some (.cells #[.bool cl, v, .int .i64 dn] 72 (0, 0))
  mem : F g
  bound : ∀ k, F k → base ≤ k ∧ k < W.heap.size
  row : (Kd.slice 28 k28).Q 24 W base (fun k => F k ∧ k ≠ g) v sent
  few : dn ≤ sent.length
def IsB8 (base : Nat) (W : World) (g : Nat) (F : Nat → Prop) (cl : Bool) (sent : List (List S28)) (dn : Nat) : Prop := ∃ v, Bk8 base W g F cl sent dn v
theorem Bk8.kept {base : Nat} {W W1 : World} {g : Nat} {F S : Nat → Prop} {cl : Bool} {sent : List (List S28)} {dn : Nat} {v : Value} (h : Bk8 base W g F cl sent dn v) (k : Kept W W1 S) (hs : ∀ i, F i → ¬ S i) : Bk8 base W1 g F cl sent dn v :=
  ⟨blk_kept h.blk k (hs g h.mem), h.mem, fun i hi => ⟨(h.bound i hi).1, Nat.lt_of_lt_of_le (h.bound i hi).2 k.1⟩, Kd.Q_kept h.row k (fun i hi => hs i hi.1), h.few⟩
theorem Bk8.below {base : Nat} {W W1 : World} {g : Nat} {F : Nat → Prop} {cl : Bool} {sent : List (List S28)} {dn : Nat} {v : Value} (h : Bk8 base W g F cl sent dn v) (k : Below W.heap.size W W1) : Bk8 base W1 g F cl sent dn v := h.kept (Kept.of_below k (fun _ => False)) (fun _ _ => id)
theorem IsB8.kept {base : Nat} {W W1 : World} {g : Nat} {F S : Nat → Prop} {cl : Bool} {sent : List (List S28)} {dn : Nat} (h : IsB8 base W g F cl sent dn) (k : Kept W W1 S) (hs : ∀ i, F i → ¬ S i) : IsB8 base W1 g F cl sent dn := by
  obtain ⟨v, h⟩ := h
  exact ⟨v, h.kept k hs⟩
theorem IsB8.below {base : Nat} {W W1 : World} {g : Nat} {F : Nat → Prop} {cl : Bool} {sent : List (List S28)} {dn : Nat} (h : IsB8 base W g F cl sent dn) (k : Below W.heap.size W W1) : IsB8 base W1 g F cl sent dn := h.kept (Kept.of_below k (fun _ => False)) (fun _ _ => id)
theorem new8_calls (cl : Bool) (w : World) : Calls Tryd.prog 26 #[.bool cl] w fun e w' => ∃ g, e = .returned (.pointer (some ⟨g, 0, none⟩)) ∧ IsB8 w.heap.size w' g (fun k => k = g) cl [] 0 ∧ w.heap.size ≤ g ∧ Below w.heap.size w w' := by
  have HB := Aside0.mk (Below.refl w.heap.size w)
  go_enter Tryd.func26, Tryd.ntmps26
  go_wp2_with fail
  go_ret
  refine ⟨_, rfl, ⟨_, ?_, rfl, ?_, Kd.Q_nil _ _ _ _ _, by simp⟩, Nat.le_refl _, ?_⟩
  · exact blk_new w _
  · rintro k rfl; simp
  · exact below_alloc HB.out _
theorem waiting8_calls (base g : Nat) (F : Nat → Prop) (cl : Bool) (sent : List (List S28)) (dn : Nat) (w : World) (h : IsB8 base w g F cl sent dn) : Calls Tryd.prog 43 #[.pointer (some ⟨g, 0, none⟩)] w fun e w' => e = .returned (.int .i64 ((sent.length - dn : Nat) : Int)) ∧ Below w.heap.size w w' := by
  have HB := Aside0.mk (Below.refl w.heap.size w)
  obtain ⟨v, h⟩ := h
  obtain ⟨A, c, rfl, hc⟩ := Kd.Q_slice h.row
  have hm : sent.length ≤ 9223372036854775807 := (Kd.Q_reads' h.row).2.2.2.1
  have z1 : w.cell? ⟨g, 1, none⟩ = some (.slice A sent.length c) := blk_cell h.blk 1
  have z2 : w.cell? ⟨g, 2, none⟩ = some (.int .i64 dn) := blk_cell h.blk 2
  have hf := h.few
  have hw : ((sent.length : Int) - (dn : Int)) = ((sent.length - dn : Nat) : Int) := by omega
  have HW := Aside0.mk hw
  clear h hc hw
  go_enter Tryd.func43, Tryd.ntmps43
  go_upto_region 1 with fail
  go_quiet (fail)
  go_wp2_with fail
  go_ret
  exact ⟨by rw [← HW.out]; rfl, pw_below_drewN HB.out _⟩
end Go.Proofs.YtcjphkgmcfpfeaaDoor.MS
namespace Go.Proofs.YtcjphkgmcfpfeaaDoor.MS
open Go Go.RowKit Go.Proofs.YtcjphkgmcfpfeaaDoorW.PrintWords Go.Proofs.YtcjphkgmcfpfeaaDoorW.PrintLast Go.Proofs.YtcjphkgmcfpfeaaDoorW.PrintMore Go.Proofs.YtcjphkgmcfpfeaaDoor.QL
set_option linter.unusedSimpArgs false
set_option linter.unusedVariables false
set_option maxHeartbeats 8000000
set_option maxRecDepth 100000
/-- The default with lists applied, in their order. -/
def ackedS (cl : Bool) (ls : List (List S28)) : St := ls.foldl (fun s l => (apply cl s l).1) init
theorem ackedS_take (cl : Bool) (ls : List (List S28)) (n : Nat) (h : n < ls.length) : ackedS cl (ls.take (n + 1)) = (apply cl (ackedS cl (ls.take n)) (rd_L2 ls (n : Int))).1 := by
  have e : rd_L2 ls (n : Int) = ls[n] := by simp [rd_L2, h]
  rw [List.take_succ_eq_append_getElem h, e]
  unfold ackedS
  rw [List.foldl_append]
  rfl
theorem acked8_calls (base g : Nat) (F : Nat → Prop) (cl : Bool) (sent : List (List S28)) (dn : Nat) (w : World) (h : IsB8 base w g F cl sent dn) (hT : GT w) : Calls Tryd.prog 29 #[.pointer (some ⟨g, 0, none⟩)] w fun e w' => e = .returned (.agg (ackedS cl (sent.take dn)).arr) ∧ Below w.heap.size w w' := by
  have HB := Aside0.mk (Below.refl w.heap.size w)
  obtain ⟨v, h⟩ := h
  obtain ⟨VA, vc, rfl, hvc⟩ := Kd.Q_slice h.row
  have HC := Aside0.mk (Kd.Q_reads' h.row).2.2
  have hm : sent.length ≤ 9223372036854775807 := HC.out.2.1
  have H := Aside0.mk h
  have HT := Aside0.mk hT
  have hfew := h.few
  clear h hT hvc
  go_enter Tryd.func29, Tryd.ntmps29
  go_upto_region 1 with fail
  have B2a := Aside0.mk (blk_new w (.cells #[.int .i64 0, .int .i64 0, .int .i64 0, .int .i64 0, .int .i64 0, .int .i64 0] 23))
  go_upto_region 2 with (first
    | (go_at_call 20; refine (default8_calls _).mono ?_; rintro e w5 ⟨rfl, hb⟩; have HB5 := Aside0.mk hb; clear hb))
  obtain ⟨W0, hW0⟩ : ∃ W, w5.alloc (.cells #[.int .i64 4096, .int .i64 1, .int .i64 2147483647, .int .i64 65535, .int .i64 16384, .int .i64 2147483647] 23) = W := ⟨_, rfl⟩
  obtain ⟨b3, hb3⟩ : ∃ x, w5.heap.size = x := ⟨_, rfl⟩
  have B30 : Aside0 (W0.heap[b3]? = some (.cells #[.int .i64 4096, .int .i64 1, .int .i64 2147483647, .int .i64 65535, .int .i64 16384, .int .i64 2147483647] 23 (0, 0))) := ⟨by rw [← hW0, ← hb3]; exact blk_new w5 _⟩
  have B20 : Aside0 (W0.heap[w.heap.size]? = some (.cells #[.int .i64 0, .int .i64 0, .int .i64 0, .int .i64 0, .int .i64 0, .int .i64 0] 23 (0, 0))) := ⟨by rw [← hW0]; exact blk_alloc (blk_below B2a.out HB5.out) _⟩
  have L0 : Aside0 (Below w.heap.size w W0) := ⟨by rw [← hW0]; exact below_alloc (below_then (below_alloc HB.out _) (by simp) HB5.out) _⟩
  have NE : Aside0 (w.heap.size ≠ b3) := ⟨by have h1 := blk_lt B2a.out; have := HB5.out.size; omega⟩
  have GE3 : Aside0 (w.heap.size ≤ b3) := ⟨by have h1 := blk_lt B2a.out; have := HB5.out.size; omega⟩
  rw [hW0, hb3]
  clear hW0 hb3 HB5 B2a
  go_wp2_with fail
  go_loopw [4] (fun i w' => ∃ (n : Nat) (s : St), n ≤ dn ∧ i = .int .i64 n ∧ Aside0 (s = ackedS cl (sent.take n)) ∧ Aside0 (w'.heap[b3]? = some (.cells #[.int .i64 s.a, .int .i64 s.b, .int .i64 s.c, .int .i64 s.d, .int .i64 s.e, .int .i64 s.f] 23 (0, 0))) ∧ Aside0 (w'.heap[w.heap.size]? = some (.cells #[.int .i64 0, .int .i64 0, .int .i64 0, .int .i64 0, .int .i64 0, .int .i64 0] 23 (0, 0))) ∧ Aside0 (Below w.heap.size w w')) (fun i _ => dn - (intOf i).toNat)
  case atStart => exact ⟨0, init, Nat.zero_le _, rfl, ⟨rfl⟩, B30, B20, L0⟩
  case round =>
    clear B30 B20 L0
    obtain ⟨n, s, hn, rfl, HA, B3r, B2r, HW⟩ := hrel
    have Hr := Aside0.mk (H.out.below HW.out)
    have zd : wr.cell? ⟨g, 2, none⟩ = some (.int .i64 dn) := blk_cell Hr.out.blk 2
    by_cases hlt : n < dn
    · have p0 : (0 : Int) ≤ n := by omega
      have q1 : (n : Int) < (sent.length : Int) := by omega
      have q2 : (n : Int) < (dn : Int) := by omega
      obtain ⟨ad, A0, q0, rfl, y, hq0, hCx⟩ := at_L2 (Kd.C_below HC.out HW.out) (n : Int) p0 (by omega)
      simp only [Int.toNat_natCast] at y
      have hst := ackedS_take cl sent n (by omega)
      obtain ⟨x, hx⟩ : ∃ q, rd_L2 sent (n : Int) = q := ⟨_, rfl⟩
      rw [hx] at y hq0 hCx hst
      rw [← HA.out] at hst
      obtain ⟨s2, c2x, hs2⟩ : ∃ a b, apply cl s x = (a, b) := ⟨_, _, rfl⟩
      rw [hs2] at hst
      have HS2 := Aside0.mk hs2
      have HST := Aside0.mk hst
      have HQ0 := Aside0.mk hq0
      have CX := Aside0.mk hCx
      clear hs2 hst hq0 hCx hx
      go_upto_region 5 with fail
      have d0 : wr.cell? ⟨b3, 0, none⟩ = some (.int .i64 s.a) := blk_cell B3r.out 0
      have d1 : wr.cell? ⟨b3, 1, none⟩ = some (.int .i64 s.b) := blk_cell B3r.out 1
      have d2 : wr.cell? ⟨b3, 2, none⟩ = some (.int .i64 s.c) := blk_cell B3r.out 2
      have d3 : wr.cell? ⟨b3, 3, none⟩ = some (.int .i64 s.d) := blk_cell B3r.out 3
      have d4 : wr.cell? ⟨b3, 4, none⟩ = some (.int .i64 s.e) := blk_cell B3r.out 4
      have d5 : wr.cell? ⟨b3, 5, none⟩ = some (.int .i64 s.f) := blk_cell B3r.out 5
      have d6 : wr.frozen? ⟨b3, 0, none⟩ = false := blk_frozen B3r.out 0
      have d7 : wr.frozen? ⟨b3, 1, none⟩ = false := blk_frozen B3r.out 1
      have d8 : wr.frozen? ⟨b3, 2, none⟩ = false := blk_frozen B3r.out 2
      have d9 : wr.frozen? ⟨b3, 3, none⟩ = false := blk_frozen B3r.out 3
      have d10 : wr.frozen? ⟨b3, 4, none⟩ = false := blk_frozen B3r.out 4
      have d11 : wr.frozen? ⟨b3, 5, none⟩ = false := blk_frozen B3r.out 5
      have d12 : wr.cell? ⟨g, 0, none⟩ = some (.bool cl) := blk_cell Hr.out.blk 0
      have d13 : wr.cell? ⟨g, 1, none⟩ = some (.slice (some ad) sent.length vc) := blk_cell Hr.out.blk 1
      have d14 : wr.cell? (ad.add n) = some (.slice A0 x.length q0) := y
      have d15 : Kd.C k28 wr.drew A0 x.length x := Kd.C_below CX.out (below_drew (Below.refl _ _))
      have d16 : GT wr.drew := (HT.out.below HW.out).below (below_drew (Below.refl _ _))
      refine start_ (n := 17) (S := fun w' => w'.cell? ⟨b3, 0, none⟩ = some (.int .i64 s.a) ∧ w'.cell? ⟨b3, 1, none⟩ = some (.int .i64 s.b) ∧ w'.cell? ⟨b3, 2, none⟩ = some (.int .i64 s.c) ∧ w'.cell? ⟨b3, 3, none⟩ = some (.int .i64 s.d) ∧ w'.cell? ⟨b3, 4, none⟩ = some (.int .i64 s.e) ∧ w'.cell? ⟨b3, 5, none⟩ = some (.int .i64 s.f) ∧ w'.frozen? ⟨b3, 0, none⟩ = false ∧ w'.frozen? ⟨b3, 1, none⟩ = false ∧ w'.frozen? ⟨b3, 2, none⟩ = false ∧ w'.frozen? ⟨b3, 3, none⟩ = false ∧ w'.frozen? ⟨b3, 4, none⟩ = false ∧ w'.frozen? ⟨b3, 5, none⟩ = false ∧ w'.cell? ⟨g, 0, none⟩ = some (.bool cl) ∧ w'.cell? ⟨g, 1, none⟩ = some (.slice (some ad) sent.length vc) ∧ w'.cell? (ad.add n) = some (.slice A0 x.length q0) ∧ Kd.C k28 w' A0 x.length x ∧ GT w') (ds := [16]) #[false, false, false, false, false, false, false, false, false, false, false, false, false, false, false, false, false] (by kernel_rfl) rfl rfl ⟨d0, d1, d2, d3, d4, d5, d6, d7, d8, d9, d10, d11, d12, d13, d14, d15, d16⟩ (fun hHeld => ?_)
      refine pure_ (i := 1) (N := some 16) (v := ?_) (a' := ?_) #[false, true, false, false, false, false, false, false, false, false, false, false, false, false, false, false, false] rfl rfl (by kernel_rfl) (fun _ _ _ h => h) (Or.inl ⟨by rfl, ?_⟩) ?_ ?_
      rotate_left
      · intro w'
        go_simp
        with_reducible rfl
      rotate_left
      · simp only [Act.put, List.setIfInBounds_toArray, List.set_cons_zero, List.set_cons_succ, i64_w, i32_w]
        rfl
      refine pure_ (i := 2) (N := some 17) (v := ?_) (a' := ?_) #[false, true, true, false, false, false, false, false, false, false, false, false, false, false, false, false, false] rfl rfl (by kernel_rfl) (fun _ _ _ h => h) (Or.inl ⟨by rfl, ?_⟩) ?_ ?_
      rotate_left
      · intro w'
        go_simp
        with_reducible rfl
      rotate_left
      · simp only [Act.put, List.setIfInBounds_toArray, List.set_cons_zero, List.set_cons_succ, i64_w, i32_w]
        rfl
      refine pure_ (i := 3) (N := some 18) (v := ?_) (a' := ?_) #[false, true, true, true, false, false, false, false, false, false, false, false, false, false, false, false, false] rfl rfl (by kernel_rfl) (fun _ _ _ h => h) (Or.inl ⟨by rfl, ?_⟩) ?_ ?_
      rotate_left
      · intro w'
        go_simp
        with_reducible rfl
      rotate_left
      · simp only [Act.put, List.setIfInBounds_toArray, List.set_cons_zero, List.set_cons_succ, i64_w, i32_w]
        rfl
      refine pure_ (i := 5) (N := some 20) (v := ?_) (a' := ?_) #[false, true, true, true, false, true, false, false, false, false, false, false, false, false, false, false, false] rfl rfl (by kernel_rfl) (fun _ _ _ h => h) (Or.inl ⟨by rfl, ?_⟩) ?_ ?_
      rotate_left
      · intro w'
        go_simp
        with_reducible rfl
      rotate_left
      · simp only [Act.put, List.setIfInBounds_toArray, List.set_cons_zero, List.set_cons_succ, i64_w, i32_w]
        rfl
      refine pure_ (i := 8) (N := some 23) (v := ?_) (a' := ?_) #[false, true, true, true, false, true, false, false, true, false, false, false, false, false, false, false, false] rfl rfl (by kernel_rfl) (fun _ _ _ h => h) (Or.inl ⟨by rfl, ?_⟩) ?_ ?_
      rotate_left
      · intro w'
        go_simp
        with_reducible rfl
      rotate_left
      · simp only [Act.put, List.setIfInBounds_toArray, List.set_cons_zero, List.set_cons_succ, i64_w, i32_w]
        rfl
      refine pure_ (i := 9) (N := some 24) (v := ?_) (a' := ?_) #[false, true, true, true, false, true, false, false, true, true, false, false, false, false, false, false, false] rfl rfl (by kernel_rfl) (fun _ _ _ h => h) (Or.inl ⟨by rfl, ?_⟩) ?_ ?_
      rotate_left
      · intro w'
        go_simp
        with_reducible rfl
      rotate_left
      · simp only [Act.put, List.setIfInBounds_toArray, List.set_cons_zero, List.set_cons_succ, i64_w, i32_w]
        rfl
      refine pure_ (i := 10) (N := some 25) (v := ?_) (a' := ?_) #[false, true, true, true, false, true, false, false, true, true, true, false, false, false, false, false, false] rfl rfl (by kernel_rfl) (fun _ _ _ h => h) (Or.inl ⟨by rfl, ?_⟩) ?_ ?_
      rotate_left
      · intro w'
        go_simp
        with_reducible rfl
      rotate_left
      · simp only [Act.put, List.setIfInBounds_toArray, List.set_cons_zero, List.set_cons_succ, i64_w, i32_w]
        rfl
      refine take_ (i := 0) (N := some 15) (v := ?_) (a' := ?_) #[true, true, true, true, false, true, false, false, true, true, true, false, false, false, false, false, false] rfl rfl (by kernel_rfl) (fun _ _ _ h => h) (Or.inl ⟨by rfl, ?_⟩) hHeld ?_ ?_
      rotate_left
      · rintro w' ⟨s0, s1, s2, s3, s4, s5, s6, s7, s8, s9, s10, s11, s12, s13, s14, s15, s16⟩
        go_simp
        with_reducible rfl
      rotate_left
      · simp only [Act.put, List.setIfInBounds_toArray, List.set_cons_zero, List.set_cons_succ, i64_w, i32_w]
        rfl
      refine take_ (i := 4) (N := some 19) (v := ?_) (a' := ?_) #[true, true, true, true, true, true, false, false, true, true, true, false, false, false, false, false, false] rfl rfl (by kernel_rfl) (fun _ _ _ h => h) (Or.inl ⟨by rfl, ?_⟩) hHeld ?_ ?_
      rotate_left
      · rintro w' ⟨s0, s1, s2, s3, s4, s5, s6, s7, s8, s9, s10, s11, s12, s13, s14, s15, s16⟩
        go_simp
        with_reducible rfl
      rotate_left
      · simp only [Act.put, List.setIfInBounds_toArray, List.set_cons_zero, List.set_cons_succ, i64_w, i32_w]
        rfl
      refine pure_ (i := 6) (N := some 21) (v := ?_) (a' := ?_) #[true, true, true, true, true, true, true, false, true, true, true, false, false, false, false, false, false] rfl rfl (by kernel_rfl) (fun _ _ _ h => h) (Or.inl ⟨by rfl, ?_⟩) ?_ ?_
      rotate_left
      · intro w'
        go_simp
        with_reducible rfl
      rotate_left
      · simp only [Act.put, List.setIfInBounds_toArray, List.set_cons_zero, List.set_cons_succ, i64_w, i32_w]
        rfl
      refine take_ (i := 7) (N := some 22) (v := ?_) (a' := ?_) #[true, true, true, true, true, true, true, true, true, true, true, false, false, false, false, false, false] rfl rfl (by kernel_rfl) (fun _ _ _ h => h) (Or.inl ⟨by rfl, ?_⟩) hHeld ?_ ?_
      rotate_left
      · rintro w' ⟨s0, s1, s2, s3, s4, s5, s6, s7, s8, s9, s10, s11, s12, s13, s14, s15, s16⟩
        go_simp
        with_reducible rfl
      rotate_left
      · simp only [Act.put, List.setIfInBounds_toArray, List.set_cons_zero, List.set_cons_succ, i64_w, i32_w]
        rfl
      refine take_ (i := 11) (N := some 26) (v := ?_) (a' := ?_) #[true, true, true, true, true, true, true, true, true, true, true, true, false, false, false, false, false] rfl rfl (by kernel_rfl) (fun _ _ _ h => h) (Or.inl ⟨by rfl, ?_⟩) hHeld ?_ ?_
      rotate_left
      · rintro w' ⟨s0, s1, s2, s3, s4, s5, s6, s7, s8, s9, s10, s11, s12, s13, s14, s15, s16⟩
        go_simp
        with_reducible rfl
      rotate_left
      · simp only [Act.put, List.setIfInBounds_toArray, List.set_cons_zero, List.set_cons_succ, i64_w, i32_w]
        rfl
      refine one_ (i := 12) (N := some 27) #[true, true, true, true, true, true, true, true, true, true, true, true, true, false, false, false, false] rfl rfl (by kernel_rfl) (by decide) (fun K hK => ?_)
      refine goes_ Tryd.func12 (by kernel_rfl) rfl #[.agg #[.int .i64 s.a, .int .i64 s.b, .int .i64 s.c, .int .i64 s.d, .int .i64 s.e, .int .i64 s.f], .slice A0 x.length q0, .bool cl] (by rfl) rfl rfl (by simp only [List.map_toArray, List.map_cons, List.map_nil]; rfl) ?_
      with_reducible refine (apply2x s A0 q0 x cl s2 c2x _ hHeld.2.2.2.2.2.2.2.2.2.2.2.2.2.2.2.1 HQ0.out hHeld.2.2.2.2.2.2.2.2.2.2.2.2.2.2.2.2 HS2.out).mono ?_
      rintro e w27 ⟨rfl, hb⟩
      refine ⟨_, rfl, ?_⟩
      have HB27 := Aside0.mk hb
      clear hb
      refine hK.out _ _ ⟨(HB27.out.cell (World.block_lt_of_cell? _ _ hHeld.1)).trans hHeld.1, (HB27.out.cell (World.block_lt_of_cell? _ _ hHeld.2.1)).trans hHeld.2.1, (HB27.out.cell (World.block_lt_of_cell? _ _ hHeld.2.2.1)).trans hHeld.2.2.1, (HB27.out.cell (World.block_lt_of_cell? _ _ hHeld.2.2.2.1)).trans hHeld.2.2.2.1, (HB27.out.cell (World.block_lt_of_cell? _ _ hHeld.2.2.2.2.1)).trans hHeld.2.2.2.2.1, (HB27.out.cell (World.block_lt_of_cell? _ _ hHeld.2.2.2.2.2.1)).trans hHeld.2.2.2.2.2.1, (HB27.out.frozen (p := ⟨b3, 0, none⟩) (World.block_lt_of_cell? _ _ hHeld.1)).trans hHeld.2.2.2.2.2.2.1, (HB27.out.frozen (p := ⟨b3, 1, none⟩) (World.block_lt_of_cell? _ _ hHeld.2.1)).trans hHeld.2.2.2.2.2.2.2.1, (HB27.out.frozen (p := ⟨b3, 2, none⟩) (World.block_lt_of_cell? _ _ hHeld.2.2.1)).trans hHeld.2.2.2.2.2.2.2.2.1, (HB27.out.frozen (p := ⟨b3, 3, none⟩) (World.block_lt_of_cell? _ _ hHeld.2.2.2.1)).trans hHeld.2.2.2.2.2.2.2.2.2.1, (HB27.out.frozen (p := ⟨b3, 4, none⟩) (World.block_lt_of_cell? _ _ hHeld.2.2.2.2.1)).trans hHeld.2.2.2.2.2.2.2.2.2.2.1, (HB27.out.frozen (p := ⟨b3, 5, none⟩) (World.block_lt_of_cell? _ _ hHeld.2.2.2.2.2.1)).trans hHeld.2.2.2.2.2.2.2.2.2.2.2.1, (HB27.out.cell (World.block_lt_of_cell? _ _ hHeld.2.2.2.2.2.2.2.2.2.2.2.2.1)).trans hHeld.2.2.2.2.2.2.2.2.2.2.2.2.1, (HB27.out.cell (World.block_lt_of_cell? _ _ hHeld.2.2.2.2.2.2.2.2.2.2.2.2.2.1)).trans hHeld.2.2.2.2.2.2.2.2.2.2.2.2.2.1, (HB27.out.cell (World.block_lt_of_cell? _ _ hHeld.2.2.2.2.2.2.2.2.2.2.2.2.2.2.1)).trans hHeld.2.2.2.2.2.2.2.2.2.2.2.2.2.2.1, Kd.C_below hHeld.2.2.2.2.2.2.2.2.2.2.2.2.2.2.2.1 HB27.out, GT.below hHeld.2.2.2.2.2.2.2.2.2.2.2.2.2.2.2.2 HB27.out⟩ (fun hHeld => ?_)
      clear hK K
      refine norm_ (a' := ?_) ?_ ?_
      rotate_left
      · show Act.put _ (some 27) _ = _
        simp only [Act.put, List.setIfInBounds_toArray, List.set_cons_zero, List.set_cons_succ, i64_w, i32_w]
        rfl
      refine pure_ (i := 13) (N := some 14) (v := ?_) (a' := ?_) #[true, true, true, true, true, true, true, true, true, true, true, true, true, true, false, false, false] rfl rfl (by kernel_rfl) (fun _ _ _ h => h) (Or.inl ⟨by rfl, ?_⟩) ?_ ?_
      rotate_left
      · intro w'
        go_simp
        with_reducible rfl
      rotate_left
      · simp only [Act.put, List.setIfInBounds_toArray, List.set_cons_zero, List.set_cons_succ, i64_w, i32_w]
        rfl
      refine pure_ (i := 14) (N := some 28) (v := ?_) (a' := ?_) #[true, true, true, true, true, true, true, true, true, true, true, true, true, true, true, false, false] rfl rfl (by kernel_rfl) (fun _ _ _ h => h) (Or.inl ⟨by rfl, ?_⟩) ?_ ?_
      rotate_left
      · intro w'
        go_simp
        with_reducible rfl
      rotate_left
      · simp only [Act.put, List.setIfInBounds_toArray, List.set_cons_zero, List.set_cons_succ, i64_w, i32_w]
        rfl
      refine pure_ (i := 15) (N := some 29) (v := ?_) (a' := ?_) #[true, true, true, true, true, true, true, true, true, true, true, true, true, true, true, true, false] rfl rfl (by kernel_rfl) (fun _ _ _ h => h) (Or.inl ⟨by rfl, ?_⟩) ?_ ?_
      rotate_left
      · intro w'
        go_simp
        with_reducible rfl
      rotate_left
      · simp only [Act.put, List.setIfInBounds_toArray, List.set_cons_zero, List.set_cons_succ, i64_w, i32_w]
        rfl
      refine last_ (i := 16) (N := none) #[true, true, true, true, true, true, true, true, true, true, true, true, true, true, true, true, true] rfl rfl (by kernel_rfl) (by decide) (fun K hK => ?_)
      refine skip_ (w1 := ?_) (by rfl) rfl ?_ ?_
      rotate_left
      · go_simp
        rfl
      refine hK.out _ _ ?_
      clear hK K
      refine done_ (by kernel_rfl) ?_
      have B27 : Aside0 (Below wr.heap.size wr w27) := ⟨below_then (below_drew (Below.refl _ _)) (Nat.le_refl _) HB27.out⟩
      generalize hWn : ((((((w27.setCell ⟨b3, 0, none⟩ (.int .i64 s2.a)).setCell ⟨b3, 1, none⟩ (.int .i64 s2.b)).setCell ⟨b3, 2, none⟩ (.int .i64 s2.c)).setCell ⟨b3, 3, none⟩ (.int .i64 s2.d)).setCell ⟨b3, 4, none⟩ (.int .i64 s2.e)).setCell ⟨b3, 5, none⟩ (.int .i64 s2.f)) = Wn
      have B3n : Aside0 (Wn.heap[b3]? = some (.cells #[.int .i64 s2.a, .int .i64 s2.b, .int .i64 s2.c, .int .i64 s2.d, .int .i64 s2.e, .int .i64 s2.f] 23 (0, 0))) := ⟨by rw [← hWn]; simpa using (blk_set (blk_set (blk_set (blk_set (blk_set (blk_set (blk_below B3r.out B27.out) 0 (.int .i64 s2.a)) 1 (.int .i64 s2.b)) 2 (.int .i64 s2.c)) 3 (.int .i64 s2.d)) 4 (.int .i64 s2.e)) 5 (.int .i64 s2.f))⟩
      have B2n : Aside0 (Wn.heap[w.heap.size]? = some (.cells #[.int .i64 0, .int .i64 0, .int .i64 0, .int .i64 0, .int .i64 0, .int .i64 0] 23 (0, 0))) := ⟨by rw [← hWn]; exact (blk_far (p := ⟨b3, 5, none⟩) (blk_far (p := ⟨b3, 4, none⟩) (blk_far (p := ⟨b3, 3, none⟩) (blk_far (p := ⟨b3, 2, none⟩) (blk_far (p := ⟨b3, 1, none⟩) (blk_far (p := ⟨b3, 0, none⟩) (blk_below B2r.out B27.out) NE.out _) NE.out _) NE.out _) NE.out _) NE.out _) NE.out _)⟩
      have HWn : Aside0 (Below w.heap.size w Wn) := ⟨by rw [← hWn]; exact (((((((below_then HW.out HW.out.size B27.out).setCell (p := ⟨b3, 0, none⟩) GE3.out _).setCell (p := ⟨b3, 1, none⟩) GE3.out _).setCell (p := ⟨b3, 2, none⟩) GE3.out _).setCell (p := ⟨b3, 3, none⟩) GE3.out _).setCell (p := ⟨b3, 4, none⟩) GE3.out _).setCell (p := ⟨b3, 5, none⟩) GE3.out _)⟩
      clear hWn
      go_wp2_with fail
      go_roundw
      case rel => exact ⟨n + 1, s2, by omega, by go_num, ⟨HST.out.symm⟩, B3n, B2n, HWn⟩
      case measure => simp [intOf]; omega
    · have hlt2 : decide ((n : Int) < (dn : Int)) = false := decide_eq_false (by omega)
      have HN : Aside0 (n = dn) := ⟨by omega⟩
      have hres : ackedS cl (sent.take dn) = s := by rw [HA.out, HN.out]
      have HRES := Aside0.mk hres
      clear hres
      have x0 : wr.cell? ⟨b3, 0, none⟩ = some (.int .i64 s.a) := blk_cell B3r.out 0
      have x1 : wr.cell? ⟨b3, 1, none⟩ = some (.int .i64 s.b) := blk_cell B3r.out 1
      have x2 : wr.cell? ⟨b3, 2, none⟩ = some (.int .i64 s.c) := blk_cell B3r.out 2
      have x3 : wr.cell? ⟨b3, 3, none⟩ = some (.int .i64 s.d) := blk_cell B3r.out 3
      have x4 : wr.cell? ⟨b3, 4, none⟩ = some (.int .i64 s.e) := blk_cell B3r.out 4
      have x5 : wr.cell? ⟨b3, 5, none⟩ = some (.int .i64 s.f) := blk_cell B3r.out 5
      have y0 : wr.cell? ⟨w.heap.size, 0, none⟩ = some (.int .i64 0) := blk_cell B2r.out 0
      have y1 : wr.cell? ⟨w.heap.size, 1, none⟩ = some (.int .i64 0) := blk_cell B2r.out 1
      have y2 : wr.cell? ⟨w.heap.size, 2, none⟩ = some (.int .i64 0) := blk_cell B2r.out 2
      have y3 : wr.cell? ⟨w.heap.size, 3, none⟩ = some (.int .i64 0) := blk_cell B2r.out 3
      have y4 : wr.cell? ⟨w.heap.size, 4, none⟩ = some (.int .i64 0) := blk_cell B2r.out 4
      have y5 : wr.cell? ⟨w.heap.size, 5, none⟩ = some (.int .i64 0) := blk_cell B2r.out 5
      have yf0 : wr.frozen? ⟨w.heap.size, 0, none⟩ = false := blk_frozen B2r.out 0
      have yf1 : wr.frozen? ⟨w.heap.size, 1, none⟩ = false := blk_frozen B2r.out 1
      have yf2 : wr.frozen? ⟨w.heap.size, 2, none⟩ = false := blk_frozen B2r.out 2
      have yf3 : wr.frozen? ⟨w.heap.size, 3, none⟩ = false := blk_frozen B2r.out 3
      have yf4 : wr.frozen? ⟨w.heap.size, 4, none⟩ = false := blk_frozen B2r.out 4
      have yf5 : wr.frozen? ⟨w.heap.size, 5, none⟩ = false := blk_frozen B2r.out 5
      go_wp2_with fail
      refine bodyPost_ret (v := .agg s.arr) (by simp [results, Tryd.results29, go_sem, St.arr, *]) rfl ⟨by rw [HRES.out], ?_⟩
      exact ((((((HW.out.setCell (p := ⟨w.heap.size, 0, none⟩) (Nat.le_refl _) _).setCell (p := ⟨w.heap.size, 1, none⟩) (Nat.le_refl _) _).setCell (p := ⟨w.heap.size, 2, none⟩) (Nat.le_refl _) _).setCell (p := ⟨w.heap.size, 3, none⟩) (Nat.le_refl _) _).setCell (p := ⟨w.heap.size, 4, none⟩) (Nat.le_refl _) _).setCell (p := ⟨w.heap.size, 5, none⟩) (Nat.le_refl _) _)
end Go.Proofs.YtcjphkgmcfpfeaaDoor.MS
namespace Go.Proofs.YtcjphkgmcfpfeaaDoor.MS
open Go Go.RowKit Go.Proofs.YtcjphkgmcfpfeaaDoorW.PrintWords Go.Proofs.YtcjphkgmcfpfeaaDoorW.PrintLast Go.Proofs.YtcjphkgmcfpfeaaDoorW.PrintMore Go.Proofs.YtcjphkgmcfpfeaaDoor.QL
set_option linter.unusedSimpArgs false
set_option linter.unusedVariables false
set_option maxHeartbeats 8000000
set_option maxRecDepth 100000
def send8F (cl : Bool) (ls : List (List S28)) (dn : Nat) (l : List S28) : Int × List (List S28) := if badL cl l = true then (1, ls) else if 64 ≤ ls.length - dn then (6, ls) else (0, ls ++ [l])
theorem send8_calls (base g : Nat) (F : Nat → Prop) (cl : Bool) (ls : List (List S28)) (dn : Nat) (A : Option Addr) (c : Nat) (l : List S28) (w : World) (hI : IsB8 base w g F cl ls dn) (hr : Kd.C k28 w A l.length l) (hc : l.length ≤ c) (hsz : l.length * 16 ≤ 140737488355328) (hls : (ls.length + 1) * 24 ≤ 140737488355328) :
    Calls Tryd.prog 41 #[.pointer (some ⟨g, 0, none⟩), .slice A l.length c] w fun e w' => e = .returned (.int .i64 (send8F cl ls dn l).1) ∧ ∃ F', IsB8 base w' g F' cl (send8F cl ls dn l).2 dn ∧ (∀ k, F' k → F k ∨ w.heap.size ≤ k) ∧ Kept w w' F ∧ Below base w w' := by
  obtain ⟨vv, hI⟩ := hI
  obtain ⟨VA, vc, rfl, hvc⟩ := Kd.Q_slice hI.row
  obtain ⟨vv, hvv⟩ : ∃ vv, Value.slice VA ls.length vc = vv := ⟨_, rfl⟩
  have HVV := Aside0.mk hvv
  rw [hvv] at hI
  clear hvv
  have HI := Aside0.mk hI
  have HR := Aside0.mk hr
  have HC := Aside0.mk hc
  have HSZ := Aside0.mk hsz
  have HLS := Aside0.mk hls
  have hls63 : ls.length ≤ 9223372036854775807 := by omega
  have hl63 : l.length ≤ 9223372036854775807 := hr.2.1
  have hfew := hI.few
  have HB := Aside0.mk (Below.refl w.heap.size w)
  clear hI hr hc hsz hls
  go_enter Tryd.func41, Tryd.ntmps41
  go_wp2_with fail
  go_loopw [5] (fun i w' => ∃ (k : Nat), k ≤ l.length ∧ i = .int .i64 k ∧ Aside0 (badL cl (l.drop k) = badL cl l) ∧ Aside0 (Below w.heap.size w w')) (fun i _ => l.length - (intOf i).toNat)
  case atStart => exact ⟨0, Nat.zero_le _, rfl, ⟨rfl⟩, HB⟩
  case round =>
    obtain ⟨k, hk, rfl, HA, HW⟩ := hrel
    have HIr := Aside0.mk (HI.out.below HW.out)
    by_cases hlt : k < l.length
    · have p0 : (0 : Int) ≤ k := by omega
      have q0 : (k : Int) < (l.length : Int) := by omega
      obtain ⟨ad, e0, y0, y1⟩ := at_T28 HR.out k p0 q0
      cases e0
      replace y0 := (HW.out.cell (World.block_lt_of_cell? w _ y0)).trans y0
      replace y1 := (HW.out.cell (World.block_lt_of_cell? w _ y1)).trans y1
      obtain ⟨id, hid⟩ : ∃ K, (rd_T28 l (k : Int)).f0 = K := ⟨_, rfl⟩
      obtain ⟨x, hx⟩ : ∃ K, (rd_T28 l (k : Int)).f1 = K := ⟨_, rfl⟩
      have HI0 := Aside0.mk hid
      have HX := Aside0.mk hx
      simp only [Int.toNat_natCast] at y0 y1
      rw [hid] at y0
      rw [hx] at y1
      clear hid hx
      have sg := blk_lt HIr.out.blk
      go_upto_region 4 with fail
      have c2 : wr.cell? ⟨g, 0, none⟩ = some (.bool cl) := blk_cell HIr.out.blk 0
      refine start_ (n := 10) (S := fun w' => w'.cell? (ad.add (k * 2)) = some (.int .i64 id) ∧ w'.cell? ⟨(ad.add (k * 2)).block, (ad.add (k * 2)).off + 1, none⟩ = some (.int .i64 x) ∧ w'.cell? ⟨g, 0, none⟩ = some (.bool cl)) (ds := []) #[false, false, false, false, false, false, false, false, false, false] (by kernel_rfl) rfl rfl ⟨y0, y1, c2⟩ (fun hHeld => ?_)
      refine pure_ (i := 0) (N := some 12) (v := ?_) (a' := ?_) #[true, false, false, false, false, false, false, false, false, false] rfl rfl (by kernel_rfl) (fun _ _ _ h => h) (Or.inl ⟨by rfl, ?_⟩) ?_ ?_
      rotate_left
      · intro w'
        go_simp
        with_reducible rfl
      rotate_left
      · simp only [Act.put, List.setIfInBounds_toArray, List.set_cons_zero, List.set_cons_succ, i64_w, i32_w]
        rfl
      refine pure_ (i := 1) (N := some 13) (v := ?_) (a' := ?_) #[true, true, false, false, false, false, false, false, false, false] rfl rfl (by kernel_rfl) (fun _ _ _ h => h) (Or.inl ⟨by rfl, ?_⟩) ?_ ?_
      rotate_left
      · intro w'
        go_simp
        with_reducible rfl
      rotate_left
      · simp only [Act.put, List.setIfInBounds_toArray, List.set_cons_zero, List.set_cons_succ, i64_w, i32_w]
        rfl
      refine pure_ (i := 2) (N := some 14) (v := ?_) (a' := ?_) #[true, true, true, false, false, false, false, false, false, false] rfl rfl (by kernel_rfl) (fun _ _ _ h => h) (Or.inl ⟨by rfl, ?_⟩) ?_ ?_
      rotate_left
      · intro w'
        go_simp
        with_reducible rfl
      rotate_left
      · simp only [Act.put, List.setIfInBounds_toArray, List.set_cons_zero, List.set_cons_succ, i64_w, i32_w]
        rfl
      refine pure_ (i := 4) (N := some 16) (v := ?_) (a' := ?_) #[true, true, true, false, true, false, false, false, false, false] rfl rfl (by kernel_rfl) (fun _ _ _ h => h) (Or.inl ⟨by rfl, ?_⟩) ?_ ?_
      rotate_left
      · intro w'
        go_simp
        with_reducible rfl
      rotate_left
      · simp only [Act.put, List.setIfInBounds_toArray, List.set_cons_zero, List.set_cons_succ, i64_w, i32_w]
        rfl
      refine pure_ (i := 5) (N := some 17) (v := ?_) (a' := ?_) #[true, true, true, false, true, true, false, false, false, false] rfl rfl (by kernel_rfl) (fun _ _ _ h => h) (Or.inl ⟨by rfl, ?_⟩) ?_ ?_
      rotate_left
      · intro w'
        go_simp
        with_reducible rfl
      rotate_left
      · simp only [Act.put, List.setIfInBounds_toArray, List.set_cons_zero, List.set_cons_succ, i64_w, i32_w]
        rfl
      refine pure_ (i := 6) (N := some 18) (v := ?_) (a' := ?_) #[true, true, true, false, true, true, true, false, false, false] rfl rfl (by kernel_rfl) (fun _ _ _ h => h) (Or.inl ⟨by rfl, ?_⟩) ?_ ?_
      rotate_left
      · intro w'
        go_simp
        with_reducible rfl
      rotate_left
      · simp only [Act.put, List.setIfInBounds_toArray, List.set_cons_zero, List.set_cons_succ, i64_w, i32_w]
        rfl
      refine take_ (i := 3) (N := some 15) (v := ?_) (a' := ?_) #[true, true, true, true, true, true, true, false, false, false] rfl rfl (by kernel_rfl) (fun _ _ _ h => h) (Or.inl ⟨by rfl, ?_⟩) hHeld ?_ ?_
      rotate_left
      · rintro w' ⟨s0, s1, s2⟩
        go_simp
        with_reducible rfl
      rotate_left
      · simp only [Act.put, List.setIfInBounds_toArray, List.set_cons_zero, List.set_cons_succ, i64_w, i32_w]
        rfl
      refine take_ (i := 7) (N := some 19) (v := ?_) (a' := ?_) #[true, true, true, true, true, true, true, true, false, false] rfl rfl (by kernel_rfl) (fun _ _ _ h => h) (Or.inl ⟨by rfl, ?_⟩) hHeld ?_ ?_
      rotate_left
      · rintro w' ⟨s0, s1, s2⟩
        go_simp
        with_reducible rfl
      rotate_left
      · simp only [Act.put, List.setIfInBounds_toArray, List.set_cons_zero, List.set_cons_succ, i64_w, i32_w]
        rfl
      refine one_ (i := 8) (N := some 20) #[true, true, true, true, true, true, true, true, true, false] rfl rfl (by kernel_rfl) (by decide) (fun K hK => ?_)
      refine goes_ Tryd.func10 (by kernel_rfl) rfl #[.agg #[.int .i64 id, .int .i64 x], .bool cl] (by rfl) rfl rfl (by simp only [List.map_toArray, List.map_cons, List.map_nil]; rfl) ?_
      with_reducible refine (valid8_calls id x cl (valid id x cl) rfl _).mono ?_
      rintro e w4 ⟨rfl, hb⟩
      refine ⟨_, rfl, ?_⟩
      have HB4 := Aside0.mk hb
      clear hb
      refine hK.out _ _ ⟨(HB4.out.cell (World.block_lt_of_cell? _ _ hHeld.1)).trans hHeld.1, (HB4.out.cell (World.block_lt_of_cell? _ _ hHeld.2.1)).trans hHeld.2.1, (HB4.out.cell (World.block_lt_of_cell? _ _ hHeld.2.2)).trans hHeld.2.2⟩ (fun hHeld => ?_)
      clear hK K
      refine norm_ (a' := ?_) ?_ ?_
      rotate_left
      · show Act.put _ (some 20) _ = _
        simp only [Act.put, List.setIfInBounds_toArray, List.set_cons_zero, List.set_cons_succ, i64_w, i32_w]
        rfl
      refine pure_ (i := 9) (N := some 21) (v := ?_) (a' := ?_) #[true, true, true, true, true, true, true, true, true, true] rfl rfl (by kernel_rfl) (fun _ _ _ h => h) (Or.inl ⟨by rfl, ?_⟩) ?_ ?_
      rotate_left
      · intro w'
        go_simp
        with_reducible rfl
      rotate_left
      · simp only [Act.put, List.setIfInBounds_toArray, List.set_cons_zero, List.set_cons_succ, i64_w, i32_w]
        rfl
      refine done_ (by kernel_rfl) ?_

      have HW4 := Aside0.mk (below_then (below_drew HW.out) (by have := HW.out.size; simp; omega) HB4.out)
      by_cases hz : valid id x cl = 0
      · have hz' : (valid id x cl != 0) = false := by simp [hz]
        have HZ := Aside0.mk hz
        clear hz
        go_wp2_with fail
        go_roundw
        case rel =>
          refine ⟨k + 1, by omega, by go_num, ⟨?_⟩, HW4⟩
          rw [← HA.out, badL_step cl l k hlt (by rw [HI0.out, HX.out]; exact HZ.out)]
        case measure => simp [intOf]; omega
      · have hz' : (valid id x cl != 0) = true := by simp [hz]
        have HZ := Aside0.mk hz
        clear hz
        have hres : send8F cl ls dn l = (1, ls) := by
          unfold send8F
          rw [← HA.out, badL_stop cl l k hlt (by rw [HI0.out, HX.out]; exact HZ.out), if_pos rfl]
        have HRES := Aside0.mk hres
        clear hres
        go_wp2_with fail
        go_ret
        exact ⟨by rw [HRES.out]; rfl, F, by rw [HRES.out]; exact ⟨vv, HI.out.below HW4.out⟩, fun _ h => .inl h, Kept.of_below HW4.out _, below_lo HW4.out (by have := HI.out.bound g HI.out.mem; omega)⟩
    · have hlt2 : decide ((k : Int) < (l.length : Int)) = false := decide_eq_false (by omega)
      have hok : badL cl l = false := by rw [← HA.out, show k = l.length by omega, List.drop_length]; rfl
      have HOK := Aside0.mk hok
      clear hok
      have z1 : wr.cell? ⟨g, 1, none⟩ = some (.slice VA ls.length vc) := by rw [HVV.out]; exact blk_cell HIr.out.blk 1
      have z2 : wr.cell? ⟨g, 2, none⟩ = some (.int .i64 dn) := blk_cell HIr.out.blk 2
      have hsub : IntKind.i64.wrap ((ls.length : Int) - (dn : Int)) = (ls.length : Int) - (dn : Int) := IntWalk.i64_in _ (by omega)
      go_upto_region 6 with fail
      go_quiet (fail)
      by_cases h64 : 64 ≤ ls.length - dn
      · have h64' : decide ((64 : Int) ≤ (ls.length : Int) - (dn : Int)) = true := decide_eq_true (by omega)
        have hres : send8F cl ls dn l = (6, ls) := by
          unfold send8F
          rw [HOK.out, if_neg (by simp), if_pos h64]
        have HRES := Aside0.mk hres
        rw [h64']
        clear hres h64 h64'
        go_wp2_with fail
        go_ret
        exact ⟨by rw [HRES.out]; rfl, F, by rw [HRES.out]; exact ⟨vv, HIr.out.below (pw_below_drewN (Below.refl _ _) _)⟩, fun _ h => .inl h, Kept.of_below (pw_below_drewN HW.out _) _, below_lo (pw_below_drewN HW.out _) (by have := HI.out.bound g HI.out.mem; omega)⟩
      · have h64' : decide ((64 : Int) ≤ (ls.length : Int) - (dn : Int)) = false := decide_eq_false (by omega)
        have hres : send8F cl ls dn l = (0, ls ++ [l]) := by
          unfold send8F
          rw [HOK.out, if_neg (by simp), if_neg h64]
        have HRES := Aside0.mk hres
        have H64 := Aside0.mk h64
        rw [h64']
        clear hres h64 h64'
        have HWq : Aside0 (Below w.heap.size w (wr.drewN nq)) := ⟨pw_below_drewN HW.out _⟩
        obtain ⟨wq, hwq⟩ : ∃ W, wr.drewN nq = W := ⟨_, rfl⟩
        rw [hwq] at HWq ⊢
        clear z1 z2 hwq HIr HW
        have HIr := Aside0.mk (HI.out.below HWq.out)
        have HW := HWq
        have BW : Aside0 (base ≤ wq.heap.size) := ⟨by have := HI.out.bound g HI.out.mem; have := HW.out.size; omega⟩
        have CR := Aside0.mk (Kd.C_below HR.out HW.out)
        go_upto_region 8 with fail
        have c0 : wq.cell? ⟨g, 1, none⟩ = some vv := blk_cell HIr.out.blk 1
        have c1 : wq.frozen? ⟨g, 1, none⟩ = false := blk_frozen HIr.out.blk 1
        refine start_ (n := 12) (S := fun w' => w'.cell? ⟨g, 1, none⟩ = some vv ∧ w'.frozen? ⟨g, 1, none⟩ = false) (ds := [11]) #[false, false, false, false, false, false, false, false, false, false, false, false] (by kernel_rfl) rfl rfl ⟨c0, c1⟩ (fun hHeld => ?_)
        refine pure_ (i := 0) (N := some 33) (v := ?_) (a' := ?_) #[true, false, false, false, false, false, false, false, false, false, false, false] rfl rfl (by kernel_rfl) (fun _ _ _ h => h) (Or.inl ⟨by rfl, ?_⟩) ?_ ?_
        rotate_left
        · intro w'
          go_simp
          with_reducible rfl
        rotate_left
        · simp only [Act.put, List.setIfInBounds_toArray, List.set_cons_zero, List.set_cons_succ, i64_w, i32_w]
          rfl
        refine pure_ (i := 1) (N := some 34) (v := ?_) (a' := ?_) #[true, true, false, false, false, false, false, false, false, false, false, false] rfl rfl (by kernel_rfl) (fun _ _ _ h => h) (Or.inl ⟨by rfl, ?_⟩) ?_ ?_
        rotate_left
        · intro w'
          go_simp
          with_reducible rfl
        rotate_left
        · simp only [Act.put, List.setIfInBounds_toArray, List.set_cons_zero, List.set_cons_succ, i64_w, i32_w]
          rfl
        refine pure_ (i := 2) (N := some 35) (v := ?_) (a' := ?_) #[true, true, true, false, false, false, false, false, false, false, false, false] rfl rfl (by kernel_rfl) (fun _ _ _ h => h) (Or.inl ⟨by rfl, ?_⟩) ?_ ?_
        rotate_left
        · intro w'
          go_simp
          with_reducible rfl
        rotate_left
        · simp only [Act.put, List.setIfInBounds_toArray, List.set_cons_zero, List.set_cons_succ, i64_w, i32_w]
          rfl
        refine pure_ (i := 3) (N := some 36) (v := ?_) (a' := ?_) #[true, true, true, true, false, false, false, false, false, false, false, false] rfl rfl (by kernel_rfl) (fun _ _ _ h => h) (Or.inl ⟨by rfl, ?_⟩) ?_ ?_
        rotate_left
        · intro w'
          go_simp
          with_reducible rfl
        rotate_left
        · simp only [Act.put, List.setIfInBounds_toArray, List.set_cons_zero, List.set_cons_succ, i64_w, i32_w]
          rfl
        refine pure_ (i := 5) (N := some 38) (v := ?_) (a' := ?_) #[true, true, true, true, false, true, false, false, false, false, false, false] rfl rfl (by kernel_rfl) (fun _ _ _ h => h) (Or.inl ⟨by rfl, ?_⟩) ?_ ?_
        rotate_left
        · intro w'
          go_simp
          with_reducible rfl
        rotate_left
        · simp only [Act.put, List.setIfInBounds_toArray, List.set_cons_zero, List.set_cons_succ, i64_w, i32_w]
          rfl
        refine take_ (i := 4) (N := some 37) (v := ?_) (a' := ?_) #[true, true, true, true, true, true, false, false, false, false, false, false] rfl rfl (by kernel_rfl) (fun _ _ _ h => h) (Or.inl ⟨by rfl, ?_⟩) hHeld ?_ ?_
        rotate_left
        · rintro w' ⟨s0, s1⟩
          go_simp
          with_reducible rfl
        rotate_left
        · simp only [Act.put, List.setIfInBounds_toArray, List.set_cons_zero, List.set_cons_succ, i64_w, i32_w]
          rfl
        refine one_ (i := 6) (N := some 39) #[true, true, true, true, true, true, true, false, false, false, false, false] rfl rfl (by kernel_rfl) (by decide) (fun K hK => ?_)
        refine Kd.R_append_rows_step k28 (w0 := wq) wq.heap.size (by rfl) (.const (.slice none 0 0)) (.tmp 38) 24 28 (.agg #[.int .i64 0, .int .i64 0]) 16 rfl Tryd.underlying24 info28 rfl (by decide) (by omega) (.slice none 0 0) [] l A l.length c (fun k => wq.heap.size ≤ k) (fun _ => False) rfl rfl ?aO ?aR (fun _ _ h => h) (fun _ h => h.elim) ?aF ?aB ?aS ?aL ?_
        (case aO => exact Kd.R_nil _ _ _ _ _)
        (case aR => exact CR.out)
        (case aF => exact fun _ hk => hk)
        (case aB => exact pw_below_drewN (Below.refl _ _) _)
        (case aS => exact Nat.le_refl _)
        (case aL => have := HSZ.out; simp; omega)
        intro v1 w3 ho hb hg hat
        rw [List.nil_append] at ho
        obtain ⟨A1, C1, rfl⟩ := Kd.R_slice ho
        have HO1 := Aside0.mk ho
        have HB1 := Aside0.mk hb
        clear ho hb hg hat
        refine hK.out _ _ ⟨(HB1.out.cell (World.block_lt_of_cell? _ _ hHeld.1)).trans hHeld.1, (HB1.out.frozen (p := ⟨g, 1, none⟩) (World.block_lt_of_cell? _ _ hHeld.1)).trans hHeld.2⟩ (fun hHeld => ?_)
        clear hK K
        refine norm_ (a' := ?_) ?_ ?_
        rotate_left
        · show Act.put _ (some 39) _ = _
          simp only [Act.put, List.setIfInBounds_toArray, List.set_cons_zero, List.set_cons_succ, i64_w, i32_w]
          rfl
        refine one_ (i := 7) (N := some 40) #[true, true, true, true, true, true, true, true, false, false, false, false] rfl rfl (by kernel_rfl) (by decide) (fun K hK => ?_)
        refine value_ (w1 := ?_) (v := ?_) (by rfl) rfl ?_ ?_
        rotate_left 2
        · go_simp
          constructor
          · rfl
          · rfl
        refine hK.out _ _ ⟨((below_alloc (Below.refl w3.heap.size w3) _).cell (World.block_lt_of_cell? _ _ hHeld.1)).trans hHeld.1, ((below_alloc (Below.refl w3.heap.size w3) _).frozen (p := ⟨g, 1, none⟩) (World.block_lt_of_cell? _ _ hHeld.1)).trans hHeld.2⟩ (fun hHeld => ?_)
        clear hK K
        refine norm_ (a' := ?_) ?_ ?_
        rotate_left
        · show Act.put _ (some 40) _ = _
          simp only [Act.put, List.setIfInBounds_toArray, List.set_cons_zero, List.set_cons_succ, i64_w, i32_w]
          rfl
        refine one_ (i := 8) (N := some 41) #[true, true, true, true, true, true, true, true, true, false, false, false] rfl rfl (by kernel_rfl) (by decide) (fun K hK => ?_)
        refine Kd.Q_append_step (Kd.slice 28 k28) (w0 := wq) base (by rfl) (.tmp 37) (.tmp 40) 52 24 (.slice none 0 0) 24 rfl Tryd.underlying52 info24 rfl (by decide) (by omega) vv ls l [.slice A1 l.length C1] (fun k => (F k ∨ wq.heap.size ≤ k) ∧ k ≠ g) (fun k => wq.heap.size ≤ k) rfl rfl ?aP ?aK ?aF ?aO ?aB ?aS ?aL ?_
        (case aP => exact ⟨_, rfl, Kd.R_lower HO1.out BW.out⟩)
        (case aK => exact fun k hk => ⟨⟨.inr hk, fun e => by have := blk_lt HIr.out.blk; subst e; omega⟩, fun e => by have := Kd.Q_lt HIr.out.row k e.symm; omega⟩)
        (case aF => exact fun k hk => ⟨.inr (Nat.le_trans HB1.out.size hk), fun e => by have := blk_lt HIr.out.blk; have := HB1.out.size; subst e; omega⟩)
        (case aO => exact Kd.Q_mono (Kd.Q_below HIr.out.row HB1.out) (fun k h => ⟨.inl h.1, h.2⟩))
        (case aB => exact below_lo HB1.out BW.out)
        (case aS => exact Nat.le_trans BW.out HB1.out.size)
        (case aL => have := HLS.out; omega)
        intro v2 w5 ho hb hg hat
        obtain ⟨A2, C2, e2, _⟩ := Kd.Q_slice ho
        rw [List.length_append, List.length_singleton] at e2
        subst e2
        have HO2 := Aside0.mk ho
        have HB2 := Aside0.mk hb
        have HG2 := Aside0.mk hg
        have HG5 := Aside0.mk (blk_grown (blk_below HIr.out.blk HB1.out) hg (Kd.Q_away HIr.out.row (fun _ h => h.2)))
        clear ho hb hg hat
        refine hK.out _ _ ⟨blk_cell HG5.out 1, blk_frozen HG5.out 1⟩ (fun hHeld => ?_)
        clear hK K
        refine norm_ (a' := ?_) ?_ ?_
        rotate_left
        · show Act.put _ (some 41) _ = _
          simp only [Act.put, List.setIfInBounds_toArray, List.set_cons_zero, List.set_cons_succ, i64_w, i32_w]
          rfl
        refine pure_ (i := 9) (N := some 42) (v := ?_) (a' := ?_) #[true, true, true, true, true, true, true, true, true, true, false, false] rfl rfl (by kernel_rfl) (fun _ _ _ h => h) (Or.inl ⟨by rfl, ?_⟩) ?_ ?_
        rotate_left
        · intro w'
          go_simp
          with_reducible rfl
        rotate_left
        · simp only [Act.put, List.setIfInBounds_toArray, List.set_cons_zero, List.set_cons_succ, i64_w, i32_w]
          rfl
        refine pure_ (i := 10) (N := some 43) (v := ?_) (a' := ?_) #[true, true, true, true, true, true, true, true, true, true, true, false] rfl rfl (by kernel_rfl) (fun _ _ _ h => h) (Or.inl ⟨by rfl, ?_⟩) ?_ ?_
        rotate_left
        · intro w'
          go_simp
          with_reducible rfl
        rotate_left
        · simp only [Act.put, List.setIfInBounds_toArray, List.set_cons_zero, List.set_cons_succ, i64_w, i32_w]
          rfl
        refine last_ (i := 11) (N := none) #[true, true, true, true, true, true, true, true, true, true, true, true] rfl rfl (by kernel_rfl) (by decide) (fun K hK => ?_)
        refine skip_ (w1 := ?_) (by rfl) rfl ?_ ?_
        rotate_left
        · go_simp
          rfl
        refine hK.out _ _ ?_
        clear hK K
        refine done_ (by kernel_rfl) ?_

        have hkept := (Kept.of_grown HG2.out ((Kept.of_below HW.out F).below HB1.out) (fun k hk => .inl ((HIr.out.row.1 k hk).1))).setCell (p := ⟨g, 1, none⟩) (.inl HI.out.mem) (.slice A2 (ls.length + 1) C2)
        go_wp2_with fail
        go_ret
        refine ⟨by rw [HRES.out]; rfl, fun k => (F k ∨ wq.heap.size ≤ k) ∧ k < w5.heap.size, ?_, fun k hk => ?_, hkept, ?_⟩
        · rw [HRES.out]
          refine ⟨.slice A2 (ls.length + 1) C2, blk_set HG5.out 1 (.slice A2 (ls.length + 1) C2), ⟨.inl HI.out.mem, blk_lt HG5.out⟩, fun k hk => ⟨?_, by simpa using hk.2⟩, Kd.Q_far (p := ⟨g, 1, none⟩) (Kd.Q_mono (Kd.Q_bound HO2.out) (fun k hk => ⟨⟨hk.1.1, hk.2.2.1⟩, hk.1.2⟩)) (fun k hk => hk.2) _, by have := HI.out.few; simp; omega⟩
          rcases hk.1 with h | h
          · exact (HI.out.bound k h).1
          · exact Nat.le_trans BW.out h
        · rcases hk.1 with h | h
          · exact .inl h
          · exact .inr (Nat.le_trans HW.out.size h)
        · exact (Below.trans (below_lo HW.out (by have := HI.out.bound g HI.out.mem; omega)) HB2.out).setCell (HI.out.bound g HI.out.mem).1 _
end Go.Proofs.YtcjphkgmcfpfeaaDoor.MS
namespace Go.Proofs.YtcjphkgmcfpfeaaDoor.MS
open Go Go.RowKit Go.Proofs.YtcjphkgmcfpfeaaDoorW.PrintWords Go.Proofs.YtcjphkgmcfpfeaaDoorW.PrintLast Go.Proofs.YtcjphkgmcfpfeaaDoorW.PrintMore Go.Proofs.YtcjphkgmcfpfeaaDoor.QL
set_option linter.unusedSimpArgs false
set_option linter.unusedVariables false
set_option maxHeartbeats 40000000
set_option maxRecDepth 100000
attribute [local go_sem high] eqA23 eqA28
theorem GT.far {w : World} (h : GT w) {p : Addr} (hp : 0 ≠ p.block) (u : Value) : GT (w.setCell p u) := by
  obtain ⟨h0, h1, h2, h3, h4, h5⟩ := h
  have f : ∀ (i : Nat) v, w.cell? ⟨0, i, none⟩ = some v → (w.setCell p u).cell? ⟨0, i, none⟩ = some v := fun i v hv => cell_kept hv ((Kept.refl w (fun k => k = p.block)).setCell (.inl rfl) u) hp
  exact ⟨f _ _ h0, f _ _ h1, f _ _ h2, f _ _ h3, f _ _ h4, f _ _ h5⟩
theorem acked8_as (base g : Nat) (F : Nat → Prop) (cl : Bool) (sent : List (List S28)) (dn : Nat) (s : St) (w : World) (h : IsB8 base w g F cl sent dn) (hT : GT w) (hs : ackedS cl (sent.take dn) = s) : Calls Tryd.prog 29 #[.pointer (some ⟨g, 0, none⟩)] w fun e w' => e = .returned (.agg #[.int .i64 s.a, .int .i64 s.b, .int .i64 s.c, .int .i64 s.d, .int .i64 s.e, .int .i64 s.f]) ∧ Below w.heap.size w w' := by
  have h1 := acked8_calls base g F cl sent dn w h hT
  rw [hs] at h1
  exact h1
theorem ack8_none (base g : Nat) (F : Nat → Prop) (cl : Bool) (sent : List (List S28)) (w : World) (hI : IsB8 base w g F cl sent sent.length) :
    Calls Tryd.prog 42 #[.pointer (some ⟨g, 0, none⟩)] w fun e w' => e = .returned (.tuple #[.agg #[.int .i64 0, .int .i64 0, .int .i64 0, .int .i64 0, .int .i64 0, .int .i64 0], .bool false]) ∧ Below w.heap.size w w' := by
  have HB := Aside0.mk (Below.refl w.heap.size w)
  obtain ⟨v, h⟩ := hI
  obtain ⟨VA, vc, rfl, hvc⟩ := Kd.Q_slice h.row
  have hm : sent.length ≤ 9223372036854775807 := (Kd.Q_reads' h.row).2.2.2.1
  have z1 : w.cell? ⟨g, 1, none⟩ = some (.slice VA sent.length vc) := blk_cell h.blk 1
  have z2 : w.cell? ⟨g, 2, none⟩ = some (.int .i64 sent.length) := blk_cell h.blk 2
  have hlt := blk_lt h.blk
  have hge : decide ((sent.length : Int) ≤ (sent.length : Int)) = true := decide_eq_true (by omega)
  clear h hvc
  go_enter Tryd.func42, Tryd.ntmps42
  go_upto_region 1 with fail
  go_quiet (fail)
  go_wp2_with fail
  refine bodyPost_ret (v := .tuple #[.agg #[.int .i64 0, .int .i64 0, .int .i64 0, .int .i64 0, .int .i64 0, .int .i64 0], .bool false]) (by simp [results, Tryd.results42, go_sem, *]) rfl ⟨rfl, ?_⟩
  exact (((((((pw_below_drewN (below_alloc HB.out _) _).setCell (p := ⟨w.heap.size, 0, none⟩) (Nat.le_refl _) _).setCell (p := ⟨w.heap.size, 1, none⟩) (Nat.le_refl _) _).setCell (p := ⟨w.heap.size, 2, none⟩) (Nat.le_refl _) _).setCell (p := ⟨w.heap.size, 3, none⟩) (Nat.le_refl _) _).setCell (p := ⟨w.heap.size, 4, none⟩) (Nat.le_refl _) _).setCell (p := ⟨w.heap.size, 5, none⟩) (Nat.le_refl _) _)
theorem ack8_some (base g : Nat) (F : Nat → Prop) (cl : Bool) (sent : List (List S28)) (dn : Nat) (s : St) (w : World) (hI : IsB8 base w g F cl sent dn) (hT : GT w) (hb1 : base ≤ w.heap.size) (hb0 : 0 < base) (hd : dn < sent.length) (hs : ackedS cl (sent.take (dn + 1)) = s) :
    Calls Tryd.prog 42 #[.pointer (some ⟨g, 0, none⟩)] w fun e w' => e = .returned (.tuple #[.agg #[.int .i64 s.a, .int .i64 s.b, .int .i64 s.c, .int .i64 s.d, .int .i64 s.e, .int .i64 s.f], .bool true]) ∧ IsB8 base w' g F cl sent (dn + 1) ∧ Kept w w' F ∧ Below base w w' := by
  have HB := Aside0.mk (Below.refl w.heap.size w)
  obtain ⟨v, h⟩ := hI
  obtain ⟨VA, vc, rfl, hvc⟩ := Kd.Q_slice h.row
  have hm : sent.length ≤ 9223372036854775807 := (Kd.Q_reads' h.row).2.2.2.1
  have z1 : w.cell? ⟨g, 1, none⟩ = some (.slice VA sent.length vc) := blk_cell h.blk 1
  have z2 : w.cell? ⟨g, 2, none⟩ = some (.int .i64 dn) := blk_cell h.blk 2
  have z3 : w.frozen? ⟨g, 2, none⟩ = false := blk_frozen h.blk 2
  have hlt := blk_lt h.blk
  have hge : decide ((sent.length : Int) ≤ (dn : Int)) = false := decide_eq_false (by omega)
  have H := Aside0.mk h
  have HT := Aside0.mk hT
  have HS := Aside0.mk hs
  have HD := Aside0.mk hd
  have HB0 := Aside0.mk hb0
  have HB1 := Aside0.mk hb1
  clear h hvc hT hs hb0 hb1
  go_enter Tryd.func42, Tryd.ntmps42
  go_upto_region 1 with fail
  go_quiet (fail)
  go_upto_region 4 with fail
  obtain ⟨W4, hW4⟩ : ∃ W, ((w.alloc (.cells #[.int .i64 0, .int .i64 0, .int .i64 0, .int .i64 0, .int .i64 0, .int .i64 0] 23)).drewN nq).setCell ⟨g, 2, none⟩ (.int .i64 ((dn : Int) + 1)) = W := ⟨_, rfl⟩
  have L1 : Aside0 (Below w.heap.size w ((w.alloc (.cells #[.int .i64 0, .int .i64 0, .int .i64 0, .int .i64 0, .int .i64 0, .int .i64 0] 23)).drewN nq)) := ⟨pw_below_drewN (below_alloc HB.out _) _⟩
  have GP : Aside0 (0 ≠ g ∧ base ≤ g ∧ g < w.heap.size) := ⟨by have h1 := (H.out.bound g H.out.mem); have h2 := HB0.out; omega⟩
  have B2 : Aside0 (W4.heap[w.heap.size]? = some (.cells #[.int .i64 0, .int .i64 0, .int .i64 0, .int .i64 0, .int .i64 0, .int .i64 0] 23 (0, 0))) := ⟨by rw [← hW4]; exact blk_far (p := ⟨g, 2, none⟩) (blk_below (blk_new w _) (pw_below_drewN (Below.refl _ _) nq)) (by have h := GP.out.2.2; show w.heap.size ≠ g; omega) _⟩
  have H4 : Aside0 (Bk8 base W4 g F cl sent (dn + 1) (.slice VA sent.length vc)) := ⟨by
    rw [← hW4]
    have h1 := H.out.below L1.out
    refine ⟨blk_set h1.blk 2 (.int .i64 ((dn : Int) + 1)), h1.mem, fun k hk => ⟨(h1.bound k hk).1, by have := (h1.bound k hk).2; simpa [World.setCell] using this⟩, Kd.Q_far (p := ⟨g, 2, none⟩) h1.row (fun k hk => hk.2) _, HD.out⟩⟩
  have T4 : Aside0 (GT W4) := ⟨by rw [← hW4]; exact (HT.out.below L1.out).far (p := ⟨g, 2, none⟩) GP.out.1 _⟩
  have K4 : Aside0 (Kept w W4 F) := ⟨by rw [← hW4]; exact (Kept.of_below L1.out F).setCell (p := ⟨g, 2, none⟩) (.inl H.out.mem) _⟩
  have L4 : Aside0 (Below base w W4) := ⟨by rw [← hW4]; exact (below_lo L1.out HB1.out).setCell (p := ⟨g, 2, none⟩) GP.out.2.1 _⟩
  rw [hW4]
  clear hW4 z1 z2 z3 hlt hge
  have SB : Aside0 (∀ (x : World), w.heap.size = x.heap.size → True) := ⟨fun _ _ => trivial⟩
  go_wp2_with (first
    | (go_at_call 29; refine (acked8_as base g F cl sent (dn + 1) s _ ⟨_, H4.out⟩ T4.out HS.out).mono ?_; rintro e w9 ⟨rfl, hb⟩; have B29 := Aside0.mk hb; clear hb; have K9 := Aside0.mk (K4.out.below B29.out); have L9 := Aside0.mk (below_then L4.out (by have := K4.out.1; have := HB1.out; omega) B29.out); have y0 : w9.cell? ⟨w.heap.size, 0, none⟩ = some (.int .i64 0) := blk_cell (blk_below B2.out B29.out) 0; have y1 : w9.cell? ⟨w.heap.size, 1, none⟩ = some (.int .i64 0) := blk_cell (blk_below B2.out B29.out) 1; have y2 : w9.cell? ⟨w.heap.size, 2, none⟩ = some (.int .i64 0) := blk_cell (blk_below B2.out B29.out) 2; have y3 : w9.cell? ⟨w.heap.size, 3, none⟩ = some (.int .i64 0) := blk_cell (blk_below B2.out B29.out) 3; have y4 : w9.cell? ⟨w.heap.size, 4, none⟩ = some (.int .i64 0) := blk_cell (blk_below B2.out B29.out) 4; have y5 : w9.cell? ⟨w.heap.size, 5, none⟩ = some (.int .i64 0) := blk_cell (blk_below B2.out B29.out) 5; have yf0 : w9.frozen? ⟨w.heap.size, 0, none⟩ = false := blk_frozen (blk_below B2.out B29.out) 0; have yf1 : w9.frozen? ⟨w.heap.size, 1, none⟩ = false := blk_frozen (blk_below B2.out B29.out) 1; have yf2 : w9.frozen? ⟨w.heap.size, 2, none⟩ = false := blk_frozen (blk_below B2.out B29.out) 2; have yf3 : w9.frozen? ⟨w.heap.size, 3, none⟩ = false := blk_frozen (blk_below B2.out B29.out) 3; have yf4 : w9.frozen? ⟨w.heap.size, 4, none⟩ = false := blk_frozen (blk_below B2.out B29.out) 4; have yf5 : w9.frozen? ⟨w.heap.size, 5, none⟩ = false := blk_frozen (blk_below B2.out B29.out) 5))
  have hne : ∀ k, F k → k ≠ w.heap.size := fun k hk => by have := (H.out.bound k hk).2; omega
  refine bodyPost_ret (v := .tuple #[.agg #[.int .i64 s.a, .int .i64 s.b, .int .i64 s.c, .int .i64 s.d, .int .i64 s.e, .int .i64 s.f], .bool true]) (by simp [results, Tryd.results42, go_sem, *]) rfl ⟨rfl, ⟨_, H4.out.kept (((((((Kept.of_below B29.out (fun k => k = w.heap.size)).setCell (p := ⟨w.heap.size, 0, none⟩) (.inl rfl) _).setCell (p := ⟨w.heap.size, 1, none⟩) (.inl rfl) _).setCell (p := ⟨w.heap.size, 2, none⟩) (.inl rfl) _).setCell (p := ⟨w.heap.size, 3, none⟩) (.inl rfl) _).setCell (p := ⟨w.heap.size, 4, none⟩) (.inl rfl) _).setCell (p := ⟨w.heap.size, 5, none⟩) (.inl rfl) _) (fun i hi he => hne i hi he)⟩, ((((((K9.out.setCell (p := ⟨w.heap.size, 0, none⟩) (.inr (Nat.le_refl _)) _).setCell (p := ⟨w.heap.size, 1, none⟩) (.inr (Nat.le_refl _)) _).setCell (p := ⟨w.heap.size, 2, none⟩) (.inr (Nat.le_refl _)) _).setCell (p := ⟨w.heap.size, 3, none⟩) (.inr (Nat.le_refl _)) _).setCell (p := ⟨w.heap.size, 4, none⟩) (.inr (Nat.le_refl _)) _).setCell (p := ⟨w.heap.size, 5, none⟩) (.inr (Nat.le_refl _)) _), ((((((L9.out.setCell (p := ⟨w.heap.size, 0, none⟩) HB1.out _).setCell (p := ⟨w.heap.size, 1, none⟩) HB1.out _).setCell (p := ⟨w.heap.size, 2, none⟩) HB1.out _).setCell (p := ⟨w.heap.size, 3, none⟩) HB1.out _).setCell (p := ⟨w.heap.size, 4, none⟩) HB1.out _).setCell (p := ⟨w.heap.size, 5, none⟩) HB1.out _)⟩
end Go.Proofs.YtcjphkgmcfpfeaaDoor.MS
namespace Go.Proofs.YtcjphkgmcfpfeaaDoor.MS
open Go Go.RowKit Go.Proofs.YtcjphkgmcfpfeaaDoorW.PrintWords Go.Proofs.YtcjphkgmcfpfeaaDoorW.PrintLast Go.Proofs.YtcjphkgmcfpfeaaDoorW.PrintMore Go.Proofs.YtcjphkgmcfpfeaaDoor.QL
set_option linter.unusedSimpArgs false
set_option linter.unusedVariables false
set_option maxHeartbeats 40000000
set_option maxRecDepth 100000
attribute [local go_sem high] eqA23 eqA28
/-- The program's book at gb and the document's at gr, their blocks among F: they say the same; at most n lists were sent. -/
def Pair (base : Nat) (W : World) (gb gr : Nat) (F : Nat → Prop) (cl : Bool) (n : Nat) : Prop :=
  ∃ (Fb Fr : Nat → Prop) (sent : List (List S28)) (dn : Nat), IsB base W gb Fb cl (ackedS cl (sent.take dn)) (sent.drop dn) ∧ IsB8 base W gr Fr cl sent dn ∧ (∀ k, Fb k → ¬ Fr k) ∧ (∀ k, F k ↔ Fb k ∨ Fr k) ∧ sent.length ≤ n
theorem IsB.bnd {base : Nat} {W : World} {g : Nat} {F : Nat → Prop} {cl : Bool} {s : St} {ls : List (List S28)} (h : IsB base W g F cl s ls) : (∀ k, F k → base ≤ k ∧ k < W.heap.size) ∧ F g := by
  obtain ⟨v, h⟩ := h
  exact ⟨h.bound, h.mem⟩
theorem IsB8.bnd {base : Nat} {W : World} {g : Nat} {F : Nat → Prop} {cl : Bool} {sent : List (List S28)} {dn : Nat} (h : IsB8 base W g F cl sent dn) : (∀ k, F k → base ≤ k ∧ k < W.heap.size) ∧ F g := by
  obtain ⟨v, h⟩ := h
  exact ⟨h.bound, h.mem⟩
theorem IsB8.few {base : Nat} {W : World} {g : Nat} {F : Nat → Prop} {cl : Bool} {sent : List (List S28)} {dn : Nat} (h : IsB8 base W g F cl sent dn) : dn ≤ sent.length := by
  obtain ⟨v, h⟩ := h
  exact h.few
theorem Pair.kept {base : Nat} {W W1 : World} {gb gr : Nat} {F S : Nat → Prop} {cl : Bool} {n : Nat} (h : Pair base W gb gr F cl n) (k : Kept W W1 S) (hs : ∀ i, F i → ¬ S i) : Pair base W1 gb gr F cl n := by
  obtain ⟨Fb, Fr, sent, dn, h1, h2, h3, h4, h5⟩ := h
  exact ⟨Fb, Fr, sent, dn, h1.kept k (fun i hi => hs i ((h4 i).2 (.inl hi))), h2.kept k (fun i hi => hs i ((h4 i).2 (.inr hi))), h3, h4, h5⟩
theorem Pair.below {base : Nat} {W W1 : World} {gb gr : Nat} {F : Nat → Prop} {cl : Bool} {n : Nat} (h : Pair base W gb gr F cl n) (k : Below W.heap.size W W1) : Pair base W1 gb gr F cl n := h.kept (Kept.of_below k (fun _ => False)) (fun _ _ => id)
theorem Pair.bound {base : Nat} {W : World} {gb gr : Nat} {F : Nat → Prop} {cl : Bool} {n : Nat} (h : Pair base W gb gr F cl n) : ∀ k, F k → base ≤ k ∧ k < W.heap.size := by
  obtain ⟨Fb, Fr, sent, dn, h1, h2, h3, h4, h5⟩ := h
  intro k hk
  rcases (h4 k).1 hk with h | h
  · exact h1.bnd.1 k h
  · exact h2.bnd.1 k h
theorem Pair.more {base : Nat} {W : World} {gb gr : Nat} {F : Nat → Prop} {cl : Bool} {n m : Nat} (h : Pair base W gb gr F cl n) (hm : n ≤ m) : Pair base W gb gr F cl m := by
  obtain ⟨Fb, Fr, sent, dn, h1, h2, h3, h4, h5⟩ := h
  exact ⟨Fb, Fr, sent, dn, h1, h2, h3, h4, Nat.le_trans h5 hm⟩
theorem send_same (cl : Bool) (sent : List (List S28)) (dn : Nat) (l : List S28) (h : (sent.drop dn).length ≤ 64) (hd : dn ≤ sent.length) :
    ∃ (e : Int) (sent' : List (List S28)), sendF cl (sent.drop dn) l = (e, sent'.drop dn) ∧ send8F cl sent dn l = (e, sent') ∧ sent'.take dn = sent.take dn ∧ sent'.length ≤ sent.length + 1 := by
  have hl : (sent.drop dn).length = sent.length - dn := List.length_drop
  unfold sendF send8F
  by_cases hb : badL cl l = true
  · rw [if_pos hb, if_pos hb]
    exact ⟨1, sent, rfl, rfl, rfl, by omega⟩
  · rw [if_neg hb, if_neg hb]
    by_cases h64 : (sent.drop dn).length = 64
    · rw [if_pos h64, if_pos (by omega)]
      exact ⟨6, sent, rfl, rfl, rfl, by omega⟩
    · rw [if_neg h64, if_neg (by omega)]
      exact ⟨0, sent ++ [l], by rw [List.drop_append_of_le_length hd], rfl, List.take_append_of_le_length hd, by simp⟩
theorem ackedS_one (cl : Bool) (sent : List (List S28)) (dn : Nat) (l : List S28) (t : List (List S28)) (h : sent.drop dn = l :: t) : ackedS cl (sent.take (dn + 1)) = (apply cl (ackedS cl (sent.take dn)) l).1 ∧ sent.drop (dn + 1) = t ∧ dn < sent.length := by
  have hlt : dn < sent.length := by
    rcases Nat.lt_or_ge dn sent.length with h1 | h1
    · exact h1
    · rw [List.drop_eq_nil_of_le h1] at h; cases h
  rw [List.drop_eq_getElem_cons hlt] at h
  injection h with h1 h2
  refine ⟨?_, h2, hlt⟩
  rw [ackedS_take cl sent dn hlt]
  have e : rd_L2 sent (dn : Int) = l := by simp [rd_L2, hlt, h1]
  rw [e]
theorem acked_ex1 (base g : Nat) (F : Nat → Prop) (cl : Bool) (s : St) (ls : List (List S28)) (w : World) (h : IsB base w g F cl s ls) : Calls Tryd.prog 28 #[.pointer (some ⟨g, 0, none⟩)] w fun e w' => e = .returned (.agg #[.int .i64 s.a, .int .i64 s.b, .int .i64 s.c, .int .i64 s.d, .int .i64 s.e, .int .i64 s.f]) ∧ Below w.heap.size w w' := acked_calls base g F cl s ls w h
theorem send_as1 (base g : Nat) (F : Nat → Prop) (cl : Bool) (s : St) (ls : List (List S28)) (A : Option Addr) (c : Nat) (l : List S28) (w : World) (e0 : Int) (ls' : List (List S28)) (hI : IsB base w g F cl s ls) (hr : Kd.C k28 w A l.length l) (hc : l.length ≤ c) (hsz : l.length * 16 ≤ 140737488355328) (hs : sendF cl ls l = (e0, ls')) :
    Calls Tryd.prog 32 #[.pointer (some ⟨g, 0, none⟩), .slice A l.length c] w fun e w' => e = .returned (.int .i64 e0) ∧ ∃ F', IsB base w' g F' cl s ls' ∧ (∀ k, F' k → F k ∨ w.heap.size ≤ k) ∧ Kept w w' F ∧ Below base w w' := by
  have h := send_calls base g F cl s ls A c l w hI hr hc hsz
  rw [hs] at h
  exact h
theorem send8_as (base g : Nat) (F : Nat → Prop) (cl : Bool) (ls : List (List S28)) (dn : Nat) (A : Option Addr) (c : Nat) (l : List S28) (w : World) (e0 : Int) (ls' : List (List S28)) (hI : IsB8 base w g F cl ls dn) (hr : Kd.C k28 w A l.length l) (hc : l.length ≤ c) (hsz : l.length * 16 ≤ 140737488355328) (hls : (ls.length + 1) * 24 ≤ 140737488355328) (hs : send8F cl ls dn l = (e0, ls')) :
    Calls Tryd.prog 41 #[.pointer (some ⟨g, 0, none⟩), .slice A l.length c] w fun e w' => e = .returned (.int .i64 e0) ∧ ∃ F', IsB8 base w' g F' cl ls' dn ∧ (∀ k, F' k → F k ∨ w.heap.size ≤ k) ∧ Kept w w' F ∧ Below base w w' := by
  have h := send8_calls base g F cl ls dn A c l w hI hr hc hsz hls
  rw [hs] at h
  exact h
theorem ack_s1 (base g : Nat) (F : Nat → Prop) (cl : Bool) (s : St) (l : List S28) (t ls : List (List S28)) (s2 : St) (w : World) (hI : IsB base w g F cl s ls) (hl : ls = l :: t) (h : (apply cl s l).1 = s2) :
    Calls Tryd.prog 33 #[.pointer (some ⟨g, 0, none⟩)] w fun e w' => e = .returned (.tuple #[.agg #[.int .i64 s2.a, .int .i64 s2.b, .int .i64 s2.c, .int .i64 s2.d, .int .i64 s2.e, .int .i64 s2.f], .bool true]) ∧ IsB base w' g F cl s2 t ∧ Kept w w' F ∧ Below base w w' := by
  subst hl
  have h1 := ack_some base g F cl s l t w hI
  rw [h] at h1
  exact h1
theorem ack_nil1 (base g : Nat) (F : Nat → Prop) (cl : Bool) (s : St) (w : World) (hI : IsB base w g F cl s []) : Calls Tryd.prog 33 #[.pointer (some ⟨g, 0, none⟩)] w fun e w' => e = .returned (.tuple #[.agg #[.int .i64 0, .int .i64 0, .int .i64 0, .int .i64 0, .int .i64 0, .int .i64 0], .bool false]) ∧ Below w.heap.size w w' := ack_none base g F cl s w hI
theorem waiting_as (base g : Nat) (F : Nat → Prop) (cl : Bool) (s : St) (ls : List (List S28)) (q : Nat) (w : World) (h : IsB base w g F cl s ls) (hq : ls.length = q) : Calls Tryd.prog 34 #[.pointer (some ⟨g, 0, none⟩)] w fun e w' => e = .returned (.int .i64 q) ∧ Below w.heap.size w w' := by
  subst hq
  exact waiting_calls base g F cl s ls w h
theorem waiting8_as (base g : Nat) (F : Nat → Prop) (cl : Bool) (sent : List (List S28)) (dn : Nat) (q : Nat) (w : World) (h : IsB8 base w g F cl sent dn) (hq : sent.length - dn = q) : Calls Tryd.prog 43 #[.pointer (some ⟨g, 0, none⟩)] w fun e w' => e = .returned (.int .i64 q) ∧ Below w.heap.size w w' := by
  subst hq
  exact waiting8_calls base g F cl sent dn w h
/-- The two lists that a Send has laid, as a pair again. -/
theorem pair_sent {base : Nat} {w8 w9 w10 : World} {gb gr : Nat} {F Fb Fr F9 F10 : Nat → Prop} {cl : Bool} {sent' : List (List S28)} {dn n : Nat} {s : St} (h9 : IsB base w9 gb F9 cl s (sent'.drop dn)) (h10 : IsB8 base w10 gr F10 cl sent' dn) (hs : s = ackedS cl (sent'.take dn))
    (b8 : ∀ k, Fr k → k < w8.heap.size) (hd : ∀ k, Fb k → ¬ Fr k) (hF : ∀ k, F k ↔ Fb k ∨ Fr k) (hF9 : ∀ k, F9 k → Fb k ∨ w8.heap.size ≤ k) (hF10 : ∀ k, F10 k → Fr k ∨ w9.heap.size ≤ k) (hK : Kept w9 w10 Fr) (hs89 : w8.heap.size ≤ w9.heap.size) (hn : sent'.length ≤ n) :
    Pair base w10 gb gr (fun k => F9 k ∨ F10 k) cl n ∧ (∀ k, F9 k ∨ F10 k → F k ∨ w8.heap.size ≤ k) := by
  have hdis : ∀ k, F9 k → ¬ Fr k := by
    intro k h1 h2
    rcases hF9 k h1 with h | h
    · exact hd k h h2
    · have := b8 k h2; omega
  refine ⟨⟨F9, F10, sent', dn, by rw [← hs]; exact h9.kept hK hdis, h10, ?_, fun _ => Iff.rfl, hn⟩, ?_⟩
  · intro k h1 h2
    rcases hF10 k h2 with h | h
    · exact hdis k h1 h
    · have := (h9.bnd.1 k h1).2; omega
  · rintro k (h | h)
    · rcases hF9 k h with h | h
      · exact .inl ((hF k).2 (.inl h))
      · exact .inr h
    · rcases hF10 k h with h | h
      · exact .inl ((hF k).2 (.inr h))
      · exact .inr (Nat.le_trans hs89 h)
theorem plays_calls (w0 : World) (gb gr : Nat) (F : Nat → Prop) (cl : Bool) (N : Nat) (K : Int) (two : Bool) (A : Option Addr) (c : Nat) (l : List S28) (w : World) (hP : Pair w0.heap.size w gb gr F cl N) (hlow : Below w0.heap.size w0 w) (hT : GT w0) (hr : Kd.C k28 w0 A l.length l) (hc : l.length ≤ c) (hz : l.length * 16 ≤ 140737488351232) (hN : (N + 1) * 24 ≤ 140737488355328) :
    Calls Tryd.prog 27 #[.pointer (some ⟨gb, 0, none⟩), .pointer (some ⟨gr, 0, none⟩), .agg #[.int .i64 K, .bool two, .slice A l.length c]] w fun e w' => e = .returned (.bool true) ∧ ∃ F', Pair w0.heap.size w' gb gr F' cl (N + 1) ∧ (∀ k, F' k → F k ∨ w.heap.size ≤ k) ∧ Kept w w' F ∧ Below w0.heap.size w0 w' := by
  have HR := Aside0.mk hr
  have HC := Aside0.mk hc
  have HZ := Aside0.mk hz
  have HN := Aside0.mk hN
  have HT := Aside0.mk hT
  have HLOW := Aside0.mk hlow
  have HP := Aside0.mk hP
  have h0 : Aside0 (0 < w0.heap.size) := ⟨World.block_lt_of_cell? w0 _ hT.1⟩
  have hl63 : l.length ≤ 9223372036854775807 := hr.2.1
  clear hr hc hz hN hT hlow hP
  go_enter Tryd.func27, Tryd.ntmps27
  go_upto_block 0 with fail
  obtain ⟨W5, hW5⟩ : ∃ W, w.alloc (.cells #[.int .i64 K, .bool two, .slice A l.length c] 46) = W := ⟨_, rfl⟩
  obtain ⟨b5, hb5⟩ : ∃ b, w.heap.size = b := ⟨_, rfl⟩
  have HX : Aside0 (W5.heap[b5]? = some (.cells #[.int .i64 K, .bool two, .slice A l.length c] 46 (0, 0))) := ⟨by rw [← hW5, ← hb5]; exact blk_new w _⟩
  have B5 : Aside0 (Below w.heap.size w W5) := ⟨by rw [← hW5]; exact below_alloc (Below.refl _ _) _⟩
  have HP5 : Aside0 (Pair w0.heap.size W5 gb gr F cl N) := ⟨HP.out.below B5.out⟩
  have KP5 : Aside0 (Kept w W5 F) := ⟨Kept.of_below B5.out _⟩
  have L5 : Aside0 (Below w0.heap.size w0 W5) := ⟨below_then HLOW.out HLOW.out.size B5.out⟩
  have NF : Aside0 (∀ k, F k → k < w.heap.size) := ⟨fun k hk => (HP.out.bound k hk).2⟩
  have E5 : Aside0 (w.heap.size = b5) := ⟨hb5⟩
  have S5 : Aside0 (w.heap.size ≤ W5.heap.size) := ⟨B5.out.size⟩
  rw [hW5, hb5]
  clear hW5 hb5
  go_cut [6] from 17 to 68 (fun v6 wc => ∃ (G : Nat → Prop), Aside0 (Pair w0.heap.size wc gb gr G cl (N + 1)) ∧ Aside0 (∀ k, G k → F k ∨ w.heap.size ≤ k) ∧ Aside0 (Kept w wc F) ∧ Aside0 (Below w0.heap.size w0 wc))
  case first =>
    by_cases h1 : K = 1
    · subst h1
      have zb2 := blk_cell HX.out 2
      go_upto_region 4 with (first
        | (go_at_call 8; refine (lent_calls A c l _ (Kd.C_below HR.out L5.out) HC.out HZ.out).mono ?_; rintro e w8 ⟨A1, c1, rfl, hc1, hr1, hb⟩; have HB8 := Aside0.mk hb; have HC1 := Aside0.mk hc1; have HR1 := Aside0.mk hr1; clear hb hc1 hr1))
      clear zb2
      have L8 := Aside0.mk (below_then L5.out L5.out.size HB8.out)
      have HX8 := Aside0.mk (blk_below HX.out HB8.out)
      have KP8 := Aside0.mk (KP5.out.below HB8.out)
      obtain ⟨Fb, Fr, sent, dn, hB, h8, hdis, hF, hlen⟩ := HP5.out.below HB8.out
      obtain ⟨e0, sent', hs1, hs2, htk, hln⟩ := send_same cl sent dn l hB.few h8.few
      have hll : (l ++ marks).length = l.length + 2 := by simp
      have CM : Aside0 (Kd.C k28 w8 A1 (l.length + 2) (l ++ marks)) := ⟨by
        have h := (Kd.R_reads' HR1.out).2.2
        rwa [hll] at h⟩
      have CL : Aside0 (Kd.C k28 w8 A1 l.length l) := ⟨by
        have h := CM.out
        rw [← hll] at h
        have h2 := Kd.C_take (m := l.length) h (by simp)
        rwa [List.take_left] at h2⟩
      have HC1l : Aside0 (l.length ≤ c1) := ⟨by have := HC1.out; omega⟩
      have RB : Aside0 (Kd.R k28 28 w8 W5.heap.size (fun k => ¬ F k ∧ k < w8.heap.size) (.slice A1 (l.length + 2) c1) (l ++ marks)) := ⟨Kd.R_mono (Kd.R_bound HR1.out) (fun k hk => ⟨fun hf => by have h1 := NF.out k hf; have h2 := S5.out; have h3 := hk.2.1; omega, hk.2.2.1⟩)⟩
      have BB := Aside0.mk hB
      have B8 := Aside0.mk h8
      have HDIS := Aside0.mk hdis
      have HF := Aside0.mk hF
      have HLEN := Aside0.mk hlen
      have HS1 := Aside0.mk hs1
      have HS2 := Aside0.mk hs2
      have HTK := Aside0.mk htk
      have HLN := Aside0.mk hln
      clear hB h8 hdis hF hlen hs1 hs2 htk hln hll HR1
      go_upto_region 5 with (first
        | (go_at_call 32; refine (send_as1 w0.heap.size gb Fb cl _ (sent.drop dn) A1 c1 l _ e0 (sent'.drop dn) BB.out CL.out HC1l.out (by have := HZ.out; omega) HS1.out).mono ?_; rintro e w9 ⟨rfl, F9, hI9, hF9, hK9, hL9⟩; have HI9 := Aside0.mk hI9; have HF9 := Aside0.mk hF9; have HK9 := Aside0.mk hK9; have HL9 := Aside0.mk hL9; clear hI9 hF9 hK9 hL9))
      have L9 := Aside0.mk (L8.out.trans HL9.out)
      have HX9 : Aside0 (w9.heap[b5]? = some (.cells #[.int .i64 1, .bool two, .slice A l.length c] 46 (0, 0))) := ⟨blk_kept HX8.out HK9.out (fun hh => by have h1 := NF.out b5 ((HF.out b5).2 (.inl hh)); have h2 := E5.out; omega)⟩
      have RB9 := Aside0.mk (Kd.R_kept RB.out HK9.out (fun k hk hh => hk.1 ((HF.out k).2 (.inl hh))))
      have KP9 := Aside0.mk (KP8.out.then_ HK9.out (fun k hk => .inl ((HF.out k).2 (.inl hk))))
      have B89 := Aside0.mk (B8.out.kept HK9.out (fun i hi hh => HDIS.out i hh hi))
      have zb2 := blk_cell HX9.out 2
      go_upto_region 6 with (first
        | (go_at_call 41; refine (send8_as w0.heap.size gr Fr cl sent dn A c l _ e0 sent' B89.out (Kd.C_below HR.out L9.out) HC.out (by have := HZ.out; omega) (by have := HLEN.out; have := HN.out; omega) HS2.out).mono ?_; rintro e w10 ⟨rfl, F10, hI10, hF10, hK10, hL10⟩; have HI10 := Aside0.mk hI10; have HF10 := Aside0.mk hF10; have HK10 := Aside0.mk hK10; have HL10 := Aside0.mk hL10; clear hI10 hF10 hK10 hL10))
      clear zb2
      have L10 := Aside0.mk (L9.out.trans HL10.out)
      have HX10 : Aside0 (w10.heap[b5]? = some (.cells #[.int .i64 1, .bool two, .slice A l.length c] 46 (0, 0))) := ⟨blk_kept HX9.out HK10.out (fun hh => by have h1 := NF.out b5 ((HF.out b5).2 (.inr hh)); have h2 := E5.out; omega)⟩
      have RB10 := Aside0.mk (Kd.R_kept RB9.out HK10.out (fun k hk hh => hk.1 ((HF.out k).2 (.inr hh))))
      have KP10 := Aside0.mk (KP9.out.then_ HK10.out (fun k hk => .inl ((HF.out k).2 (.inr hk))))
      have HPN := pair_sent (base := w0.heap.size) (F := F) (n := N + 1) HI9.out HI10.out (by rw [HTK.out]) (fun k hk => (B8.out.bnd.1 k hk).2) HDIS.out HF.out HF9.out HF10.out HK10.out HL9.out.size (by have := HLN.out; have := HLEN.out; omega)
      obtain ⟨G, hG⟩ : ∃ G : Nat → Prop, (fun k => F9 k ∨ F10 k) = G := ⟨_, rfl⟩
      have hGd : ∀ k, G k ↔ F9 k ∨ F10 k := fun k => by rw [← hG]
      have hPG : Pair w0.heap.size w10 gb gr G cl (N + 1) := by rw [← hG]; exact HPN.1
      have HP10 := Aside0.mk hPG
      have HG1 : Aside0 (∀ k, G k → F k ∨ w8.heap.size ≤ k) := ⟨fun k hk => HPN.2 k ((hGd k).1 hk)⟩
      clear hG hGd hPG HPN
      have CM10 : Aside0 (Kd.C k28 w10 A1 (l.length + 2) (l ++ marks)) := ⟨by
        have h := (Kd.R_reads' RB10.out).2.2
        rwa [show (l ++ marks).length = l.length + 2 by simp] at h⟩
      have zb2 := blk_cell HX10.out 2
      go_upto_region 8 with (first
        | (go_at_call 23; (with_reducible refine (kept_calls A1 A c1 c l _ CM10.out HC1.out (Kd.C_below HR.out L10.out) HC.out HZ.out).mono ?_); rintro e w11 ⟨rfl, hb⟩; have HB11 := Aside0.mk hb; clear hb))
      clear zb2
      have L11 := Aside0.mk (below_then L10.out L10.out.size HB11.out)
      have KP11 := Aside0.mk (KP10.out.below HB11.out)
      have HP11 := Aside0.mk (HP10.out.below HB11.out)
      have RB11 : Aside0 (Kd.R k28 28 w11 W5.heap.size (fun k => ¬ G k) (.slice A1 l.length c1) l) := ⟨by
        have h := Kd.R_take (m := l.length) (Kd.R_below RB10.out HB11.out) (by simp)
        rw [List.take_left] at h
        exact Kd.R_mono h (fun k hk hg => by rcases HG1.out k hg with h | h; exact hk.1 h; have := hk.2; omega)⟩
      have HG2 : Aside0 (∀ k, G k → F k ∨ w.heap.size ≤ k) := ⟨fun k hk => (HG1.out k hk).imp id (fun h => by have h1 := B5.out.size; have h2 := HB8.out.size; omega)⟩
      clear CM10 RB10 RB9 RB CM CL HX10 HX9 HX8 HP10 HP5 BB B8 B89 HI9 HI10
      go_wp2_with fail
      go_loopw [10] (fun i w' => ∃ (n : Nat) (L' : List S28), n ≤ l.length ∧ i = .int .i64 n ∧ Aside0 (L'.length = l.length) ∧ Aside0 (Kd.R k28 28 w' W5.heap.size (fun k => ¬ G k) (.slice A1 l.length c1) L') ∧ Aside0 (Pair w0.heap.size w' gb gr G cl (N + 1)) ∧ Aside0 (Kept w w' F) ∧ Aside0 (Below w0.heap.size w0 w')) (fun i _ => l.length - (intOf i).toNat)
      case atStart => exact ⟨0, l, Nat.zero_le _, rfl, ⟨rfl⟩, RB11, HP11, KP11, L11⟩
      case round =>
        clear RB11 HP11 KP11 L11
        obtain ⟨n, L', hn, rfl, HLE, HLr, HPr, KPr, LW⟩ := hrel
        by_cases hlt : n < l.length
        · have p0 : (0 : Int) ≤ n := by omega
          have q0 : (n : Int) < (l.length : Int) := by omega
          obtain ⟨inner, ho⟩ := Kd.R_own HLr.out
          obtain ⟨q, hA⟩ : ∃ g, A1 = some ⟨g, 0, none⟩ := by
            rcases ho.2 with ⟨hv, _⟩ | ⟨g, cap, cur, hv, _⟩
            · injection hv with _ h _; omega
            · injection hv with h; exact ⟨g, h⟩
          clear ho
          subst hA
          have hCr := (Kd.R_reads' HLr.out).2.2
          obtain ⟨ad, e0', y0, y1⟩ := at_T28 (xs := L') (n := L'.length) hCr n p0 (by have := HLE.out; omega)
          injection e0' with e0'
          subst e0'
          obtain ⟨x0, hx0⟩ : ∃ K, (rd_T28 L' (n : Int)).f0 = K := ⟨_, rfl⟩
          obtain ⟨x1, hx1⟩ : ∃ K, (rd_T28 L' (n : Int)).f1 = K := ⟨_, rfl⟩
          rw [hx0] at y0
          rw [hx1] at y1
          rw [Int.toNat_natCast, add_plain] at y0 y1
          have Y0 := Aside0.mk y0
          have Y1 := Aside0.mk y1
          have hb0 := Kd.R_base HLr.out q (by simp [Value.ownBlock])
          have hg0 := HLr.out.1 q (by simp [Value.ownBlock])
          have GE0 := Aside0.mk hb0
          have NG0 := Aside0.mk hg0
          clear y0 y1 hx0 hx1 hCr hb0 hg0
          go_wp2_with (first
            | ((with_reducible refine gate_store (t := 28) (p := 48) rfl ?_); refine Kd.R_store k28 (w0 := wr) W5.heap.size rfl rfl 28 (.tmp 48) (.tmp 47) rfl 28 (g := q) (n := l.length) (cap := c1) (o' := n * 2) (n : Int) 0 L' ⟨3, 1⟩ (.agg #[.int .i64 3, .int .i64 1]) [.int .i64 3, .int .i64 1] [.int .i64 x0, .int .i64 x1] (fun k => ¬ G k) (fun _ => False) ?ha ?ho rfl rfl ?ht ?h1 HLr.out p0 q0 rfl ?hc (by decide) ?hM (fun _ h => h.elim) (Below.refl _ _) ?_; (case ha => first | rfl | (simp [Act.eval, add_plain]; done)); (case ho => rw [Int.toNat_natCast]; rfl); (case ht => kernel_rfl); (case h1 => intro q hq; simp at hq; rcases hq with rfl | rfl <;> rfl); (case hc => intro j u hu; have hj : j < 2 := (by have := (List.getElem?_eq_some_iff.1 hu).1; simpa using this); rw [Int.toNat_natCast]; obtain rfl | rfl : j = 0 ∨ j = 1 := (by omega); (exact Y0.out.trans hu); (exact Y1.out.trans hu)); (case hM => exact k28_mkM _ _ _ ⟨3, 1⟩); intro w23 ho hb hg; have HO23 := Aside0.mk ho; have HB23 := Aside0.mk (LW.out.trans (below_lo hb L5.out.size)); have HG23 := Aside0.mk hg; clear ho hb hg))
          have KQ : Aside0 (Kept wr w23 (fun k => k = q)) := ⟨Kept.of_grown HG23.out (Kept.refl _ _) (fun k hk => .inl (by injection hk with hk; exact hk.symm))⟩
          go_roundw
          case rel => exact ⟨n + 1, L'.set n ⟨3, 1⟩, by omega, by go_num, ⟨by rw [List.length_set]; exact HLE.out⟩, ⟨by have h := HO23.out; rwa [Int.toNat_natCast] at h⟩, ⟨HPr.out.kept KQ.out (fun i hi he => NG0.out (he ▸ hi))⟩, ⟨KPr.out.then_ KQ.out (fun k hk => .inr (by have h1 := GE0.out; have h2 := S5.out; omega))⟩, ⟨HB23.out⟩⟩
          case measure => simp [intOf]; omega
        · have hlt2 : decide ((n : Int) < (l.length : Int)) = false := decide_eq_false (by omega)
          go_wp2_with fail
          go_meet
          case rel => exact ⟨G, HPr, HG2, KPr, LW⟩
    · have h1b : (K == 1) = false := beq_eq_false_iff_ne.mpr h1
      have H1 := Aside0.mk h1
      clear h1
      by_cases h2 : K = 2
      · subst h2
        obtain ⟨Fb, Fr, sent, dn, hB, h8, hdis, hF, hlen⟩ := HP5.out
        cases hdr : sent.drop dn with
        | nil =>
          have hdn : dn = sent.length := by
            have h1 := h8.few
            have h2 := List.drop_eq_nil_iff.1 hdr
            omega
          rw [hdr] at hB
          rw [hdn] at h8
          have BB := Aside0.mk hB
          have B8 := Aside0.mk h8
          clear hB h8 hdr hdn hdis hF hlen
          go_upto_region 14 with (first
            | (go_at_call 33; refine (ack_nil1 w0.heap.size gb Fb cl _ _ BB.out).mono ?_; rintro e w8 ⟨rfl, hb⟩; have HB8 := Aside0.mk hb; clear hb))
          obtain ⟨W8, hW8⟩ : ∃ W, w8.alloc (.cells #[.int .i64 0, .int .i64 0, .int .i64 0, .int .i64 0, .int .i64 0, .int .i64 0] 23) = W := ⟨_, rfl⟩
          obtain ⟨b11, hb11⟩ : ∃ b, w8.heap.size = b := ⟨_, rfl⟩
          have X8 : Aside0 (Below W5.heap.size W5 W8) := ⟨by rw [← hW8]; exact below_alloc HB8.out _⟩
          have V11 : Aside0 (W8.heap[b11]? = some (.cells #[.int .i64 0, .int .i64 0, .int .i64 0, .int .i64 0, .int .i64 0, .int .i64 0] 23 (0, 0))) := ⟨by rw [← hW8, ← hb11]; exact blk_new w8 _⟩
          rw [hW8, hb11]
          clear hW8 hb11 HB8
          go_upto_region 15 with (first
            | (go_at_call 42; refine (ack8_none w0.heap.size gr Fr cl sent _ (B8.out.below X8.out)).mono ?_; rintro e w9 ⟨rfl, hb⟩; have HB9 := Aside0.mk hb; clear hb))
          obtain ⟨W9, hW9⟩ : ∃ W, w9.alloc (.cells #[.int .i64 0, .int .i64 0, .int .i64 0, .int .i64 0, .int .i64 0, .int .i64 0] 23) = W := ⟨_, rfl⟩
          obtain ⟨b13, hb13⟩ : ∃ b, w9.heap.size = b := ⟨_, rfl⟩
          have X9 : Aside0 (Below W5.heap.size W5 W9) := ⟨by rw [← hW9]; exact below_alloc (below_then X8.out X8.out.size HB9.out) _⟩
          have V11' : Aside0 (W9.heap[b11]? = some (.cells #[.int .i64 0, .int .i64 0, .int .i64 0, .int .i64 0, .int .i64 0, .int .i64 0] 23 (0, 0))) := ⟨by rw [← hW9]; exact blk_alloc (blk_below V11.out HB9.out) _⟩
          have V13 : Aside0 (W9.heap[b13]? = some (.cells #[.int .i64 0, .int .i64 0, .int .i64 0, .int .i64 0, .int .i64 0, .int .i64 0] 23 (0, 0))) := ⟨by rw [← hW9, ← hb13]; exact blk_new w9 _⟩
          rw [hW9, hb13]
          clear hW9 hb13 HB9
          have y0 : W9.cell? ⟨b11, 0, none⟩ = some (.int .i64 0) := blk_cell V11'.out 0
          have y1 : W9.cell? ⟨b11, 1, none⟩ = some (.int .i64 0) := blk_cell V11'.out 1
          have y2 : W9.cell? ⟨b11, 2, none⟩ = some (.int .i64 0) := blk_cell V11'.out 2
          have y3 : W9.cell? ⟨b11, 3, none⟩ = some (.int .i64 0) := blk_cell V11'.out 3
          have y4 : W9.cell? ⟨b11, 4, none⟩ = some (.int .i64 0) := blk_cell V11'.out 4
          have y5 : W9.cell? ⟨b11, 5, none⟩ = some (.int .i64 0) := blk_cell V11'.out 5
          have z0 : W9.cell? ⟨b13, 0, none⟩ = some (.int .i64 0) := blk_cell V13.out 0
          have z1 : W9.cell? ⟨b13, 1, none⟩ = some (.int .i64 0) := blk_cell V13.out 1
          have z2 : W9.cell? ⟨b13, 2, none⟩ = some (.int .i64 0) := blk_cell V13.out 2
          have z3 : W9.cell? ⟨b13, 3, none⟩ = some (.int .i64 0) := blk_cell V13.out 3
          have z4 : W9.cell? ⟨b13, 4, none⟩ = some (.int .i64 0) := blk_cell V13.out 4
          have z5 : W9.cell? ⟨b13, 5, none⟩ = some (.int .i64 0) := blk_cell V13.out 5
          go_wp2_with fail
          go_meet
          case rel => exact ⟨F, ⟨(HP5.out.below X9.out).more (by omega)⟩, ⟨fun k hk => .inl hk⟩, ⟨KP5.out.below X9.out⟩, ⟨below_then L5.out L5.out.size X9.out⟩⟩
        | cons l0 t =>
          obtain ⟨ha1, ha2, ha3⟩ := ackedS_one cl sent dn l0 t hdr
          obtain ⟨s2, hs2⟩ : ∃ s2, (apply cl (ackedS cl (sent.take dn)) l0).1 = s2 := ⟨_, rfl⟩
          rw [hs2] at ha1
          have BB := Aside0.mk hB
          have B8 := Aside0.mk h8
          have HDIS := Aside0.mk hdis
          have HF := Aside0.mk hF
          have HLEN := Aside0.mk hlen
          have HDR := Aside0.mk hdr
          have HA1 := Aside0.mk ha1
          have HA2 := Aside0.mk ha2
          have HA3 := Aside0.mk ha3
          have HS2 := Aside0.mk hs2
          clear hB h8 hdr hdis hF hlen ha1 ha2 ha3 hs2
          go_upto_region 14 with (first
            | (go_at_call 33; refine (ack_s1 w0.heap.size gb Fb cl _ l0 t (sent.drop dn) s2 _ BB.out HDR.out HS2.out).mono ?_; rintro e w8 ⟨rfl, hI8, hK8, hL8⟩; have HI8 := Aside0.mk hI8; have HK8 := Aside0.mk hK8; have HL8 := Aside0.mk hL8; clear hI8 hK8 hL8))
          obtain ⟨W8, hW8⟩ : ∃ W, w8.alloc (.cells #[.int .i64 s2.a, .int .i64 s2.b, .int .i64 s2.c, .int .i64 s2.d, .int .i64 s2.e, .int .i64 s2.f] 23) = W := ⟨_, rfl⟩
          obtain ⟨b11, hb11⟩ : ∃ b, w8.heap.size = b := ⟨_, rfl⟩
          have X8 : Aside0 (Kept W5 W8 Fb) := ⟨by rw [← hW8]; exact HK8.out.alloc _⟩
          have L8 : Aside0 (Below w0.heap.size W5 W8) := ⟨by rw [← hW8]; exact HL8.out.trans (below_lo (below_alloc (Below.refl _ _) _) (Nat.le_trans L5.out.size HL8.out.size))⟩
          have I8 : Aside0 (IsB w0.heap.size W8 gb Fb cl s2 t) := ⟨by rw [← hW8]; exact HI8.out.below (below_alloc (Below.refl _ _) _)⟩
          have V11 : Aside0 (W8.heap[b11]? = some (.cells #[.int .i64 s2.a, .int .i64 s2.b, .int .i64 s2.c, .int .i64 s2.d, .int .i64 s2.e, .int .i64 s2.f] 23 (0, 0))) := ⟨by rw [← hW8, ← hb11]; exact blk_new w8 _⟩
          have N11 : Aside0 (¬ Fr b11) := ⟨fun h => by rw [← hb11] at h; have h1 := (B8.out.bnd.1 _ h).2; have h2 := HK8.out.1; omega⟩
          rw [hW8, hb11]
          clear hW8 hb11 HK8 HL8 HI8
          go_upto_region 15 with (first
            | (go_at_call 42; refine (ack8_some w0.heap.size gr Fr cl sent dn s2 _ (B8.out.kept X8.out (fun i hi hh => HDIS.out i hh hi)) (HT.out.below (L5.out.trans L8.out)) (L5.out.trans L8.out).size h0.out HA3.out HA1.out).mono ?_; rintro e w9 ⟨rfl, hI9, hK9, hL9⟩; have HI9 := Aside0.mk hI9; have HK9 := Aside0.mk hK9; have HL9 := Aside0.mk hL9; clear hI9 hK9 hL9))
          obtain ⟨W9, hW9⟩ : ∃ W, w9.alloc (.cells #[.int .i64 s2.a, .int .i64 s2.b, .int .i64 s2.c, .int .i64 s2.d, .int .i64 s2.e, .int .i64 s2.f] 23) = W := ⟨_, rfl⟩
          obtain ⟨b13, hb13⟩ : ∃ b, w9.heap.size = b := ⟨_, rfl⟩
          have X9 : Aside0 (Kept W8 W9 Fr) := ⟨by rw [← hW9]; exact HK9.out.alloc _⟩
          have L9 : Aside0 (Below w0.heap.size W8 W9) := ⟨by rw [← hW9]; exact HL9.out.trans (below_lo (below_alloc (Below.refl _ _) _) (Nat.le_trans (L5.out.trans L8.out).size HL9.out.size))⟩
          have I9 : Aside0 (IsB8 w0.heap.size W9 gr Fr cl sent (dn + 1)) := ⟨by rw [← hW9]; exact HI9.out.below (below_alloc (Below.refl _ _) _)⟩
          have V11' : Aside0 (W9.heap[b11]? = some (.cells #[.int .i64 s2.a, .int .i64 s2.b, .int .i64 s2.c, .int .i64 s2.d, .int .i64 s2.e, .int .i64 s2.f] 23 (0, 0))) := ⟨blk_kept V11.out X9.out N11.out⟩
          have V13 : Aside0 (W9.heap[b13]? = some (.cells #[.int .i64 s2.a, .int .i64 s2.b, .int .i64 s2.c, .int .i64 s2.d, .int .i64 s2.e, .int .i64 s2.f] 23 (0, 0))) := ⟨by rw [← hW9, ← hb13]; exact blk_new w9 _⟩
          rw [hW9, hb13]
          clear hW9 hb13 HK9 HL9 HI9
          have y0 : W9.cell? ⟨b11, 0, none⟩ = some (.int .i64 s2.a) := blk_cell V11'.out 0
          have y1 : W9.cell? ⟨b11, 1, none⟩ = some (.int .i64 s2.b) := blk_cell V11'.out 1
          have y2 : W9.cell? ⟨b11, 2, none⟩ = some (.int .i64 s2.c) := blk_cell V11'.out 2
          have y3 : W9.cell? ⟨b11, 3, none⟩ = some (.int .i64 s2.d) := blk_cell V11'.out 3
          have y4 : W9.cell? ⟨b11, 4, none⟩ = some (.int .i64 s2.e) := blk_cell V11'.out 4
          have y5 : W9.cell? ⟨b11, 5, none⟩ = some (.int .i64 s2.f) := blk_cell V11'.out 5
          have z0 : W9.cell? ⟨b13, 0, none⟩ = some (.int .i64 s2.a) := blk_cell V13.out 0
          have z1 : W9.cell? ⟨b13, 1, none⟩ = some (.int .i64 s2.b) := blk_cell V13.out 1
          have z2 : W9.cell? ⟨b13, 2, none⟩ = some (.int .i64 s2.c) := blk_cell V13.out 2
          have z3 : W9.cell? ⟨b13, 3, none⟩ = some (.int .i64 s2.d) := blk_cell V13.out 3
          have z4 : W9.cell? ⟨b13, 4, none⟩ = some (.int .i64 s2.e) := blk_cell V13.out 4
          have z5 : W9.cell? ⟨b13, 5, none⟩ = some (.int .i64 s2.f) := blk_cell V13.out 5
          have PN : Aside0 (Pair w0.heap.size W9 gb gr F cl (N + 1)) := ⟨Fb, Fr, sent, dn + 1, by rw [HA1.out, HA2.out]; exact I8.out.kept X9.out HDIS.out, I9.out, HDIS.out, HF.out, by have := HLEN.out; omega⟩
          go_wp2_with fail
          go_meet
          case rel => exact ⟨F, PN, ⟨fun k hk => .inl hk⟩, ⟨(KP5.out.then_ X8.out (fun k hk => .inl ((HF.out k).2 (.inl hk)))).then_ X9.out (fun k hk => .inl ((HF.out k).2 (.inr hk)))⟩, ⟨(L5.out.trans L8.out).trans L9.out⟩⟩
      · have h2b : (K == 2) = false := beq_eq_false_iff_ne.mpr h2
        have H2 := Aside0.mk h2
        clear h2
        go_wp2_with fail
        go_meet
        case rel => exact ⟨F, ⟨HP5.out.more (by omega)⟩, ⟨fun k hk => .inl hk⟩, KP5, L5⟩
  case rest =>
    clear HP5 KP5 L5 HX HP HLOW
    obtain ⟨G, HG, HG2, KG, LG⟩ := hcut
    obtain ⟨Fb, Fr, sent, dn, hB, h8, hdis, hF, hlen⟩ := HG.out
    obtain ⟨s, hs⟩ : ∃ s, ackedS cl (sent.take dn) = s := ⟨_, rfl⟩
    obtain ⟨qn, hqn⟩ : ∃ q, (sent.drop dn).length = q := ⟨_, rfl⟩
    have hqn2 : sent.length - dn = qn := by rw [← hqn, List.length_drop]
    rw [hs] at hB
    have BB := Aside0.mk hB
    have B8 := Aside0.mk h8
    have HS := Aside0.mk hs
    have HQ1 := Aside0.mk hqn
    have HQ2 := Aside0.mk hqn2
    clear hB h8 hdis hF hlen hs hqn hqn2
    go_wp2_with (first
      | (go_at_call 28; refine (acked_ex1 w0.heap.size gb Fb cl s (sent.drop dn) _ BB.out).mono ?_; rintro e w20 ⟨rfl, hb⟩; have HB20 := Aside0.mk hb; clear hb)
      | (go_at_call 29; refine (acked8_as w0.heap.size gr Fr cl sent dn s _ (B8.out.below HB20.out) (HT.out.below (below_then LG.out LG.out.size HB20.out)) HS.out).mono ?_; rintro e w21 ⟨rfl, hb⟩; have HB21 := Aside0.mk (below_then HB20.out HB20.out.size hb); clear hb)
      | (go_at_call 34; refine (waiting_as w0.heap.size gb Fb cl s (sent.drop dn) qn _ (BB.out.below HB21.out) HQ1.out).mono ?_; rintro e w22 ⟨rfl, hb⟩; have HB22 := Aside0.mk (below_then HB21.out HB21.out.size hb); clear hb)
      | (go_at_call 43; refine (waiting8_as w0.heap.size gr Fr cl sent dn qn _ (B8.out.below HB22.out) HQ2.out).mono ?_; rintro e w23 ⟨rfl, hb⟩; have HB23 := Aside0.mk (below_then HB22.out HB22.out.size hb); clear hb))
    go_ret
    exact ⟨rfl, G, HG.out.below HB23.out, HG2.out, KG.out.below HB23.out, below_then LG.out LG.out.size HB23.out⟩
end Go.Proofs.YtcjphkgmcfpfeaaDoor.MS
