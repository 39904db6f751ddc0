/- SharePlays: the whole script, over ReadyOk. The script is small. -/
import Derived.Test.YtedkjbdkokdgdaaMTwo
namespace Go.Proofs.Ytedkjbdkokdgdaa.Sh
open Go Go.RowKit Go.Proofs.YtedkjbdkokdgdaaW.PrintWords Go.Proofs.YtedkjbdkokdgdaaW.PrintLast Go.Proofs.YtedkjbdkokdgdaaW.PrintMore Go.Proofs.Ytedkjbdkokdgdaa.QL
set_option linter.unusedSimpArgs false
set_option linter.unusedVariables false
set_option maxHeartbeats 6000000
set_option maxRecDepth 100000
theorem blk_of_cell {w : World} {p : Addr} {k : Nat} {u : Value} (h : w.cell? (p.add k) = some u) : p.block < w.heap.size := by
  have hb : (p.add k).block = p.block := by unfold Addr.add; split <;> rfl
  rw [← hb]
  unfold World.cell? at h
  by_cases hl : (p.add k).block < w.heap.size
  · exact hl
  · rw [Array.getElem?_eq_none (by omega)] at h
    simp at h
theorem splays_calls (hready : ReadyOk) (A : Option Addr) (c : Nat) (l : List S37) (w : World) (hl : l.length ≤ 1048576) (hC : Kd.C k37 w A l.length l) (ht : ∀ x ∈ l, x.f3.size ≤ 1048576 ∧ W64 x.f2 ∧ x.f8.length ≤ 1048576) :
    Calls Try.prog 4 #[.slice A l.length c] w fun e w' => e = .returned (.bool true) ∧ Below w.heap.size w w' := by
  have HRD := Aside0.mk hready
  have HL := Aside0.mk hl
  have HC := Aside0.mk hC
  have HT := Aside0.mk ht
  clear hready hl hC ht
  go_enter Try.func4, Try.ntmps4
  go_upto_region 3 with (go_at_call 10; refine (first_calls _).mono ?_; rintro e w0 ⟨rfl, hb⟩; have L0 := Aside0.mk hb; clear hb)
  go_upto_region 4 with (first
    | (go_at_call 12; refine (new_calls _).mono ?_; rintro e w2 ⟨p1, a1, rfl, hS, hp, hm, hb⟩; have SA2 := Aside0.mk (SA1.out.low hb); have SB2 : Aside0 (ShAt w2 p1 a1 0 m0) := ⟨hS⟩; have L2 := Aside0.mk (below_then L1.out L1.out.size hb); have HA1 : Aside0 (a0 < a1) := ⟨Nat.lt_of_lt_of_le SA1.out.mq.lt hm⟩; clear hS hp hm hb)
    | (go_at_call 12; refine (new_calls _).mono ?_; rintro e w1 ⟨p0, a0, rfl, hS, hp, hm, hb⟩; have SA1 : Aside0 (ShAt w1 p0 a0 0 m0) := ⟨hS⟩; have L1 := Aside0.mk (below_then L0.out L0.out.size hb); have HA0 : Aside0 (w.heap.size ≤ a0) := ⟨Nat.le_trans L0.out.size hm⟩; clear hS hp hm hb))
  obtain ⟨W3, hW⟩ : ∃ W, w2.alloc (.cells #[.pointer (some ⟨p0, 0, none⟩), .pointer (some ⟨p1, 0, none⟩)] 31) = W := ⟨_, rfl⟩
  obtain ⟨gs, hg⟩ : ∃ g, w2.heap.size = g := ⟨_, rfl⟩
  have hb : Below w2.heap.size w2 W3 := by rw [← hW]; exact below_alloc (Below.refl _ _) _
  have XS3 : Aside0 (W3.heap[gs]? = some (.cells #[.pointer (some ⟨p0, 0, none⟩), .pointer (some ⟨p1, 0, none⟩)] 31 (0, 0))) := ⟨by rw [← hW, ← hg]; exact blk_new _ _⟩
  have SA3 := Aside0.mk (SA2.out.low hb)
  have SB3 := Aside0.mk (SB2.out.low hb)
  have L3 := Aside0.mk (below_then L2.out L2.out.size hb)
  rw [hW, hg]
  clear hW hg hb SA1 SA2 SB2 L0 L1 L2
  go_upto_region 5 with (first
    | (go_at_call 13; refine (newd_calls _ w.heap.size L4.out.size).mono ?_; rintro e w5 ⟨q1, rfl, hD, hq, hb⟩; have DA5 := Aside0.mk (DA4.out.low hb); have DB5 := Aside0.mk hD; have SA5 := Aside0.mk (SA4.out.low hb); have SB5 := Aside0.mk (SB4.out.low hb); have XS5 := Aside0.mk (blk_below XS4.out hb); have L5 := Aside0.mk (below_then L4.out L4.out.size hb); have HQ1 : Aside0 (q0 < q1 ∧ w.heap.size ≤ q1) := ⟨Nat.lt_of_lt_of_le (blk_lt DA4.out.blk) hq, Nat.le_trans L4.out.size hq⟩; clear hD hq hb)
    | (go_at_call 13; refine (newd_calls _ w.heap.size L3.out.size).mono ?_; rintro e w4 ⟨q0, rfl, hD, hq, hb⟩; have DA4 := Aside0.mk hD; have SA4 := Aside0.mk (SA3.out.low hb); have SB4 := Aside0.mk (SB3.out.low hb); have XS4 := Aside0.mk (blk_below XS3.out hb); have L4 := Aside0.mk (below_then L3.out L3.out.size hb); have HQ0 : Aside0 (w.heap.size ≤ q0) := ⟨Nat.le_trans L3.out.size hq⟩; clear hD hq hb))
  obtain ⟨W6, hW⟩ : ∃ W, w5.alloc (.cells #[.pointer (some ⟨q0, 0, none⟩), .pointer (some ⟨q1, 0, none⟩)] 34) = W := ⟨_, rfl⟩
  obtain ⟨gr, hg⟩ : ∃ g, w5.heap.size = g := ⟨_, rfl⟩
  have hb : Below w5.heap.size w5 W6 := by rw [← hW]; exact below_alloc (Below.refl _ _) _
  have XR6 : Aside0 (W6.heap[gr]? = some (.cells #[.pointer (some ⟨q0, 0, none⟩), .pointer (some ⟨q1, 0, none⟩)] 34 (0, 0))) := ⟨by rw [← hW, ← hg]; exact blk_new _ _⟩
  have XS6 := Aside0.mk (blk_below XS5.out hb)
  have T6 : Aside0 (Two W6 p0 a0 q0 p1 a1 q1 0 w.heap.size (.slice none 0 0) [] m0 (.slice none 0 0) [] m0) := ⟨⟨⟨SA5.out.low hb, DA5.out.low hb, DR.empty⟩, ⟨SB5.out.low hb, DB5.out.low hb, DR.empty⟩, by have := HA1.out; omega, by have := HQ1.out; omega, fun g h => by cases h⟩⟩
  have L6 := Aside0.mk (below_then L5.out L5.out.size hb)
  rw [hW, hg]
  clear hW hg hb SA3 SB3 SA4 SB4 SA5 SB5 DA4 DA5 DB5 XS3 XS4 XS5 L3 L4 L5
  have s0 := blk_cell XS6.out 0
  have s1 := blk_cell XS6.out 1
  go_upto_if 8 with fail
  clear s0 s1
  go_loopw [5] (fun v w' => ∃ (i : Nat) (v0 : Value) (D0 : List S72) (m0 : Int → Qu) (v1 : Value) (D1 : List S72) (m1 : Int → Qu), v = .int .i64 (i : Int) ∧ Aside0 (i ≤ l.length) ∧ Aside0 (Two w' p0 a0 q0 p1 a1 q1 i w.heap.size v0 D0 m0 v1 D1 m1) ∧ Aside0 (D0.length ≤ i ∧ D1.length ≤ i) ∧ Aside0 ((∀ z, (m0 z).t.size ≤ i * 1048576) ∧ (∀ z, (m1 z).t.size ≤ i * 1048576)) ∧ Aside0 (w'.heap[gs]? = some (.cells #[.pointer (some ⟨p0, 0, none⟩), .pointer (some ⟨p1, 0, none⟩)] 31 (0, 0))) ∧ Aside0 (w'.heap[gr]? = some (.cells #[.pointer (some ⟨q0, 0, none⟩), .pointer (some ⟨q1, 0, none⟩)] 34 (0, 0))) ∧ Aside0 (Below w.heap.size w w')) (fun v _ => ((l.length : Int) - intOf v).toNat)
  case atStart => exact ⟨0, _, _, _, _, _, _, rfl, ⟨Nat.zero_le _⟩, T6, ⟨Nat.le_refl _, Nat.le_refl _⟩, ⟨fun z => Nat.le_of_eq (show ByteArray.empty.size = _ from rfl), fun z => Nat.le_of_eq (show ByteArray.empty.size = _ from rfl)⟩, XS6, XR6, L6⟩
  case round =>
    clear T6 XS6 XR6 L6
    obtain ⟨i, v0, D0, m0', v1, D1, m1', rfl, HI, TT, HDL, HZ, XS, XR, L1⟩ := hrel
    by_cases hil : i < l.length
    · have d1 : decide ((i : Int) < (l.length : Int)) = true := decide_eq_true (by omega)
      have d2 : decide (i < l.length) = true := decide_eq_true hil
      have hw1 : wrap64 ((i : Int) + 1) = ((i + 1 : Nat) : Int) := by have := HL.out; unfold wrap64; omega
      have HM : Aside0 (i < l.length) := ⟨hil⟩
      have r0 : (0 : Int) ≤ (i : Int) := by omega
      have r1 : (i : Int) < (l.length : Int) := by omega
      obtain ⟨x, hx⟩ : ∃ x, rd_T37 l (i : Int) = x := ⟨_, rfl⟩
      have HX : Aside0 (x.f3.size ≤ 1048576 ∧ W64 x.f2 ∧ x.f8.length ≤ 1048576) := ⟨by
        have hmem : x ∈ l := by
          rw [← hx]
          unfold rd_T37
          rw [Int.toNat_natCast, List.getD_eq_getElem?_getD, List.getElem?_eq_getElem hil]
          exact List.getElem_mem hil
        exact HT.out x hmem⟩
      obtain ⟨ad, A8, c8, hA, x0, x1, x2, x3, x4, x5, x6, x7, x8, h8, hC8⟩ := at_T37 (Kd.C_below HC.out L1.out) (i : Int) r0 r1
      rw [Int.toNat_natCast, hx] at x0 x1 x2 x3 x4 x5 x6 x7 x8
      rw [hx] at h8 hC8
      subst hA
      have H8 := Aside0.mk h8
      have HC8 := Aside0.mk hC8
      clear hx hil h8 hC8
      obtain ⟨y, hy⟩ : ∃ y, Go.bits .and .i64 x.f1 1 = y := ⟨_, rfl⟩
      have HY : Aside0 (y = 0 ∨ y = 1) := ⟨by have := and_le x.f1 1 (by decide); rw [show ((1 : Nat) : Int) = 1 from rfl, hy] at this; omega⟩
      go_upto_region 11 with fail
      try rw [hy]
      clear hy
      have s0 := blk_cell XS.out 0
      have s1 := blk_cell XS.out 1
      have t0 := blk_cell XR.out 0
      have t1 := blk_cell XR.out 1
      rcases HY.out with rfl | rfl
      · refine start_ (n := 12) (S := fun w' => w'.cell? ⟨gs, 0, none⟩ = some (.pointer (some ⟨p0, 0, none⟩)) ∧ w'.cell? ⟨gr, 0, none⟩ = some (.pointer (some ⟨q0, 0, none⟩)) ∧ w'.cell? (ad.add (i * 9)) = some (.int .i64 x.f0) ∧ w'.cell? ⟨(ad.add (i * 9)).block, (ad.add (i * 9)).off + 1, none⟩ = some (.int .i64 x.f1) ∧ w'.cell? ⟨(ad.add (i * 9)).block, (ad.add (i * 9)).off + 2, none⟩ = some (.int .i64 x.f2) ∧ w'.cell? ⟨(ad.add (i * 9)).block, (ad.add (i * 9)).off + 3, none⟩ = some (.string x.f3) ∧ w'.cell? ⟨(ad.add (i * 9)).block, (ad.add (i * 9)).off + 4, none⟩ = some (.bool x.f4) ∧ w'.cell? ⟨(ad.add (i * 9)).block, (ad.add (i * 9)).off + 5, none⟩ = some (.int .i64 x.f5) ∧ w'.cell? ⟨(ad.add (i * 9)).block, (ad.add (i * 9)).off + 6, none⟩ = some (.int .i64 x.f6) ∧ w'.cell? ⟨(ad.add (i * 9)).block, (ad.add (i * 9)).off + 7, none⟩ = some (.int .i64 x.f7) ∧ w'.cell? ⟨(ad.add (i * 9)).block, (ad.add (i * 9)).off + 8, none⟩ = some (.slice A8 x.f8.length c8) ∧ Below wr.heap.size wr w') (ds := [10]) #[false, false, false, false, false, false, false, false, false, false, false, false] (by kernel_rfl) rfl rfl ⟨s0, t0, x0, x1, x2, x3, x4, x5, x6, x7, x8, (below_drew (Below.refl _ _))⟩ (fun hHeld => ?_)
        refine pure_ (i := 0) (N := some 37) (v := ?_) (a' := ?_) #[true, false, false, false, false, false, false, false, false, false, false, false] rfl rfl (by kernel_rfl) (fun _ _ _ h => h) (Or.inl ⟨by rfl, ?_⟩) ?_ ?_
        rotate_left
        · intro w'
          go_simp
          with_reducible rfl
        rotate_left
        · simp only [Act.put, List.setIfInBounds_toArray, List.set_cons_zero, List.set_cons_succ, i64_w, i32_w]
          rfl
        refine pure_ (i := 1) (N := some 38) (v := ?_) (a' := ?_) #[true, true, false, false, false, false, false, false, false, false, false, false] rfl rfl (by kernel_rfl) (fun _ _ _ h => h) (Or.inl ⟨by rfl, ?_⟩) ?_ ?_
        rotate_left
        · intro w'
          go_simp
          with_reducible rfl
        rotate_left
        · simp only [Act.put, List.setIfInBounds_toArray, List.set_cons_zero, List.set_cons_succ, i64_w, i32_w]
          rfl
        refine pure_ (i := 3) (N := some 40) (v := ?_) (a' := ?_) #[true, true, false, true, false, false, false, false, false, false, false, false] rfl rfl (by kernel_rfl) (fun _ _ _ h => h) (Or.inl ⟨by rfl, ?_⟩) ?_ ?_
        rotate_left
        · intro w'
          go_simp
          with_reducible rfl
        rotate_left
        · simp only [Act.put, List.setIfInBounds_toArray, List.set_cons_zero, List.set_cons_succ, i64_w, i32_w]
          rfl
        refine pure_ (i := 4) (N := some 41) (v := ?_) (a' := ?_) #[true, true, false, true, true, false, false, false, false, false, false, false] rfl rfl (by kernel_rfl) (fun _ _ _ h => h) (Or.inl ⟨by rfl, ?_⟩) ?_ ?_
        rotate_left
        · intro w'
          go_simp
          with_reducible rfl
        rotate_left
        · simp only [Act.put, List.setIfInBounds_toArray, List.set_cons_zero, List.set_cons_succ, i64_w, i32_w]
          rfl
        refine pure_ (i := 6) (N := some 43) (v := ?_) (a' := ?_) #[true, true, false, true, true, false, true, false, false, false, false, false] rfl rfl (by kernel_rfl) (fun _ _ _ h => h) (Or.inl ⟨by rfl, ?_⟩) ?_ ?_
        rotate_left
        · intro w'
          go_simp
          with_reducible rfl
        rotate_left
        · simp only [Act.put, List.setIfInBounds_toArray, List.set_cons_zero, List.set_cons_succ, i64_w, i32_w]
          rfl
        refine pure_ (i := 7) (N := some 44) (v := ?_) (a' := ?_) #[true, true, false, true, true, false, true, true, false, false, false, false] rfl rfl (by kernel_rfl) (fun _ _ _ h => h) (Or.inl ⟨by rfl, ?_⟩) ?_ ?_
        rotate_left
        · intro w'
          go_simp
          with_reducible rfl
        rotate_left
        · simp only [Act.put, List.setIfInBounds_toArray, List.set_cons_zero, List.set_cons_succ, i64_w, i32_w]
          rfl
        refine pure_ (i := 8) (N := some 45) (v := ?_) (a' := ?_) #[true, true, false, true, true, false, true, true, true, false, false, false] rfl rfl (by kernel_rfl) (fun _ _ _ h => h) (Or.inl ⟨by rfl, ?_⟩) ?_ ?_
        rotate_left
        · intro w'
          go_simp
          with_reducible rfl
        rotate_left
        · simp only [Act.put, List.setIfInBounds_toArray, List.set_cons_zero, List.set_cons_succ, i64_w, i32_w]
          rfl
        refine take_ (i := 2) (N := some 39) (v := ?_) (a' := ?_) #[true, true, true, true, true, false, true, true, true, false, false, false] rfl rfl (by kernel_rfl) (fun _ _ _ h => h) (Or.inl ⟨by rfl, ?_⟩) hHeld ?_ ?_
        rotate_left
        · rintro w' ⟨s0, s1, s2, s3, s4, s5, s6, s7, s8, s9, s10, s11⟩
          go_simp
          with_reducible rfl
        rotate_left
        · simp only [Act.put, List.setIfInBounds_toArray, List.set_cons_zero, List.set_cons_succ, i64_w, i32_w]
          rfl
        refine take_ (i := 5) (N := some 42) (v := ?_) (a' := ?_) #[true, true, true, true, true, true, true, true, true, false, false, false] rfl rfl (by kernel_rfl) (fun _ _ _ h => h) (Or.inl ⟨by rfl, ?_⟩) hHeld ?_ ?_
        rotate_left
        · rintro w' ⟨s0, s1, s2, s3, s4, s5, s6, s7, s8, s9, s10, s11⟩
          go_simp
          with_reducible rfl
        rotate_left
        · simp only [Act.put, List.setIfInBounds_toArray, List.set_cons_zero, List.set_cons_succ, i64_w, i32_w]
          rfl
        refine take_ (i := 9) (N := some 46) (v := ?_) (a' := ?_) #[true, true, true, true, true, true, true, true, true, true, false, false] rfl rfl (by kernel_rfl) (fun _ _ _ h => h) (Or.inl ⟨by rfl, ?_⟩) hHeld ?_ ?_
        rotate_left
        · rintro w' ⟨s0, s1, s2, s3, s4, s5, s6, s7, s8, s9, s10, s11⟩
          go_simp
          with_reducible rfl
        rotate_left
        · simp only [Act.put, List.setIfInBounds_toArray, List.set_cons_zero, List.set_cons_succ, i64_w, i32_w]
          rfl
        refine last_ (i := 10) (N := some 47) #[true, true, true, true, true, true, true, true, true, true, true, false] rfl rfl (by kernel_rfl) (by decide) (fun K hK => ?_)
        refine goes_ Try.func14 (by kernel_rfl) rfl #[.pointer (some ⟨p0, 0, none⟩), .pointer (some ⟨q0, 0, none⟩), .agg #[.int .i64 x.f0, .int .i64 x.f1, .int .i64 x.f2, .string x.f3, .bool x.f4, .int .i64 x.f5, .int .i64 x.f6, .int .i64 x.f7, .slice A8 x.f8.length c8]] (by rfl) rfl rfl (by simp only [List.map_toArray, List.map_cons, List.map_nil]; rfl) ?_
        with_reducible refine (plays_calls HRD.out p0 a0 i q0 w.heap.size v0 D0 m0' x A8 c8 _ (TT.out.low hHeld.2.2.2.2.2.2.2.2.2.2.2).b0 (Nat.le_trans L1.out.size hHeld.2.2.2.2.2.2.2.2.2.2.2.size) (by have := HI.out; have := HL.out; omega) (by have := HDL.out; have := HI.out; have := HL.out; omega) (fun z => by have := HZ.out.1 z; have := HI.out; have := HL.out; omega) HX.out.1 HX.out.2.1 HX.out.2.2 H8.out (Kd.C_below HC8.out hHeld.2.2.2.2.2.2.2.2.2.2.2)).mono ?_
        rintro e w7 ⟨rfl, hP⟩
        refine ⟨_, rfl, ?_⟩
        have TB := Aside0.mk (TT.out.low hHeld.2.2.2.2.2.2.2.2.2.2.2)
        have LB := Aside0.mk hHeld.2.2.2.2.2.2.2.2.2.2.2
        have P7 := Aside0.mk hP
        clear hP
        refine hK.out _ _ ?_
        clear hK K
        refine norm_ (a' := ?_) ?_ ?_
        rotate_left
        · show Act.put _ (some 47) _ = _
          simp only [Act.put, List.setIfInBounds_toArray, List.set_cons_zero, List.set_cons_succ, i64_w, i32_w]
          rfl
        refine pure_ (i := 11) (N := some 48) (v := ?_) (a' := ?_) #[true, true, true, true, true, true, true, true, true, true, true, true] rfl rfl (by kernel_rfl) (fun _ _ _ h => h) (Or.inl ⟨by rfl, ?_⟩) ?_ ?_
        rotate_left
        · intro w'
          go_simp
          with_reducible rfl
        rotate_left
        · simp only [Act.put, List.setIfInBounds_toArray, List.set_cons_zero, List.set_cons_succ, i64_w, i32_w]
          rfl
        refine done_ (by kernel_rfl) ?_
        obtain ⟨v', D', hT2, hD2, hF2⟩ := TB.out.step (Nat.le_succ i) P7.out
        have T8 : Aside0 (Two w7 p0 a0 q0 p1 a1 q1 (i + 1) w.heap.size v' D' (stepM m0' x) v1 D1 m1') := ⟨hT2⟩
        have XS8 := Aside0.mk (TB.out.blk hF2 (blk_below XS.out LB.out) (by decide) (by decide))
        have XR8 := Aside0.mk (TB.out.blk hF2 (blk_below XR.out LB.out) (by decide) (by decide))
        have L8 := Aside0.mk (TB.out.below hF2 HA0.out HQ0.out (below_then L1.out L1.out.size LB.out) (Nat.le_trans L1.out.size LB.out.size))
        have HD8 : Aside0 (D'.length ≤ i + 1 ∧ D1.length ≤ i + 1) := ⟨by have := HDL.out; exact ⟨Nat.le_trans hD2 (by omega), by omega⟩⟩
        have HZA : Aside0 (∀ z, (stepM m0' x z).t.size ≤ (i + 1) * 1048576) := ⟨stepM_size m0' x (i * 1048576) _ HZ.out.1 (by have := HX.out.1; omega)⟩
        have HZB : Aside0 (∀ z, (m1' z).t.size ≤ (i + 1) * 1048576) := ⟨fun z => Nat.le_trans (HZ.out.2 z) (Nat.mul_le_mul_right _ (Nat.le_succ i))⟩
        clear hT2 hD2 hF2
        go_wp2_with fail
        go_roundw
        case rel => exact ⟨i + 1, _, _, _, _, _, _, congrArg (Value.int .i64) hw1, ⟨by have := HM.out; omega⟩, T8, HD8, ⟨HZA.out, HZB.out⟩, XS8, XR8, L8⟩
        case measure =>
          rw [hw1]
          show ((l.length : Int) - ((i + 1 : Nat) : Int)).toNat < ((l.length : Int) - (i : Int)).toNat
          have := HM.out
          omega
      · refine start_ (n := 12) (S := fun w' => w'.cell? ⟨gs, 1, none⟩ = some (.pointer (some ⟨p1, 0, none⟩)) ∧ w'.cell? ⟨gr, 1, none⟩ = some (.pointer (some ⟨q1, 0, none⟩)) ∧ w'.cell? (ad.add (i * 9)) = some (.int .i64 x.f0) ∧ w'.cell? ⟨(ad.add (i * 9)).block, (ad.add (i * 9)).off + 1, none⟩ = some (.int .i64 x.f1) ∧ w'.cell? ⟨(ad.add (i * 9)).block, (ad.add (i * 9)).off + 2, none⟩ = some (.int .i64 x.f2) ∧ w'.cell? ⟨(ad.add (i * 9)).block, (ad.add (i * 9)).off + 3, none⟩ = some (.string x.f3) ∧ w'.cell? ⟨(ad.add (i * 9)).block, (ad.add (i * 9)).off + 4, none⟩ = some (.bool x.f4) ∧ w'.cell? ⟨(ad.add (i * 9)).block, (ad.add (i * 9)).off + 5, none⟩ = some (.int .i64 x.f5) ∧ w'.cell? ⟨(ad.add (i * 9)).block, (ad.add (i * 9)).off + 6, none⟩ = some (.int .i64 x.f6) ∧ w'.cell? ⟨(ad.add (i * 9)).block, (ad.add (i * 9)).off + 7, none⟩ = some (.int .i64 x.f7) ∧ w'.cell? ⟨(ad.add (i * 9)).block, (ad.add (i * 9)).off + 8, none⟩ = some (.slice A8 x.f8.length c8) ∧ Below wr.heap.size wr w') (ds := [10]) #[false, false, false, false, false, false, false, false, false, false, false, false] (by kernel_rfl) rfl rfl ⟨s1, t1, x0, x1, x2, x3, x4, x5, x6, x7, x8, (below_drew (Below.refl _ _))⟩ (fun hHeld => ?_)
        refine pure_ (i := 0) (N := some 37) (v := ?_) (a' := ?_) #[true, false, false, false, false, false, false, false, false, false, false, false] rfl rfl (by kernel_rfl) (fun _ _ _ h => h) (Or.inl ⟨by rfl, ?_⟩) ?_ ?_
        rotate_left
        · intro w'
          go_simp
          with_reducible rfl
        rotate_left
        · simp only [Act.put, List.setIfInBounds_toArray, List.set_cons_zero, List.set_cons_succ, i64_w, i32_w]
          rfl
        refine pure_ (i := 1) (N := some 38) (v := ?_) (a' := ?_) #[true, true, false, false, false, false, false, false, false, false, false, false] rfl rfl (by kernel_rfl) (fun _ _ _ h => h) (Or.inl ⟨by rfl, ?_⟩) ?_ ?_
        rotate_left
        · intro w'
          go_simp
          with_reducible rfl
        rotate_left
        · simp only [Act.put, List.setIfInBounds_toArray, List.set_cons_zero, List.set_cons_succ, i64_w, i32_w]
          rfl
        refine pure_ (i := 3) (N := some 40) (v := ?_) (a' := ?_) #[true, true, false, true, false, false, false, false, false, false, false, false] rfl rfl (by kernel_rfl) (fun _ _ _ h => h) (Or.inl ⟨by rfl, ?_⟩) ?_ ?_
        rotate_left
        · intro w'
          go_simp
          with_reducible rfl
        rotate_left
        · simp only [Act.put, List.setIfInBounds_toArray, List.set_cons_zero, List.set_cons_succ, i64_w, i32_w]
          rfl
        refine pure_ (i := 4) (N := some 41) (v := ?_) (a' := ?_) #[true, true, false, true, true, false, false, false, false, false, false, false] rfl rfl (by kernel_rfl) (fun _ _ _ h => h) (Or.inl ⟨by rfl, ?_⟩) ?_ ?_
        rotate_left
        · intro w'
          go_simp
          with_reducible rfl
        rotate_left
        · simp only [Act.put, List.setIfInBounds_toArray, List.set_cons_zero, List.set_cons_succ, i64_w, i32_w]
          rfl
        refine pure_ (i := 6) (N := some 43) (v := ?_) (a' := ?_) #[true, true, false, true, true, false, true, false, false, false, false, false] rfl rfl (by kernel_rfl) (fun _ _ _ h => h) (Or.inl ⟨by rfl, ?_⟩) ?_ ?_
        rotate_left
        · intro w'
          go_simp
          with_reducible rfl
        rotate_left
        · simp only [Act.put, List.setIfInBounds_toArray, List.set_cons_zero, List.set_cons_succ, i64_w, i32_w]
          rfl
        refine pure_ (i := 7) (N := some 44) (v := ?_) (a' := ?_) #[true, true, false, true, true, false, true, true, false, false, false, false] rfl rfl (by kernel_rfl) (fun _ _ _ h => h) (Or.inl ⟨by rfl, ?_⟩) ?_ ?_
        rotate_left
        · intro w'
          go_simp
          with_reducible rfl
        rotate_left
        · simp only [Act.put, List.setIfInBounds_toArray, List.set_cons_zero, List.set_cons_succ, i64_w, i32_w]
          rfl
        refine pure_ (i := 8) (N := some 45) (v := ?_) (a' := ?_) #[true, true, false, true, true, false, true, true, true, false, false, false] rfl rfl (by kernel_rfl) (fun _ _ _ h => h) (Or.inl ⟨by rfl, ?_⟩) ?_ ?_
        rotate_left
        · intro w'
          go_simp
          with_reducible rfl
        rotate_left
        · simp only [Act.put, List.setIfInBounds_toArray, List.set_cons_zero, List.set_cons_succ, i64_w, i32_w]
          rfl
        refine take_ (i := 2) (N := some 39) (v := ?_) (a' := ?_) #[true, true, true, true, true, false, true, true, true, false, false, false] rfl rfl (by kernel_rfl) (fun _ _ _ h => h) (Or.inl ⟨by rfl, ?_⟩) hHeld ?_ ?_
        rotate_left
        · rintro w' ⟨s0, s1, s2, s3, s4, s5, s6, s7, s8, s9, s10, s11⟩
          go_simp
          with_reducible rfl
        rotate_left
        · simp only [Act.put, List.setIfInBounds_toArray, List.set_cons_zero, List.set_cons_succ, i64_w, i32_w]
          rfl
        refine take_ (i := 5) (N := some 42) (v := ?_) (a' := ?_) #[true, true, true, true, true, true, true, true, true, false, false, false] rfl rfl (by kernel_rfl) (fun _ _ _ h => h) (Or.inl ⟨by rfl, ?_⟩) hHeld ?_ ?_
        rotate_left
        · rintro w' ⟨s0, s1, s2, s3, s4, s5, s6, s7, s8, s9, s10, s11⟩
          go_simp
          with_reducible rfl
        rotate_left
        · simp only [Act.put, List.setIfInBounds_toArray, List.set_cons_zero, List.set_cons_succ, i64_w, i32_w]
          rfl
        refine take_ (i := 9) (N := some 46) (v := ?_) (a' := ?_) #[true, true, true, true, true, true, true, true, true, true, false, false] rfl rfl (by kernel_rfl) (fun _ _ _ h => h) (Or.inl ⟨by rfl, ?_⟩) hHeld ?_ ?_
        rotate_left
        · rintro w' ⟨s0, s1, s2, s3, s4, s5, s6, s7, s8, s9, s10, s11⟩
          go_simp
          with_reducible rfl
        rotate_left
        · simp only [Act.put, List.setIfInBounds_toArray, List.set_cons_zero, List.set_cons_succ, i64_w, i32_w]
          rfl
        refine last_ (i := 10) (N := some 47) #[true, true, true, true, true, true, true, true, true, true, true, false] rfl rfl (by kernel_rfl) (by decide) (fun K hK => ?_)
        refine goes_ Try.func14 (by kernel_rfl) rfl #[.pointer (some ⟨p1, 0, none⟩), .pointer (some ⟨q1, 0, none⟩), .agg #[.int .i64 x.f0, .int .i64 x.f1, .int .i64 x.f2, .string x.f3, .bool x.f4, .int .i64 x.f5, .int .i64 x.f6, .int .i64 x.f7, .slice A8 x.f8.length c8]] (by rfl) rfl rfl (by simp only [List.map_toArray, List.map_cons, List.map_nil]; rfl) ?_
        with_reducible refine (plays_calls HRD.out p1 a1 i q1 w.heap.size v1 D1 m1' x A8 c8 _ (TT.out.low hHeld.2.2.2.2.2.2.2.2.2.2.2).swap.b0 (Nat.le_trans L1.out.size hHeld.2.2.2.2.2.2.2.2.2.2.2.size) (by have := HI.out; have := HL.out; omega) (by have := HDL.out; have := HI.out; have := HL.out; omega) (fun z => by have := HZ.out.2 z; have := HI.out; have := HL.out; omega) HX.out.1 HX.out.2.1 HX.out.2.2 H8.out (Kd.C_below HC8.out hHeld.2.2.2.2.2.2.2.2.2.2.2)).mono ?_
        rintro e w7 ⟨rfl, hP⟩
        refine ⟨_, rfl, ?_⟩
        have TB := Aside0.mk (TT.out.low hHeld.2.2.2.2.2.2.2.2.2.2.2).swap
        have LB := Aside0.mk hHeld.2.2.2.2.2.2.2.2.2.2.2
        have P7 := Aside0.mk hP
        clear hP
        refine hK.out _ _ ?_
        clear hK K
        refine norm_ (a' := ?_) ?_ ?_
        rotate_left
        · show Act.put _ (some 47) _ = _
          simp only [Act.put, List.setIfInBounds_toArray, List.set_cons_zero, List.set_cons_succ, i64_w, i32_w]
          rfl
        refine pure_ (i := 11) (N := some 48) (v := ?_) (a' := ?_) #[true, true, true, true, true, true, true, true, true, true, true, true] rfl rfl (by kernel_rfl) (fun _ _ _ h => h) (Or.inl ⟨by rfl, ?_⟩) ?_ ?_
        rotate_left
        · intro w'
          go_simp
          with_reducible rfl
        rotate_left
        · simp only [Act.put, List.setIfInBounds_toArray, List.set_cons_zero, List.set_cons_succ, i64_w, i32_w]
          rfl
        refine done_ (by kernel_rfl) ?_
        obtain ⟨v', D', hT2, hD2, hF2⟩ := TB.out.step (Nat.le_succ i) P7.out
        have T8 : Aside0 (Two w7 p0 a0 q0 p1 a1 q1 (i + 1) w.heap.size v0 D0 m0' v' D' (stepM m1' x)) := ⟨hT2.swap⟩
        have XS8 := Aside0.mk (TB.out.blk hF2 (blk_below XS.out LB.out) (by decide) (by decide))
        have XR8 := Aside0.mk (TB.out.blk hF2 (blk_below XR.out LB.out) (by decide) (by decide))
        have L8 := Aside0.mk (TB.out.below hF2 (by have := HA0.out; have := HA1.out; omega) HQ1.out.2 (below_then L1.out L1.out.size LB.out) (Nat.le_trans L1.out.size LB.out.size))
        have HD8 : Aside0 (D0.length ≤ i + 1 ∧ D'.length ≤ i + 1) := ⟨by have := HDL.out; exact ⟨by omega, Nat.le_trans hD2 (by omega)⟩⟩
        have HZA : Aside0 (∀ z, (stepM m1' x z).t.size ≤ (i + 1) * 1048576) := ⟨stepM_size m1' x (i * 1048576) _ HZ.out.2 (by have := HX.out.1; omega)⟩
        have HZB : Aside0 (∀ z, (m0' z).t.size ≤ (i + 1) * 1048576) := ⟨fun z => Nat.le_trans (HZ.out.1 z) (Nat.mul_le_mul_right _ (Nat.le_succ i))⟩
        clear hT2 hD2 hF2
        go_wp2_with fail
        go_roundw
        case rel => exact ⟨i + 1, _, _, _, _, _, _, congrArg (Value.int .i64) hw1, ⟨by have := HM.out; omega⟩, T8, HD8, ⟨HZB.out, HZA.out⟩, XS8, XR8, L8⟩
        case measure =>
          rw [hw1]
          show ((l.length : Int) - ((i + 1 : Nat) : Int)).toNat < ((l.length : Int) - (i : Int)).toNat
          have := HM.out
          omega
    · have d1 : decide ((i : Int) < (l.length : Int)) = false := decide_eq_false (by omega)
      have d2 : decide (i < l.length) = false := decide_eq_false hil
      obtain rfl : i = l.length := by have := HI.out; omega
      clear hil
      go_upto_if 14 with fail
      clear d1 d2
      go_loopw [7] (fun v w' => ∃ (j : Nat) (v0 : Value) (D0 : List S72) (v1 : Value) (D1 : List S72), v = .int .i64 (j : Int) ∧ Aside0 (j ≤ l.length) ∧ Aside0 (Two w' p0 a0 q0 p1 a1 q1 (l.length + 2 * j) w.heap.size v0 D0 m0' v1 D1 m1') ∧ Aside0 (D0.length ≤ l.length + j ∧ D1.length ≤ l.length + j) ∧ Aside0 (w'.heap[gs]? = some (.cells #[.pointer (some ⟨p0, 0, none⟩), .pointer (some ⟨p1, 0, none⟩)] 31 (0, 0))) ∧ Aside0 (w'.heap[gr]? = some (.cells #[.pointer (some ⟨q0, 0, none⟩), .pointer (some ⟨q1, 0, none⟩)] 34 (0, 0))) ∧ Aside0 (Below w.heap.size w w')) (fun v _ => ((l.length : Int) - intOf v).toNat)
      case atStart => exact ⟨0, _, _, _, _, rfl, ⟨Nat.zero_le _⟩, TT, HDL, XS, XR, L1⟩
      case round =>
        clear TT HDL XS XR L1 HI
        obtain ⟨j, v0, D0, v1, D1, rfl, HI, TT, HDL, XS, XR, L1⟩ := hrel
        by_cases hil : j < l.length
        · have d1 : decide ((j : Int) < (l.length : Int)) = true := decide_eq_true (by omega)
          have d2 : decide (j < l.length) = true := decide_eq_true hil
          have hw1 : wrap64 ((j : Int) + 1) = ((j + 1 : Nat) : Int) := by have := HL.out; unfold wrap64; omega
          have HM : Aside0 (j < l.length) := ⟨hil⟩
          have r0 : (0 : Int) ≤ (j : Int) := by omega
          have r1 : (j : Int) < (l.length : Int) := by omega
          obtain ⟨x, hx⟩ : ∃ x, rd_T37 l (j : Int) = x := ⟨_, rfl⟩
          have HX : Aside0 (x.f3.size ≤ 1048576 ∧ W64 x.f2 ∧ x.f8.length ≤ 1048576) := ⟨by
            have hmem : x ∈ l := by
              rw [← hx]
              unfold rd_T37
              rw [Int.toNat_natCast, List.getD_eq_getElem?_getD, List.getElem?_eq_getElem hil]
              exact List.getElem_mem hil
            exact HT.out x hmem⟩
          obtain ⟨ad, A8, c8, hA, x0, x1, x2, x3, x4, x5, x6, x7, x8, h8, hC8⟩ := at_T37 HC.out (j : Int) r0 r1
          rw [Int.toNat_natCast, hx] at x0 x1 x2 x3 x4 x5 x6 x7 x8
          rw [hx] at h8 hC8
          subst hA
          have hlt : ad.block < w.heap.size := blk_of_cell x0
          have hcell : ∀ p : Addr, p.block = ad.block → wr.cell? p = w.cell? p := fun p hp => Below.cell L1.out (by rw [hp]; exact hlt)
          have hab : (ad.add (j * 9)).block = ad.block := by unfold Addr.add; split <;> rfl
          rw [← hcell _ hab] at x0
          rw [← hcell _ (show (⟨(ad.add (j * 9)).block, _, none⟩ : Addr).block = ad.block from hab)] at x1
          rw [← hcell _ (show (⟨(ad.add (j * 9)).block, _, none⟩ : Addr).block = ad.block from hab)] at x2
          rw [← hcell _ (show (⟨(ad.add (j * 9)).block, _, none⟩ : Addr).block = ad.block from hab)] at x3
          rw [← hcell _ (show (⟨(ad.add (j * 9)).block, _, none⟩ : Addr).block = ad.block from hab)] at x4
          rw [← hcell _ (show (⟨(ad.add (j * 9)).block, _, none⟩ : Addr).block = ad.block from hab)] at x5
          rw [← hcell _ (show (⟨(ad.add (j * 9)).block, _, none⟩ : Addr).block = ad.block from hab)] at x6
          rw [← hcell _ (show (⟨(ad.add (j * 9)).block, _, none⟩ : Addr).block = ad.block from hab)] at x7
          rw [← hcell _ (show (⟨(ad.add (j * 9)).block, _, none⟩ : Addr).block = ad.block from hab)] at x8
          clear hlt hcell hab
          have H8 := Aside0.mk h8
          have HC8 := Aside0.mk hC8
          clear hx hil h8 hC8
          go_upto_region 17 with fail
          clear x0 x1 x2 x3 x4 x5 x6 x7 x8 d1 d2 r0 r1
          obtain ⟨W2, hW⟩ : ∃ W, wr.alloc (.cells #[.int .i64 x.f0, .int .i64 x.f1, .int .i64 x.f2, .string x.f3, .bool x.f4, .int .i64 x.f5, .int .i64 x.f6, .int .i64 x.f7, .slice A8 x.f8.length c8] 37) = W := ⟨_, rfl⟩
          obtain ⟨g, hg⟩ : ∃ g, wr.heap.size = g := ⟨_, rfl⟩
          have X2 : Aside0 (W2.heap[g]? = some (.cells #[.int .i64 x.f0, .int .i64 x.f1, .int .i64 x.f2, .string x.f3, .bool x.f4, .int .i64 x.f5, .int .i64 x.f6, .int .i64 x.f7, .slice A8 x.f8.length c8] 37 (0, 0))) := ⟨by rw [← hW, ← hg]; exact blk_new _ _⟩
          have B2 : Aside0 (Below wr.heap.size wr W2) := ⟨by rw [← hW]; exact below_alloc (Below.refl _ _) _⟩
          have HG : Aside0 (wr.heap.size ≤ g) := ⟨by omega⟩
          rw [hW, hg]
          clear hW hg
          have y0 := blk_cell X2.out 0
          have y1 := blk_frozen X2.out 0
          go_upto_region 18 with fail
          clear y0 y1
          generalize hWn : World.setCell _ _ _ = Wn
          have X3 : Aside0 (Wn.heap[g]? = some (.cells #[.int .i64 3, .int .i64 x.f1, .int .i64 x.f2, .string x.f3, .bool x.f4, .int .i64 x.f5, .int .i64 x.f6, .int .i64 x.f7, .slice A8 x.f8.length c8] 37 (0, 0))) := ⟨by rw [← hWn]; exact blk_put X2.out 0 _ rfl⟩
          have B3 : Aside0 (Below wr.heap.size wr Wn) := ⟨by rw [← hWn]; exact B2.out.setCell HG.out _⟩
          clear hWn
          obtain ⟨x9, hx9⟩ : ∃ x9 : S37, (⟨3, x.f1, x.f2, x.f3, x.f4, x.f5, x.f6, x.f7, x.f8⟩ : S37) = x9 := ⟨_, rfl⟩
          have HS0 : Aside0 (∀ m, stepM m x9 = m) := ⟨fun m => by rw [← hx9]; rfl⟩
          have T3 := Aside0.mk (TT.out.low B3.out)
          have L3 := Aside0.mk (below_then L1.out L1.out.size B3.out)
          have XS3 := Aside0.mk (blk_below XS.out B3.out)
          have XR3 := Aside0.mk (blk_below XR.out B3.out)
          have C3 := Aside0.mk (Kd.C_below HC8.out L3.out)
          clear TT L1 XS XR
          have s0 := blk_cell XS3.out 0
          have t0 := blk_cell XR3.out 0
          have x0 := blk_cell X3.out 0
          have x1 := blk_cell X3.out 1
          have x2 := blk_cell X3.out 2
          have x3 := blk_cell X3.out 3
          have x4 := blk_cell X3.out 4
          have x5 := blk_cell X3.out 5
          have x6 := blk_cell X3.out 6
          have x7 := blk_cell X3.out 7
          have x8 := blk_cell X3.out 8
          have HP0 : Aside0 (∀ (w1 : World) (v : Value) (D : List S72), Both w1 p0 a0 (l.length + 2 * j) q0 w.heap.size v D m0' → w.heap.size ≤ w1.heap.size → D.length ≤ l.length + j → Kd.C k50 w1 A8 x.f8.length x.f8 → Calls Try.prog 14 #[.pointer (some ⟨p0, 0, none⟩), .pointer (some ⟨q0, 0, none⟩), .agg #[.int .i64 3, .int .i64 x.f1, .int .i64 x.f2, .string x.f3, .bool x.f4, .int .i64 x.f5, .int .i64 x.f6, .int .i64 x.f7, .slice A8 x.f8.length c8]] w1 fun e w' => e = .returned (.bool true) ∧ StepPost w1 w' p0 a0 (l.length + 2 * j + 1) q0 w.heap.size v (D.length + 1) m0') := ⟨fun w1 v D hb hs hd hc => by
            have h := plays_calls HRD.out p0 a0 (l.length + 2 * j) q0 w.heap.size v D m0' x9 A8 c8 w1 hb hs (by have := HM.out; have := HL.out; omega) (by have := HM.out; have := HL.out; omega) (fun z => by have := HZ.out.1 z; have := HL.out; omega) (by rw [← hx9]; exact HX.out.1) (by rw [← hx9]; exact HX.out.2.1) (by rw [← hx9]; exact HX.out.2.2) (by rw [← hx9]; exact H8.out) (by rw [← hx9]; exact hc)
            rw [HS0.out] at h
            rw [← hx9] at h
            exact h⟩
          have HP1 : Aside0 (∀ (w1 : World) (v : Value) (D : List S72), Both w1 p1 a1 (l.length + 2 * j + 1) q1 w.heap.size v D m1' → w.heap.size ≤ w1.heap.size → D.length ≤ l.length + j → Kd.C k50 w1 A8 x.f8.length x.f8 → Calls Try.prog 14 #[.pointer (some ⟨p1, 0, none⟩), .pointer (some ⟨q1, 0, none⟩), .agg #[.int .i64 3, .int .i64 x.f1, .int .i64 x.f2, .string x.f3, .bool x.f4, .int .i64 x.f5, .int .i64 x.f6, .int .i64 x.f7, .slice A8 x.f8.length c8]] w1 fun e w' => e = .returned (.bool true) ∧ StepPost w1 w' p1 a1 (l.length + 2 * j + 1 + 1) q1 w.heap.size v (D.length + 1) m1') := ⟨fun w1 v D hb hs hd hc => by
            have h := plays_calls HRD.out p1 a1 (l.length + 2 * j + 1) q1 w.heap.size v D m1' x9 A8 c8 w1 hb hs (by have := HM.out; have := HL.out; omega) (by have := HM.out; have := HL.out; omega) (fun z => by have := HZ.out.2 z; have := HL.out; omega) (by rw [← hx9]; exact HX.out.1) (by rw [← hx9]; exact HX.out.2.1) (by rw [← hx9]; exact HX.out.2.2) (by rw [← hx9]; exact H8.out) (by rw [← hx9]; exact hc)
            rw [HS0.out] at h
            rw [← hx9] at h
            exact h⟩
          clear hx9
          go_wp2_with fail
          refine Calls.mono (HP0.out Wn v0 D0 T3.out.b0 L3.out.size HDL.out.1 C3.out) ?_
          rintro e w7 ⟨rfl, hP⟩
          obtain ⟨v0', D0', hT, hD, hF⟩ := T3.out.step (n' := l.length + 2 * j + 1) (Nat.le_succ _) hP
          have T7 := Aside0.mk hT
          have D7 := Aside0.mk hD
          have XS7 := Aside0.mk (T3.out.blk hF XS3.out (by decide) (by decide))
          have XR7 := Aside0.mk (T3.out.blk hF XR3.out (by decide) (by decide))
          have X7 := Aside0.mk (T3.out.blk hF X3.out (by decide) (by decide))
          have L7 := Aside0.mk (T3.out.below hF HA0.out HQ0.out L3.out L3.out.size)
          have s1 := blk_cell XS7.out 1
          have t1 := blk_cell XR7.out 1
          clear x0 x1 x2 x3 x4 x5 x6 x7 x8 s0 t0 hP hT hD hF
          have u0 := blk_cell X7.out 0
          have u1 := blk_cell X7.out 1
          have u2 := blk_cell X7.out 2
          have u3 := blk_cell X7.out 3
          have u4 := blk_cell X7.out 4
          have u5 := blk_cell X7.out 5
          have u6 := blk_cell X7.out 6
          have u7 := blk_cell X7.out 7
          have u8 := blk_cell X7.out 8
          go_wp2_with fail
          refine Calls.mono (HP1.out w7 v1 D1 T7.out.b1 L7.out.size HDL.out.2 (Kd.C_below HC8.out L7.out)) ?_
          rintro e w8 ⟨rfl, hP⟩
          obtain ⟨v1', D1', hT, hD, hF⟩ := T7.out.swap.step (n' := l.length + 2 * j + 1 + 1) (Nat.le_succ _) hP
          have T8 := Aside0.mk hT.swap
          have D8 := Aside0.mk (And.intro D7.out hD)
          have XS8 := Aside0.mk (T7.out.swap.blk hF XS7.out (by decide) (by decide))
          have XR8 := Aside0.mk (T7.out.swap.blk hF XR7.out (by decide) (by decide))
          have L8 := Aside0.mk (T7.out.swap.below hF (by have := HA0.out; have := HA1.out; omega) HQ1.out.2 L7.out L7.out.size)
          have T9 : Aside0 (Two w8 p0 a0 q0 p1 a1 q1 (l.length + 2 * (j + 1)) w.heap.size v0' D0' m0' v1' D1' m1') := ⟨by rw [show l.length + 2 * (j + 1) = l.length + 2 * j + 1 + 1 by omega]; exact T8.out⟩
          have D9 : Aside0 (D0'.length ≤ l.length + (j + 1) ∧ D1'.length ≤ l.length + (j + 1)) := ⟨by have := HDL.out; have := D8.out; exact ⟨by omega, by omega⟩⟩
          clear u0 u1 u2 u3 u4 u5 u6 u7 u8 s1 t1 hP hT hD hF
          go_wp2_with fail
          go_roundw
          case rel => exact ⟨j + 1, _, _, _, _, congrArg (Value.int .i64) hw1, ⟨by have := HM.out; omega⟩, T9, D9, XS8, XR8, L8⟩
          case measure =>
            rw [hw1]
            show ((l.length : Int) - ((j + 1 : Nat) : Int)).toNat < ((l.length : Int) - (j : Int)).toNat
            have := HM.out
            omega
        · have d1 : decide ((j : Int) < (l.length : Int)) = false := decide_eq_false (by omega)
          have d2 : decide (j < l.length) = false := decide_eq_false hil
          clear hil
          go_wp2_with fail
          go_ret
          exact ⟨rfl, L1.out⟩
end Go.Proofs.Ytedkjbdkokdgdaa.Sh
