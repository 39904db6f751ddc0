/- WindowPlays: the law, two windows and two documents over one script of calls, answers true. Condition: the script fits in memory (as in the statement). -/
import Derived.Test.YtbngliommdmnkaaMInv
import Derived.Test.YtbngliommdmnkaaQWindowSumsx0
import Derived.StillTailTactics
import Derived.BigQuiet
namespace Go.Proofs.Ytbngliommdmnkaa.MW
open Go Go.RowKit Go.Proofs.YtbngliommdmnkaaW.PrintWords Go.Proofs.YtbngliommdmnkaaW.PrintLast Go.Proofs.Ytbngliommdmnkaa.QWindowSums
set_option linter.unusedSimpArgs false
set_option linter.unusedVariables false
theorem bits_one (J : Int) : bits BinOp.and IntKind.i64 J 1 = 0 ∨ bits BinOp.and IntKind.i64 J 1 = 1 := by
  have h : (BitVec.ofInt 64 J &&& BitVec.ofInt 64 1).toNat = 0 ∨ (BitVec.ofInt 64 J &&& BitVec.ofInt 64 1).toNat = 1 := by
    have e : (BitVec.ofInt 64 1).toNat = 1 := by decide
    rw [BitVec.toNat_and, e, Nat.and_one_is_mod]; omega
  show IntKind.wrap .i64 (((BitVec.ofInt 64 J &&& BitVec.ofInt 64 1).toNat : Nat) : Int) = 0 ∨ IntKind.wrap .i64 (((BitVec.ofInt 64 J &&& BitVec.ofInt 64 1).toNat : Nat) : Int) = 1
  rcases h with h | h
  · left; rw [h]; decide
  · right; rw [h]; decide
theorem Main.start {w w1 w2 w3 w4 w5 : World} {c0 c1 d0 d1 : Nat} {y0 y1 : Int} (hb1 : Below w.heap.size w w1) (i0 : IsS42 w1 w2 c0 y0) (hb2 : Below w1.heap.size w1 w2) (i1 : IsS42 w2 w3 c1 y1) (hb3 : Below w2.heap.size w2 w3)
    (j0 : RefW (w3.alloc (.cells #[.pointer (some ⟨c0, 0, none⟩), .pointer (some ⟨c1, 0, none⟩)] 26)).heap.size w4 d0 y0 (.slice none 0 0) [])
    (hb4 : Below (w3.alloc (.cells #[.pointer (some ⟨c0, 0, none⟩), .pointer (some ⟨c1, 0, none⟩)] 26)).heap.size (w3.alloc (.cells #[.pointer (some ⟨c0, 0, none⟩), .pointer (some ⟨c1, 0, none⟩)] 26)) w4)
    (j1 : RefW w4.heap.size w5 d1 y1 (.slice none 0 0) []) (hb5 : Below w4.heap.size w4 w5) (r0 : InR y0) (r1 : InR y1) :
    Main w (w5.alloc (.cells #[.pointer (some ⟨d0, 0, none⟩), .pointer (some ⟨d1, 0, none⟩)] 29)) w3.heap.size w5.heap.size 0 := by
  have s1 := hb1.size
  have s2 := hb2.size
  have s3 := hb3.size
  have s4 := hb4.size
  have s5 := hb5.size
  have sa : (w3.alloc (.cells #[.pointer (some ⟨c0, 0, none⟩), .pointer (some ⟨c1, 0, none⟩)] 26)).heap.size = w3.heap.size + 1 := by simp
  have q0 := i0.2
  have q1 := i1.2
  have l0 := blk_lt i0.1
  have l1 := blk_lt i1.1
  have m0 := j0.ge
  have m1 := j1.ge
  have n0 := blk_lt j0.blk
  have n1 := blk_lt j1.blk
  have A7 := blk_alloc (blk_below (blk_below (blk_new w3 (.cells #[.pointer (some ⟨c0, 0, none⟩), .pointer (some ⟨c1, 0, none⟩)] 26)) hb4) hb5) (.cells #[.pointer (some ⟨d0, 0, none⟩), .pointer (some ⟨d1, 0, none⟩)] 29)
  have C0 := blk_alloc (blk_below (blk_below (blk_alloc (blk_below i0.1 hb3) (.cells #[.pointer (some ⟨c0, 0, none⟩), .pointer (some ⟨c1, 0, none⟩)] 26)) hb4) hb5) (.cells #[.pointer (some ⟨d0, 0, none⟩), .pointer (some ⟨d1, 0, none⟩)] 29)
  have C1 := blk_alloc (blk_below (blk_below (blk_alloc i1.1 (.cells #[.pointer (some ⟨c0, 0, none⟩), .pointer (some ⟨c1, 0, none⟩)] 26)) hb4) hb5) (.cells #[.pointer (some ⟨d0, 0, none⟩), .pointer (some ⟨d1, 0, none⟩)] 29)
  have D0 := blk_alloc (blk_below j0.blk hb5) (.cells #[.pointer (some ⟨d0, 0, none⟩), .pointer (some ⟨d1, 0, none⟩)] 29)
  have D1 := blk_alloc j1.blk (.cells #[.pointer (some ⟨d0, 0, none⟩), .pointer (some ⟨d1, 0, none⟩)] 29)
  have e2 := below_then hb1 (by omega) hb2
  have e3 := below_then e2 (by omega) hb3
  have e4 := below_then (below_alloc e3 (.cells #[.pointer (some ⟨c0, 0, none⟩), .pointer (some ⟨c1, 0, none⟩)] 26)) (by omega) hb4
  have e5 := below_then e4 (by omega) hb5
  exact ⟨c0, c1, d0, d1, y0, y1, y0, y1, .slice none 0 0, .slice none 0 0, [], [], A7, blk_new w5 (.cells #[.pointer (some ⟨d0, 0, none⟩), .pointer (some ⟨d1, 0, none⟩)] 29), by omega, by omega,
    ⟨⟨C0, by omega⟩, ⟨D0, by omega, own_nil _ _ _ _, by simp [Value.ownBlock]⟩, rfl, r0⟩, ⟨⟨C1, by omega⟩, ⟨D1, by omega, own_nil _ _ _ _, by simp [Value.ownBlock]⟩, rfl, r1⟩, by omega, by omega, .inl (by simp [Value.ownBlock]), by simp, by simp, below_alloc e5 _⟩
theorem Inv.qL0 {w0 W : World} {b7 b8 c0 c1 d0 d1 : Nat} {x0 x1 f0 f1 : Int} {v0 v1 : Value} {ms0 ms1 : List Int} {n : Nat} (h : Inv w0 W b7 b8 c0 c1 d0 d1 x0 x1 f0 f1 v0 v1 ms0 ms1 n) (k : Nat) :
    Calls Try.prog 12 #[.pointer (some ⟨c0, 0, none⟩)] (W.drewN k) fun e w' => e = .returned (.int .i64 x0) ∧ w' = W.drewN k :=
  (left_win w0 _ c0 x0 ((h.kept (pw_below_drewN (Below.refl _ _) _)).t0.win)).mono (fun _ _ h => ⟨h.1, h.2.symm⟩)
theorem Inv.qL1 {w0 W : World} {b7 b8 c0 c1 d0 d1 : Nat} {x0 x1 f0 f1 : Int} {v0 v1 : Value} {ms0 ms1 : List Int} {n : Nat} (h : Inv w0 W b7 b8 c0 c1 d0 d1 x0 x1 f0 f1 v0 v1 ms0 ms1 n) (k : Nat) :
    Calls Try.prog 12 #[.pointer (some ⟨c1, 0, none⟩)] (W.drewN k) fun e w' => e = .returned (.int .i64 x1) ∧ w' = W.drewN k :=
  (left_win w0 _ c1 x1 ((h.kept (pw_below_drewN (Below.refl _ _) _)).t1.win)).mono (fun _ _ h => ⟨h.1, h.2.symm⟩)
theorem Inv.qR0 {w0 W : World} {b7 b8 c0 c1 d0 d1 : Nat} {x0 x1 f0 f1 : Int} {v0 v1 : Value} {ms0 ms1 : List Int} {n : Nat} (h : Inv w0 W b7 b8 c0 c1 d0 d1 x0 x1 f0 f1 v0 v1 ms0 ms1 n) (k : Nat) :
    Calls Try.prog 13 #[.pointer (some ⟨d0, 0, none⟩)] (W.drewN k) fun e w' => e = .returned (.int .i64 x0) ∧ w' = W.drewN k :=
  (left_ref _ _ d0 _ _ _ ((h.kept (pw_below_drewN (Below.refl _ _) _)).t0.ref)).mono (fun _ _ g => ⟨by rw [← h.t0.eq]; exact g.1, g.2.symm⟩)
theorem Inv.qR1 {w0 W : World} {b7 b8 c0 c1 d0 d1 : Nat} {x0 x1 f0 f1 : Int} {v0 v1 : Value} {ms0 ms1 : List Int} {n : Nat} (h : Inv w0 W b7 b8 c0 c1 d0 d1 x0 x1 f0 f1 v0 v1 ms0 ms1 n) (k : Nat) :
    Calls Try.prog 13 #[.pointer (some ⟨d1, 0, none⟩)] (W.drewN k) fun e w' => e = .returned (.int .i64 x1) ∧ w' = W.drewN k :=
  (left_ref _ _ d1 _ _ _ ((h.kept (pw_below_drewN (Below.refl _ _) _)).t1.ref)).mono (fun _ _ g => ⟨by rw [← h.t1.eq]; exact g.1, g.2.symm⟩)
theorem first_true : heraldlaw09_first.f = some true := by decide +kernel
set_option maxHeartbeats 40000000 in
set_option maxRecDepth 100000 in
theorem main (a0 a1 : Int) (A2 : Option Addr) (c2 : Nat) (l : List S31) (w : World) (hr : Kd.C k31 w A2 l.length l) (hc : l.length ≤ c2) (hl : l.length * 24 ≤ 140737488351232) :
    Calls Try.prog 3 #[.int .i64 a0, .int .i64 a1, .slice A2 l.length c2] w fun e w' => e = .returned (.bool true) ∧ Below w.heap.size w w' := by
  have HR := Aside0.mk hr
  have HC := Aside0.mk hc
  have HB := Aside0.mk (Below.refl w.heap.size w)
  clear hr hc
  have hl63 : l.length ≤ 9223372036854775807 := by omega
  go_enter Try.func3, Try.ntmps3
  go_wp2_with (first
    | (go_at_call 8; refine (heraldlaw09_first.calls true _ first_true).mono ?_; rintro e w1 ⟨rfl, b⟩; have HB := Aside0.mk (below_then HB.out HB.out.size b); clear b)
    | (go_at_call 9; refine (window_New.calls a0 (clamp a0) _ _ (Below.refl _ _) (new_pure a0).1).mono ?_; rintro e w2 ⟨c0, rfl, i0, b, _⟩; have HI0 := Aside0.mk i0; have HB2 := Aside0.mk b; clear b i0)
    | (go_at_call 9; refine (window_New.calls a1 (clamp a1) _ _ (Below.refl _ _) (new_pure a1).1).mono ?_; rintro e w3 ⟨c1, rfl, i1, b, _⟩; have HI1 := Aside0.mk i1; have HB3 := Aside0.mk b; clear b i1)
    | (go_at_call 10; refine (new_ref _ _ a0 (Below.refl _ _)).mono ?_; rintro e w4 ⟨d0, rfl, j0, b, _, gd0⟩; have HJ0 := Aside0.mk j0; have HB4 := Aside0.mk b; have GD0 := Aside0.mk gd0; clear b j0 gd0)
    | (go_at_call 10; refine (new_ref _ _ a1 (Below.refl _ _)).mono ?_; rintro e w5 ⟨d1, rfl, j1, b, _, gd1⟩; have HJ1 := Aside0.mk j1; have HB5 := Aside0.mk b; have GD1 := Aside0.mk gd1; clear b j1 gd1))
  go_loopw [9] (fun i w' => ∃ k : Nat, k ≤ l.length ∧ i = .int .i64 k ∧ Main w w' w3.heap.size w5.heap.size k) (fun i _ => l.length - (intOf i).toNat)
  case atStart => exact ⟨0, Nat.zero_le _, rfl, Main.start HB.out HI0.out HB2.out HI1.out HB3.out HJ0.out HB4.out HJ1.out HB5.out (new_pure a0).2 (new_pure a1).2⟩
  case round =>
    obtain ⟨k, hk, rfl, hM⟩ := hrel
    obtain ⟨c0', c1', d0', d1', x0, x1, f0, f1, v0, v1, ms0, ms1, hI⟩ := hM
    have HI := Aside0.mk hI
    clear hI
    clear HI0 HB2 HI1 HB3 HJ0 HB4 GD0 HJ1 HB5 GD1
    have z70 := blk_cell HI.out.a7 0
    have z71 := blk_cell HI.out.a7 1
    have z80 := blk_cell HI.out.a8 0
    have z81 := blk_cell HI.out.a8 1
    by_cases hlt : k < l.length
    · have p122 : (0 : Int) ≤ k := by omega
      have q122 : (k : Int) < (l.length : Int) := by omega
      obtain ⟨ad, e122, y0, y1, y2⟩ := at_T31 HR.out k p122 q122
      cases e122
      replace y0 := (HI.out.below.cell (World.block_lt_of_cell? w _ y0)).trans y0
      replace y1 := (HI.out.below.cell (World.block_lt_of_cell? w _ y1)).trans y1
      replace y2 := (HI.out.below.cell (World.block_lt_of_cell? w _ y2)).trans y2
      obtain ⟨K, hK⟩ : ∃ K, (rd_T31 l (k : Int)).f0 = K := ⟨_, rfl⟩
      obtain ⟨J, hJ⟩ : ∃ J, (rd_T31 l (k : Int)).f1 = J := ⟨_, rfl⟩
      obtain ⟨N, hN⟩ : ∃ N, (rd_T31 l (k : Int)).f2 = N := ⟨_, rfl⟩
      simp only [Int.toNat_natCast] at y0 y1 y2
      rw [hK] at y0
      rw [hJ] at y1
      rw [hN] at y2
      clear hK hJ hN
      have hbl := blk_lt HI.out.a7
      obtain ⟨q, hq, hq2⟩ : ∃ q : Int, bits BinOp.and IntKind.i64 J 1 = q ∧ (q = 0 ∨ q = 1) := ⟨_, rfl, bits_one J⟩
      rcases hq2 with rfl | rfl
      · go_upto_if 39 with fail
        go_cut [11] from 40 to 49 (fun v11 wc => v11 = .int .i64 0 ∧ Aside0 (Main w wc w3.heap.size w5.heap.size k) ∧ Aside0 (wc.heap[wr.heap.size]? = some (.cells #[.int .i64 K, .int .i64 J, .int .i64 N] 31 (0, 0))))
        case first =>
          by_cases h0 : K = 0
          · subst h0
            have hbx := blk_lt HI.out.a8
            have HX := Aside0.mk (HI.out.kept (below_alloc (Below.refl _ _) (.cells #[.int .i64 0, .int .i64 J, .int .i64 N] 31)))
            have BX := Aside0.mk (blk_new wr (.cells #[.int .i64 0, .int .i64 J, .int .i64 N] 31))
            have n7 := Aside0.mk (blk_ne HX.out.a7 BX.out (by decide))
            have n8 := Aside0.mk (blk_ne HX.out.a8 BX.out (by decide))
            have n78 := Aside0.mk (blk_ne HX.out.a7 HX.out.a8 (by decide))
            go_wp2_with (first
              | (go_at_call 9; refine (window_New.calls N (clamp N) _ _ (Below.refl _ _) (new_pure N).1).mono ?_; rintro e w6 ⟨cN, rfl, i6, b6, _⟩; have HI6 := Aside0.mk i6; have HB6 := Aside0.mk b6; clear b6 i6; have HK := Aside0.mk (HX.out.kept HB6.out); have BX6 := Aside0.mk (blk_below BX.out HB6.out); have z70 := blk_cell HK.out.a7 0; have zf70 := blk_frozen HK.out.a7 0; have zb2 := blk_cell (blk_far BX6.out (p := ⟨w3.heap.size, 0, none⟩) (fun e => n7.out e.symm) (.pointer (some ⟨cN, 0, none⟩))) 2)
              | (go_at_call 10; refine (new_ref w _ N (HK.out.below.setCell HK.out.g7 _)).mono ?_; rintro e w8 ⟨dN, rfl, j8, b8, _, gd8⟩; have HJ8 := Aside0.mk j8; have HB8 := Aside0.mk b8; have GD8 := Aside0.mk gd8; clear j8 b8 gd8; have A8 := Aside0.mk (blk_below (blk_far HK.out.a8 (p := ⟨w3.heap.size, 0, none⟩) (fun e => n78.out e.symm) (.pointer (some ⟨cN, 0, none⟩))) HB8.out); have z80 := blk_cell A8.out 0; have zf80 := blk_frozen A8.out 0))
            go_meet
            case rel => exact ⟨rfl, ⟨HX.out.new0 HI6.out HB6.out HJ8.out HB8.out GD8.out (new_pure N).2⟩, ⟨blk_far (blk_below (blk_far BX6.out (p := ⟨w3.heap.size, 0, none⟩) (fun e => n7.out e.symm) _) HB8.out) (p := ⟨w5.heap.size, 0, none⟩) (fun e => n8.out e.symm) _⟩⟩
          · have h0' : (K == 0) = false := beq_eq_false_iff_ne.mpr h0
            go_wp2_with fail
            go_meet
            case rel => exact ⟨rfl, ⟨⟨_, _, _, _, _, _, _, _, _, _, _, _, HI.out.kept (below_alloc (Below.refl _ _) _)⟩⟩, ⟨blk_new wr _⟩⟩
        case rest =>
          obtain ⟨rfl, HM, BX⟩ := hcut
          clear HI z70 z71 z80 z81 y0 y1 y2
          obtain ⟨c0', c1', d0', d1', x0, x1, f0, f1, v0, v1, ms0, ms1, hI⟩ := HM.out
          have HI := Aside0.mk hI
          clear hI HM
          have z70 := blk_cell HI.out.a7 0
          have z71 := blk_cell HI.out.a7 1
          have z80 := blk_cell HI.out.a8 0
          have z81 := blk_cell HI.out.a8 1
          have zb0 := blk_cell BX.out 0
          have zb1 := blk_cell BX.out 1
          have zb2 := blk_cell BX.out 2
          go_upto_region 13 with fail
          go_still_tail 16, (by kernel_rfl)
          have HD := Aside0.mk (HI.out.kept (below_drew (Below.refl _ _)))
          have HLn : Aside0 ((ms0.length + 1) * 8 ≤ 140737488355328) := ⟨by have := HI.out.l0; omega⟩
          go_upto_region 15 with (first
            | (go_at_call 11; refine (plays_two w _ c0' d0' x0 f0 v0 ms0 K J N HD.out.t0 HD.out.below HLn.out).mono ?_; rintro e w7 ⟨rfl, hq⟩; obtain ⟨x7, v7, ms7, h7⟩ := HD.out.play0 hq; have H7 := Aside0.mk h7; clear h7 hq; have z70 := blk_cell H7.out.a7 0; have z71 := blk_cell H7.out.a7 1; have z80 := blk_cell H7.out.a8 0; have z81 := blk_cell H7.out.a8 1))
          have E0 := H7.out.t0.eq
          have E1 := H7.out.t1.eq
          go_quiet (first
            | (go_at_call 12; with_reducible exact Calls.quiet_of_same (H7.out.qL0 _))
            | (go_at_call 12; with_reducible exact Calls.quiet_of_same (H7.out.qL1 _))
            | (go_at_call 13; with_reducible exact Calls.quiet_of_same (H7.out.qR0 _))
            | (go_at_call 13; with_reducible exact Calls.quiet_of_same (H7.out.qR1 _)))
          go_wp2_with fail
          go_roundw
          case rel => exact ⟨k + 1, by omega, by go_num, ⟨_, _, _, _, _, _, _, _, _, _, _, _, H7.out.kept (pw_below_drewN (Below.refl _ _) _)⟩⟩
          case measure => simp [intOf]; omega
      · go_upto_if 39 with fail
        go_cut [11] from 40 to 49 (fun v11 wc => v11 = .int .i64 1 ∧ Aside0 (Main w wc w3.heap.size w5.heap.size k) ∧ Aside0 (wc.heap[wr.heap.size]? = some (.cells #[.int .i64 K, .int .i64 J, .int .i64 N] 31 (0, 0))))
        case first =>
          by_cases h0 : K = 0
          · subst h0
            have hbx := blk_lt HI.out.a8
            have HX := Aside0.mk (HI.out.kept (below_alloc (Below.refl _ _) (.cells #[.int .i64 0, .int .i64 J, .int .i64 N] 31)))
            have BX := Aside0.mk (blk_new wr (.cells #[.int .i64 0, .int .i64 J, .int .i64 N] 31))
            have n7 := Aside0.mk (blk_ne HX.out.a7 BX.out (by decide))
            have n8 := Aside0.mk (blk_ne HX.out.a8 BX.out (by decide))
            have n78 := Aside0.mk (blk_ne HX.out.a7 HX.out.a8 (by decide))
            go_wp2_with (first
              | (go_at_call 9; refine (window_New.calls N (clamp N) _ _ (Below.refl _ _) (new_pure N).1).mono ?_; rintro e w6 ⟨cN, rfl, i6, b6, _⟩; have HI6 := Aside0.mk i6; have HB6 := Aside0.mk b6; clear b6 i6; have HK := Aside0.mk (HX.out.kept HB6.out); have BX6 := Aside0.mk (blk_below BX.out HB6.out); have z71 := blk_cell HK.out.a7 1; have zf71 := blk_frozen HK.out.a7 1; have zb2 := blk_cell (blk_far BX6.out (p := ⟨w3.heap.size, 1, none⟩) (fun e => n7.out e.symm) (.pointer (some ⟨cN, 0, none⟩))) 2)
              | (go_at_call 10; refine (new_ref w _ N (HK.out.below.setCell HK.out.g7 _)).mono ?_; rintro e w8 ⟨dN, rfl, j8, b8, _, gd8⟩; have HJ8 := Aside0.mk j8; have HB8 := Aside0.mk b8; have GD8 := Aside0.mk gd8; clear j8 b8 gd8; have A8 := Aside0.mk (blk_below (blk_far HK.out.a8 (p := ⟨w3.heap.size, 1, none⟩) (fun e => n78.out e.symm) (.pointer (some ⟨cN, 0, none⟩))) HB8.out); have z81 := blk_cell A8.out 1; have zf81 := blk_frozen A8.out 1))
            go_meet
            case rel => exact ⟨rfl, ⟨HX.out.new1 HI6.out HB6.out HJ8.out HB8.out GD8.out (new_pure N).2⟩, ⟨blk_far (blk_below (blk_far BX6.out (p := ⟨w3.heap.size, 1, none⟩) (fun e => n7.out e.symm) _) HB8.out) (p := ⟨w5.heap.size, 1, none⟩) (fun e => n8.out e.symm) _⟩⟩
          · have h0' : (K == 0) = false := beq_eq_false_iff_ne.mpr h0
            go_wp2_with fail
            go_meet
            case rel => exact ⟨rfl, ⟨⟨_, _, _, _, _, _, _, _, _, _, _, _, HI.out.kept (below_alloc (Below.refl _ _) _)⟩⟩, ⟨blk_new wr _⟩⟩
        case rest =>
          obtain ⟨rfl, HM, BX⟩ := hcut
          clear HI z70 z71 z80 z81 y0 y1 y2
          obtain ⟨c0', c1', d0', d1', x0, x1, f0, f1, v0, v1, ms0, ms1, hI⟩ := HM.out
          have HI := Aside0.mk hI
          clear hI HM
          have z70 := blk_cell HI.out.a7 0
          have z71 := blk_cell HI.out.a7 1
          have z80 := blk_cell HI.out.a8 0
          have z81 := blk_cell HI.out.a8 1
          have zb0 := blk_cell BX.out 0
          have zb1 := blk_cell BX.out 1
          have zb2 := blk_cell BX.out 2
          go_upto_region 13 with fail
          go_still_tail 16, (by kernel_rfl)
          have HD := Aside0.mk (HI.out.kept (below_drew (Below.refl _ _)))
          have HLn : Aside0 ((ms1.length + 1) * 8 ≤ 140737488355328) := ⟨by have := HI.out.l1; omega⟩
          go_upto_region 15 with (first
            | (go_at_call 11; refine (plays_two w _ c1' d1' x1 f1 v1 ms1 K J N HD.out.t1 HD.out.below HLn.out).mono ?_; rintro e w7 ⟨rfl, hq⟩; obtain ⟨x7, v7, ms7, h7⟩ := HD.out.play1 hq; have H7 := Aside0.mk h7; clear h7 hq; have z70 := blk_cell H7.out.a7 0; have z71 := blk_cell H7.out.a7 1; have z80 := blk_cell H7.out.a8 0; have z81 := blk_cell H7.out.a8 1))
          have E0 := H7.out.t0.eq
          have E1 := H7.out.t1.eq
          go_quiet (first
            | (go_at_call 12; with_reducible exact Calls.quiet_of_same (H7.out.qL0 _))
            | (go_at_call 12; with_reducible exact Calls.quiet_of_same (H7.out.qL1 _))
            | (go_at_call 13; with_reducible exact Calls.quiet_of_same (H7.out.qR0 _))
            | (go_at_call 13; with_reducible exact Calls.quiet_of_same (H7.out.qR1 _)))
          go_wp2_with fail
          go_roundw
          case rel => exact ⟨k + 1, by omega, by go_num, ⟨_, _, _, _, _, _, _, _, _, _, _, _, H7.out.kept (pw_below_drewN (Below.refl _ _) _)⟩⟩
          case measure => simp [intOf]; omega
    · have hlt' : decide ((k : Int) < (l.length : Int)) = false := by simp; omega
      have E0 := HI.out.t0.eq
      have E1 := HI.out.t1.eq
      go_upto_region 17 with fail
      go_quiet (first
            | (go_at_call 12; with_reducible exact Calls.quiet_of_same (HI.out.qL0 _))
            | (go_at_call 12; with_reducible exact Calls.quiet_of_same (HI.out.qL1 _))
            | (go_at_call 13; with_reducible exact Calls.quiet_of_same (HI.out.qR0 _))
            | (go_at_call 13; with_reducible exact Calls.quiet_of_same (HI.out.qR1 _)))
      go_wp2_with fail
      go_ret
      exact ⟨by simp, pw_below_drewN HI.out.below _⟩

end Go.Proofs.Ytbngliommdmnkaa.MW
