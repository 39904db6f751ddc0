/- StreamsBirths: always true. The package's variables hold what the program lays; the script's numbers are numbers. -/
import Derived.Test.YtagkncjdohljgaaDoorMBirthA
import Derived.Test.YtagkncjdohljgaaDoorMApart
import Derived.BigQuiet
import Derived.Deep.DeepCutAuto
import Derived.Deep.CutBlock
namespace Go.Proofs.YtagkncjdohljgaaDoor.St
open Go Go.RowKit Go.Proofs.YtagkncjdohljgaaDoorW.PrintWords Go.Proofs.YtagkncjdohljgaaDoorW.PrintLast Go.Proofs.YtagkncjdohljgaaDoorW.PrintMore Go.Proofs.YtagkncjdohljgaaDoor.QL
set_option linter.unusedSimpArgs false
set_option linter.unusedVariables false
set_option maxHeartbeats 6000000
set_option maxRecDepth 100000
theorem births_calls (A : Option Addr) (c : Nat) (cl : Bool) (l : List S30) (w : World) (hG : GL w) (hC : Kd.C k30 w A l.length l) (ht : ∀ x ∈ l, W64 x.f1) :
    Calls Tryd.prog 4 #[.bool cl, .slice A l.length c] w fun e w' => e = .returned (.bool true) ∧ Below w.heap.size w w' := by
  have HG := Aside0.mk hG
  have HC := Aside0.mk hC
  have HT := Aside0.mk ht
  have HL : Aside0 (l.length ≤ 9223372036854775807) := ⟨hC.2.1⟩
  clear hG hC ht
  go_enter Tryd.func4, Tryd.ntmps4
  go_upto_region 2 with (go_at_call 8; refine (new_calls _ cl w.heap.size (Nat.le_refl _)).mono ?_; rintro e w1 ⟨p, S, rfl, hT, hS, hb⟩; have A1 := Aside0.mk hT; have L1 := Aside0.mk hb; clear hT hS hb)
  go_upto_region 4 with (go_at_call 9; refine (first_calls _ (HG.out.below L1.out)).mono ?_; rintro e w2 ⟨rfl, hb⟩; have A2 := Aside0.mk (A1.out.low hb); have L2 := Aside0.mk (below_then L1.out L1.out.size hb); clear hb)
  clear A1 L1
  go_upto_region 6 with fail
  obtain ⟨W3, hW3⟩ : ∃ W, w2.alloc (.cells #[.int .i64 0, .int .i64 0] 45) = W := ⟨_, rfl⟩
  obtain ⟨gt, hgt⟩ : ∃ g, w2.heap.size = g := ⟨_, rfl⟩
  have E3 : Aside0 (BW w W3 (fun k => k = gt) S p (Tb.new cl) (.slice none 0 0) []) := ⟨by
    have h : BW w w2 (fun _ => False) S p (Tb.new cl) (.slice none 0 0) [] := ⟨A2.out, L2.out, fun _ e => e.elim, fun _ e => e.elim, Kd.R_nil _ _ _ _ _⟩
    rw [← hW3]
    exact (h.add _ hgt).mono (fun k hk => Or.inr hk)⟩
  have B3 : Aside0 (W3.heap[gt]? = some (.cells #[.int .i64 (Tb.new cl).l0, .int .i64 (Tb.new cl).l1] 45 (0, 0))) := ⟨by rw [← hW3, ← hgt]; exact blk_new _ _⟩
  rw [hW3, hgt]
  clear hW3 hgt A2 L2
  go_upto_if 37 with fail
  go_loopw [6, 8] (fun v6 v8 w' => ∃ (k : Nat) (S : Nat → Prop) (T : Tb) (L : List Int), v8 = .int .i64 (k : Int) ∧ Aside0 (k ≤ l.length) ∧ Aside0 (BW w w' (fun k => k = gt) S p T v6 L) ∧ Aside0 (Born T L ∧ T.cl = cl) ∧ Aside0 (w'.heap[gt]? = some (.cells #[.int .i64 T.l0, .int .i64 T.l1] 45 (0, 0)))) (fun _ v _ => ((l.length : Int) - intOf v).toNat)
  case atStart => exact ⟨0, S, _, [], rfl, ⟨Nat.zero_le _⟩, E3, ⟨Born.new cl, rfl⟩, B3⟩
  case round =>
    clear E3 B3
    obtain ⟨k, S, T, L, rfl, HK, E1, BN, B1⟩ := hrel
    by_cases hk : k < l.length
    · have d1 : decide ((k : Int) < (l.length : Int)) = true := decide_eq_true (by omega)
      have d2 : decide (k < l.length) = true := decide_eq_true hk
      have hw1 : wrap64 ((k : Int) + 1) = ((k + 1 : Nat) : Int) := by have := HL.out; unfold wrap64; omega
      have q0 : (0 : Int) ≤ (k : Int) := by omega
      have q1 : (k : Int) < (l.length : Int) := by omega
      have HKM := Aside0.mk hk
      obtain ⟨ad, rfl, y0, y1, y2, y3⟩ := at_T30 (Kd.C_below HC.out E1.out.be) (k : Int) q0 q1
      rw [Int.toNat_natCast] at y0 y1 y2 y3
      obtain ⟨y, hy⟩ : ∃ y, rd_T30 l (k : Int) = y := ⟨_, rfl⟩
      rw [hy] at y0 y1 y2 y3
      have hw : W64 y.f1 := by rw [← hy, rd30_get hk]; exact HT.out _ (List.getElem_mem hk)
      obtain ⟨two, sid, sgot, sk⟩ := y
      have HW := Aside0.mk hw
      clear hy hk hw
      go_upto_region 10 with fail
      obtain ⟨W4, hW4⟩ : ∃ W, wr.alloc (.cells #[.bool two, .int .i64 sid, .bool sgot, .int .i64 sk] 30) = W := ⟨_, rfl⟩
      obtain ⟨gx, hgx⟩ : ∃ g, wr.heap.size = g := ⟨_, rfl⟩
      have HOK := Aside0.mk E1.out.ta.ok
      have E4 : Aside0 (BW w W4 (fun k => k = gt ∨ k = gx) S p T u6 L) := ⟨by rw [← hW4]; exact E1.out.add _ hgx⟩
      have X4 : Aside0 (W4.heap[gx]? = some (.cells #[.bool two, .int .i64 sid, .bool sgot, .int .i64 sk] 30 (0, 0))) := ⟨by rw [← hW4, ← hgx]; exact blk_new _ _⟩
      have B4 : Aside0 (W4.heap[gt]? = some (.cells #[.int .i64 T.l0, .int .i64 T.l1] 45 (0, 0))) := ⟨by rw [← hW4]; exact blk_below B1.out (below_alloc (Below.refl _ _) _)⟩
      rw [hW4, hgx]
      clear hW4 hgx y0 y1 y2 y3 E1 B1
      have b0 : W4.cell? ⟨gx, 0, none⟩ = some (.bool two) := blk_cell X4.out 0
      have b1 : W4.cell? ⟨gx, 1, none⟩ = some (.int .i64 sid) := blk_cell X4.out 1
      have b2 : W4.cell? ⟨gx, 2, none⟩ = some (.bool sgot) := blk_cell X4.out 2
      have b3 : W4.cell? ⟨gx, 3, none⟩ = some (.int .i64 sk) := blk_cell X4.out 3
      obtain ⟨s0, hs0⟩ : ∃ s, T.stt sid = s := ⟨_, rfl⟩
      have HS0 := Aside0.mk hs0
      obtain ⟨T', hT'⟩ : ∃ X, (T.act sid sgot sk).2 = X := ⟨_, rfl⟩
      have HT' := Aside0.mk hT'
      obtain ⟨s1, hs1⟩ : ∃ s, T'.stt sid = s := ⟨_, rfl⟩
      have HS1 := Aside0.mk hs1
      clear hs0 hT' hs1
      go_upto_region 11 with (go_at_call 13; refine (state_calls w.heap.size S p T sid _ E4.out.ta HW.out).mono ?_; rintro e w5 ⟨rfl, rfl⟩; rw [HS0.out])
      go_upto_region 12 with (go_at_call 11; refine (done_calls w.heap.size S p T two sid sgot sk _ E4.out.ta (HG.out.below E4.out.be) HW.out).mono ?_; rintro e w6 ⟨rfl, hP⟩; rw [HT'.out] at hP; have HP := Aside0.mk hP; clear hP)
      obtain ⟨S', hE, hk⟩ := E4.out.act HP.out
      have E6 := Aside0.mk hE
      have B6 := Aside0.mk (hk gt _ (Or.inl rfl) B4.out)
      have X6 := Aside0.mk (hk gx _ (Or.inr rfl) X4.out)
      clear hE hk HP E4 b0 b1 b2 b3 X4
      have b1 : w6.cell? ⟨gx, 1, none⟩ = some (.int .i64 sid) := blk_cell X6.out 1
      go_upto_region 13 with (go_at_call 13; refine (state_calls w.heap.size S' p T' sid _ E6.out.ta HW.out).mono ?_; rintro e w7 ⟨rfl, rfl⟩; rw [HS1.out])
      clear b1 B4
      obtain ⟨bt, hbt⟩ : ∃ b, ((s0 == 0) && (s1 != 0)) = b := ⟨_, rfl⟩
      have HBT := Aside0.mk hbt
      clear hbt
      go_cut [60] from 55 to 59 (fun v wc => v = .bool bt ∧ Aside0 (wc = w6))
      case first =>
        by_cases hz : s0 = 0
        · have z0 : (s0 == 0) = true := beq_iff_eq.mpr hz
          have HV : Aside0 ((s1 != 0) = bt) := ⟨by rw [← HBT.out, z0, Bool.true_and]⟩
          clear hz
          go_wp2_with fail
          go_meet
          case rel => exact ⟨by rw [HV.out], ⟨rfl⟩⟩
        · have z0 : (s0 == 0) = false := beq_eq_false_iff_ne.mpr hz
          have HV : Aside0 (false = bt) := ⟨by rw [← HBT.out, z0, Bool.false_and]⟩
          clear hz
          go_wp2_with fail
          go_meet
          case rel => exact ⟨by rw [HV.out], ⟨rfl⟩⟩
      case rest =>
        obtain ⟨rfl, HWC⟩ := hcut
        rw [HWC.out]
        clear HWC
        rename_i K13 hk13
        refine hk13 _ _ ?_
        clear hk13 K13
        go_cut [6, 12, 13] from 61 to 123 (fun v6 v12 v13 wc => Aside0 (∃ L', BW w wc (fun k => k = gt ∨ k = gx) S' p T' v6 L' ∧ Born T' L' ∧ wc.heap[gt]? = some (.cells #[.int .i64 T'.l0, .int .i64 T'.l1] 45 (0, 0)) ∧ wc.heap[gx]? = some (.cells #[.bool two, .int .i64 sid, .bool sgot, .int .i64 sk] 30 (0, 0))))
        case first =>
          rcases act_cases HOK.out sid sgot sk with e | ⟨x, y, hy, e, h1, _⟩ | ⟨x, hn, hI, h0, hlt, e, h1, h6, hk3, hgv⟩
          · rw [HT'.out] at e
            subst e
            have e01 : s1 = s0 := HS1.out.symm.trans HS0.out
            subst e01
            obtain rfl : bt = false := by
              rw [← HBT.out]
              by_cases hz : s1 = 0
              · simp [hz]
              · simp [hz]
            go_wp2_with fail
            go_meet
            case rel => exact ⟨L, E6.out, BN.out.1, B6.out, X6.out⟩
          · have hz : s0 ≠ 0 := by have h2 := stt_some HOK.out hy; have h3 := (HOK.out.at_ sid y hy).2.2.1; rw [HS0.out] at h2; omega
            obtain rfl : bt = false := by rw [← HBT.out]; simp [hz]
            rw [HT'.out] at e
            have HBN : Aside0 (Born T' L) := ⟨by rw [e]; exact BN.out.1.upd hy⟩
            have HTP : Aside0 (T'.l0 = T.l0 ∧ T'.l1 = T.l1) := ⟨by rw [e]; exact ⟨(HOK.out.upd hy h1 (by assumption)).2.1, (HOK.out.upd hy h1 (by assumption)).2.2⟩⟩
            clear hz hy e h1
            go_wp2_with fail
            go_meet
            case rel => exact ⟨L, E6.out, HBN.out, by rw [HTP.out.1, HTP.out.2]; exact B6.out, X6.out⟩
          · rw [HT'.out] at e
            have hz0 : s0 = 0 := HS0.out.symm.trans h0
            have hs1 : s1 = x.s := by rw [← HS1.out, e]; exact stt_put hI
            obtain rfl : bt = true := by rw [← HBT.out, hz0]; simp; omega
            clear hz0
            have HBN : Aside0 (Born T' (L ++ [sid])) := ⟨by rw [e]; exact BN.out.1.put hn⟩
            have HI := Aside0.mk hI
            have HLN := Aside0.mk (BN.out.1.len HOK.out)
            have b1 : w6.cell? ⟨gx, 1, none⟩ = some (.int .i64 sid) := blk_cell X6.out 1
            have b2 : w6.cell? ⟨gx, 2, none⟩ = some (.bool sgot) := blk_cell X6.out 2
            have b3 : w6.cell? ⟨gx, 3, none⟩ = some (.int .i64 sk) := blk_cell X6.out 3
            have hand : Go.bits BinOp.and .i64 sid 1 = sid % 2 := and_one' sid (by have := hI.1; omega) (by have := hI.2; omega)
            have hcl := BN.out.2
            rcases par hI.1 with ⟨w1, w2⟩ | ⟨w1, w2⟩
            · obtain ⟨hk5, hgc⟩ := gives_even w1 hgv
              rw [w1] at hand
              rw [hcl] at hgc
              subst hk5
              have g1 : (sgot != cl) = false := by simp [bne, hgc]
              have t0 : w6.cell? ⟨gt, 0, none⟩ = some (.int .i64 T.l0) := blk_cell B6.out 0
              have tf : w6.frozen? ⟨gt, 0, none⟩ = false := blk_frozen B6.out 0
              have dl : decide (sid ≤ T.l0) = false := decide_eq_false (by unfold Tb.last at hlt; rw [if_neg (by omega)] at hlt; omega)
              have HTP : Aside0 (T'.l0 = sid ∧ T'.l1 = T.l1) := ⟨by rw [e]; unfold Tb.put; rw [hn]; simp [w1]⟩
              clear hn hI h0 hlt e h1 h6 hk3 hgv hs1 hcl w1
              go_upto_region 16 with fail
              go_quiet (fail)
              obtain ⟨Wq, hWq⟩ : ∃ X, w6.drewN nq = X := ⟨_, rfl⟩
              have hbq : Below w6.heap.size w6 Wq := by rw [← hWq]; exact pw_below_drewN (Below.refl _ _) nq
              have E7 := Aside0.mk (E6.out.low hbq)
              have B7 := Aside0.mk (blk_below B6.out hbq)
              have X7 := Aside0.mk (blk_below X6.out hbq)
              rw [hWq]
              clear hWq hbq b1 b2 b3 t0 tf dl
              have b1 : Wq.cell? ⟨gx, 1, none⟩ = some (.int .i64 sid) := blk_cell X7.out 1
              have t0 : Wq.cell? ⟨gt, 0, none⟩ = some (.int .i64 T.l0) := blk_cell B7.out 0
              have tf : Wq.frozen? ⟨gt, 0, none⟩ = false := blk_frozen B7.out 0
              go_upto_region 19 with fail
              generalize hW8 : World.setCell _ _ _ = W8
              have B8 : Aside0 (W8.heap[gt]? = some (.cells #[.int .i64 T'.l0, .int .i64 T'.l1] 45 (0, 0))) := ⟨by rw [← hW8, HTP.out.1, HTP.out.2]; exact blk_set B7.out 0 (.int .i64 sid)⟩
              have hX8 := (fr_set Wq ⟨gt, 0, none⟩ (.int .i64 sid)).blk X7.out (blk_ne2 X7.out B7.out (by decide))
              rw [hW8] at hX8
              have X8 := Aside0.mk hX8
              clear hX8
              have E8 := Aside0.mk (E7.out.put (Or.inl rfl) hW8)
              clear hW8 b1 t0 tf
              have b1 : W8.cell? ⟨gx, 1, none⟩ = some (.int .i64 sid) := blk_cell X8.out 1
              go_wp2_with ((with_reducible refine gate_builtin (b := .append) (xs := #[.tmp 119, .tmp 122]) rfl ?_); at_builtin; refine Kd.R_append (Kd.int .i64) (w0 := w) w.heap.size rfl (.tmp 119) (.tmp 122) 28 2 _ 8 rfl Tryd.underlying28 info2 rfl (Nat.succ_pos 0) (Nat.succ_pos 7) u6 L sid [.int .i64 sid] (fun k => ¬ S' k ∧ ¬ (k = gt ∨ k = gx)) (fun _ => False) rfl rfl rfl (fun _ h => h.elim) (fun k hk => E8.out.fresh k hk) E8.out.rl E8.out.be E8.out.be.size (by have := HLN.out; omega) ?_; intro v9 w9 ho hb hg hat; obtain ⟨hE9, hk9⟩ := E8.out.app ho hg; have E9 := Aside0.mk hE9; have B9 := Aside0.mk (hk9 gt _ (Or.inl rfl) B8.out); have X9 := Aside0.mk (hk9 gx _ (Or.inr rfl) X8.out); clear ho hb hg hat hE9 hk9)
              go_meet
              case rel => exact ⟨_, E9.out, HBN.out, B9.out, X9.out⟩
            · obtain ⟨hk12, hgc⟩ := gives_odd w1 hk3 hgv
              rw [w1] at hand
              rw [hcl] at hgc
              have g1 : (sgot != cl) = true := by simp [bne, hgc]
              have t0 : w6.cell? ⟨gt, 1, none⟩ = some (.int .i64 T.l1) := blk_cell B6.out 1
              have tf : w6.frozen? ⟨gt, 1, none⟩ = false := blk_frozen B6.out 1
              have dl : decide (sid ≤ T.l1) = false := decide_eq_false (by unfold Tb.last at hlt; rw [if_pos w1] at hlt; omega)
              have HTP : Aside0 (T'.l0 = T.l0 ∧ T'.l1 = sid) := ⟨by rw [e]; unfold Tb.put; rw [hn]; simp [w1]⟩
              clear hn hI h0 hlt e h1 h6 hk3 hgv hs1 hcl w1
              rcases hk12 with hk12 | hk12
              all_goals
                subst hk12
                go_upto_region 16 with fail
                go_quiet (fail)
                obtain ⟨Wq, hWq⟩ : ∃ X, w6.drewN nq = X := ⟨_, rfl⟩
                have hbq : Below w6.heap.size w6 Wq := by rw [← hWq]; exact pw_below_drewN (Below.refl _ _) nq
                have E7 := Aside0.mk (E6.out.low hbq)
                have B7 := Aside0.mk (blk_below B6.out hbq)
                have X7 := Aside0.mk (blk_below X6.out hbq)
                rw [hWq]
                clear hWq hbq b1 b2 b3 t0 tf dl
                have b1 : Wq.cell? ⟨gx, 1, none⟩ = some (.int .i64 sid) := blk_cell X7.out 1
                have t0 : Wq.cell? ⟨gt, 1, none⟩ = some (.int .i64 T.l1) := blk_cell B7.out 1
                have tf : Wq.frozen? ⟨gt, 1, none⟩ = false := blk_frozen B7.out 1
                go_upto_region 19 with fail
                generalize hW8 : World.setCell _ _ _ = W8
                have B8 : Aside0 (W8.heap[gt]? = some (.cells #[.int .i64 T'.l0, .int .i64 T'.l1] 45 (0, 0))) := ⟨by rw [← hW8, HTP.out.1, HTP.out.2]; exact blk_set B7.out 1 (.int .i64 sid)⟩
                have hX8 := (fr_set Wq ⟨gt, 1, none⟩ (.int .i64 sid)).blk X7.out (blk_ne2 X7.out B7.out (by decide))
                rw [hW8] at hX8
                have X8 := Aside0.mk hX8
                clear hX8
                have E8 := Aside0.mk (E7.out.put (Or.inl rfl) hW8)
                clear hW8 b1 t0 tf
                have b1 : W8.cell? ⟨gx, 1, none⟩ = some (.int .i64 sid) := blk_cell X8.out 1
                go_wp2_with ((with_reducible refine gate_builtin (b := .append) (xs := #[.tmp 119, .tmp 122]) rfl ?_); at_builtin; refine Kd.R_append (Kd.int .i64) (w0 := w) w.heap.size rfl (.tmp 119) (.tmp 122) 28 2 _ 8 rfl Tryd.underlying28 info2 rfl (Nat.succ_pos 0) (Nat.succ_pos 7) u6 L sid [.int .i64 sid] (fun k => ¬ S' k ∧ ¬ (k = gt ∨ k = gx)) (fun _ => False) rfl rfl rfl (fun _ h => h.elim) (fun k hk => E8.out.fresh k hk) E8.out.rl E8.out.be E8.out.be.size (by have := HLN.out; omega) ?_; intro v9 w9 ho hb hg hat; obtain ⟨hE9, hk9⟩ := E8.out.app ho hg; have E9 := Aside0.mk hE9; have B9 := Aside0.mk (hk9 gt _ (Or.inl rfl) B8.out); have X9 := Aside0.mk (hk9 gx _ (Or.inr rfl) X8.out); clear ho hb hg hat hE9 hk9)
                go_meet
                case rel => exact ⟨_, E9.out, HBN.out, B9.out, X9.out⟩
        case rest =>
          obtain ⟨L', hE, hBN, hB, hX⟩ := hcut.out
          clear hcut
          have BF := Aside0.mk (birth_facts HOK.out sid sgot sk (L := L') (by rw [HT'.out]; exact hBN))
          rw [HT'.out, HS0.out, HS1.out] at BF
          have E7 := Aside0.mk hE
          have BN' : Aside0 (Born T' L' ∧ T'.cl = cl) := ⟨hBN, by rw [← HT'.out, act_cl]; exact BN.out.2⟩
          have B7 := Aside0.mk hB
          have X7 := Aside0.mk hX
          obtain ⟨A6, c6, rfl, hc6, hC6⟩ := R_slice_int E7.out.rl
          have HC6 := Aside0.mk hc6
          have HCC := Aside0.mk hC6
          clear hE hBN hB hX hc6 hC6 E6 B6 X6 BN
          obtain ⟨Wc, rfl⟩ : ∃ x, x = wc := ⟨_, rfl⟩
          obtain ⟨b, hb⟩ : ∃ b, decide (sid ∈ L') = b := ⟨_, rfl⟩
          have HBB := Aside0.mk hb
          clear hb
          have b1 : Wc.cell? ⟨gx, 1, none⟩ = some (.int .i64 sid) := blk_cell X7.out 1
          rename_i K9 hk9
          refine hk9 _ _ ?_
          clear hk9 K9
          go_upto_region 20 with fail
          go_cut [135] from 124 to 134 (fun v wd => v = .bool false ∧ Aside0 (Below Wc.heap.size Wc wd))
          case first =>
            by_cases hz : s0 = 0
            · have z0 : (s0 == 0) = true := beq_iff_eq.mpr hz
              cases b
              · have hz1 : s1 = 0 := (BF.out.1 hz).2 (of_decide_eq_false HBB.out)
                have z1 : (s1 == 0) = true := beq_iff_eq.mpr hz1
                clear hz hz1
                go_wp2_with (go_at_call 23; refine (in_calls A6 c6 L' sid _ HCC.out HC6.out).mono ?_; rintro e w8 ⟨rfl, hd⟩; rw [HBB.out]; have DD := Aside0.mk (drawn_below hd); clear hd)
                go_meet
                case rel => exact ⟨rfl, DD⟩
              · have hz1 : s1 ≠ 0 := fun e => (BF.out.1 hz).1 e (of_decide_eq_true HBB.out)
                have z1 : (s1 == 0) = false := beq_eq_false_iff_ne.mpr hz1
                clear hz hz1
                go_wp2_with (go_at_call 23; refine (in_calls A6 c6 L' sid _ HCC.out HC6.out).mono ?_; rintro e w8 ⟨rfl, hd⟩; rw [HBB.out]; have DD := Aside0.mk (drawn_below hd); clear hd)
                go_meet
                case rel => exact ⟨rfl, DD⟩
            · have z0 : (s0 == 0) = false := beq_eq_false_iff_ne.mpr hz
              have z1 : (s1 == 0) = false := beq_eq_false_iff_ne.mpr (BF.out.2 hz)
              clear hz
              go_wp2_with fail
              go_meet
              case rel => exact ⟨rfl, ⟨Below.refl _ _⟩⟩
          case rest =>
            obtain ⟨rfl, DD⟩ := hcut
            clear b1
            obtain ⟨Wd, rfl⟩ : ∃ x, x = wc := ⟨_, rfl⟩
            have E8 := Aside0.mk (E7.out.low DD.out)
            have B8 := Aside0.mk (blk_below B7.out DD.out)
            have X8 := Aside0.mk (blk_below X7.out DD.out)
            have HCC8 := Aside0.mk (Kd.C_below HCC.out DD.out)
            clear E7 B7 X7 HCC DD
            have b1 : Wd.cell? ⟨gx, 1, none⟩ = some (.int .i64 sid) := blk_cell X8.out 1
            have t0 : Wd.cell? ⟨gt, 0, none⟩ = some (.int .i64 T'.l0) := blk_cell B8.out 0
            have t1 : Wd.cell? ⟨gt, 1, none⟩ = some (.int .i64 T'.l1) := blk_cell B8.out 1
            have QI : Aside0 (∀ k, Calls Tryd.prog 23 #[.slice A6 L'.length c6, .int .i64 sid] (Wd.drewN k) fun e w'' => e = .returned (.bool b) ∧ ∃ m, w'' = Wd.drewN m) := ⟨fun k => in_q A6 c6 L' sid b Wd k HCC8.out HC6.out HBB.out⟩
            rename_i K8 hk8
            refine hk8 _ _ ?_
            clear hk8 K8
            go_upto_region 22 with fail
            go_cut [159] from 136 to 158 (fun v wd => v = .bool false ∧ Aside0 (Below Wd.heap.size Wd wd))
            case first =>
              by_cases h1 : 1 ≤ sid
              · have d3 : decide (1 ≤ sid) = true := decide_eq_true h1
                have hand : Go.bits BinOp.and .i64 sid 1 = sid % 2 := and_one' sid (by omega) HW.out.2
                rcases par h1 with ⟨w1, w2⟩ | ⟨w1, w2⟩
                · rw [w1] at hand
                  by_cases hl : sid < T'.l0
                  · have d4 : decide (sid < T'.l0) = true := decide_eq_true hl
                    have HCL : Aside0 (b = false → s1 = 6) := ⟨fun e => by
                      rw [← HS1.out]
                      exact past_closed E8.out.ta.ok h1 (by unfold Tb.last; rw [if_neg (by omega)]; exact hl) BN'.out.1 (of_decide_eq_false (by rw [HBB.out, e]))⟩
                    clear hl h1 w1
                    cases b
                    · have h6 := HCL.out rfl
                      have z6 : (s1 != 6) = false := by simp [h6]
                      have z7 : (s1 == 6) = true := by simp [h6]
                      clear h6
                      go_quiet ((go_at_call 23; with_reducible exact QI.out _))
                      go_wp2_with fail
                      go_meet
                      case rel => exact ⟨rfl, ⟨pw_below_drewN (Below.refl _ _) _⟩⟩
                    · go_quiet ((go_at_call 23; with_reducible exact QI.out _))
                      go_wp2_with fail
                      go_meet
                      case rel => exact ⟨rfl, ⟨pw_below_drewN (Below.refl _ _) _⟩⟩
                  · have d4 : decide (sid < T'.l0) = false := decide_eq_false hl
                    clear hl h1 w1
                    go_quiet (fail)
                    go_wp2_with fail
                    go_meet
                    case rel => exact ⟨rfl, ⟨pw_below_drewN (Below.refl _ _) _⟩⟩
                · rw [w1] at hand
                  by_cases hl : sid < T'.l1
                  · have d4 : decide (sid < T'.l1) = true := decide_eq_true hl
                    have HCL : Aside0 (b = false → s1 = 6) := ⟨fun e => by
                      rw [← HS1.out]
                      exact past_closed E8.out.ta.ok h1 (by unfold Tb.last; rw [if_pos w1]; exact hl) BN'.out.1 (of_decide_eq_false (by rw [HBB.out, e]))⟩
                    clear hl h1 w1
                    cases b
                    · have h6 := HCL.out rfl
                      have z6 : (s1 != 6) = false := by simp [h6]
                      have z7 : (s1 == 6) = true := by simp [h6]
                      clear h6
                      go_quiet ((go_at_call 23; with_reducible exact QI.out _))
                      go_wp2_with fail
                      go_meet
                      case rel => exact ⟨rfl, ⟨pw_below_drewN (Below.refl _ _) _⟩⟩
                    · go_quiet ((go_at_call 23; with_reducible exact QI.out _))
                      go_wp2_with fail
                      go_meet
                      case rel => exact ⟨rfl, ⟨pw_below_drewN (Below.refl _ _) _⟩⟩
                  · have d4 : decide (sid < T'.l1) = false := decide_eq_false hl
                    clear hl h1 w1
                    go_quiet (fail)
                    go_wp2_with fail
                    go_meet
                    case rel => exact ⟨rfl, ⟨pw_below_drewN (Below.refl _ _) _⟩⟩
              · have d3 : decide (1 ≤ sid) = false := decide_eq_false h1
                clear h1
                go_quiet (fail)
                go_wp2_with fail
                go_meet
                case rel => exact ⟨rfl, ⟨pw_below_drewN (Below.refl _ _) _⟩⟩
            case rest =>
              obtain ⟨rfl, DD⟩ := hcut
              clear b1 t0 t1 QI
              rename_i K7 hk7
              refine hk7 _ _ ?_
              clear hk7 K7
              have E9 := Aside0.mk ((E8.out.low DD.out).mono (G' := fun k => k = gt) (fun k hk => Or.inl hk))
              have B9 := Aside0.mk (blk_below B8.out DD.out)
              go_wp2_with fail
              go_roundw
              case rel => exact ⟨k + 1, S', T', L', congrArg (Value.int .i64) hw1, ⟨by have := HKM.out; omega⟩, E9, BN', B9⟩
              case measure =>
                rw [hw1]
                show ((l.length : Int) - ((k + 1 : Nat) : Int)).toNat < ((l.length : Int) - (k : Int)).toNat
                have := HKM.out
                omega

    · have d1 : decide ((k : Int) < (l.length : Int)) = false := decide_eq_false (by omega)
      have d2 : decide (k < l.length) = false := decide_eq_false hk
      clear hk HK
      have HOK := Aside0.mk E1.out.ta.ok
      have HLN := Aside0.mk (BN.out.1.len HOK.out)
      obtain ⟨A6, c6, rfl, hc6, _⟩ := R_slice_int E1.out.rl
      clear hc6
      go_upto_region 25 with (go_at_call 20; refine (live_calls w.heap.size S p T _ E1.out.ta).mono ?_; rintro e w5 ⟨v14, M, rfl, hR, hLL, hb⟩; have R14 := Aside0.mk hR; have LV := Aside0.mk hLL; have E5 := Aside0.mk (E1.out.low hb); have B5 := Aside0.mk (blk_below B1.out hb); clear hR hLL hb)
      clear d1 d2
      obtain ⟨A14, c14, rfl, hc14, hC14⟩ := R_slice_int R14.out
      have HC14 := Aside0.mk hc14
      have C5 := Aside0.mk hC14
      have HMN := Aside0.mk (live_len HOK.out LV.out)
      clear hc14 hC14 R14 E1 B1
      go_upto_if 165 with fail
      go_loopw [15, 16, 17, 18] (fun v15 v16 v17 v18 w' => ∃ k : Nat, v18 = .int .i64 (k : Int) ∧ v15 = .int .i64 ((cnt (T.cntB true) L k : Nat) : Int) ∧ v16 = .int .i64 ((cnt (T.cntB false) L k : Nat) : Int) ∧ v17 = .int .i64 ((cnt T.liveB L k : Nat) : Int) ∧ Aside0 (k ≤ L.length) ∧ Aside0 (BW w w' (fun k => k = gt) S p T (.slice A6 L.length c6) L) ∧ Aside0 (w'.heap[gt]? = some (.cells #[.int .i64 T.l0, .int .i64 T.l1] 45 (0, 0))) ∧ Aside0 (Kd.C (Kd.int .i64) w' A14 M.length M)) (fun _ _ _ v _ => ((L.length : Int) - intOf v).toNat)
      case atStart => exact ⟨0, rfl, by rw [cnt_zero]; rfl, by rw [cnt_zero]; rfl, by rw [cnt_zero]; rfl, ⟨Nat.zero_le _⟩, E5, B5, C5⟩
      case round =>
        clear E5 B5 C5
        obtain ⟨k, rfl, rfl, rfl, rfl, HK, E2, B2, C2⟩ := hrel
        by_cases hk : k < L.length
        · have d1 : decide ((k : Int) < (L.length : Int)) = true := decide_eq_true (by omega)
          have d2 : decide (k < L.length) = true := decide_eq_true hk
          have hw1 : wrap64 ((k : Int) + 1) = ((k + 1 : Nat) : Int) := by have := HLN.out; unfold wrap64; omega
          have q0 : (0 : Int) ≤ (k : Int) := by omega
          have q1 : (k : Int) < (L.length : Int) := by omega
          have HKM := Aside0.mk hk
          obtain ⟨bb, hbb⟩ : ∃ b, L[k] = b := ⟨_, rfl⟩
          have HBB := Aside0.mk hbb
          have hmem : bb ∈ L := by rw [← hbb]; exact List.getElem_mem hk
          obtain ⟨x, hx⟩ : ∃ x, T.m bb = some x := by
            rcases hm : T.m bb with _ | x
            · exact absurd hm ((BN.out.1.2 bb).1 hmem)
            · exact ⟨x, rfl⟩
          have HX := Aside0.mk hx
          obtain ⟨s, hs⟩ : ∃ s, x.s = s := ⟨_, rfl⟩
          have HXS := Aside0.mk hs
          have HS : Aside0 (T.stt bb = s) := ⟨by rw [stt_some HOK.out hx, hs]⟩
          have HRG : Aside0 (1 ≤ s ∧ s ≤ 6) := ⟨by have := HOK.out.at_ bb x hx; rw [hs] at this; exact ⟨this.2.2.1, this.2.2.2⟩⟩
          have HB1 : Aside0 (1 ≤ bb) := ⟨(HOK.out.at_ bb x hx).1⟩
          have HWB : Aside0 (W64 bb) := ⟨by have h := HOK.out.in31 hx; obtain ⟨h1, h2⟩ := h; exact ⟨by omega, by omega⟩⟩
          have HRD : Aside0 (rd L (k : Int) = bb) := ⟨by rw [rd_get hk]; exact hbb⟩
          have RW := Aside0.mk (Kd.R_reads' E2.out.rl).2.2
          have zs : (s == 0) = false := beq_eq_false_iff_ne.mpr (by have := HRG.out; omega)
          obtain ⟨ad, rfl, r0⟩ := int_cell RW.out k hk bb HRD.out
          clear hbb hmem hx hs
          by_cases h6 : s = 6
          · have z6 : (s != 6) = false := by simp [h6]
            have HS6 := Aside0.mk h6
            have HQ : Aside0 (decide (bb ∈ M) = false) := ⟨decide_eq_false (fun hm => by have h := (LV.out.2 bb).1 hm; rw [liveB_at HX.out, HXS.out, HS6.out] at h; simp at h)⟩
            have HC3 : Aside0 (T.liveB L[k] = false) := ⟨by rw [HBB.out, liveB_at HX.out, HXS.out, HS6.out]; rfl⟩
            clear h6
            obtain ⟨cs, hcs⟩ : ∃ c, cntS s = c := ⟨_, rfl⟩
            have HCF : Aside0 (state_Counts.f 10 s = some cs) := ⟨by rw [← hcs]; exact counts_f s HRG.out.1 HRG.out.2⟩
            have HCS := Aside0.mk hcs
            clear hcs
            cases cs
            · have HC1 : Aside0 (T.cntB true L[k] = false) := ⟨by rw [HBB.out, cntB_at HX.out, HXS.out, HCS.out, Bool.and_false]⟩
              have HC2 : Aside0 (T.cntB false L[k] = false) := ⟨by rw [HBB.out, cntB_at HX.out, HXS.out, HCS.out, Bool.and_false]⟩
              have h15 := Aside0.mk (cnt_stay HKM.out HC1.out)
              have h16 := Aside0.mk (cnt_stay HKM.out HC2.out)
              have h17 := Aside0.mk (cnt_stay HKM.out HC3.out)
              go_wp2_with fail
              refine Calls.mono (state_calls w.heap.size S p T bb _ E2.out.ta HWB.out) ?_
              rintro e w6 ⟨rfl, rfl⟩
              rw [HS.out]
              go_wp2_with fail
              refine Calls.mono (in_calls A14 c14 M bb _ C2.out HC14.out) ?_
              rintro e w7 ⟨rfl, hd⟩
              rw [HQ.out]
              have E3 := Aside0.mk (E2.out.low (drawn_below hd))
              have B3 := Aside0.mk (blk_below B2.out (drawn_below hd))
              have C3 := Aside0.mk (Kd.C_below C2.out (drawn_below hd))
              have RW3 := Aside0.mk (Kd.C_below RW.out (drawn_below hd))
              clear hd r0
              go_wp2_with fail
              refine Calls.mono (state_Counts.calls 10 s _ _ HCF.out) ?_
              rintro e w8 ⟨rfl, hb⟩
              have E4 := Aside0.mk (E3.out.low hb)
              have B4 := Aside0.mk (blk_below B3.out hb)
              have C4 := Aside0.mk (Kd.C_below C3.out hb)
              have RW4 := Aside0.mk (Kd.C_below RW3.out hb)
              clear hb
              go_wp2_with fail
              refine Calls.mono (state_Counts.calls 10 s _ _ HCF.out) ?_
              rintro e w9 ⟨rfl, hb⟩
              have E5 := Aside0.mk (E4.out.low hb)
              have B5 := Aside0.mk (blk_below B4.out hb)
              have C5 := Aside0.mk (Kd.C_below C4.out hb)
              clear hb
              go_wp2_with fail
              go_roundw
              case rel => exact ⟨k + 1, congrArg (Value.int .i64) hw1, congrArg (Value.int .i64) h15.out, congrArg (Value.int .i64) h16.out, congrArg (Value.int .i64) h17.out, ⟨by have := HKM.out; omega⟩, E5, B5, C5⟩
              case measure =>
                rw [hw1]
                show ((L.length : Int) - ((k + 1 : Nat) : Int)).toNat < ((L.length : Int) - (k : Int)).toNat
                have := HKM.out
                omega
            · exact absurd HCS.out (by rw [HS6.out]; decide)
          · have z6 : (s != 6) = true := by simp [h6]
            have HQ : Aside0 (decide (bb ∈ M) = true) := ⟨decide_eq_true ((LV.out.2 bb).2 (by rw [liveB_at HX.out, HXS.out]; exact decide_eq_true h6))⟩
            have HC3 : Aside0 (T.liveB L[k] = true) := ⟨by rw [HBB.out, liveB_at HX.out, HXS.out]; exact decide_eq_true h6⟩
            clear h6
            obtain ⟨cs, hcs⟩ : ∃ c, cntS s = c := ⟨_, rfl⟩
            have HCF : Aside0 (state_Counts.f 10 s = some cs) := ⟨by rw [← hcs]; exact counts_f s HRG.out.1 HRG.out.2⟩
            have HCS := Aside0.mk hcs
            clear hcs
            cases cs
            · have HC1 : Aside0 (T.cntB true L[k] = false) := ⟨by rw [HBB.out, cntB_at HX.out, HXS.out, HCS.out, Bool.and_false]⟩
              have HC2 : Aside0 (T.cntB false L[k] = false) := ⟨by rw [HBB.out, cntB_at HX.out, HXS.out, HCS.out, Bool.and_false]⟩
              have h15 := Aside0.mk (cnt_stay HKM.out HC1.out)
              have h16 := Aside0.mk (cnt_stay HKM.out HC2.out)
              have h17 := Aside0.mk (cnt_inc HKM.out HLN.out HC3.out)
              go_wp2_with fail
              refine Calls.mono (state_calls w.heap.size S p T bb _ E2.out.ta HWB.out) ?_
              rintro e w6 ⟨rfl, rfl⟩
              rw [HS.out]
              go_wp2_with fail
              refine Calls.mono (in_calls A14 c14 M bb _ C2.out HC14.out) ?_
              rintro e w7 ⟨rfl, hd⟩
              rw [HQ.out]
              have E3 := Aside0.mk (E2.out.low (drawn_below hd))
              have B3 := Aside0.mk (blk_below B2.out (drawn_below hd))
              have C3 := Aside0.mk (Kd.C_below C2.out (drawn_below hd))
              have RW3 := Aside0.mk (Kd.C_below RW.out (drawn_below hd))
              clear hd r0
              go_wp2_with fail
              refine Calls.mono (state_Counts.calls 10 s _ _ HCF.out) ?_
              rintro e w8 ⟨rfl, hb⟩
              have E4 := Aside0.mk (E3.out.low hb)
              have B4 := Aside0.mk (blk_below B3.out hb)
              have C4 := Aside0.mk (Kd.C_below C3.out hb)
              have RW4 := Aside0.mk (Kd.C_below RW3.out hb)
              clear hb
              go_wp2_with fail
              refine Calls.mono (state_Counts.calls 10 s _ _ HCF.out) ?_
              rintro e w9 ⟨rfl, hb⟩
              have E5 := Aside0.mk (E4.out.low hb)
              have B5 := Aside0.mk (blk_below B4.out hb)
              have C5 := Aside0.mk (Kd.C_below C4.out hb)
              clear hb
              go_wp2_with fail
              go_roundw
              case rel => exact ⟨k + 1, congrArg (Value.int .i64) hw1, congrArg (Value.int .i64) h15.out, congrArg (Value.int .i64) h16.out, congrArg (Value.int .i64) h17.out, ⟨by have := HKM.out; omega⟩, E5, B5, C5⟩
              case measure =>
                rw [hw1]
                show ((L.length : Int) - ((k + 1 : Nat) : Int)).toNat < ((L.length : Int) - (k : Int)).toNat
                have := HKM.out
                omega
            · rcases par HB1.out with ⟨w1, w2⟩ | ⟨w1, w2⟩
              · cases cl
                · have HC1 : Aside0 (T.cntB true L[k] = true) := ⟨by rw [HBB.out, cntB_at HX.out, HXS.out, HCS.out, BN.out.2, decide_eq_false (by omega)]; rfl⟩
                  have HC2 : Aside0 (T.cntB false L[k] = false) := ⟨by rw [HBB.out, cntB_at HX.out, HXS.out, HCS.out, BN.out.2, decide_eq_false (by omega)]; rfl⟩
                  clear w1
                  have h15 := Aside0.mk (cnt_inc HKM.out HLN.out HC1.out)
                  have h16 := Aside0.mk (cnt_stay HKM.out HC2.out)
                  have h17 := Aside0.mk (cnt_inc HKM.out HLN.out HC3.out)
                  go_wp2_with fail
                  refine Calls.mono (state_calls w.heap.size S p T bb _ E2.out.ta HWB.out) ?_
                  rintro e w6 ⟨rfl, rfl⟩
                  rw [HS.out]
                  go_wp2_with fail
                  refine Calls.mono (in_calls A14 c14 M bb _ C2.out HC14.out) ?_
                  rintro e w7 ⟨rfl, hd⟩
                  rw [HQ.out]
                  have E3 := Aside0.mk (E2.out.low (drawn_below hd))
                  have B3 := Aside0.mk (blk_below B2.out (drawn_below hd))
                  have C3 := Aside0.mk (Kd.C_below C2.out (drawn_below hd))
                  have RW3 := Aside0.mk (Kd.C_below RW.out (drawn_below hd))
                  clear hd r0
                  go_wp2_with fail
                  refine Calls.mono (state_Counts.calls 10 s _ _ HCF.out) ?_
                  rintro e w8 ⟨rfl, hb⟩
                  have E4 := Aside0.mk (E3.out.low hb)
                  have B4 := Aside0.mk (blk_below B3.out hb)
                  have C4 := Aside0.mk (Kd.C_below C3.out hb)
                  have RW4 := Aside0.mk (Kd.C_below RW3.out hb)
                  clear hb
                  obtain ⟨ad5, hA5, r0⟩ := int_cell RW4.out k HKM.out bb HRD.out
                  injection hA5 with hA5
                  subst hA5
                  go_wp2_with fail
                  go_roundw
                  case rel => exact ⟨k + 1, congrArg (Value.int .i64) hw1, congrArg (Value.int .i64) h15.out, congrArg (Value.int .i64) h16.out, congrArg (Value.int .i64) h17.out, ⟨by have := HKM.out; omega⟩, E4, B4, C4⟩
                  case measure =>
                    rw [hw1]
                    show ((L.length : Int) - ((k + 1 : Nat) : Int)).toNat < ((L.length : Int) - (k : Int)).toNat
                    have := HKM.out
                    omega
                · have HC1 : Aside0 (T.cntB true L[k] = false) := ⟨by rw [HBB.out, cntB_at HX.out, HXS.out, HCS.out, BN.out.2, decide_eq_false (by omega)]; rfl⟩
                  have HC2 : Aside0 (T.cntB false L[k] = true) := ⟨by rw [HBB.out, cntB_at HX.out, HXS.out, HCS.out, BN.out.2, decide_eq_false (by omega)]; rfl⟩
                  clear w1
                  have h15 := Aside0.mk (cnt_stay HKM.out HC1.out)
                  have h16 := Aside0.mk (cnt_inc HKM.out HLN.out HC2.out)
                  have h17 := Aside0.mk (cnt_inc HKM.out HLN.out HC3.out)
                  go_wp2_with fail
                  refine Calls.mono (state_calls w.heap.size S p T bb _ E2.out.ta HWB.out) ?_
                  rintro e w6 ⟨rfl, rfl⟩
                  rw [HS.out]
                  go_wp2_with fail
                  refine Calls.mono (in_calls A14 c14 M bb _ C2.out HC14.out) ?_
                  rintro e w7 ⟨rfl, hd⟩
                  rw [HQ.out]
                  have E3 := Aside0.mk (E2.out.low (drawn_below hd))
                  have B3 := Aside0.mk (blk_below B2.out (drawn_below hd))
                  have C3 := Aside0.mk (Kd.C_below C2.out (drawn_below hd))
                  have RW3 := Aside0.mk (Kd.C_below RW.out (drawn_below hd))
                  clear hd r0
                  go_wp2_with fail
                  refine Calls.mono (state_Counts.calls 10 s _ _ HCF.out) ?_
                  rintro e w8 ⟨rfl, hb⟩
                  have E4 := Aside0.mk (E3.out.low hb)
                  have B4 := Aside0.mk (blk_below B3.out hb)
                  have C4 := Aside0.mk (Kd.C_below C3.out hb)
                  have RW4 := Aside0.mk (Kd.C_below RW3.out hb)
                  clear hb
                  obtain ⟨ad5, hA5, r0⟩ := int_cell RW4.out k HKM.out bb HRD.out
                  injection hA5 with hA5
                  subst hA5
                  go_wp2_with fail
                  refine Calls.mono (state_Counts.calls 10 s _ _ HCF.out) ?_
                  rintro e w9 ⟨rfl, hb⟩
                  have E5 := Aside0.mk (E4.out.low hb)
                  have B5 := Aside0.mk (blk_below B4.out hb)
                  have C5 := Aside0.mk (Kd.C_below C4.out hb)
                  clear hb
                  go_wp2_with fail
                  go_roundw
                  case rel => exact ⟨k + 1, congrArg (Value.int .i64) hw1, congrArg (Value.int .i64) h15.out, congrArg (Value.int .i64) h16.out, congrArg (Value.int .i64) h17.out, ⟨by have := HKM.out; omega⟩, E5, B5, C5⟩
                  case measure =>
                    rw [hw1]
                    show ((L.length : Int) - ((k + 1 : Nat) : Int)).toNat < ((L.length : Int) - (k : Int)).toNat
                    have := HKM.out
                    omega
              · cases cl
                · have HC1 : Aside0 (T.cntB true L[k] = false) := ⟨by rw [HBB.out, cntB_at HX.out, HXS.out, HCS.out, BN.out.2, decide_eq_true w1]; rfl⟩
                  have HC2 : Aside0 (T.cntB false L[k] = true) := ⟨by rw [HBB.out, cntB_at HX.out, HXS.out, HCS.out, BN.out.2, decide_eq_true w1]; rfl⟩
                  clear w1
                  have h15 := Aside0.mk (cnt_stay HKM.out HC1.out)
                  have h16 := Aside0.mk (cnt_inc HKM.out HLN.out HC2.out)
                  have h17 := Aside0.mk (cnt_inc HKM.out HLN.out HC3.out)
                  go_wp2_with fail
                  refine Calls.mono (state_calls w.heap.size S p T bb _ E2.out.ta HWB.out) ?_
                  rintro e w6 ⟨rfl, rfl⟩
                  rw [HS.out]
                  go_wp2_with fail
                  refine Calls.mono (in_calls A14 c14 M bb _ C2.out HC14.out) ?_
                  rintro e w7 ⟨rfl, hd⟩
                  rw [HQ.out]
                  have E3 := Aside0.mk (E2.out.low (drawn_below hd))
                  have B3 := Aside0.mk (blk_below B2.out (drawn_below hd))
                  have C3 := Aside0.mk (Kd.C_below C2.out (drawn_below hd))
                  have RW3 := Aside0.mk (Kd.C_below RW.out (drawn_below hd))
                  clear hd r0
                  go_wp2_with fail
                  refine Calls.mono (state_Counts.calls 10 s _ _ HCF.out) ?_
                  rintro e w8 ⟨rfl, hb⟩
                  have E4 := Aside0.mk (E3.out.low hb)
                  have B4 := Aside0.mk (blk_below B3.out hb)
                  have C4 := Aside0.mk (Kd.C_below C3.out hb)
                  have RW4 := Aside0.mk (Kd.C_below RW3.out hb)
                  clear hb
                  obtain ⟨ad5, hA5, r0⟩ := int_cell RW4.out k HKM.out bb HRD.out
                  injection hA5 with hA5
                  subst hA5
                  go_wp2_with fail
                  refine Calls.mono (state_Counts.calls 10 s _ _ HCF.out) ?_
                  rintro e w9 ⟨rfl, hb⟩
                  have E5 := Aside0.mk (E4.out.low hb)
                  have B5 := Aside0.mk (blk_below B4.out hb)
                  have C5 := Aside0.mk (Kd.C_below C4.out hb)
                  clear hb
                  go_wp2_with fail
                  go_roundw
                  case rel => exact ⟨k + 1, congrArg (Value.int .i64) hw1, congrArg (Value.int .i64) h15.out, congrArg (Value.int .i64) h16.out, congrArg (Value.int .i64) h17.out, ⟨by have := HKM.out; omega⟩, E5, B5, C5⟩
                  case measure =>
                    rw [hw1]
                    show ((L.length : Int) - ((k + 1 : Nat) : Int)).toNat < ((L.length : Int) - (k : Int)).toNat
                    have := HKM.out
                    omega
                · have HC1 : Aside0 (T.cntB true L[k] = true) := ⟨by rw [HBB.out, cntB_at HX.out, HXS.out, HCS.out, BN.out.2, decide_eq_true w1]; rfl⟩
                  have HC2 : Aside0 (T.cntB false L[k] = false) := ⟨by rw [HBB.out, cntB_at HX.out, HXS.out, HCS.out, BN.out.2, decide_eq_true w1]; rfl⟩
                  clear w1
                  have h15 := Aside0.mk (cnt_inc HKM.out HLN.out HC1.out)
                  have h16 := Aside0.mk (cnt_stay HKM.out HC2.out)
                  have h17 := Aside0.mk (cnt_inc HKM.out HLN.out HC3.out)
                  go_wp2_with fail
                  refine Calls.mono (state_calls w.heap.size S p T bb _ E2.out.ta HWB.out) ?_
                  rintro e w6 ⟨rfl, rfl⟩
                  rw [HS.out]
                  go_wp2_with fail
                  refine Calls.mono (in_calls A14 c14 M bb _ C2.out HC14.out) ?_
                  rintro e w7 ⟨rfl, hd⟩
                  rw [HQ.out]
                  have E3 := Aside0.mk (E2.out.low (drawn_below hd))
                  have B3 := Aside0.mk (blk_below B2.out (drawn_below hd))
                  have C3 := Aside0.mk (Kd.C_below C2.out (drawn_below hd))
                  have RW3 := Aside0.mk (Kd.C_below RW.out (drawn_below hd))
                  clear hd r0
                  go_wp2_with fail
                  refine Calls.mono (state_Counts.calls 10 s _ _ HCF.out) ?_
                  rintro e w8 ⟨rfl, hb⟩
                  have E4 := Aside0.mk (E3.out.low hb)
                  have B4 := Aside0.mk (blk_below B3.out hb)
                  have C4 := Aside0.mk (Kd.C_below C3.out hb)
                  have RW4 := Aside0.mk (Kd.C_below RW3.out hb)
                  clear hb
                  obtain ⟨ad5, hA5, r0⟩ := int_cell RW4.out k HKM.out bb HRD.out
                  injection hA5 with hA5
                  subst hA5
                  go_wp2_with fail
                  go_roundw
                  case rel => exact ⟨k + 1, congrArg (Value.int .i64) hw1, congrArg (Value.int .i64) h15.out, congrArg (Value.int .i64) h16.out, congrArg (Value.int .i64) h17.out, ⟨by have := HKM.out; omega⟩, E4, B4, C4⟩
                  case measure =>
                    rw [hw1]
                    show ((L.length : Int) - ((k + 1 : Nat) : Int)).toNat < ((L.length : Int) - (k : Int)).toNat
                    have := HKM.out
                    omega

        · have d1 : decide ((k : Int) < (L.length : Int)) = false := decide_eq_false (by omega)
          have d2 : decide (k < L.length) = false := decide_eq_false hk
          have HKE : k = L.length := by have := HK.out; omega
          rw [HKE] at d1 d2 ⊢
          clear hk HKE HK k
          have HN1 : Aside0 (∀ ids, CntL T true ids → cnt (T.cntB true) L L.length = ids.length) := ⟨fun ids h => cnt_all BN.out.1.1 h.1 h.2 (cnt_born BN.out.1 true)⟩
          have HN2 : Aside0 (∀ ids, CntL T false ids → cnt (T.cntB false) L L.length = ids.length) := ⟨fun ids h => cnt_all BN.out.1.1 h.1 h.2 (cnt_born BN.out.1 false)⟩
          have HN3 : Aside0 (cnt T.liveB L L.length = M.length) := ⟨cnt_all BN.out.1.1 (LV.out.1.imp (fun hab => Int.ne_of_lt hab)) LV.out.2 (live_born BN.out.1)⟩
          obtain ⟨n1, hn1⟩ : ∃ n, cnt (T.cntB true) L L.length = n := ⟨_, rfl⟩
          obtain ⟨n2, hn2⟩ : ∃ n, cnt (T.cntB false) L L.length = n := ⟨_, rfl⟩
          rw [HN3.out, hn1, hn2]
          rw [hn1] at HN1
          rw [hn2] at HN2
          clear hn1 hn2 HN3
          go_upto_if 212 with fail
          clear d1 d2
          go_loopw [20] (fun v w' => ∃ k : Nat, v = .int .i64 (k : Int) ∧ Aside0 (1 ≤ k ∧ (k ≤ M.length ∨ k = 1)) ∧ Aside0 (BW w w' (fun k => k = gt) S p T (.slice A6 L.length c6) L) ∧ Aside0 (w'.heap[gt]? = some (.cells #[.int .i64 T.l0, .int .i64 T.l1] 45 (0, 0))) ∧ Aside0 (Kd.C (Kd.int .i64) w' A14 M.length M)) (fun v _ => ((M.length : Int) - intOf v).toNat)
          case atStart => exact ⟨1, rfl, ⟨Nat.le_refl _, Or.inr rfl⟩, E2, B2, C2⟩
          case round =>
            clear E2 B2 C2
            obtain ⟨k, rfl, HK, E2, B2, C2⟩ := hrel
            by_cases hk : k < M.length
            · have d1 : decide ((k : Int) < (M.length : Int)) = true := decide_eq_true (by omega)
              have d2 : decide (k < M.length) = true := decide_eq_true hk
              have hw1 : wrap64 ((k : Int) + 1) = ((k + 1 : Nat) : Int) := by have := HMN.out; unfold wrap64; omega
              have HKM := Aside0.mk hk
              obtain ⟨j, hj⟩ : ∃ j : Nat, k = j + 1 := ⟨k - 1, by have := HK.out; omega⟩
              have hw2 : wrap64 ((k : Int) - 1) = (j : Int) := by have := HMN.out; unfold wrap64; omega
              have q0 : (0 : Int) ≤ (k : Int) := by omega
              have q1 : (k : Int) < (M.length : Int) := by omega
              have q2 : (0 : Int) ≤ (j : Int) := by omega
              have q3 : (j : Int) < (M.length : Int) := by omega
              obtain ⟨ya, hya⟩ : ∃ y, M[k] = y := ⟨_, rfl⟩
              obtain ⟨yb, hyb⟩ : ∃ y, M[j] = y := ⟨_, rfl⟩
              have dl : decide (ya ≤ yb) = false := decide_eq_false (by
                have h := List.pairwise_iff_getElem.1 LV.out.1 j k (by omega) hk (by omega)
                rw [hya, hyb] at h
                omega)
              obtain ⟨ad, rfl, r0⟩ := int_cell C2.out k hk ya (by rw [rd_get hk]; exact hya)
              obtain ⟨ad2, hA2, r1⟩ := int_cell C2.out j (by omega) yb (by rw [rd_get (show j < M.length by omega)]; exact hyb)
              injection hA2 with hA2
              subst hA2
              clear hj hya hyb hk
              go_upto_region 41 with fail
              go_quiet (fail)
              have E3 := Aside0.mk (E2.out.low (pw_below_drewN (Below.refl _ _) nq))
              have B3 := Aside0.mk (blk_below B2.out (pw_below_drewN (Below.refl _ _) nq))
              have C3 := Aside0.mk (Kd.C_below C2.out (pw_below_drewN (Below.refl _ _) nq))
              clear r0 r1 dl
              go_wp2_with fail
              go_roundw
              case rel => exact ⟨k + 1, congrArg (Value.int .i64) hw1, ⟨by omega, Or.inl (by have := HKM.out; omega)⟩, E3, B3, C3⟩
              case measure =>
                rw [hw1]
                show ((M.length : Int) - ((k + 1 : Nat) : Int)).toNat < ((M.length : Int) - (k : Int)).toNat
                have := HKM.out
                omega
            · have d1 : decide ((k : Int) < (M.length : Int)) = false := decide_eq_false (by omega)
              have d2 : decide (k < M.length) = false := decide_eq_false hk
              clear hk HK
              obtain ⟨⟨nn, ok⟩, hnx⟩ : ∃ r, T.next = r := ⟨_, rfl⟩
              have HNX := Aside0.mk hnx
              have NF := Aside0.mk (next_facts HOK.out)
              rw [hnx] at NF
              clear hnx
              have t0 : wr.cell? ⟨gt, 0, none⟩ = some (.int .i64 T.l0) := blk_cell B2.out 0
              have t1 : wr.cell? ⟨gt, 1, none⟩ = some (.int .i64 T.l1) := blk_cell B2.out 1
              have b0 := HOK.out.b0
              have b1 := HOK.out.b1
              cases cl
              · have HMI : Aside0 (T.lastk true = T.l0 ∧ T.lastk false = T.l1) := ⟨by unfold Tb.lastk; rw [BN.out.2]; exact ⟨rfl, rfl⟩⟩
                have hw2 : wrap64 (T.l0 + 2) = T.l0 + 2 := by unfold wrap64; omega
                rw [HMI.out.1] at NF
                go_upto_region 43 with fail
                go_quiet (fail)
                obtain ⟨Wq, hWq⟩ : ∃ X, wr.drewN nq = X := ⟨_, rfl⟩
                have hbq : Below wr.heap.size wr Wq := by rw [← hWq]; exact pw_below_drewN (Below.refl _ _) nq
                have E3 := Aside0.mk (E2.out.low hbq)
                have B3 := Aside0.mk (blk_below B2.out hbq)
                rw [hWq]
                clear hWq hbq t0 t1 d1 d2
                go_upto_region 47 with (go_at_call 25; refine (next_calls w.heap.size S p T _ E3.out.ta).mono ?_; rintro e w9 ⟨rfl, hb⟩; rw [HNX.out]; have E5 := Aside0.mk (E3.out.low hb); clear hb)
                cases ok
                · have d3 : decide (T.l0 + 2 ≤ 2147483647) = false := NF.out.1.symm
                  go_wp2_with fail
                  refine Calls.mono (count_calls w.heap.size S p T true _ E5.out.ta) ?_
                  rintro e w10 ⟨i1, rfl, hc, hb⟩
                  have e1 : ((i1.length : Int) == (n1 : Int)) = true := by rw [← HN1.out i1 hc]; simp
                  have E6 := Aside0.mk (E5.out.low hb)
                  clear hc hb
                  go_wp2_with fail
                  refine Calls.mono (count_calls w.heap.size S p T false _ E6.out.ta) ?_
                  rintro e w11 ⟨i2, rfl, hc, hb⟩
                  have e2 : ((i2.length : Int) == (n2 : Int)) = true := by rw [← HN2.out i2 hc]; simp
                  have E7 := Aside0.mk (E6.out.low hb)
                  clear hc hb
                  go_wp2_with fail
                  refine Calls.mono (last_calls w.heap.size S p T true _ E7.out.ta) ?_
                  rintro e w12 ⟨rfl, hb⟩
                  rw [HMI.out.1]
                  have E8 := Aside0.mk (E7.out.low hb)
                  clear hb
                  go_wp2_with fail
                  refine Calls.mono (last_calls w.heap.size S p T false _ E8.out.ta) ?_
                  rintro e w13 ⟨rfl, hb⟩
                  rw [HMI.out.2]
                  have E9 := Aside0.mk (E8.out.low hb)
                  clear hb
                  go_wp2_with fail
                  go_ret
                  exact ⟨rfl, E9.out.be⟩
                · have d3 : decide (T.l0 + 2 ≤ 2147483647) = true := NF.out.1.symm
                  have hn := NF.out.2 rfl
                  have d4 : decide (nn ≤ T.l0) = false := decide_eq_false (by have := hn.1; omega)
                  have d5 : decide (T.l0 + 2 < nn) = false := decide_eq_false (by have := hn.2.1; omega)
                  have hpar := hn.2.2.2

                  rw [BN.out.2] at hpar
                  have hp : Int.tmod nn 2 = 0 := by
                    rcases par hn.2.2.1 with ⟨w1, w2⟩ | ⟨w1, w2⟩
                    · exact w2
                    · rw [decide_eq_true w1] at hpar; cases hpar
                  clear hn hpar
                  go_wp2_with fail
                  refine Calls.mono (count_calls w.heap.size S p T true _ E5.out.ta) ?_
                  rintro e w10 ⟨i1, rfl, hc, hb⟩
                  have e1 : ((i1.length : Int) == (n1 : Int)) = true := by rw [← HN1.out i1 hc]; simp
                  have E6 := Aside0.mk (E5.out.low hb)
                  clear hc hb
                  go_wp2_with fail
                  refine Calls.mono (count_calls w.heap.size S p T false _ E6.out.ta) ?_
                  rintro e w11 ⟨i2, rfl, hc, hb⟩
                  have e2 : ((i2.length : Int) == (n2 : Int)) = true := by rw [← HN2.out i2 hc]; simp
                  have E7 := Aside0.mk (E6.out.low hb)
                  clear hc hb
                  go_wp2_with fail
                  refine Calls.mono (last_calls w.heap.size S p T true _ E7.out.ta) ?_
                  rintro e w12 ⟨rfl, hb⟩
                  rw [HMI.out.1]
                  have E8 := Aside0.mk (E7.out.low hb)
                  clear hb
                  go_wp2_with fail
                  refine Calls.mono (last_calls w.heap.size S p T false _ E8.out.ta) ?_
                  rintro e w13 ⟨rfl, hb⟩
                  rw [HMI.out.2]
                  have E9 := Aside0.mk (E8.out.low hb)
                  clear hb
                  go_wp2_with fail
                  go_ret
                  exact ⟨rfl, E9.out.be⟩
              · have HMI : Aside0 (T.lastk true = T.l1 ∧ T.lastk false = T.l0) := ⟨by unfold Tb.lastk; rw [BN.out.2]; exact ⟨rfl, rfl⟩⟩
                have hw2 : wrap64 (T.l1 + 2) = T.l1 + 2 := by unfold wrap64; omega
                rw [HMI.out.1] at NF
                go_upto_region 43 with fail
                go_quiet (fail)
                obtain ⟨Wq, hWq⟩ : ∃ X, wr.drewN nq = X := ⟨_, rfl⟩
                have hbq : Below wr.heap.size wr Wq := by rw [← hWq]; exact pw_below_drewN (Below.refl _ _) nq
                have E3 := Aside0.mk (E2.out.low hbq)
                have B3 := Aside0.mk (blk_below B2.out hbq)
                rw [hWq]
                clear hWq hbq t0 t1 d1 d2
                go_upto_region 45 with fail
                have t0 : Wq.cell? ⟨gt, 0, none⟩ = some (.int .i64 T.l0) := blk_cell B3.out 0
                have t1 : Wq.cell? ⟨gt, 1, none⟩ = some (.int .i64 T.l1) := blk_cell B3.out 1
                go_quiet (fail)
                have E4 := Aside0.mk (E3.out.low (pw_below_drewN (Below.refl _ _) nq))
                clear t0 t1
                go_upto_region 47 with (go_at_call 25; refine (next_calls w.heap.size S p T _ E4.out.ta).mono ?_; rintro e w9 ⟨rfl, hb⟩; rw [HNX.out]; have E5 := Aside0.mk (E4.out.low hb); clear hb)
                cases ok
                · have d3 : decide (T.l1 + 2 ≤ 2147483647) = false := NF.out.1.symm
                  go_wp2_with fail
                  refine Calls.mono (count_calls w.heap.size S p T true _ E5.out.ta) ?_
                  rintro e w10 ⟨i1, rfl, hc, hb⟩
                  have e1 : ((i1.length : Int) == (n1 : Int)) = true := by rw [← HN1.out i1 hc]; simp
                  have E6 := Aside0.mk (E5.out.low hb)
                  clear hc hb
                  go_wp2_with fail
                  refine Calls.mono (count_calls w.heap.size S p T false _ E6.out.ta) ?_
                  rintro e w11 ⟨i2, rfl, hc, hb⟩
                  have e2 : ((i2.length : Int) == (n2 : Int)) = true := by rw [← HN2.out i2 hc]; simp
                  have E7 := Aside0.mk (E6.out.low hb)
                  clear hc hb
                  go_wp2_with fail
                  refine Calls.mono (last_calls w.heap.size S p T true _ E7.out.ta) ?_
                  rintro e w12 ⟨rfl, hb⟩
                  rw [HMI.out.1]
                  have E8 := Aside0.mk (E7.out.low hb)
                  clear hb
                  go_wp2_with fail
                  refine Calls.mono (last_calls w.heap.size S p T false _ E8.out.ta) ?_
                  rintro e w13 ⟨rfl, hb⟩
                  rw [HMI.out.2]
                  have E9 := Aside0.mk (E8.out.low hb)
                  clear hb
                  go_wp2_with fail
                  go_ret
                  exact ⟨rfl, E9.out.be⟩
                · have d3 : decide (T.l1 + 2 ≤ 2147483647) = true := NF.out.1.symm
                  have hn := NF.out.2 rfl
                  have d4 : decide (nn ≤ T.l1) = false := decide_eq_false (by have := hn.1; omega)
                  have d5 : decide (T.l1 + 2 < nn) = false := decide_eq_false (by have := hn.2.1; omega)
                  have hpar := hn.2.2.2

                  rw [BN.out.2] at hpar
                  have hp : Int.tmod nn 2 = 1 := by
                    rcases par hn.2.2.1 with ⟨w1, w2⟩ | ⟨w1, w2⟩
                    · rw [decide_eq_false (by omega)] at hpar; cases hpar
                    · exact w2
                  clear hn hpar
                  go_wp2_with fail
                  refine Calls.mono (count_calls w.heap.size S p T true _ E5.out.ta) ?_
                  rintro e w10 ⟨i1, rfl, hc, hb⟩
                  have e1 : ((i1.length : Int) == (n1 : Int)) = true := by rw [← HN1.out i1 hc]; simp
                  have E6 := Aside0.mk (E5.out.low hb)
                  clear hc hb
                  go_wp2_with fail
                  refine Calls.mono (count_calls w.heap.size S p T false _ E6.out.ta) ?_
                  rintro e w11 ⟨i2, rfl, hc, hb⟩
                  have e2 : ((i2.length : Int) == (n2 : Int)) = true := by rw [← HN2.out i2 hc]; simp
                  have E7 := Aside0.mk (E6.out.low hb)
                  clear hc hb
                  go_wp2_with fail
                  refine Calls.mono (last_calls w.heap.size S p T true _ E7.out.ta) ?_
                  rintro e w12 ⟨rfl, hb⟩
                  rw [HMI.out.1]
                  have E8 := Aside0.mk (E7.out.low hb)
                  clear hb
                  go_wp2_with fail
                  refine Calls.mono (last_calls w.heap.size S p T false _ E8.out.ta) ?_
                  rintro e w13 ⟨rfl, hb⟩
                  rw [HMI.out.2]
                  have E9 := Aside0.mk (E8.out.low hb)
                  clear hb
                  go_wp2_with fail
                  go_ret
                  exact ⟨rfl, E9.out.be⟩

end Go.Proofs.YtagkncjdohljgaaDoor.St
