/- StreamsLate: always true. The package's variables hold what the program lays; the numbers are numbers. -/
import Derived.Test.YtagkncjdohljgaaDoorMLateA
import Derived.Test.YtagkncjdohljgaaDoorMApart
namespace Go.Proofs.YtagkncjdohljgaaDoor.St
open Go Go.RowKit Go.Proofs.YtagkncjdohljgaaDoorW.PrintWords Go.Proofs.YtagkncjdohljgaaDoorW.PrintLast Go.Proofs.YtagkncjdohljgaaDoorW.PrintMore Go.Proofs.YtagkncjdohljgaaDoor.QL
set_option linter.unusedSimpArgs false
set_option linter.unusedVariables false
set_option maxHeartbeats 4000000
set_option maxRecDepth 100000
theorem CutOk.new (c : Bool) : CutOk (Tb.new c) := fun id x h => by cases h
theorem late_calls (A : Option Addr) (c : Nat) (cl : Bool) (l : List S30) (id : Int) (A3 : Option Addr) (c3 : Nat) (late : List Int) (w : World) (hG : GL w) (hC : Kd.C k30 w A l.length l) (ht : ∀ x ∈ l, W64 x.f1) (hid : W64 id) (hC3 : Kd.C (Kd.int .i64) w A3 late.length late) :
    Calls Tryd.prog 6 #[.bool cl, .slice A l.length c, .int .i64 id, .slice A3 late.length c3] w fun e w' => e = .returned (.bool true) ∧ Below w.heap.size w w' := by
  have HID := Aside0.mk hid
  have HC3 := Aside0.mk hC3
  have HL3 : Aside0 (late.length ≤ 9223372036854775807) := ⟨hC3.2.1⟩
  clear hid hC3
  have HG := Aside0.mk hG
  have HC := Aside0.mk hC
  have HT := Aside0.mk ht
  have HL : Aside0 (l.length ≤ 9223372036854775807) := ⟨hC.2.1⟩
  clear hG hC ht
  go_enter Tryd.func6, Tryd.ntmps6
  go_upto_region 2 with (go_at_call 8; refine (new_calls _ cl w.heap.size (Nat.le_refl _)).mono ?_; rintro e w1 ⟨p1, S1, rfl, hT, hS, hb⟩; have A1 := Aside0.mk hT; have L1 := Aside0.mk hb; clear hT hS hb)
  go_upto_region 3 with (go_at_call 8; refine (new_calls _ (!cl) w.heap.size L1.out.size).mono ?_; rintro e w2 ⟨p2, S2, rfl, hT, hS, hb⟩; have A2 : Aside0 (Tw w2 w.heap.size S1 p1 (Tb.new cl) S2 p2 (Tb.new (!cl))) := ⟨A1.out.low hb, hT, fun k h1 h2 => by have := (A1.out.bd k h1).2; have := hS k h2; omega⟩; have L2 := Aside0.mk (below_then L1.out L1.out.size hb); clear hT hS hb)
  clear A1 L1
  go_upto_region 5 with (go_at_call 9; refine (first_calls _ (HG.out.below L2.out)).mono ?_; rintro e w3 ⟨rfl, hb⟩; have A3x := Aside0.mk (A2.out.low hb); have L3 := Aside0.mk (below_then L2.out L2.out.size hb); clear hb)
  clear A2 L2
  go_upto_if 39 with fail
  go_loopw [11] (fun v w' => ∃ (k : Nat) (S1 : Nat → Prop) (T : Tb) (S2 : Nat → Prop) (U : Tb), v = .int .i64 (k : Int) ∧ Aside0 (k ≤ l.length) ∧ Aside0 (PW w' w.heap.size S1 p1 T S2 p2 U) ∧ Aside0 (Below w.heap.size w w')) (fun v _ => ((l.length : Int) - intOf v).toNat)
  case atStart => exact ⟨0, S1, _, S2, _, rfl, ⟨Nat.zero_le _⟩, ⟨A3x.out, Mir.new cl, CutOk.new _, CutOk.new _⟩, L3⟩
  case round =>
    clear A3x L3
    obtain ⟨k, S1, T, S2, U, rfl, HK, P1, L1⟩ := hrel
    by_cases hk : k < l.length
    · have d1 : decide ((k : Int) < (l.length : Int)) = true := decide_eq_true (by omega)
      have d2 : decide (k < l.length) = true := decide_eq_true hk
      have hw1 : wrap64 ((k : Int) + 1) = ((k + 1 : Nat) : Int) := by have := HL.out; unfold wrap64; omega
      have q0 : (0 : Int) ≤ (k : Int) := by omega
      have q1 : (k : Int) < (l.length : Int) := by omega
      have HKM := Aside0.mk hk
      obtain ⟨ad, rfl, y0, y1, y2, y3⟩ := at_T30 (Kd.C_below HC.out L1.out) (k : Int) q0 q1
      rw [Int.toNat_natCast] at y0 y1 y2 y3
      obtain ⟨y, hy⟩ : ∃ y, rd_T30 l (k : Int) = y := ⟨_, rfl⟩
      rw [hy] at y0 y1 y2 y3
      have hw : W64 y.f1 := by rw [← hy, rd30_get hk]; exact HT.out _ (List.getElem_mem hk)
      obtain ⟨two, sid, sgot, sk⟩ := y
      have HW := Aside0.mk hw
      clear hy hk hw
      go_upto_region 10 with fail
      obtain ⟨W4, hW4⟩ : ∃ W, wr.alloc (.cells #[.bool two, .int .i64 sid, .bool sgot, .int .i64 sk] 30) = W := ⟨_, rfl⟩
      obtain ⟨g12, hg12⟩ : ∃ g, wr.heap.size = g := ⟨_, rfl⟩
      have hb4 : Below wr.heap.size wr W4 := by rw [← hW4]; exact below_alloc (Below.refl _ _) _
      have X4 : Aside0 (W4.heap[g12]? = some (.cells #[.bool two, .int .i64 sid, .bool sgot, .int .i64 sk] 30 (0, 0))) := ⟨by rw [← hW4, ← hg12]; exact blk_new _ _⟩
      have P4 := Aside0.mk (P1.out.low hb4)
      have L4 := Aside0.mk (below_then L1.out L1.out.size hb4)
      have NS : Aside0 (∀ k, S1 k ∨ S2 k → k < g12) := ⟨fun k hk => by rw [← hg12]; exact hk.elim (fun h => (P1.out.tw.a.bd k h).2) (fun h => (P1.out.tw.b.bd k h).2)⟩
      have b0 : W4.cell? ⟨g12, 0, none⟩ = some (.bool two) := blk_cell X4.out 0
      have b1 : W4.cell? ⟨g12, 1, none⟩ = some (.int .i64 sid) := blk_cell X4.out 1
      have b3 : W4.cell? ⟨g12, 3, none⟩ = some (.int .i64 sk) := blk_cell X4.out 3
      rw [hW4, hg12]
      clear hW4 hg12 hb4 y0 y1 y2 y3
      cases two
      · have PX : Aside0 (PW W4 w.heap.size S1 p1 T S2 p2 U) := P4
        obtain ⟨⟨⟨va, vb⟩, T'⟩, hact⟩ : ∃ R, T.act sid false sk = R := ⟨_, rfl⟩
        have HA := Aside0.mk hact
        clear hact
        go_upto_region 13 with (go_at_call 27; refine (do_calls w.heap.size S1 p1 T sid false sk _ PX.out.tw.a (HG.out.below L4.out) HW.out).mono ?_; rintro e w5 ⟨rfl, hP⟩; rw [HA.out] at hP ⊢; have HP := Aside0.mk hP; clear hP)
        obtain ⟨Sn, hT, hF⟩ := PX.out.tw.act HP.out
        obtain ⟨W6, hW6⟩ : ∃ W, w5.alloc (.cells #[.int .i64 va, .int .i64 vb] 53) = W := ⟨_, rfl⟩
        obtain ⟨g15, hg15⟩ : ∃ g, w5.heap.size = g := ⟨_, rfl⟩
        have hb6 : Below w5.heap.size w5 W6 := by rw [← hW6]; exact below_alloc (Below.refl _ _) _
        have T6 := Aside0.mk (hT.low hb6)
        have X6 := Aside0.mk (blk_below (hF.blk X4.out (fun e => by have := NS.out g12 (Or.inl e); omega)) hb6)
        have L6 := Aside0.mk (below_then (PX.out.tw.below hF L4.out L4.out.size (Nat.le_refl _)) (Fr.below L4.out L4.out.size hF (fun k hk => (PX.out.tw.a.bd k hk).1)).size hb6)
        have c0 : W6.cell? ⟨g15, 0, none⟩ = some (.int .i64 va) := by rw [← hW6, ← hg15]; exact blk_cell (blk_new _ _) 0
        rw [hW6, hg15]
        clear hW6 hg15 b0 b1 b3
        have b1 : W6.cell? ⟨g12, 1, none⟩ = some (.int .i64 sid) := blk_cell X6.out 1
        have b3 : W6.cell? ⟨g12, 3, none⟩ = some (.int .i64 sk) := blk_cell X6.out 3
        by_cases hv : va = 0
        · have v0 : (va == 0) = true := beq_iff_eq.mpr hv
          have HV : Aside0 ((T.act sid false sk).1.1 = 0) := ⟨by rw [HA.out]; exact hv⟩
          clear hv hT hF hb6
          go_upto_region 7 with (go_at_call 27; refine (do_calls w.heap.size S2 p2 U sid true sk _ T6.out.b (HG.out.below L6.out) HW.out).mono ?_; rintro e w7 ⟨rfl, hP⟩; have HP7 := Aside0.mk hP; clear hP)
          obtain ⟨So, hPW, hF7⟩ := PW.yes PX.out.tw PX.out.mi PX.out.c1 PX.out.c2 HV.out (by rw [HA.out]; exact T6.out) HP7.out
          have P7 := Aside0.mk hPW
          have L7 := Aside0.mk (T6.out.swap.below hF7 L6.out L6.out.size (Nat.le_refl _))
          clear hPW hF7 c0 b1 b3 v0
          go_wp2_with fail
          go_roundw
          case rel => exact ⟨k + 1, Sn, _, So, _, congrArg (Value.int .i64) hw1, ⟨by have := HKM.out; omega⟩, P7, L7⟩
          case measure =>
            rw [hw1]
            show ((l.length : Int) - ((k + 1 : Nat) : Int)).toNat < ((l.length : Int) - (k : Int)).toNat
            have := HKM.out
            omega
        · have v0 : (va == 0) = false := beq_eq_false_iff_ne.mpr hv
          obtain ⟨Sm, hPn, hFn⟩ := PX.out.no (by rw [HA.out]; exact HP.out) (by rw [HA.out]; exact hv)
          have P7 := Aside0.mk (hPn.low hb6)
          clear hv hT hF hb6 hPn hFn
          go_wp2_with fail
          go_roundw
          case rel => exact ⟨k + 1, Sm, T, S2, U, congrArg (Value.int .i64) hw1, ⟨by have := HKM.out; omega⟩, P7, L6⟩
          case measure =>
            rw [hw1]
            show ((l.length : Int) - ((k + 1 : Nat) : Int)).toNat < ((l.length : Int) - (k : Int)).toNat
            have := HKM.out
            omega
      · have PX : Aside0 (PW W4 w.heap.size S2 p2 U S1 p1 T) := ⟨P4.out.swap⟩
        obtain ⟨⟨⟨va, vb⟩, T'⟩, hact⟩ : ∃ R, U.act sid false sk = R := ⟨_, rfl⟩
        have HA := Aside0.mk hact
        clear hact
        go_upto_region 13 with (go_at_call 27; refine (do_calls w.heap.size S2 p2 U sid false sk _ PX.out.tw.a (HG.out.below L4.out) HW.out).mono ?_; rintro e w5 ⟨rfl, hP⟩; rw [HA.out] at hP ⊢; have HP := Aside0.mk hP; clear hP)
        obtain ⟨Sn, hT, hF⟩ := PX.out.tw.act HP.out
        obtain ⟨W6, hW6⟩ : ∃ W, w5.alloc (.cells #[.int .i64 va, .int .i64 vb] 53) = W := ⟨_, rfl⟩
        obtain ⟨g15, hg15⟩ : ∃ g, w5.heap.size = g := ⟨_, rfl⟩
        have hb6 : Below w5.heap.size w5 W6 := by rw [← hW6]; exact below_alloc (Below.refl _ _) _
        have T6 := Aside0.mk (hT.low hb6)
        have X6 := Aside0.mk (blk_below (hF.blk X4.out (fun e => by have := NS.out g12 (Or.inr e); omega)) hb6)
        have L6 := Aside0.mk (below_then (PX.out.tw.below hF L4.out L4.out.size (Nat.le_refl _)) (Fr.below L4.out L4.out.size hF (fun k hk => (PX.out.tw.a.bd k hk).1)).size hb6)
        have c0 : W6.cell? ⟨g15, 0, none⟩ = some (.int .i64 va) := by rw [← hW6, ← hg15]; exact blk_cell (blk_new _ _) 0
        rw [hW6, hg15]
        clear hW6 hg15 b0 b1 b3
        have b1 : W6.cell? ⟨g12, 1, none⟩ = some (.int .i64 sid) := blk_cell X6.out 1
        have b3 : W6.cell? ⟨g12, 3, none⟩ = some (.int .i64 sk) := blk_cell X6.out 3
        by_cases hv : va = 0
        · have v0 : (va == 0) = true := beq_iff_eq.mpr hv
          have HV : Aside0 ((U.act sid false sk).1.1 = 0) := ⟨by rw [HA.out]; exact hv⟩
          clear hv hT hF hb6
          go_upto_region 7 with (go_at_call 27; refine (do_calls w.heap.size S1 p1 T sid true sk _ T6.out.b (HG.out.below L6.out) HW.out).mono ?_; rintro e w7 ⟨rfl, hP⟩; have HP7 := Aside0.mk hP; clear hP)
          obtain ⟨So, hPW, hF7⟩ := PW.yes PX.out.tw PX.out.mi PX.out.c1 PX.out.c2 HV.out (by rw [HA.out]; exact T6.out) HP7.out
          have P7 := Aside0.mk hPW
          have L7 := Aside0.mk (T6.out.swap.below hF7 L6.out L6.out.size (Nat.le_refl _))
          clear hPW hF7 c0 b1 b3 v0
          go_wp2_with fail
          go_roundw
          case rel => exact ⟨k + 1, So, _, Sn, _, congrArg (Value.int .i64) hw1, ⟨by have := HKM.out; omega⟩, ⟨P7.out.swap⟩, L7⟩
          case measure =>
            rw [hw1]
            show ((l.length : Int) - ((k + 1 : Nat) : Int)).toNat < ((l.length : Int) - (k : Int)).toNat
            have := HKM.out
            omega
        · have v0 : (va == 0) = false := beq_eq_false_iff_ne.mpr hv
          obtain ⟨Sm, hPn, hFn⟩ := PX.out.no (by rw [HA.out]; exact HP.out) (by rw [HA.out]; exact hv)
          have P7 := Aside0.mk (hPn.low hb6)
          clear hv hT hF hb6 hPn hFn
          go_wp2_with fail
          go_roundw
          case rel => exact ⟨k + 1, S1, T, Sm, U, congrArg (Value.int .i64) hw1, ⟨by have := HKM.out; omega⟩, ⟨P7.out.swap⟩, L6⟩
          case measure =>
            rw [hw1]
            show ((l.length : Int) - ((k + 1 : Nat) : Int)).toNat < ((l.length : Int) - (k : Int)).toNat
            have := HKM.out
            omega
    · have d1 : decide ((k : Int) < (l.length : Int)) = false := decide_eq_false (by omega)
      have d2 : decide (k < l.length) = false := decide_eq_false hk
      clear hk HK
      obtain ⟨⟨⟨ra, rb⟩, T1⟩, hact⟩ : ∃ R, T.act id false 6 = R := ⟨_, rfl⟩
      have HA := Aside0.mk hact
      clear hact
      go_upto_region 16 with (go_at_call 27; refine (do_calls w.heap.size S1 p1 T id false 6 _ P1.out.tw.a (HG.out.below L1.out) HID.out).mono ?_; rintro e w5 ⟨rfl, hP⟩; rw [HA.out] at hP ⊢; have HP := Aside0.mk hP; clear hP)
      clear d1 d2
      obtain ⟨Sn, hT, hF⟩ := P1.out.tw.act HP.out
      obtain ⟨W6, hW6⟩ : ∃ W, w5.alloc (.cells #[.int .i64 ra, .int .i64 rb] 53) = W := ⟨_, rfl⟩
      obtain ⟨g16, hg16⟩ : ∃ g, w5.heap.size = g := ⟨_, rfl⟩
      have hb6 : Below w5.heap.size w5 W6 := by rw [← hW6]; exact below_alloc (Below.refl _ _) _
      have T6 := Aside0.mk (hT.low hb6)
      have hL5 := P1.out.tw.below hF L1.out L1.out.size (Nat.le_refl _)
      have L6 := Aside0.mk (below_then hL5 hL5.size hb6)
      have V6 : Aside0 (W6.heap[g16]? = some (.cells #[.int .i64 ra, .int .i64 rb] 53 (0, 0))) := ⟨by rw [← hW6, ← hg16]; exact blk_new _ _⟩
      have c0 : W6.cell? ⟨g16, 0, none⟩ = some (.int .i64 ra) := blk_cell V6.out 0
      rw [hW6, hg16]
      clear hW6 hg16 hb6 hT hF hL5
      obtain ⟨ct, hct⟩ : ∃ b, T1.cut id = b := ⟨_, rfl⟩
      have HCT := Aside0.mk hct
      have QK : Aside0 (∀ k, Calls Tryd.prog 17 #[.pointer (some ⟨p1, 0, none⟩), .int .i64 id] (W6.drewN k) fun e w'' => e = .returned (.bool ct) ∧ ∃ m, w'' = W6.drewN m) := ⟨fun k => (cut_calls w.heap.size Sn p1 T1 id _ (T6.out.a.low (pw_below_drewN (Below.refl _ _) k)) HID.out).mono fun e w' h => ⟨by rw [h.1, HCT.out], k, h.2.symm⟩⟩
      clear hct
      by_cases hr : ra ≠ 0
      · have r0 : (ra == 0) = false := beq_eq_false_iff_ne.mpr hr
        have r1 : (ra != 0) = true := by simp [hr]
        clear hr
        cases ct
        · go_quiet ((go_at_call 17; with_reducible exact QK.out _))
          go_wp2_with fail
          go_ret
          exact ⟨rfl, pw_below_drewN L6.out _⟩
        · go_quiet ((go_at_call 17; with_reducible exact QK.out _))
          go_wp2_with fail
          go_ret
          exact ⟨rfl, pw_below_drewN L6.out _⟩
      have hr := Classical.not_not.mp hr
      have r0 : (ra == 0) = true := beq_iff_eq.mpr hr
      have r1 : (ra != 0) = false := by simp [hr]
      have HRS := Aside0.mk (reset_sent P1.out.tw.a.ok (id := id) (by rw [HA.out]; exact hr))
      rw [HA.out] at HRS
      obtain rfl : ct = true := HCT.out.symm.trans HRS.out.2.1
      have HB0 := Aside0.mk (P1.out.mi.born HRS.out.2.2.2)
      have HC2 := Aside0.mk P1.out.c2
      clear hr
      go_quiet ((go_at_call 17; with_reducible exact QK.out _))
      obtain ⟨W7, hW7⟩ : ∃ X, W6.drewN nq = X := ⟨_, rfl⟩
      have hb7 : Below W6.heap.size W6 W7 := by rw [← hW7]; exact pw_below_drewN (Below.refl _ _) nq
      have T7 := Aside0.mk (T6.out.low hb7)
      have L7 := Aside0.mk (below_then L6.out L6.out.size hb7)
      have V7 := Aside0.mk (blk_below V6.out hb7)
      rw [hW7]
      clear hW7 hb7 c0 T6 L6 V6 QK P1 L1 HP HA
      have c0 : W7.cell? ⟨g16, 0, none⟩ = some (.int .i64 ra) := blk_cell V7.out 0
      go_upto_region 21 with (go_at_call 20; refine (live_calls w.heap.size Sn p1 T1 _ T7.out.a).mono ?_; rintro e w8 ⟨v17, L, rfl, hR, hLL, hb⟩; have R8 := Aside0.mk hR; have LV := Aside0.mk hLL; have T8 := Aside0.mk (T7.out.low hb); have L8 := Aside0.mk (below_then L7.out L7.out.size hb); clear hR hLL hb)
      have LW8 : Aside0 (LW w8 w.heap.size Sn p1 T1 S2 p2 U v17 L) := ⟨T8.out, Kd.R_lower (Kd.R_mono (Kd.R_bound R8.out) (fun k hk => ⟨fun e => by have := (T7.out.a.bd k e).2; have := hk.2.1; omega, fun e => by have := (T7.out.b.bd k e).2; have := hk.2.1; omega⟩)) L7.out.size⟩
      obtain ⟨A17, c17, rfl, hc17, _⟩ := R_slice_int R8.out
      have HC17 := Aside0.mk hc17
      clear hc17 c0 r0 r1 T7 L7 V7 R8 T8
      go_upto_if 93 with fail
      go_loopw [18] (fun v w' => ∃ (k : Nat) (S1 S2 : Nat → Prop) (T2 : Tb), v = .int .i64 (k : Int) ∧ Aside0 (k ≤ late.length) ∧ Aside0 (LW w' w.heap.size S1 p1 T1 S2 p2 T2 (.slice A17 L.length c17) L) ∧ Aside0 (CutOk T2 ∧ ∃ y, T2.m id = some y) ∧ Aside0 (Below w.heap.size w w')) (fun v _ => ((late.length : Int) - intOf v).toNat)
      case atStart => exact ⟨0, Sn, S2, U, rfl, ⟨Nat.zero_le _⟩, LW8, ⟨HC2.out, HB0.out⟩, L8⟩
      case round =>
        clear LW8 L8 HC2 HB0
        obtain ⟨k, S1, S2, T2, rfl, HK, M1, HC2, L1⟩ := hrel
        by_cases hk : k < late.length
        · have d1 : decide ((k : Int) < (late.length : Int)) = true := decide_eq_true (by omega)
          have d2 : decide (k < late.length) = true := decide_eq_true hk
          have hw1 : wrap64 ((k : Int) + 1) = ((k + 1 : Nat) : Int) := by have := HL3.out; unfold wrap64; omega
          have q0 : (0 : Int) ≤ (k : Int) := by omega
          have q1 : (k : Int) < (late.length : Int) := by omega
          have HKM := Aside0.mk hk
          obtain ⟨ev, hev⟩ : ∃ y, rd late (k : Int) = y := ⟨_, rfl⟩
          have HEC : Aside0 (∀ W, Below w.heap.size w W → ∃ ad, A3 = some ad ∧ W.cell? (ad.add k) = some (.int .i64 ev)) := ⟨fun W hW => int_cell (Kd.C_below HC3.out hW) k HKM.out ev hev⟩
          obtain ⟨ad, hA3, x0⟩ := HEC.out _ L1.out
          subst hA3
          clear hk hev
          obtain ⟨⟨⟨a2, b2⟩, T3⟩, hact⟩ : ∃ R, T2.act id false ev = R := ⟨_, rfl⟩
          have HA := Aside0.mk hact
          have HC3' : Aside0 (CutOk T3 ∧ ∃ y, T3.m id = some y) := ⟨by have h1 := HC2.out.1.act M1.out.tw.b.ok id false ev; have h2 := born_act HC2.out.2 false ev; rw [hact] at h1 h2; exact ⟨h1, h2⟩⟩
          clear hact
          go_upto_region 25 with (go_at_call 27; refine (do_calls w.heap.size S2 p2 T2 id false ev _ M1.out.tw.b (HG.out.below L1.out) HID.out).mono ?_; rintro e w9 ⟨rfl, hP⟩; rw [HA.out] at hP ⊢; have HP := Aside0.mk hP; clear hP)
          obtain ⟨S3, hM, hF⟩ := M1.out.swap.act HP.out
          obtain ⟨W10, hW10⟩ : ∃ W, w9.alloc (.cells #[.int .i64 a2, .int .i64 b2] 53) = W := ⟨_, rfl⟩
          obtain ⟨g19, hg19⟩ : ∃ g, w9.heap.size = g := ⟨_, rfl⟩
          have hb10 : Below w9.heap.size w9 W10 := by rw [← hW10]; exact below_alloc (Below.refl _ _) _
          have M10 := Aside0.mk (hM.swap.low hb10)
          have hL9 := M1.out.tw.swap.below hF L1.out L1.out.size (Nat.le_refl _)
          have L10 := Aside0.mk (below_then hL9 hL9.size hb10)
          have c0 : W10.cell? ⟨g19, 0, none⟩ = some (.int .i64 a2) := by rw [← hW10, ← hg19]; exact blk_cell (blk_new _ _) 0
          rw [hW10, hg19]
          clear hW10 hg19 hb10 hM hF hL9 x0
          by_cases ha2 : a2 = 0
          · have r0 : (a2 == 0) = true := beq_iff_eq.mpr ha2
            have r1 : (a2 != 0) = false := by simp [ha2]
            have hki := sent_born M1.out.tw.b.ok HC2.out.2 (k := ev) (by rw [HA.out]; exact ha2)
            have HIG := Aside0.mk (late_ignored HRS.out.1 HRS.out.2.1 HRS.out.2.2.1 hki)
            obtain ⟨ad2, hA3, x0⟩ := HEC.out _ L10.out
            injection hA3 with hA3
            subst hA3
            clear ha2 hki
            go_upto_region 27 with (go_at_call 27; refine (do_calls w.heap.size S1 p1 T1 id true ev _ M10.out.tw.a (HG.out.below L10.out) HID.out).mono ?_; rintro e w11 ⟨rfl, hP⟩; rw [HIG.out] at hP ⊢; have HP11 := Aside0.mk hP; clear hP)
            clear c0 r0 r1 x0
            obtain ⟨S4, hM, hF⟩ := M10.out.act HP11.out
            obtain ⟨W12, hW12⟩ : ∃ W, w11.alloc (.cells #[.int .i64 1, .int .i64 0] 53) = W := ⟨_, rfl⟩
            obtain ⟨g20, hg20⟩ : ∃ g, w11.heap.size = g := ⟨_, rfl⟩
            have hb12 : Below w11.heap.size w11 W12 := by rw [← hW12]; exact below_alloc (Below.refl _ _) _
            have M12 := Aside0.mk (hM.low hb12)
            have hL9 := M10.out.tw.below hF L10.out L10.out.size (Nat.le_refl _)
            have L12 := Aside0.mk (below_then hL9 hL9.size hb12)
            have c0 : W12.cell? ⟨g20, 0, none⟩ = some (.int .i64 1) := by rw [← hW12, ← hg20]; exact blk_cell (blk_new _ _) 0
            rw [hW12, hg20]
            clear hW12 hg20 hb12 hM hF hL9
            go_wp2_with fail
            refine Calls.mono (state_calls w.heap.size S4 p1 T1 id _ M12.out.tw.a HID.out) ?_
            rintro e w13 ⟨rfl, rfl⟩
            rw [HRS.out.2.2.1]
            go_wp2_with fail
            refine Calls.mono (cut_calls w.heap.size S4 p1 T1 id _ M12.out.tw.a HID.out) ?_
            rintro e w14 ⟨rfl, rfl⟩
            rw [HRS.out.2.1]
            go_wp2_with fail
            refine Calls.mono (live_calls w.heap.size S4 p1 T1 _ M12.out.tw.a) ?_
            rintro e w15 ⟨vl, L2, rfl, hR, hLL, hb⟩
            obtain rfl := LV.out.uniq hLL
            obtain ⟨Al, cl2, rfl, hcl, hCl⟩ := R_slice_int hR
            have M13 := Aside0.mk (M12.out.low hb)
            have L13 := Aside0.mk (below_then L12.out L12.out.size hb)
            have HCL := Aside0.mk hCl
            have HLL := Aside0.mk hcl
            clear hR hLL hb hCl hcl c0
            go_wp2_with fail
            refine Calls.mono (same_calls Al A17 cl2 c17 L _ HCL.out HLL.out (Kd.R_reads' M13.out.rl).2.2 HC17.out) ?_
            rintro e w16 ⟨rfl, hd⟩
            have M14 := Aside0.mk (M13.out.low (drawn_below hd))
            have L14 := Aside0.mk (below_then L13.out L13.out.size (drawn_below hd))
            clear hd HCL HLL
            go_wp2_with fail
            go_roundw
            case rel => exact ⟨k + 1, S4, S3, T3, congrArg (Value.int .i64) hw1, ⟨by have := HKM.out; omega⟩, M14, HC3', L14⟩
            case measure =>
              rw [hw1]
              show ((late.length : Int) - ((k + 1 : Nat) : Int)).toNat < ((late.length : Int) - (k : Int)).toNat
              have := HKM.out
              omega
          · have r0 : (a2 == 0) = false := beq_eq_false_iff_ne.mpr ha2
            have r1 : (a2 != 0) = true := by simp [ha2]
            clear ha2
            go_wp2_with fail
            go_roundw
            case rel => exact ⟨k + 1, S1, S3, T3, congrArg (Value.int .i64) hw1, ⟨by have := HKM.out; omega⟩, M10, HC3', L10⟩
            case measure =>
              rw [hw1]
              show ((late.length : Int) - ((k + 1 : Nat) : Int)).toNat < ((late.length : Int) - (k : Int)).toNat
              have := HKM.out
              omega
        · have d1 : decide ((k : Int) < (late.length : Int)) = false := decide_eq_false (by omega)
          have d2 : decide (k < late.length) = false := decide_eq_false hk
          clear hk HK
          obtain ⟨⟨⟨a4, b4⟩, T4⟩, hact⟩ : ∃ R, T2.act id true 6 = R := ⟨_, rfl⟩
          have HA := Aside0.mk hact
          have HT4 : Aside0 (T4.stt id = 6) := ⟨by have h := reset_got M1.out.tw.b.ok HC2.out.1 HC2.out.2; rw [hact] at h; exact h⟩
          clear hact
          go_upto_region 30 with (go_at_call 27; refine (do_calls w.heap.size S2 p2 T2 id true 6 _ M1.out.tw.b (HG.out.below L1.out) HID.out).mono ?_; rintro e w9 ⟨rfl, hP⟩; rw [HA.out] at hP ⊢; have HP := Aside0.mk hP; clear hP)
          clear d1 d2
          obtain ⟨S3, hM, hF⟩ := M1.out.swap.act HP.out
          have M9 := Aside0.mk hM.swap
          have L9 := Aside0.mk (M1.out.tw.swap.below hF L1.out L1.out.size (Nat.le_refl _))
          clear hM hF
          go_wp2_with fail
          refine Calls.mono (state_calls w.heap.size S3 p2 T4 id _ M9.out.tw.b HID.out) ?_
          rintro e w13 ⟨rfl, rfl⟩
          rw [HT4.out]
          go_wp2_with fail
          refine Calls.mono (live_calls w.heap.size S1 p1 T1 _ M9.out.tw.a) ?_
          rintro e w15 ⟨vl, L2, rfl, hR, hLL, hb⟩
          obtain ⟨Al, cl2, rfl, hcl, hCl⟩ := R_slice_int hR
          have NIN : Aside0 (decide (id ∈ L2) = false) := ⟨decide_eq_false (not_live M9.out.tw.a.ok HRS.out.2.2.1 hLL)⟩
          have M13 := Aside0.mk (M9.out.low hb)
          have L13 := Aside0.mk (below_then L9.out L9.out.size hb)
          have HCL := Aside0.mk hCl
          have HLL := Aside0.mk hcl
          clear hR hLL hb hCl hcl
          go_wp2_with fail
          refine Calls.mono (in_calls Al cl2 L2 id _ HCL.out HLL.out) ?_
          rintro e w16 ⟨rfl, hd⟩
          rw [NIN.out]
          have M14 := Aside0.mk (M13.out.low (drawn_below hd))
          have L14 := Aside0.mk (below_then L13.out L13.out.size (drawn_below hd))
          clear hd HCL HLL NIN
          go_wp2_with fail
          refine Calls.mono (live_calls w.heap.size S3 p2 T4 _ M14.out.tw.b) ?_
          rintro e w17 ⟨vl, L3, rfl, hR, hLL, hb⟩
          obtain ⟨Am, cm, rfl, hcl, hCl⟩ := R_slice_int hR
          have NIN : Aside0 (decide (id ∈ L3) = false) := ⟨decide_eq_false (not_live M14.out.tw.b.ok HT4.out hLL)⟩
          have L15 := Aside0.mk (below_then L14.out L14.out.size hb)
          have HCL := Aside0.mk hCl
          have HLL := Aside0.mk hcl
          clear hR hLL hb hCl hcl
          go_wp2_with fail
          refine Calls.mono (in_calls Am cm L3 id _ HCL.out HLL.out) ?_
          rintro e w18 ⟨rfl, hd⟩
          rw [NIN.out]
          have L16 := Aside0.mk (below_then L15.out L15.out.size (drawn_below hd))
          clear hd HCL HLL NIN
          go_wp2_with fail
          go_ret
          exact ⟨rfl, L16.out⟩

end Go.Proofs.YtagkncjdohljgaaDoor.St
