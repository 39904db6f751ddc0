/- ShareRefuses: always true where the text is small. -/
import Derived.Test.YtedkjbdkokdgdaaMFirstB
namespace Go.Proofs.Ytedkjbdkokdgdaa.Sh
open Go Go.RowKit Go.Proofs.YtedkjbdkokdgdaaW.PrintWords Go.Proofs.YtedkjbdkokdgdaaW.PrintLast Go.Proofs.YtedkjbdkokdgdaaW.PrintMore Go.Proofs.Ytedkjbdkokdgdaa.QL
set_option linter.unusedSimpArgs false
set_option linter.unusedVariables false
set_option maxHeartbeats 4000000
set_option maxRecDepth 100000
theorem and_le (x : Int) (m : Nat) (hm : m < 9223372036854775808) : 0 ≤ Go.bits .and .i64 x (m : Int) ∧ Go.bits .and .i64 x (m : Int) ≤ (m : Int) := by
  have e : Go.bits .and .i64 x (m : Int) = IntKind.i64.wrap (((BitVec.ofInt 64 x).toNat &&& m : Nat) : Int) := by
    have h64 : m % 2 ^ 64 = m := Nat.mod_eq_of_lt (by omega)
    show IntKind.i64.wrap _ = _
    simp only [BitVec.ofInt_natCast, BitVec.toNat_and, BitVec.toNat_ofNat]
    show IntKind.i64.wrap ((((BitVec.ofInt 64 x).toNat &&& (m % 2 ^ 64) : Nat)) : Int) = _
    rw [h64]
  have h : (BitVec.ofInt 64 x).toNat &&& m ≤ m := Nat.and_le_right
  rw [e, IntWalk.i64_in _ (by omega)]
  omega
theorem and_30 (x : Int) : 0 ≤ Go.bits .and .i64 x 1073741823 ∧ Go.bits .and .i64 x 1073741823 ≤ 1073741823 := and_le x 1073741823 (by decide)
theorem app_size (a b : ByteArray) : (a ++ b).size = a.size + b.size := ByteArray.size_append
theorem bare_of {s : ByteArray} (h : 0 < s.size) : bare s = false := by
  rw [bare_eq]
  have h2 : 0 < s.data.toList.length := by rw [Array.length_toList]; exact h
  cases hl : s.data.toList with
  | nil => rw [hl] at h2; simp at h2
  | cons a l => rfl
theorem upd_same (m : Int → Qu) (id : Int) (q : Qu) : updM m id q id = q := if_pos rfl
theorem upd_else (m : Int → Qu) {id b : Int} (q : Qu) (h : b ≠ id) : updM m id q b = m b := if_neg h
/-- Behind the one put that is taken. -/
def mR (j : Int) (T : ByteArray) : Int → Qu := updM m0 j ⟨T, true, true⟩
section
variable {j b : Int} {T : ByteArray} (hj : 1 ≤ j ∧ j ≤ 2147483647) (hb : b < 1 ∨ 2147483647 < b) (hT : 0 < T.size)
include hb in
theorem rf1 : putF m0 b T true = (1, m0) := by unfold putF; rw [if_pos hb]
include hj in
theorem rf2 : putF m0 j T true = (0, mR j T) := by
  unfold putF
  rw [if_neg (by omega), if_neg (by show ¬ false = true; decide)]
  show (0, updM m0 j ⟨ByteArray.empty ++ T, true, true⟩) = _
  rw [empty_app]
  rfl
include hj in
theorem rf3 (s : ByteArray) (e : Bool) : putF (mR j T) j s e = (8, mR j T) := by
  unfold putF
  have h : mR j T j = ⟨T, true, true⟩ := upd_same _ _ _
  rw [if_neg (by omega), if_pos (by rw [h])]
theorem mR_j : mR j T j = ⟨T, true, true⟩ := upd_same _ _ _
include hj hb in
theorem mR_b : mR j T b = Qu.zero := upd_else _ _ (by omega)
theorem rf4 (id c s : Int) : nextF (mR j T) id c s 0 = (⟨ByteArray.empty, false, 1⟩, mR j T) := by unfold nextF; rw [if_pos (by omega)]
include hT in
theorem rf5 (c s : Int) (h : c ≤ 0 ∨ s ≤ 0) : nextF (mR j T) j c s 1 = (⟨ByteArray.empty, false, 6⟩, mR j T) := by
  unfold nextF
  rw [mR_j, if_neg (by omega), if_neg (by rw [bare_of hT]; simp), if_pos ⟨bare_of hT, h⟩]
include hj hb in
theorem rf6 (c s : Int) : nextF (mR j T) b c s 1 = (⟨ByteArray.empty, false, 5⟩, mR j T) := by
  unfold nextF
  rw [mR_b hj hb, if_neg (by omega), if_pos ⟨bare_empty, rfl⟩]
include hT in
theorem rf7 (h : T.size ≤ 1099511627776) : (nextF (mR j T) j 1099511627776 1099511627776 (T.size : Int)).1 = ⟨T, true, 0⟩ ∧ ∀ b, b ≠ j → (nextF (mR j T) j 1099511627776 1099511627776 (T.size : Int)).2 b = Qu.zero := by
  unfold nextF
  have hk : roomF 1099511627776 1099511627776 (T.size : Int) (T.size : Int) = (T.size : Int) := by unfold roomF; omega
  rw [mR_j, if_neg (by omega), if_neg (by rw [bare_of hT]; simp), if_neg (by rintro ⟨_, h | h⟩ <;> omega), hk, Int.toNat_natCast]
  have e1 : T.extract 0 T.size = T := by apply ByteArray.ext; simp
  have e2 : bare (T.extract T.size T.size) = true := by rw [bare_eq]; simp
  rw [e1, e2]
  exact ⟨rfl, fun b hb => (upd_else _ _ hb).trans (upd_else _ _ hb)⟩
end
theorem refuses_calls (id bad : Int) (text : ByteArray) (w : World) (ht : text.size ≤ 1048576) (hbad : W64 bad) : Calls Try.prog 7 #[.int .i64 id, .string text, .int .i64 bad] w fun e w' => e = .returned (.bool true) ∧ Below w.heap.size w w' := by
  have HB := Aside0.mk (Below.refl w.heap.size w)
  have HBAD := Aside0.mk hbad
  obtain ⟨T, hTE⟩ : ∃ T, text ++ (⟨#[116]⟩ : ByteArray) = T := ⟨_, rfl⟩
  have HTE := Aside0.mk hTE
  have HT : Aside0 (0 < T.size ∧ T.size ≤ 1048577) := ⟨by rw [← hTE, app_size]; have e : (⟨#[116]⟩ : ByteArray).size = 1 := rfl; omega⟩
  have hts : (text.size : Int) + 1 ≤ 9223372036854775807 := by omega
  obtain ⟨j, hj⟩ : ∃ j, 1 + Go.bits .and .i64 id 1073741823 = j := ⟨_, rfl⟩
  have hr := and_30 id
  have HJ : Aside0 (1 ≤ j ∧ j ≤ 2147483647) := ⟨by omega⟩
  have HJE := Aside0.mk hj
  have hr2 := and_30 bad
  have hw1 : wrap64 (1 + Go.bits .and .i64 id 1073741823) = 1 + Go.bits .and .i64 id 1073741823 := by unfold wrap64; omega
  have HW1 := Aside0.mk hw1
  obtain ⟨q, hq⟩ : ∃ q, Go.bits .and .i64 bad 1073741823 = q := ⟨_, rfl⟩
  rw [hq] at hr2
  have HQ := Aside0.mk hq
  have HR2 := Aside0.mk hr2
  clear hTE ht hbad hj hr hw1 hq hr2
  by_cases hp : 0 < bad
  · have d1 : decide (0 < bad) = true := decide_eq_true hp
    have HP := Aside0.mk hp
    clear hp
    go_enter Try.func7, Try.ntmps7
    go_upto_region 4 with (go_at_call 10; refine (first_calls _).mono ?_; rintro e w0 ⟨rfl, hb⟩; have L0 := Aside0.mk hb; clear hb)
    rw [HW1.out, HJE.out]
    clear HW1 HJE
    go_upto_region 7 with fail
    obtain ⟨b1, hb1⟩ : ∃ b1, 2147483647 + q = b1 := ⟨_, rfl⟩
    obtain ⟨b, hb2⟩ : ∃ b, b1 + 1 = b := ⟨_, rfl⟩
    have hw2 : wrap64 (2147483647 + Go.bits .and .i64 bad 1073741823) = b1 := by rw [HQ.out, hb1]; have := HR2.out; unfold wrap64; omega
    have hw3 : wrap64 (b1 + 1) = b := by have := HR2.out; unfold wrap64; omega
    have HBB : Aside0 (b < 1 ∨ 2147483647 < b) := ⟨by have := HR2.out; omega⟩
    have HBW : Aside0 (W64 b) := ⟨by have := HR2.out; constructor <;> omega⟩
    rw [hw2, hw3]
    clear hw2 hw3 hb1 hb2 HQ HR2 d1
    go_upto_region 8 with (go_at_call 12; refine (new_calls _).mono ?_; rintro e w1 ⟨p, mb, rfl, hS, hp, hm, hb⟩; have S1 : Aside0 (ShAt w1 p mb 0 m0) := ⟨hS⟩; have L1 := Aside0.mk (below_then L0.out L0.out.size hb); have HM : Aside0 (w.heap.size ≤ mb) := ⟨Nat.le_trans L0.out.size hm⟩; clear hS hp hm hb)
    clear L0
    go_upto_region 11 with fail
    rw [HTE.out]
    have HZ1 : Aside0 ((m0 b).t.size + T.size ≤ 9223372036854775807) := ⟨by have := HT.out; show 0 + T.size ≤ _; omega⟩
    have HZ2 : Aside0 ((m0 j).t.size + T.size ≤ 9223372036854775807) := ⟨by have := HT.out; show 0 + T.size ≤ _; omega⟩
    have HZ3 : Aside0 ((mR j T j).t.size + (⟨#[109, 111, 114, 101]⟩ : ByteArray).size ≤ 9223372036854775807) := ⟨by rw [mR_j]; have := HT.out; show T.size + 4 ≤ _; omega⟩
    have HZ4 : Aside0 ((mR j T j).t.size + (⟨#[]⟩ : ByteArray).size ≤ 9223372036854775807) := ⟨by rw [mR_j]; have := HT.out; show T.size + 0 ≤ _; omega⟩
    go_upto_region 13 with (first
      | (go_at_call 15; with_reducible refine (put_calls p mb 3 (mR j T) j ⟨#[]⟩ false _ S4.out (by unfold maxLen; omega) HZ4.out).mono ?_; rintro e w5 ⟨rfl, hS, hg⟩; rw [rf3 HJ.out] at hS ⊢; have S5 := Aside0.mk hS; have L5 := Aside0.mk (grown_below L4.out hg HM.out L4.out.size); clear hS hg)
      | (go_at_call 15; with_reducible refine (put_calls p mb 2 (mR j T) j ⟨#[109, 111, 114, 101]⟩ true _ S3.out (by unfold maxLen; omega) HZ3.out).mono ?_; rintro e w4 ⟨rfl, hS, hg⟩; rw [rf3 HJ.out] at hS ⊢; have S4 := Aside0.mk hS; have L4 := Aside0.mk (grown_below L3.out hg HM.out L3.out.size); clear hS hg)
      | (go_at_call 15; with_reducible refine (put_calls p mb 1 m0 j T true _ S2.out (by unfold maxLen; omega) HZ2.out).mono ?_; rintro e w3 ⟨rfl, hS, hg⟩; rw [rf2 HJ.out] at hS ⊢; have S3 := Aside0.mk hS; have L3 := Aside0.mk (grown_below L2.out hg HM.out L2.out.size); clear hS hg)
      | (go_at_call 15; with_reducible refine (put_calls p mb 0 m0 b T true _ S1.out (by unfold maxLen; omega) HZ1.out).mono ?_; rintro e w2 ⟨rfl, hS, hg⟩; rw [rf1 HBB.out] at hS ⊢; have S2 := Aside0.mk hS; have L2 := Aside0.mk (grown_below L1.out hg HM.out L1.out.size); clear hS hg))
    clear S1 S2 S3 S4 L1 L2 L3 L4
    go_upto_region 14 with (go_at_call 16; refine (next_calls p mb 4 (mR j T) j (1) (1) (0) _ S5.out ⟨by have := HJ.out; omega, by have := HJ.out; omega⟩ (by unfold maxLen; omega) (by rw [mR_j]; have := HT.out; show T.size ≤ _; omega)).mono ?_; rintro e w6 ⟨rfl, hS, hg⟩; rw [rf4] at hS ⊢; have S6 := Aside0.mk hS; have L6 := Aside0.mk (grown_below L5.out hg HM.out L5.out.size); clear hS hg)
    clear S5 L5
    go_upto_region 15 with (go_at_call 16; refine (next_calls p mb 5 (mR j T) j (0) (1) (1) _ S6.out ⟨by have := HJ.out; omega, by have := HJ.out; omega⟩ (by unfold maxLen; omega) (by rw [mR_j]; have := HT.out; show T.size ≤ _; omega)).mono ?_; rintro e w7 ⟨rfl, hS, hg⟩; rw [rf5 HT.out.1 _ _ (by omega)] at hS ⊢; have S7 := Aside0.mk hS; have L7 := Aside0.mk (grown_below L6.out hg HM.out L6.out.size); clear hS hg)
    clear S6 L6
    go_upto_region 16 with (go_at_call 16; refine (next_calls p mb 6 (mR j T) j (1) (0) (1) _ S7.out ⟨by have := HJ.out; omega, by have := HJ.out; omega⟩ (by unfold maxLen; omega) (by rw [mR_j]; have := HT.out; show T.size ≤ _; omega)).mono ?_; rintro e w8 ⟨rfl, hS, hg⟩; rw [rf5 HT.out.1 _ _ (by omega)] at hS ⊢; have S8 := Aside0.mk hS; have L8 := Aside0.mk (grown_below L7.out hg HM.out L7.out.size); clear hS hg)
    clear S7 L7
    go_upto_region 17 with (go_at_call 16; refine (next_calls p mb 7 (mR j T) j (-1) (1) (1) _ S8.out ⟨by have := HJ.out; omega, by have := HJ.out; omega⟩ (by unfold maxLen; omega) (by rw [mR_j]; have := HT.out; show T.size ≤ _; omega)).mono ?_; rintro e w9 ⟨rfl, hS, hg⟩; rw [rf5 HT.out.1 _ _ (by omega)] at hS ⊢; have S9 := Aside0.mk hS; have L9 := Aside0.mk (grown_below L8.out hg HM.out L8.out.size); clear hS hg)
    clear S8 L8
    go_upto_region 18 with (go_at_call 16; refine (next_calls p mb 8 (mR j T) b (1) (1) (1) _ S9.out HBW.out (by unfold maxLen; omega) (by rw [mR_b HJ.out HBB.out]; show 0 ≤ _; omega)).mono ?_; rintro e w10 ⟨rfl, hS, hg⟩; rw [rf6 HJ.out HBB.out] at hS ⊢; have S10 := Aside0.mk hS; have L10 := Aside0.mk (grown_below L9.out hg HM.out L9.out.size); clear hS hg)
    clear S9 L9
    go_upto_region 19 with (go_at_call 16; refine (next_calls p mb 9 (mR j T) b (1) (1) (0) _ S10.out HBW.out (by unfold maxLen; omega) (by rw [mR_b HJ.out HBB.out]; show 0 ≤ _; omega)).mono ?_; rintro e w11 ⟨rfl, hS, hg⟩; rw [rf4] at hS ⊢; have S11 := Aside0.mk hS; have L11 := Aside0.mk (grown_below L10.out hg HM.out L10.out.size); clear hS hg)
    clear S10 L10
    go_upto_region 22 with (go_at_call 19; refine (waits_calls p mb 10 (mR j T) j _ S11.out ⟨by have := HJ.out; omega, by have := HJ.out; omega⟩).mono ?_; rintro e w12 ⟨rfl, hb⟩; rw [mR_j]; have S12 := Aside0.mk (S11.out.low hb); have L12 := Aside0.mk (below_then L11.out L11.out.size hb); clear hb)
    clear S11 L11
    obtain ⟨N, hN⟩ : ∃ N, nextF (mR j T) j 1099511627776 1099511627776 (T.size : Int) = N := ⟨_, rfl⟩
    have HN := Aside0.mk hN
    have HN1 : Aside0 (N.1 = ⟨T, true, 0⟩ ∧ ∀ z, z ≠ j → N.2 z = Qu.zero) := ⟨by rw [← hN]; exact rf7 HT.out.1 (by have := HT.out; omega)⟩
    clear hN
    go_upto_region 23 with (go_at_call 16; refine (next_calls p mb 10 (mR j T) j 1099511627776 1099511627776 (T.size : Int) _ S12.out ⟨by have := HJ.out; omega, by have := HJ.out; omega⟩ (by unfold maxLen; omega) (by rw [mR_j]; have := HT.out; show T.size ≤ _; omega)).mono ?_; rintro e w13 ⟨rfl, hS, hg⟩; rw [HN.out] at hS ⊢; rw [HN1.out.1]; have S13 := Aside0.mk hS; have L13 := Aside0.mk (grown_below L12.out hg HM.out L12.out.size); clear hS hg)
    clear S12 L12
    have HDB : Aside0 ((!(N.2 b).t.toList.isEmpty || (N.2 b).e) = false) := ⟨by rw [HN1.out.2 b (by have := HJ.out; have := HBB.out; omega), zero_t]; rfl⟩
    go_wp2_with (go_at_call 21; refine (drop_calls p mb 11 N.2 b false _ S13.out HBW.out HDB.out).mono ?_; rintro e w14 ⟨rfl, hS, hg⟩; have L14 := Aside0.mk (grown_below L13.out hg HM.out L13.out.size); clear hS hg)
    go_ret
    exact ⟨rfl, L14.out⟩
  · have d1 : decide (0 < bad) = false := decide_eq_false hp
    obtain ⟨b, hb⟩ : ∃ b, bad = b := ⟨_, rfl⟩
    subst hb
    have HBB : Aside0 (bad < 1 ∨ 2147483647 < bad) := ⟨by omega⟩
    have HBW := HBAD
    clear hp HQ HR2
    go_enter Try.func7, Try.ntmps7
    go_upto_region 4 with (go_at_call 10; refine (first_calls _).mono ?_; rintro e w0 ⟨rfl, hb⟩; have L0 := Aside0.mk hb; clear hb)
    rw [HW1.out, HJE.out]
    clear HW1 HJE
    go_upto_region 7 with fail
    clear d1
    go_upto_region 8 with (go_at_call 12; refine (new_calls _).mono ?_; rintro e w1 ⟨p, mb, rfl, hS, hp, hm, hb⟩; have S1 : Aside0 (ShAt w1 p mb 0 m0) := ⟨hS⟩; have L1 := Aside0.mk (below_then L0.out L0.out.size hb); have HM : Aside0 (w.heap.size ≤ mb) := ⟨Nat.le_trans L0.out.size hm⟩; clear hS hp hm hb)
    clear L0
    go_upto_region 11 with fail
    rw [HTE.out]
    have HZ1 : Aside0 ((m0 bad).t.size + T.size ≤ 9223372036854775807) := ⟨by have := HT.out; show 0 + T.size ≤ _; omega⟩
    have HZ2 : Aside0 ((m0 j).t.size + T.size ≤ 9223372036854775807) := ⟨by have := HT.out; show 0 + T.size ≤ _; omega⟩
    have HZ3 : Aside0 ((mR j T j).t.size + (⟨#[109, 111, 114, 101]⟩ : ByteArray).size ≤ 9223372036854775807) := ⟨by rw [mR_j]; have := HT.out; show T.size + 4 ≤ _; omega⟩
    have HZ4 : Aside0 ((mR j T j).t.size + (⟨#[]⟩ : ByteArray).size ≤ 9223372036854775807) := ⟨by rw [mR_j]; have := HT.out; show T.size + 0 ≤ _; omega⟩
    go_upto_region 13 with (first
      | (go_at_call 15; with_reducible refine (put_calls p mb 3 (mR j T) j ⟨#[]⟩ false _ S4.out (by unfold maxLen; omega) HZ4.out).mono ?_; rintro e w5 ⟨rfl, hS, hg⟩; rw [rf3 HJ.out] at hS ⊢; have S5 := Aside0.mk hS; have L5 := Aside0.mk (grown_below L4.out hg HM.out L4.out.size); clear hS hg)
      | (go_at_call 15; with_reducible refine (put_calls p mb 2 (mR j T) j ⟨#[109, 111, 114, 101]⟩ true _ S3.out (by unfold maxLen; omega) HZ3.out).mono ?_; rintro e w4 ⟨rfl, hS, hg⟩; rw [rf3 HJ.out] at hS ⊢; have S4 := Aside0.mk hS; have L4 := Aside0.mk (grown_below L3.out hg HM.out L3.out.size); clear hS hg)
      | (go_at_call 15; with_reducible refine (put_calls p mb 1 m0 j T true _ S2.out (by unfold maxLen; omega) HZ2.out).mono ?_; rintro e w3 ⟨rfl, hS, hg⟩; rw [rf2 HJ.out] at hS ⊢; have S3 := Aside0.mk hS; have L3 := Aside0.mk (grown_below L2.out hg HM.out L2.out.size); clear hS hg)
      | (go_at_call 15; with_reducible refine (put_calls p mb 0 m0 bad T true _ S1.out (by unfold maxLen; omega) HZ1.out).mono ?_; rintro e w2 ⟨rfl, hS, hg⟩; rw [rf1 HBB.out] at hS ⊢; have S2 := Aside0.mk hS; have L2 := Aside0.mk (grown_below L1.out hg HM.out L1.out.size); clear hS hg))
    clear S1 S2 S3 S4 L1 L2 L3 L4
    go_upto_region 14 with (go_at_call 16; refine (next_calls p mb 4 (mR j T) j (1) (1) (0) _ S5.out ⟨by have := HJ.out; omega, by have := HJ.out; omega⟩ (by unfold maxLen; omega) (by rw [mR_j]; have := HT.out; show T.size ≤ _; omega)).mono ?_; rintro e w6 ⟨rfl, hS, hg⟩; rw [rf4] at hS ⊢; have S6 := Aside0.mk hS; have L6 := Aside0.mk (grown_below L5.out hg HM.out L5.out.size); clear hS hg)
    clear S5 L5
    go_upto_region 15 with (go_at_call 16; refine (next_calls p mb 5 (mR j T) j (0) (1) (1) _ S6.out ⟨by have := HJ.out; omega, by have := HJ.out; omega⟩ (by unfold maxLen; omega) (by rw [mR_j]; have := HT.out; show T.size ≤ _; omega)).mono ?_; rintro e w7 ⟨rfl, hS, hg⟩; rw [rf5 HT.out.1 _ _ (by omega)] at hS ⊢; have S7 := Aside0.mk hS; have L7 := Aside0.mk (grown_below L6.out hg HM.out L6.out.size); clear hS hg)
    clear S6 L6
    go_upto_region 16 with (go_at_call 16; refine (next_calls p mb 6 (mR j T) j (1) (0) (1) _ S7.out ⟨by have := HJ.out; omega, by have := HJ.out; omega⟩ (by unfold maxLen; omega) (by rw [mR_j]; have := HT.out; show T.size ≤ _; omega)).mono ?_; rintro e w8 ⟨rfl, hS, hg⟩; rw [rf5 HT.out.1 _ _ (by omega)] at hS ⊢; have S8 := Aside0.mk hS; have L8 := Aside0.mk (grown_below L7.out hg HM.out L7.out.size); clear hS hg)
    clear S7 L7
    go_upto_region 17 with (go_at_call 16; refine (next_calls p mb 7 (mR j T) j (-1) (1) (1) _ S8.out ⟨by have := HJ.out; omega, by have := HJ.out; omega⟩ (by unfold maxLen; omega) (by rw [mR_j]; have := HT.out; show T.size ≤ _; omega)).mono ?_; rintro e w9 ⟨rfl, hS, hg⟩; rw [rf5 HT.out.1 _ _ (by omega)] at hS ⊢; have S9 := Aside0.mk hS; have L9 := Aside0.mk (grown_below L8.out hg HM.out L8.out.size); clear hS hg)
    clear S8 L8
    go_upto_region 18 with (go_at_call 16; refine (next_calls p mb 8 (mR j T) bad (1) (1) (1) _ S9.out HBW.out (by unfold maxLen; omega) (by rw [mR_b HJ.out HBB.out]; show 0 ≤ _; omega)).mono ?_; rintro e w10 ⟨rfl, hS, hg⟩; rw [rf6 HJ.out HBB.out] at hS ⊢; have S10 := Aside0.mk hS; have L10 := Aside0.mk (grown_below L9.out hg HM.out L9.out.size); clear hS hg)
    clear S9 L9
    go_upto_region 19 with (go_at_call 16; refine (next_calls p mb 9 (mR j T) bad (1) (1) (0) _ S10.out HBW.out (by unfold maxLen; omega) (by rw [mR_b HJ.out HBB.out]; show 0 ≤ _; omega)).mono ?_; rintro e w11 ⟨rfl, hS, hg⟩; rw [rf4] at hS ⊢; have S11 := Aside0.mk hS; have L11 := Aside0.mk (grown_below L10.out hg HM.out L10.out.size); clear hS hg)
    clear S10 L10
    go_upto_region 22 with (go_at_call 19; refine (waits_calls p mb 10 (mR j T) j _ S11.out ⟨by have := HJ.out; omega, by have := HJ.out; omega⟩).mono ?_; rintro e w12 ⟨rfl, hb⟩; rw [mR_j]; have S12 := Aside0.mk (S11.out.low hb); have L12 := Aside0.mk (below_then L11.out L11.out.size hb); clear hb)
    clear S11 L11
    obtain ⟨N, hN⟩ : ∃ N, nextF (mR j T) j 1099511627776 1099511627776 (T.size : Int) = N := ⟨_, rfl⟩
    have HN := Aside0.mk hN
    have HN1 : Aside0 (N.1 = ⟨T, true, 0⟩ ∧ ∀ z, z ≠ j → N.2 z = Qu.zero) := ⟨by rw [← hN]; exact rf7 HT.out.1 (by have := HT.out; omega)⟩
    clear hN
    go_upto_region 23 with (go_at_call 16; refine (next_calls p mb 10 (mR j T) j 1099511627776 1099511627776 (T.size : Int) _ S12.out ⟨by have := HJ.out; omega, by have := HJ.out; omega⟩ (by unfold maxLen; omega) (by rw [mR_j]; have := HT.out; show T.size ≤ _; omega)).mono ?_; rintro e w13 ⟨rfl, hS, hg⟩; rw [HN.out] at hS ⊢; rw [HN1.out.1]; have S13 := Aside0.mk hS; have L13 := Aside0.mk (grown_below L12.out hg HM.out L12.out.size); clear hS hg)
    clear S12 L12
    have HDB : Aside0 ((!(N.2 bad).t.toList.isEmpty || (N.2 bad).e) = false) := ⟨by rw [HN1.out.2 bad (by have := HJ.out; have := HBB.out; omega), zero_t]; rfl⟩
    go_wp2_with (go_at_call 21; refine (drop_calls p mb 11 N.2 bad false _ S13.out HBW.out HDB.out).mono ?_; rintro e w14 ⟨rfl, hS, hg⟩; have L14 := Aside0.mk (grown_below L13.out hg HM.out L13.out.size); clear hS hg)
    go_ret
    exact ⟨rfl, L14.out⟩
end Go.Proofs.Ytedkjbdkokdgdaa.Sh
