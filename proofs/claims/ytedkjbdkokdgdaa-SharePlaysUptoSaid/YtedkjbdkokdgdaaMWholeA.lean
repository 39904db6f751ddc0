/- ShareWhole: what Put and Next do to one stream; the rest of the program's check, walked. The texts are small. -/
import Derived.Test.YtedkjbdkokdgdaaMRefuses
import Derived.Test.YtedkjbdkokdgdaaMOps
import Derived.LoopN
import Derived.BigQuiet
import Derived.WalkSpells
namespace Go.Proofs.Ytedkjbdkokdgdaa.Sh
open Go Go.RowKit Go.Proofs.YtedkjbdkokdgdaaW.PrintWords Go.Proofs.YtedkjbdkokdgdaaW.PrintLast Go.Proofs.YtedkjbdkokdgdaaW.PrintMore Go.Proofs.Ytedkjbdkokdgdaa.QL
set_option linter.unusedSimpArgs false
set_option linter.unusedVariables false
set_option maxHeartbeats 2000000
set_option maxRecDepth 100000
theorem grown_low2 {B b : Nat} {w0 w w1 : World} (hw : B ≤ w0.heap.size) (h : Below B w0 w) (hg : w.grownBy w1 (some b)) (hb : B ≤ b) : Below B w0 w1 := grown_below h hg hb (Nat.le_trans hw h.size)
abbrev In31 (id : Int) : Prop := 1 ≤ id ∧ id ≤ 2147483647
theorem put_open {m : Int → Qu} {id : Int} (s : ByteArray) (e : Bool) (hid : In31 id) (h : (m id).o = false) : putF m id s e = (0, updM m id ⟨(m id).t ++ s, e, e⟩) := by
  unfold putF
  rw [if_neg (by have := hid.1; have := hid.2; omega), if_neg (by rw [h]; decide)]
theorem put_over {m : Int → Qu} {id : Int} (s : ByteArray) (e : Bool) (hid : In31 id) (h : (m id).o = true) : putF m id s e = (8, m) := by
  unfold putF
  rw [if_neg (by have := hid.1; have := hid.2; omega), if_pos h]
theorem bare_no {s : ByteArray} (h : s.size = 0) : bare s = true := by
  rw [bare_eq]
  have h2 : s.data.toList.length = 0 := by rw [Array.length_toList]; exact h
  rw [List.length_eq_zero_iff.1 h2]
  rfl
theorem ext_all (T : ByteArray) : T.extract 0 T.size = T := by apply ByteArray.ext; simp
theorem ext_app (T : ByteArray) (k : Nat) : T.extract 0 k ++ T.extract k T.size = T := by
  apply ByteArray.ext
  rw [ByteArray.data_append, ByteArray.data_extract, ByteArray.data_extract]
  simp
  exact Or.inr (Nat.le_max_right _ _)
section
variable {m : Int → Qu} {id : Int}
theorem next_empty (c s f : Int) (hf : 1 ≤ f) (h : (m id).t.size = 0) (he : (m id).e = false) : nextF m id c s f = (⟨ByteArray.empty, false, 5⟩, m) := by
  unfold nextF
  rw [if_neg (by omega), if_pos ⟨bare_no h, he⟩]
theorem next_stuck (c s f : Int) (hf : 1 ≤ f) (h : 0 < (m id).t.size) (hc : c ≤ 0 ∨ s ≤ 0) : nextF m id c s f = (⟨ByteArray.empty, false, 6⟩, m) := by
  unfold nextF
  rw [if_neg (by omega), if_neg (by rw [bare_of h]; simp), if_pos ⟨bare_of h, hc⟩]
theorem next_some (c s f : Int) (hf : 1 ≤ f) (h : 0 < (m id).t.size) (hc : 0 < c) (hs : 0 < s) (he : (m id).e = false) : ∃ k : Nat, 1 ≤ k ∧ k ≤ (m id).t.size ∧ (k : Int) ≤ c ∧ (k : Int) ≤ s ∧ (k : Int) ≤ f ∧ nextF m id c s f = (⟨(m id).t.extract 0 k, false, 0⟩, updM m id ⟨(m id).t.extract k (m id).t.size, (m id).o, false⟩) := by
  refine ⟨(roomF c s (m id).t.size f).toNat, ?_, ?_, ?_, ?_, ?_, ?_⟩
  · unfold roomF; omega
  · unfold roomF; omega
  · unfold roomF; omega
  · unfold roomF; omega
  · unfold roomF; omega
  · unfold nextF
    rw [if_neg (by omega), if_neg (by rw [bare_of h]; simp), if_neg (by rintro ⟨_, h | h⟩ <;> omega), he]
    simp
theorem next_five (h : 0 < (m id).t.size) (he : (m id).e = true) : nextF m id 1099511627776 1099511627776 5 = (⟨(m id).t.extract 0 5, decide ((m id).t.size ≤ 5), 0⟩, updM m id ⟨(m id).t.extract 5 (m id).t.size, (m id).o, decide (5 < (m id).t.size)⟩) := by
  unfold nextF
  rw [if_neg (by omega), if_neg (by rw [bare_of h]; simp), if_neg (by rintro ⟨_, h | h⟩ <;> omega), he]
  by_cases h5 : 5 < (m id).t.size
  · have hk : roomF 1099511627776 1099511627776 ((m id).t.size : Int) 5 = 5 := by unfold roomF; omega
    have hb : bare ((m id).t.extract 5 (m id).t.size) = false := bare_of (by rw [ByteArray.size_extract]; omega)
    rw [hk, show (5 : Int).toNat = 5 from rfl, hb, decide_eq_true h5, decide_eq_false (by omega)]
    rfl
  · have hk : roomF 1099511627776 1099511627776 ((m id).t.size : Int) 5 = ((m id).t.size : Int) := by unfold roomF; omega
    have hb : bare ((m id).t.extract (m id).t.size (m id).t.size) = true := bare_no (by rw [ByteArray.size_extract]; omega)
    have e1 : (m id).t.extract 0 5 = (m id).t.extract 0 (m id).t.size := by
      apply ByteArray.ext
      rw [ByteArray.data_extract, ByteArray.data_extract]
      apply Array.ext'
      have : (m id).t.size = (m id).t.data.toList.length := by rw [Array.length_toList]; rfl
      rw [Array.toList_extract, Array.toList_extract, List.extract_eq_take_drop, List.extract_eq_take_drop, List.drop_zero, List.take_of_length_le (by omega), List.take_of_length_le (by omega)]
    have e2 : (m id).t.extract 5 (m id).t.size = (m id).t.extract (m id).t.size (m id).t.size := by
      apply ByteArray.ext
      rw [ByteArray.data_extract, ByteArray.data_extract]
      apply Array.ext'
      have : (m id).t.size = (m id).t.data.toList.length := by rw [Array.length_toList]; rfl
      rw [Array.toList_extract, Array.toList_extract, List.extract_eq_take_drop, List.extract_eq_take_drop, this]
      simp
      omega
    rw [hk, Int.toNat_natCast, hb, decide_eq_false h5, decide_eq_true (by omega), e1, e2]
    rfl
end
abbrev tail : ByteArray := ⟨#[116, 97, 105, 108]⟩
theorem tail_size : tail.size = 4 := rfl
theorem rest_calls (p mb n : Nat) (m : Int → Qu) (id : Int) (put got : ByteArray) (B : Nat) (w : World) (h : ShAt w p mb n m) (hid : In31 id) (hn : n ≤ 1073741824) (hp : put.size ≤ 2199023255552) (ht : put = got ++ (m id).t) (ho : (m id).o = false) (he : (m id).e = false) (hm : B ≤ mb) (hw : B ≤ w.heap.size) :
    Calls Try.prog 20 #[.pointer (some ⟨p, 0, none⟩), .int .i64 id, .string put, .string got] w fun e w' => e = .returned (.bool true) ∧ Below B w w' := by
  have S0 := Aside0.mk h
  have HID := Aside0.mk hid
  have HIW : Aside0 (W64 id) := ⟨by have := hid.1; have := hid.2; constructor <;> omega⟩
  have HM := Aside0.mk hm
  have HTS : Aside0 ((m id).t.size ≤ 2199023255552) := ⟨by have := hp; rw [ht, app_size] at this; omega⟩
  obtain ⟨T1, hT1⟩ : ∃ T1, (m id).t ++ tail = T1 := ⟨_, rfl⟩
  have HT1 : Aside0 (4 ≤ T1.size ∧ T1.size ≤ 2199023255556) := ⟨by rw [← hT1, app_size, tail_size]; have := HTS.out; omega⟩
  obtain ⟨P, hP⟩ : ∃ P, put ++ tail = P := ⟨_, rfl⟩
  have HP := Aside0.mk hP
  have HPS : Aside0 (P.size = put.size + 4 ∧ put.size ≤ 2199023255552) := ⟨by rw [← hP, app_size, tail_size]; omega⟩
  have HPT : Aside0 (P = got ++ T1) := ⟨by rw [← hP, ← hT1, ht, ByteArray.append_assoc]⟩
  have hts : (put.size : Int) + 4 ≤ 9223372036854775807 := by omega
  obtain ⟨m1, hm1⟩ : ∃ m1, updM m id ⟨T1, true, true⟩ = m1 := ⟨_, rfl⟩
  have HQ1 : Aside0 (m1 id = ⟨T1, true, true⟩) := ⟨by rw [← hm1]; exact upd_same _ _ _⟩
  have HP1 : Aside0 (putF m id tail true = (0, m1)) := ⟨by rw [← hm1, ← hT1]; exact put_open _ _ hid ho⟩
  have HP2 : Aside0 (putF m1 id ⟨#[]⟩ false = (8, m1)) := ⟨put_over _ _ hid (by rw [HQ1.out])⟩
  have HZ1 : Aside0 ((m id).t.size + tail.size ≤ 9223372036854775807) := ⟨by rw [tail_size]; have := HTS.out; omega⟩
  have HZ2 : Aside0 ((m1 id).t.size + (⟨#[]⟩ : ByteArray).size ≤ 9223372036854775807) := ⟨by rw [HQ1.out]; have := HT1.out; show T1.size + 0 ≤ _; omega⟩
  have HN := Aside0.mk hn
  have HW := Aside0.mk hw
  have L0 : Aside0 (Below B w w) := ⟨(Below.refl _ _).mono hw⟩
  clear h hid hn hp ht ho he hm hw hT1 hP hm1
  go_enter Try.func20, Try.ntmps20
  go_upto_region 3 with (first
    | (go_at_call 15; with_reducible refine (put_calls p mb (n + 1) m1 id ⟨#[]⟩ false _ S1.out (by have := HN.out; unfold maxLen; omega) HZ2.out).mono ?_; rintro e w2 ⟨rfl, hS, hg⟩; rw [HP2.out] at hS ⊢; have S2 := Aside0.mk hS; have L2 := Aside0.mk (grown_low2 HW.out L1.out hg HM.out); clear hS hg)
    | (have hz := L0; go_at_call 15; with_reducible refine (put_calls p mb n m id tail true _ S0.out (by have := HN.out; unfold maxLen; omega) HZ1.out).mono ?_; rintro e w1 ⟨rfl, hS, hg⟩; rw [HP1.out] at hS ⊢; have S1 := Aside0.mk hS; have L1 := Aside0.mk (grown_low2 HW.out L0.out hg HM.out); clear hS hg))
  clear S0 S1 L0 L1
  go_upto_if 5 with fail
  rw [HP.out]
  clear HP
  go_loopw [3, 9] (fun v3 v9 w' => ∃ (k : Nat) (G : ByteArray) (M : Int → Qu), v3 = .string G ∧ v9 = .int .i64 (k : Int) ∧ Aside0 (k ≤ G.size) ∧ Aside0 (P = G ++ (M id).t) ∧ Aside0 ((M id).o = true ∧ (M id).e = true ∧ 0 < (M id).t.size) ∧ Aside0 (ShAt w' p mb (n + 2 + k) M) ∧ Aside0 (Below B w w')) (fun _ v _ => ((P.size : Int) + 1 - intOf v).toNat)
  case atStart => exact ⟨0, got, m1, rfl, rfl, ⟨Nat.zero_le _⟩, ⟨by rw [HQ1.out]; exact HPT.out⟩, ⟨by rw [HQ1.out]; have := HT1.out; exact ⟨rfl, rfl, by show 0 < T1.size; omega⟩⟩, S2, L2⟩
  case round =>
    clear S2 L2 HP1 HP2 HZ1 HZ2 HPT HQ1 HT1 HTS
    obtain ⟨k, G, M, rfl, rfl, HK, HPG, HQ, S1, L1⟩ := hrel
    obtain ⟨T, hT⟩ : ∃ T, (M id).t = T := ⟨_, rfl⟩
    have HT := Aside0.mk hT
    have HS : Aside0 (G.size + T.size = P.size) := ⟨by rw [← hT]; have := congrArg ByteArray.size HPG.out; rw [app_size] at this; omega⟩
    have HTP : Aside0 (0 < T.size) := ⟨by rw [← hT]; exact HQ.out.2.2⟩
    have d1 : decide ((k : Int) ≤ (P.size : Int)) = true := decide_eq_true (by have := HK.out; have := HS.out; omega)
    have d2 : decide (k ≤ P.size) = true := decide_eq_true (by have := HK.out; have := HS.out; omega)
    have hw1 : wrap64 ((k : Int) + 1) = ((k + 1 : Nat) : Int) := by have := HK.out; have := HS.out; have := HPS.out; unfold wrap64; omega
    have HHN : Aside0 (n + 2 + k < maxLen) := ⟨by have := HK.out; have := HS.out; have := HPS.out; have := HN.out; unfold maxLen; omega⟩
    have HHS : Aside0 ((M id).t.size ≤ 9223372036854775807) := ⟨by rw [hT]; have := HS.out; have := HPS.out; omega⟩
    by_cases h5 : T.size ≤ 5
    · obtain ⟨M2, hM2⟩ : ∃ M2, updM M id ⟨ByteArray.empty, true, false⟩ = M2 := ⟨_, rfl⟩
      have HQ2 : Aside0 (M2 id = ⟨ByteArray.empty, true, false⟩) := ⟨by rw [← hM2]; exact upd_same _ _ _⟩
      have HN1 : Aside0 (nextF M id 1099511627776 1099511627776 5 = (⟨T, true, 0⟩, M2)) := ⟨by
        rw [next_five HQ.out.2.2 HQ.out.2.1, hT, HQ.out.1, decide_eq_true h5, decide_eq_false (by omega), ← hM2]
        have e1 : T.extract 0 5 = T := by
          apply ByteArray.ext
          rw [ByteArray.data_extract]
          have : T.size = T.data.size := rfl
          rw [Array.extract_eq_self_of_le (by omega)]
        have e2 : T.extract 5 T.size = ByteArray.empty := by
          apply ByteArray.ext
          rw [ByteArray.data_extract]
          have : T.size = T.data.size := rfl
          exact Array.extract_empty_of_size_le_start (by omega)
        rw [e1, e2]⟩
      have HN2 : Aside0 (nextF M2 id 1099511627776 1099511627776 5 = (⟨ByteArray.empty, false, 5⟩, M2)) := ⟨next_empty _ _ _ (by omega) (by rw [HQ2.out]; rfl) (by rw [HQ2.out])⟩
      have HS2 : Aside0 ((M2 id).t.size ≤ 9223372036854775807) := ⟨by rw [HQ2.out]; show 0 ≤ _; omega⟩
      have HD2 : Aside0 ((!(M2 id).t.toList.isEmpty || (M2 id).e) = false) := ⟨by rw [HQ2.out]; show (!ByteArray.empty.toList.isEmpty || false) = false; rw [empty_is]; rfl⟩
      have HX2 : Aside0 (((updM M2 id Qu.zero) id).t.size + (⟨#[120]⟩ : ByteArray).size ≤ 9223372036854775807) := ⟨by rw [upd_same]; decide⟩
      have HXP : Aside0 ((putF (updM M2 id Qu.zero) id ⟨#[120]⟩ false).1 = 0) := ⟨by rw [put_open _ _ HID.out (by rw [upd_same]; rfl)]⟩
      have g1 : decide ((T.size : Int) < 1) = false := decide_eq_false (by have := HTP.out; omega)
      have g2 : decide (T.size < 1) = false := decide_eq_false (by have := HTP.out; omega)
      have g3 : decide ((5 : Int) < (T.size : Int)) = false := decide_eq_false (by omega)
      have g4 : decide (5 < T.size) = false := decide_eq_false (by omega)
      have g5 : (G.size : Int) + (T.size : Int) ≤ 9223372036854775807 := by have := HS.out; have := HPS.out; omega
      have HGT : Aside0 (G ++ T = P) := ⟨by rw [HPG.out, hT]⟩
      clear h5 hT hM2
      go_upto_region 8 with (go_at_call 16; with_reducible refine (next_calls p mb (n + 2 + k) M id 1099511627776 1099511627776 5 _ S1.out HIW.out HHN.out HHS.out).mono ?_; rintro e w2 ⟨rfl, hS, hg⟩; rw [HN1.out] at hS ⊢; have S2 := Aside0.mk hS; have L2 := Aside0.mk (grown_low2 HW.out L1.out hg HM.out); clear hS hg)
      clear S1 L1
      go_upto_region 11 with fail
      rw [HGT.out]
      go_upto_region 13 with (go_at_call 16; with_reducible refine (next_calls p mb (n + 2 + k + 1) M2 id 1099511627776 1099511627776 5 _ S2.out HIW.out (by have := HK.out; have := HS.out; have := HPS.out; have := HN.out; unfold maxLen; omega) HS2.out).mono ?_; rintro e w3 ⟨rfl, hS, hg⟩; rw [HN2.out] at hS ⊢; have S3 := Aside0.mk hS; have L3 := Aside0.mk (grown_low2 HW.out L2.out hg HM.out); clear hS hg)
      clear S2 L2
      go_wp2_with (first
        | (go_at_call 21; with_reducible refine (drop_calls p mb (n + 2 + k + 1 + 1) M2 id false _ S3.out HIW.out HD2.out).mono ?_; rintro e w4 ⟨rfl, hS, hg⟩; have S4 := Aside0.mk hS; have L4 := Aside0.mk (grown_low2 HW.out L3.out hg HM.out); clear hS hg)
        | (go_at_call 15; with_reducible refine (put_calls p mb (n + 2 + k + 1 + 1) (updM M2 id Qu.zero) id ⟨#[120]⟩ false _ S4.out (by have := HK.out; have := HS.out; have := HPS.out; have := HN.out; unfold maxLen; omega) HX2.out).mono ?_; rintro e w5 ⟨rfl, hS, hg⟩; rw [HXP.out]; have L5 := Aside0.mk (grown_low2 HW.out L4.out hg HM.out); clear hS hg))
      go_ret
      exact ⟨rfl, L5.out⟩
    · obtain ⟨U, hU⟩ : ∃ U, T.extract 0 5 = U := ⟨_, rfl⟩
      obtain ⟨R, hR⟩ : ∃ R, T.extract 5 T.size = R := ⟨_, rfl⟩
      obtain ⟨M2, hM2⟩ : ∃ M2, updM M id ⟨R, true, true⟩ = M2 := ⟨_, rfl⟩
      have HQ2 : Aside0 (M2 id = ⟨R, true, true⟩) := ⟨by rw [← hM2]; exact upd_same _ _ _⟩
      have HUS : Aside0 (U.size = 5) := ⟨by rw [← hU, ByteArray.size_extract]; omega⟩
      have HRS : Aside0 (R.size + 5 = T.size ∧ 0 < R.size) := ⟨by rw [← hR, ByteArray.size_extract]; omega⟩
      have HUR : Aside0 (U ++ R = T) := ⟨by rw [← hU, ← hR]; exact ext_app T 5⟩
      have HN1 : Aside0 (nextF M id 1099511627776 1099511627776 5 = (⟨U, false, 0⟩, M2)) := ⟨by
        rw [next_five HQ.out.2.2 HQ.out.2.1, hT, HQ.out.1, decide_eq_false h5, decide_eq_true (by omega), ← hM2, hU, hR]⟩
      have g1 : decide ((U.size : Int) < 1) = false := decide_eq_false (by have := HUS.out; omega)
      have g2 : decide (U.size < 1) = false := decide_eq_false (by have := HUS.out; omega)
      have g3 : decide ((5 : Int) < (U.size : Int)) = false := decide_eq_false (by have := HUS.out; omega)
      have g4 : decide (5 < U.size) = false := decide_eq_false (by have := HUS.out; omega)
      have g5 : (G.size : Int) + (U.size : Int) ≤ 9223372036854775807 := by have := HUS.out; have := HS.out; have := HPS.out; omega
      obtain ⟨G2, hG2⟩ : ∃ G2, G ++ U = G2 := ⟨_, rfl⟩
      have HG2 := Aside0.mk hG2
      have HGS : Aside0 (G2.size = G.size + 5) := ⟨by rw [← hG2, app_size, HUS.out]⟩
      have HPG2 : Aside0 (P = G2 ++ R) := ⟨by rw [HPG.out, hT, ← HUR.out, ← hG2, ByteArray.append_assoc]⟩
      have g6 : decide ((P.size : Int) ≤ (G2.size : Int)) = false := decide_eq_false (by have := HGS.out; have := HS.out; have := HRS.out; omega)
      have g7 : decide (P.size ≤ G2.size) = false := decide_eq_false (by have := HGS.out; have := HS.out; have := HRS.out; omega)
      clear h5 hT hU hR hM2 hG2
      go_upto_region 8 with (go_at_call 16; with_reducible refine (next_calls p mb (n + 2 + k) M id 1099511627776 1099511627776 5 _ S1.out HIW.out HHN.out HHS.out).mono ?_; rintro e w2 ⟨rfl, hS, hg⟩; rw [HN1.out] at hS ⊢; have S2 := Aside0.mk hS; have L2 := Aside0.mk (grown_low2 HW.out L1.out hg HM.out); clear hS hg)
      clear S1 L1
      go_upto_region 11 with fail
      rw [HG2.out]
      go_wp2_with fail
      go_roundw
      case rel => exact ⟨k + 1, G2, M2, rfl, congrArg (Value.int .i64) hw1, ⟨by have := HGS.out; have := HK.out; omega⟩, ⟨by rw [HQ2.out]; exact HPG2.out⟩, ⟨by rw [HQ2.out]; exact ⟨rfl, rfl, HRS.out.2⟩⟩, S2, L2⟩
      case measure =>
        rw [hw1]
        show ((P.size : Int) + 1 - ((k + 1 : Nat) : Int)).toNat < ((P.size : Int) + 1 - (k : Int)).toNat
        have := HK.out
        have := HS.out
        omega
end Go.Proofs.Ytedkjbdkokdgdaa.Sh
