/- ShareWhole: always true where the texts are small. -/
import Derived.Test.YtedkjbdkokdgdaaMWholeA
import Derived.Test.YtedkjbdkokdgdaaMRising
namespace Go.Proofs.Ytedkjbdkokdgdaa.QL
open Go Go.RowKit Go.Proofs.YtedkjbdkokdgdaaW.PrintWords Go.Proofs.YtedkjbdkokdgdaaW.PrintLast
structure S42 where
  f0 : ByteArray
  f1 : Int
  f2 : Int
  f3 : Int
  f4 : Int
def z42 : S42 := ⟨ByteArray.empty, 0, 0, 0, 0⟩
def k42 : Kd S42 := Kd.iso (Kd.pair Kd.string (Kd.pair (Kd.int .i64) (Kd.pair (Kd.int .i64) (Kd.pair (Kd.int .i64) (Kd.int .i64))))) (fun x : S42 => (x.f0, x.f1, x.f2, x.f3, x.f4))
theorem k42_open {w : World} {x : S42} {cs : List Value} (h : k42.K w x cs) : cs = [.string x.f0, .int .i64 x.f1, .int .i64 x.f2, .int .i64 x.f3, .int .i64 x.f4] := by
  obtain ⟨_, _, rfl, rfl, ⟨_, _, rfl, rfl, ⟨_, _, rfl, rfl, ⟨_, _, rfl, rfl, h⟩⟩⟩⟩ := h
  obtain rfl := h
  rfl
def rd_T42 (xs : List S42) (i : Int) : S42 := xs.getD i.toNat z42
theorem at_T42 {w : World} {A : Option Addr} {n : Nat} {xs : List S42} (h : Kd.C k42 w A n xs) (i : Int) (h0 : 0 ≤ i) (h1 : i < n) : ∃ ad, A = some ad ∧ w.cell? (ad.add (i.toNat * 5)) = some (.string (rd_T42 xs i).f0) ∧ w.cell? ⟨(ad.add (i.toNat * 5)).block, (ad.add (i.toNat * 5)).off + 1, none⟩ = some (.int .i64 (rd_T42 xs i).f1) ∧ w.cell? ⟨(ad.add (i.toNat * 5)).block, (ad.add (i.toNat * 5)).off + 2, none⟩ = some (.int .i64 (rd_T42 xs i).f2) ∧ w.cell? ⟨(ad.add (i.toNat * 5)).block, (ad.add (i.toNat * 5)).off + 3, none⟩ = some (.int .i64 (rd_T42 xs i).f3) ∧ w.cell? ⟨(ad.add (i.toNat * 5)).block, (ad.add (i.toNat * 5)).off + 4, none⟩ = some (.int .i64 (rd_T42 xs i).f4) := by
  obtain ⟨ad, c, e, _, hK, hc0⟩ := Kd.C_get h z42 i h0 h1
  have hc : ∀ j u, c[j]? = some u → w.cell? (ad.add (i.toNat * 5 + j)) = some u := hc0
  obtain rfl := k42_open hK
  exact ⟨ad, e, hc 0 _ rfl, by rw [← add_field _ _ 1 (by omega)]; exact hc 1 _ rfl, by rw [← add_field _ _ 2 (by omega)]; exact hc 2 _ rfl, by rw [← add_field _ _ 3 (by omega)]; exact hc 3 _ rfl, by rw [← add_field _ _ 4 (by omega)]; exact hc 4 _ rfl⟩
end Go.Proofs.Ytedkjbdkokdgdaa.QL
namespace Go.Proofs.Ytedkjbdkokdgdaa.Sh
open Go Go.RowKit Go.Proofs.YtedkjbdkokdgdaaW.PrintWords Go.Proofs.YtedkjbdkokdgdaaW.PrintLast Go.Proofs.YtedkjbdkokdgdaaW.PrintMore Go.Proofs.Ytedkjbdkokdgdaa.QL
set_option linter.unusedSimpArgs false
set_option linter.unusedVariables false
set_option maxHeartbeats 8000000
set_option maxRecDepth 100000
theorem put_else {m : Int → Qu} {id z : Int} (t : ByteArray) (e : Bool) (h : z ≠ id) : (putF m id t e).2 z = m z := by
  unfold putF
  split
  · rfl
  split
  · rfl
  · exact upd_else m _ h
theorem next_else {m : Int → Qu} {id z : Int} (c s f : Int) (h : z ≠ id) : (nextF m id c s f).2 z = m z := by
  unfold nextF
  split
  · rfl
  split
  · rfl
  split
  · rfl
  · exact upd_else m _ h
theorem left_one (id s : Int) : leftL id [⟨id, s⟩] = s := if_pos rfl
theorem bare_iff (s : ByteArray) : s.toList.isEmpty = decide (s.size = 0) := empty_size s
theorem whole_calls (A : Option Addr) (c : Nat) (id : Int) (l : List S42) (w : World) (hl : l.length ≤ 1048576) (hC : Kd.C k42 w A l.length l) (ht : ∀ x ∈ l, x.f0.size ≤ 1048576) :
    Calls Try.prog 5 #[.int .i64 id, .slice A l.length c] w fun e w' => e = .returned (.bool true) ∧ Below w.heap.size w w' := by
  have HL := Aside0.mk hl
  have HC := Aside0.mk hC
  have HT := Aside0.mk ht
  obtain ⟨j, hj⟩ : ∃ j, 1 + Go.bits .and .i64 id 1073741823 = j := ⟨_, rfl⟩
  have hr := and_30 id
  have HJ : Aside0 (In31 j) := ⟨by unfold In31; omega⟩
  have HJW : Aside0 (W64 j) := ⟨by have := HJ.out.1; have := HJ.out.2; constructor <;> omega⟩
  have HJE := Aside0.mk hj
  have HW1 : Aside0 (wrap64 (1 + Go.bits .and .i64 id 1073741823) = 1 + Go.bits .and .i64 id 1073741823) := ⟨by unfold wrap64; omega⟩
  clear hl hC ht hj hr
  go_enter Try.func5, Try.ntmps5
  go_upto_region 4 with (go_at_call 10; refine (first_calls _).mono ?_; rintro e w0 ⟨rfl, hb⟩; have L0 := Aside0.mk hb; clear hb)
  rw [HW1.out, HJE.out]
  clear HW1 HJE
  go_upto_if 10 with (go_at_call 12; refine (new_calls _).mono ?_; rintro e w1 ⟨p, mb, rfl, hS, hp, hm, hb⟩; have S1 : Aside0 (ShAt w1 p mb 0 m0) := ⟨hS⟩; have L1 := Aside0.mk (below_then L0.out L0.out.size hb); have HPM : Aside0 (w.heap.size ≤ mb ∧ w.heap.size ≤ p) := ⟨Nat.le_trans L0.out.size hm, Nat.le_trans L0.out.size hp⟩; clear hS hp hm hb)
  clear L0
  go_loopw [6, 7, 8] (fun v6 v7 v8 w' => ∃ (i : Nat) (put got : ByteArray) (m : Int → Qu), v6 = .string put ∧ v7 = .string got ∧ v8 = .int .i64 (i : Int) ∧ Aside0 (i ≤ l.length) ∧ Aside0 (put = got ++ (m j).t) ∧ Aside0 ((m j).o = false ∧ (m j).e = false) ∧ Aside0 (∀ z, (m z).t.size ≤ i * 1048576) ∧ Aside0 (put.size ≤ i * 1048576) ∧ Aside0 (ShAt w' p mb (3 * i) m) ∧ Aside0 (Below w.heap.size w w')) (fun _ _ v _ => ((l.length : Int) - intOf v).toNat)
  case atStart => exact ⟨0, ByteArray.empty, ByteArray.empty, m0, rfl, rfl, rfl, ⟨Nat.zero_le _⟩, ⟨rfl⟩, ⟨rfl, rfl⟩, ⟨fun z => Nat.le_of_eq (show ByteArray.empty.size = _ from rfl)⟩, ⟨Nat.le_of_eq (show ByteArray.empty.size = _ from rfl)⟩, S1, L1⟩
  case round =>
    clear S1 L1
    obtain ⟨i, put, got, m, rfl, rfl, rfl, HI, HPG, HQ, HZ, HPS, S1, L1⟩ := hrel
    by_cases hil : i < l.length
    · have d1 : decide ((i : Int) < (l.length : Int)) = true := decide_eq_true (by omega)
      have d2 : decide (i < l.length) = true := decide_eq_true hil
      have hw1 : wrap64 ((i : Int) + 1) = ((i + 1 : Nat) : Int) := by have := HL.out; unfold wrap64; omega
      have HM : Aside0 (i < l.length) := ⟨hil⟩
      have q0 : (0 : Int) ≤ (i : Int) := by omega
      have q1 : (i : Int) < (l.length : Int) := by omega
      obtain ⟨x, hx⟩ : ∃ x, rd_T42 l (i : Int) = x := ⟨_, rfl⟩
      have HX : Aside0 (x.f0.size ≤ 1048576) := ⟨by
        have hmem : x ∈ l := by
          rw [← hx]
          unfold rd_T42
          rw [Int.toNat_natCast, List.getD_eq_getElem?_getD, List.getElem?_eq_getElem hil]
          exact List.getElem_mem hil
        exact HT.out x hmem⟩
      obtain ⟨ad, hA, x0, x1, x2, x3, x4⟩ := at_T42 (Kd.C_below HC.out L1.out) (i : Int) q0 q1
      rw [Int.toNat_natCast, hx] at x0 x1 x2 x3 x4
      subst hA
      clear hx hil
      go_upto_region 13 with fail
      obtain ⟨W2, hW⟩ : ∃ W, wr.alloc (.cells #[.string x.f0, .int .i64 x.f1, .int .i64 x.f2, .int .i64 x.f3, .int .i64 x.f4] 42) = W := ⟨_, rfl⟩
      obtain ⟨g, hg⟩ : ∃ g, wr.heap.size = g := ⟨_, rfl⟩
      have hb : Below wr.heap.size wr W2 := by rw [← hW]; exact below_alloc (Below.refl _ _) _
      have X2 : Aside0 (W2.heap[g]? = some (.cells #[.string x.f0, .int .i64 x.f1, .int .i64 x.f2, .int .i64 x.f3, .int .i64 x.f4] 42 (0, 0))) := ⟨by rw [← hW, ← hg]; exact blk_new _ _⟩
      have S2 := Aside0.mk (S1.out.low hb)
      have L2 := Aside0.mk (below_then L1.out L1.out.size hb)
      have HGE : Aside0 (g ≠ mb) := ⟨by have := S1.out.mq.lt; omega⟩
      rw [hW, hg]
      clear hW hg hb x0 x1 x2 x3 x4 S1 L1 d1 d2
      have x4 := blk_cell X2.out 4
      obtain ⟨o, ho⟩ : ∃ o, 1 + Go.bits .and .i64 x.f4 1073741823 = o := ⟨_, rfl⟩
      have HOE : Aside0 (wrap64 (1 + Go.bits .and .i64 x.f4 1073741823) = o) := ⟨by rw [← ho]; have := and_30 x.f4; unfold wrap64; omega⟩
      have HO : Aside0 (W64 o) := ⟨by have := and_30 x.f4; constructor <;> omega⟩
      clear ho
      go_upto_region 14 with fail
      rw [HOE.out]
      clear HOE x4
      by_cases hoj : o = j
      · have e1 : (o == j) = true := beq_iff_eq.mpr hoj
        have e2 : (o != j) = false := by simp [hoj]
        clear hoj
        go_upto_region 17 with fail
        have SM : Aside0 (ShAt W2 p mb (3 * i + 2) m) := ⟨S2.out.mono (by omega)⟩
        have LM := L2
        have XM := X2
        obtain ⟨M, hM⟩ : ∃ M, m = M := ⟨_, rfl⟩
        have HMJ : Aside0 (M j = m j) := ⟨by rw [hM]⟩
        have HMZ : Aside0 (∀ z, (M z).t.size ≤ (i + 1) * 1048576) := ⟨fun z => by rw [← hM]; exact Nat.le_trans (HZ.out z) (Nat.mul_le_mul_right _ (Nat.le_succ i))⟩
        rw [show ShAt W2 p mb (3 * i + 2) m = ShAt W2 p mb (3 * i + 2) M by rw [hM]] at SM
        clear hM S2 L2 X2 e1 e2
        by_cases ht : x.f1 ≤ 0
        · have dt : decide (x.f1 ≤ 0) = true := decide_eq_true ht
          obtain ⟨M2, hM2⟩ : ∃ M2, updM M j ⟨(M j).t ++ x.f0, false, false⟩ = M2 := ⟨_, rfl⟩
          have HM2 : Aside0 (M2 j = ⟨(M j).t ++ x.f0, false, false⟩) := ⟨by rw [← hM2]; exact upd_same _ _ _⟩
          have HM2Z : Aside0 (∀ z, (M2 z).t.size ≤ (i + 1) * 1048576) := ⟨by rw [← hM2]; exact updM_size M j _ _ HMZ.out (by show ((M j).t ++ x.f0).size ≤ _; rw [app_size, HMJ.out]; have := HZ.out j; have := HX.out; omega)⟩
          have HPJ : Aside0 (putF M j x.f0 false = (0, M2)) := ⟨by rw [← hM2]; exact put_open _ _ HJ.out (by rw [HMJ.out]; exact HQ.out.1)⟩
          have HZS : Aside0 ((M j).t.size + x.f0.size ≤ 9223372036854775807) := ⟨by rw [HMJ.out]; have := HZ.out j; have := HX.out; have := HI.out; have := HL.out; omega⟩
          have HNM : Aside0 (3 * i + 2 < maxLen) := ⟨by have := HI.out; have := HL.out; unfold maxLen; omega⟩
          have hcat : (put.size : Int) + (x.f0.size : Int) ≤ 9223372036854775807 := by have := HPS.out; have := HX.out; have := HI.out; have := HL.out; omega
          have y0 := blk_cell XM.out 0
          have y1 := blk_cell XM.out 1
          clear ht hM2
          go_upto_region 20 with (go_at_call 15; (with_reducible refine (put_calls p mb (3 * i + 2) M j x.f0 false _ SM.out HNM.out HZS.out).mono ?_); rintro e w3 ⟨rfl, hS, hg⟩; rw [HPJ.out] at hS ⊢; have S3 := Aside0.mk hS; have L3 := Aside0.mk (grown_below LM.out hg HPM.out.1 LM.out.size); have X3 := Aside0.mk (blk_grown XM.out hg (fun e => HGE.out (Option.some.inj e))); clear hS hg)
          clear y0 y1 SM LM
          have y0 := blk_cell X3.out 0
          go_wp2_with fail
          go_roundw
          case rel => exact ⟨i + 1, put ++ x.f0, got, M2, rfl, rfl, congrArg (Value.int .i64) hw1, ⟨by have := HM.out; omega⟩, ⟨by rw [HM2.out, HPG.out, HMJ.out, ByteArray.append_assoc]⟩, ⟨by rw [HM2.out]; exact ⟨rfl, rfl⟩⟩, HM2Z, ⟨by rw [app_size]; have := HPS.out; have := HX.out; omega⟩, ⟨S3.out.mono (by omega)⟩, L3⟩
          case measure =>
            rw [hw1]
            show ((l.length : Int) - ((i + 1 : Nat) : Int)).toNat < ((l.length : Int) - (i : Int)).toNat
            have := HM.out
            omega
        · have dt : decide (x.f1 ≤ 0) = false := decide_eq_false ht
          have HTK : Aside0 (1 ≤ x.f1) := ⟨by omega⟩
          have hd : decide (x.f1 < 0) = false := decide_eq_false (by omega)
          clear ht
          obtain ⟨T, hT⟩ : ∃ T, (m j).t = T := ⟨_, rfl⟩
          have HTJ := Aside0.mk hT
          have HTM : Aside0 ((M j).t = T) := ⟨by rw [HMJ.out, hT]⟩
          have HOM : Aside0 ((M j).o = false ∧ (M j).e = false) := ⟨by rw [HMJ.out]; exact HQ.out⟩
          have HPT : Aside0 (put.size = got.size + T.size) := ⟨by rw [HPG.out, hT, app_size]⟩
          clear hT
          by_cases hz : T.size = 0
          · obtain ⟨U, hU⟩ : ∃ U, ByteArray.empty = U := ⟨_, rfl⟩
            obtain ⟨R, hR⟩ : ∃ R, ByteArray.empty = R := ⟨_, rfl⟩
            obtain ⟨M2, hM2⟩ : ∃ M2, M = M2 := ⟨_, rfl⟩
            have HE : Aside0 (T = ByteArray.empty) := ⟨ByteArray.ext (Array.eq_empty_of_size_eq_zero hz)⟩
            have HNX : Aside0 (nextF M j x.f2 x.f3 x.f1 = (⟨U, false, 5⟩, M2)) := ⟨by rw [← hU, ← hM2]; exact next_empty _ _ _ HTK.out (by rw [HTM.out]; exact hz) HOM.out.2⟩
            have HM2 : Aside0 (M2 j = ⟨R, false, false⟩) := ⟨by rw [← hM2, ← hR, HMJ.out]; have h1 := HTJ.out; have h2 := HQ.out; have h3 := HE.out; cases hq : m j; rw [hq] at h1 h2; simp only at h1 h2; rw [h1, h2.1, h2.2, h3]⟩
            have HUR : Aside0 (U ++ R = T) := ⟨by rw [← hU, ← hR, HE.out]; rfl⟩
            have HRB : Aside0 (rdyB (M j) x.f2 x.f3 = false) := ⟨by unfold rdyB; rw [HTM.out, if_pos (by rw [bare_iff]; exact decide_eq_true hz), HOM.out.2]⟩
            have u0 : U.size = 0 := by rw [← hU]; rfl
            have u1 : U.toList.isEmpty = true := by rw [bare_iff]; exact decide_eq_true u0
            have u2 : decide (x.f1 < (U.size : Int)) = false := decide_eq_false (by have := HTK.out; omega)
            have u5 : ((got.size : Int) == (put.size : Int)) = true := beq_iff_eq.mpr (by have := HPT.out; omega)
            have u6 : (got.size == put.size) = true := beq_iff_eq.mpr (by have := HPT.out; omega)
            clear hU hR hM2 hz u0
            have HM2Z : Aside0 (∀ z, (M2 z).t.size ≤ (i + 1) * 1048576) := ⟨fun z => by have h := nextF_size M j x.f2 x.f3 x.f1 _ HMZ.out z; rw [HNX.out] at h; exact h⟩
            have HZS : Aside0 ((M j).t.size ≤ 9223372036854775807) := ⟨by rw [HMJ.out]; have := HZ.out j; have := HI.out; have := HL.out; omega⟩
            have HNM : Aside0 (3 * i + 2 < maxLen) := ⟨by have := HI.out; have := HL.out; unfold maxLen; omega⟩
            have HPS2 : Aside0 (put.size ≤ (i + 1) * 1048576) := ⟨Nat.le_trans HPS.out (Nat.mul_le_mul_right _ (Nat.le_succ i))⟩
            have HN33 : Aside0 (3 * i + 2 + 1 ≤ 3 * (i + 1)) := ⟨by omega⟩
            have HN30 : Aside0 (3 * i + 2 ≤ 1073741824) := ⟨by have := HI.out; have := HL.out; omega⟩
            obtain ⟨G2, hG2⟩ : ∃ G2, got ++ U = G2 := ⟨_, rfl⟩
            have HG2 := Aside0.mk hG2
            have HPG2 : Aside0 (put = G2 ++ R) := ⟨by rw [HPG.out, HTJ.out, ← HUR.out, ← hG2, ByteArray.append_assoc]⟩
            have HS2 : Aside0 (G2.size + R.size = put.size) := ⟨by have := congrArg ByteArray.size HPG2.out; rw [app_size] at this; omega⟩
            have HSU : Aside0 (got.size + U.size = G2.size) := ⟨by rw [← hG2, app_size]⟩
            have hcat : (got.size : Int) + (U.size : Int) ≤ 9223372036854775807 := by have := HSU.out; have := HS2.out; have := HPS.out; have := HI.out; have := HL.out; omega
            have hw2 : wrap64 ((put.size : Int) - (G2.size : Int)) = (R.size : Int) := by have := HS2.out; have := HPS.out; have := HI.out; have := HL.out; unfold wrap64; omega
            have hw3 : IntKind.i64.wrap ((put.size : Int) - (G2.size : Int)) = (R.size : Int) := by have := HS2.out; have := HPS.out; have := HI.out; have := HL.out; rw [IntWalk.i64_in _ (by omega)]; omega
            have HRB2 : Aside0 (rdyB (M j) x.f2 (leftL j [⟨j, x.f3⟩]) = false) := ⟨by rw [left_one]; exact HRB.out⟩
            have y0 := blk_cell XM.out 0
            have y1 := blk_cell XM.out 1
            have y2 := blk_cell XM.out 2
            have y3 := blk_cell XM.out 3
            clear hG2
            go_upto_region 22 with (first
              | (go_at_call 17; (with_reducible refine (has_calls A1 c1 ids j _ CI.out HC1.out).mono ?_); rintro e w4 ⟨rfl, hb⟩; rw [mem_dec HIDS.out j, HRB2.out]; have S4 := Aside0.mk (S3.out.low hb); have L4 := Aside0.mk (below_then L3.out L3.out.size hb); have X4 := Aside0.mk (blk_below X3.out hb); clear hb)
              | (go_at_call 18; refine (ready_calls p mb (3 * i + 2) M x.f2 (some ⟨_, 0, none⟩) 1 [⟨j, x.f3⟩] _ (SM.out.low (below_alloc (Below.refl _ _) _)) HN30.out (show 1 ≤ 9223372036854775807 by decide) (C_50_one (blk_new _ _))).mono ?_; rintro e w3 hR; obtain ⟨v, ids, rfl, hR, hids, hb⟩ := hR; obtain ⟨A1, c1, rfl, hc1, hC1⟩ := R_slice_int hR; have S3 := Aside0.mk ((SM.out.low (below_alloc (Below.refl _ _) _)).low hb); have L3 := Aside0.mk (below_then (below_alloc LM.out _) (Nat.le_trans LM.out.size (by rw [World.size_alloc]; omega)) hb); have X3 := Aside0.mk (blk_below (blk_below XM.out (below_alloc (Below.refl _ _) _)) hb); have HIDS := Aside0.mk hids; have HC1 := Aside0.mk hc1; have CI := Aside0.mk hC1; clear hR hids hb hc1 hC1))
            clear y0 y1 y2 y3 SM LM XM S3 L3 X3 CI HIDS HC1
            have y0 := blk_cell X4.out 0
            have y1 := blk_cell X4.out 1
            have y2 := blk_cell X4.out 2
            have y3 := blk_cell X4.out 3
            go_upto_region 23 with (go_at_call 16; (with_reducible refine (next_calls p mb (3 * i + 2) M j x.f2 x.f3 x.f1 _ S4.out HJW.out HNM.out HZS.out).mono ?_); rintro e w5 ⟨rfl, hS, hg⟩; rw [HNX.out] at hS ⊢; have S5 := Aside0.mk hS; have L5 := Aside0.mk (grown_below L4.out hg HPM.out.1 L4.out.size); have X5 := Aside0.mk (blk_grown X4.out hg (fun e => HGE.out (Option.some.inj e))); clear hS hg)
            clear y0 y1 y2 y3 S4 L4 X4
            have y1 := blk_cell X5.out 1
            have y2 := blk_cell X5.out 2
            have y3 := blk_cell X5.out 3
            go_upto_region 28 with fail
            rw [HG2.out]
            clear y1 y2 y3
            go_upto_region 29 with (go_at_call 19; refine (waits_calls p mb (3 * i + 2 + 1) M2 j _ S5.out HJW.out).mono ?_; rintro e w6 ⟨rfl, hb⟩; rw [HM2.out]; have S6 := Aside0.mk (S5.out.low hb); have L6 := Aside0.mk (below_then L5.out L5.out.size hb); clear hb)
            clear S5 L5
            go_wp2_with fail
            go_roundw
            case rel => exact ⟨i + 1, put, G2, M2, rfl, rfl, congrArg (Value.int .i64) hw1, ⟨by have := HM.out; omega⟩, ⟨by rw [HM2.out]; exact HPG2.out⟩, ⟨by rw [HM2.out]; exact ⟨rfl, rfl⟩⟩, HM2Z, HPS2, ⟨S6.out.mono HN33.out⟩, L6⟩
            case measure =>
              rw [hw1]
              show ((l.length : Int) - ((i + 1 : Nat) : Int)).toNat < ((l.length : Int) - (i : Int)).toNat
              have := HM.out
              omega
          · have HZP : Aside0 (0 < T.size) := ⟨by omega⟩
            by_cases hc : x.f2 ≤ 0 ∨ x.f3 ≤ 0
            · obtain ⟨U, hU⟩ : ∃ U, ByteArray.empty = U := ⟨_, rfl⟩
              obtain ⟨R, hR⟩ : ∃ R, T = R := ⟨_, rfl⟩
              obtain ⟨M2, hM2⟩ : ∃ M2, M = M2 := ⟨_, rfl⟩
              have HNX : Aside0 (nextF M j x.f2 x.f3 x.f1 = (⟨U, false, 6⟩, M2)) := ⟨by rw [← hU, ← hM2]; exact next_stuck _ _ _ HTK.out (by rw [HTM.out]; exact HZP.out) hc⟩
              have HM2 : Aside0 (M2 j = ⟨R, false, false⟩) := ⟨by rw [← hM2, ← hR, HMJ.out]; have h1 := HTJ.out; have h2 := HQ.out; cases hq : m j; rw [hq] at h1 h2; simp only at h1 h2; rw [h1, h2.1, h2.2]⟩
              have HUR : Aside0 (U ++ R = T) := ⟨by rw [← hU, ← hR]; exact empty_app T⟩
              have HRB : Aside0 (rdyB (M j) x.f2 x.f3 = false) := ⟨by unfold rdyB; rw [HTM.out, if_neg (by rw [bare_iff, decide_eq_false (by have := HZP.out; omega)]; decide)]; rcases hc with h | h <;> simp <;> omega⟩
              have u0 : U.size = 0 := by rw [← hU]; rfl
              have u1 : U.toList.isEmpty = true := by rw [bare_iff]; exact decide_eq_true u0
              have u2 : decide (x.f1 < (U.size : Int)) = false := decide_eq_false (by have := HTK.out; omega)
              have u5 : ((got.size : Int) == (put.size : Int)) = false := beq_eq_false_iff_ne.mpr (by have := HPT.out; have := HZP.out; omega)
              have u6 : (got.size == put.size) = false := beq_eq_false_iff_ne.mpr (by have := HPT.out; have := HZP.out; omega)
              clear hU hR hM2 hz hc u0
              have HM2Z : Aside0 (∀ z, (M2 z).t.size ≤ (i + 1) * 1048576) := ⟨fun z => by have h := nextF_size M j x.f2 x.f3 x.f1 _ HMZ.out z; rw [HNX.out] at h; exact h⟩
              have HZS : Aside0 ((M j).t.size ≤ 9223372036854775807) := ⟨by rw [HMJ.out]; have := HZ.out j; have := HI.out; have := HL.out; omega⟩
              have HNM : Aside0 (3 * i + 2 < maxLen) := ⟨by have := HI.out; have := HL.out; unfold maxLen; omega⟩
              have HPS2 : Aside0 (put.size ≤ (i + 1) * 1048576) := ⟨Nat.le_trans HPS.out (Nat.mul_le_mul_right _ (Nat.le_succ i))⟩
              have HN33 : Aside0 (3 * i + 2 + 1 ≤ 3 * (i + 1)) := ⟨by omega⟩
              have HN30 : Aside0 (3 * i + 2 ≤ 1073741824) := ⟨by have := HI.out; have := HL.out; omega⟩
              obtain ⟨G2, hG2⟩ : ∃ G2, got ++ U = G2 := ⟨_, rfl⟩
              have HG2 := Aside0.mk hG2
              have HPG2 : Aside0 (put = G2 ++ R) := ⟨by rw [HPG.out, HTJ.out, ← HUR.out, ← hG2, ByteArray.append_assoc]⟩
              have HS2 : Aside0 (G2.size + R.size = put.size) := ⟨by have := congrArg ByteArray.size HPG2.out; rw [app_size] at this; omega⟩
              have HSU : Aside0 (got.size + U.size = G2.size) := ⟨by rw [← hG2, app_size]⟩
              have hcat : (got.size : Int) + (U.size : Int) ≤ 9223372036854775807 := by have := HSU.out; have := HS2.out; have := HPS.out; have := HI.out; have := HL.out; omega
              have hw2 : wrap64 ((put.size : Int) - (G2.size : Int)) = (R.size : Int) := by have := HS2.out; have := HPS.out; have := HI.out; have := HL.out; unfold wrap64; omega
              have hw3 : IntKind.i64.wrap ((put.size : Int) - (G2.size : Int)) = (R.size : Int) := by have := HS2.out; have := HPS.out; have := HI.out; have := HL.out; rw [IntWalk.i64_in _ (by omega)]; omega
              have HRB2 : Aside0 (rdyB (M j) x.f2 (leftL j [⟨j, x.f3⟩]) = false) := ⟨by rw [left_one]; exact HRB.out⟩
              have y0 := blk_cell XM.out 0
              have y1 := blk_cell XM.out 1
              have y2 := blk_cell XM.out 2
              have y3 := blk_cell XM.out 3
              clear hG2
              go_upto_region 22 with (first
                | (go_at_call 17; (with_reducible refine (has_calls A1 c1 ids j _ CI.out HC1.out).mono ?_); rintro e w4 ⟨rfl, hb⟩; rw [mem_dec HIDS.out j, HRB2.out]; have S4 := Aside0.mk (S3.out.low hb); have L4 := Aside0.mk (below_then L3.out L3.out.size hb); have X4 := Aside0.mk (blk_below X3.out hb); clear hb)
                | (go_at_call 18; refine (ready_calls p mb (3 * i + 2) M x.f2 (some ⟨_, 0, none⟩) 1 [⟨j, x.f3⟩] _ (SM.out.low (below_alloc (Below.refl _ _) _)) HN30.out (show 1 ≤ 9223372036854775807 by decide) (C_50_one (blk_new _ _))).mono ?_; rintro e w3 hR; obtain ⟨v, ids, rfl, hR, hids, hb⟩ := hR; obtain ⟨A1, c1, rfl, hc1, hC1⟩ := R_slice_int hR; have S3 := Aside0.mk ((SM.out.low (below_alloc (Below.refl _ _) _)).low hb); have L3 := Aside0.mk (below_then (below_alloc LM.out _) (Nat.le_trans LM.out.size (by rw [World.size_alloc]; omega)) hb); have X3 := Aside0.mk (blk_below (blk_below XM.out (below_alloc (Below.refl _ _) _)) hb); have HIDS := Aside0.mk hids; have HC1 := Aside0.mk hc1; have CI := Aside0.mk hC1; clear hR hids hb hc1 hC1))
              clear y0 y1 y2 y3 SM LM XM S3 L3 X3 CI HIDS HC1
              have y0 := blk_cell X4.out 0
              have y1 := blk_cell X4.out 1
              have y2 := blk_cell X4.out 2
              have y3 := blk_cell X4.out 3
              go_upto_region 23 with (go_at_call 16; (with_reducible refine (next_calls p mb (3 * i + 2) M j x.f2 x.f3 x.f1 _ S4.out HJW.out HNM.out HZS.out).mono ?_); rintro e w5 ⟨rfl, hS, hg⟩; rw [HNX.out] at hS ⊢; have S5 := Aside0.mk hS; have L5 := Aside0.mk (grown_below L4.out hg HPM.out.1 L4.out.size); have X5 := Aside0.mk (blk_grown X4.out hg (fun e => HGE.out (Option.some.inj e))); clear hS hg)
              clear y0 y1 y2 y3 S4 L4 X4
              have y1 := blk_cell X5.out 1
              have y2 := blk_cell X5.out 2
              have y3 := blk_cell X5.out 3
              go_upto_region 28 with fail
              rw [HG2.out]
              clear y1 y2 y3
              go_upto_region 29 with (go_at_call 19; refine (waits_calls p mb (3 * i + 2 + 1) M2 j _ S5.out HJW.out).mono ?_; rintro e w6 ⟨rfl, hb⟩; rw [HM2.out]; have S6 := Aside0.mk (S5.out.low hb); have L6 := Aside0.mk (below_then L5.out L5.out.size hb); clear hb)
              clear S5 L5
              go_wp2_with fail
              go_roundw
              case rel => exact ⟨i + 1, put, G2, M2, rfl, rfl, congrArg (Value.int .i64) hw1, ⟨by have := HM.out; omega⟩, ⟨by rw [HM2.out]; exact HPG2.out⟩, ⟨by rw [HM2.out]; exact ⟨rfl, rfl⟩⟩, HM2Z, HPS2, ⟨S6.out.mono HN33.out⟩, L6⟩
              case measure =>
                rw [hw1]
                show ((l.length : Int) - ((i + 1 : Nat) : Int)).toNat < ((l.length : Int) - (i : Int)).toNat
                have := HM.out
                omega
            · obtain ⟨k, hk1, hk2, hk3, hk4, hk5, hN⟩ := next_some (m := M) (id := j) x.f2 x.f3 x.f1 HTK.out (by rw [HTM.out]; exact HZP.out) (by omega) (by omega) HOM.out.2
              rw [HTM.out, HOM.out.1] at hN
              rw [HTM.out] at hk2
              obtain ⟨U, hU⟩ : ∃ U, T.extract 0 k = U := ⟨_, rfl⟩
              obtain ⟨R, hR⟩ : ∃ R, T.extract k T.size = R := ⟨_, rfl⟩
              rw [hU, hR] at hN
              obtain ⟨M2, hM2⟩ : ∃ M2, updM M j ⟨R, false, false⟩ = M2 := ⟨_, rfl⟩
              rw [hM2] at hN
              have HNX : Aside0 (nextF M j x.f2 x.f3 x.f1 = (⟨U, false, 0⟩, M2)) := ⟨hN⟩
              have HM2 : Aside0 (M2 j = ⟨R, false, false⟩) := ⟨by rw [← hM2]; exact upd_same _ _ _⟩
              have HUR : Aside0 (U ++ R = T) := ⟨by rw [← hU, ← hR]; exact ext_app T k⟩
              have HRB : Aside0 (rdyB (M j) x.f2 x.f3 = true) := ⟨by unfold rdyB; rw [HTM.out, if_neg (by rw [bare_iff, decide_eq_false (by have := HZP.out; omega)]; decide)]; simp; omega⟩
              have hus : U.size = k := by rw [← hU, ByteArray.size_extract]; omega
              have u1 : U.toList.isEmpty = false := by rw [bare_iff]; exact decide_eq_false (by omega)
              have u2 : decide (x.f1 < (U.size : Int)) = false := decide_eq_false (by omega)
              have u3 : decide (x.f2 < (U.size : Int)) = false := decide_eq_false (by omega)
              have u4 : decide (x.f3 < (U.size : Int)) = false := decide_eq_false (by omega)
              have u5 : ((got.size : Int) == (put.size : Int)) = false := beq_eq_false_iff_ne.mpr (by have := HPT.out; have := HZP.out; omega)
              have u6 : (got.size == put.size) = false := beq_eq_false_iff_ne.mpr (by have := HPT.out; have := HZP.out; omega)
              clear hz hc hk1 hk2 hk3 hk4 hk5 hN hU hR hM2 hus
              have HM2Z : Aside0 (∀ z, (M2 z).t.size ≤ (i + 1) * 1048576) := ⟨fun z => by have h := nextF_size M j x.f2 x.f3 x.f1 _ HMZ.out z; rw [HNX.out] at h; exact h⟩
              have HZS : Aside0 ((M j).t.size ≤ 9223372036854775807) := ⟨by rw [HMJ.out]; have := HZ.out j; have := HI.out; have := HL.out; omega⟩
              have HNM : Aside0 (3 * i + 2 < maxLen) := ⟨by have := HI.out; have := HL.out; unfold maxLen; omega⟩
              have HPS2 : Aside0 (put.size ≤ (i + 1) * 1048576) := ⟨Nat.le_trans HPS.out (Nat.mul_le_mul_right _ (Nat.le_succ i))⟩
              have HN33 : Aside0 (3 * i + 2 + 1 ≤ 3 * (i + 1)) := ⟨by omega⟩
              have HN30 : Aside0 (3 * i + 2 ≤ 1073741824) := ⟨by have := HI.out; have := HL.out; omega⟩
              obtain ⟨G2, hG2⟩ : ∃ G2, got ++ U = G2 := ⟨_, rfl⟩
              have HG2 := Aside0.mk hG2
              have HPG2 : Aside0 (put = G2 ++ R) := ⟨by rw [HPG.out, HTJ.out, ← HUR.out, ← hG2, ByteArray.append_assoc]⟩
              have HS2 : Aside0 (G2.size + R.size = put.size) := ⟨by have := congrArg ByteArray.size HPG2.out; rw [app_size] at this; omega⟩
              have HSU : Aside0 (got.size + U.size = G2.size) := ⟨by rw [← hG2, app_size]⟩
              have hcat : (got.size : Int) + (U.size : Int) ≤ 9223372036854775807 := by have := HSU.out; have := HS2.out; have := HPS.out; have := HI.out; have := HL.out; omega
              have hw2 : wrap64 ((put.size : Int) - (G2.size : Int)) = (R.size : Int) := by have := HS2.out; have := HPS.out; have := HI.out; have := HL.out; unfold wrap64; omega
              have hw3 : IntKind.i64.wrap ((put.size : Int) - (G2.size : Int)) = (R.size : Int) := by have := HS2.out; have := HPS.out; have := HI.out; have := HL.out; rw [IntWalk.i64_in _ (by omega)]; omega
              have HRB2 : Aside0 (rdyB (M j) x.f2 (leftL j [⟨j, x.f3⟩]) = true) := ⟨by rw [left_one]; exact HRB.out⟩
              have y0 := blk_cell XM.out 0
              have y1 := blk_cell XM.out 1
              have y2 := blk_cell XM.out 2
              have y3 := blk_cell XM.out 3
              clear hG2
              go_upto_region 22 with (first
                | (go_at_call 17; (with_reducible refine (has_calls A1 c1 ids j _ CI.out HC1.out).mono ?_); rintro e w4 ⟨rfl, hb⟩; rw [mem_dec HIDS.out j, HRB2.out]; have S4 := Aside0.mk (S3.out.low hb); have L4 := Aside0.mk (below_then L3.out L3.out.size hb); have X4 := Aside0.mk (blk_below X3.out hb); clear hb)
                | (go_at_call 18; refine (ready_calls p mb (3 * i + 2) M x.f2 (some ⟨_, 0, none⟩) 1 [⟨j, x.f3⟩] _ (SM.out.low (below_alloc (Below.refl _ _) _)) HN30.out (show 1 ≤ 9223372036854775807 by decide) (C_50_one (blk_new _ _))).mono ?_; rintro e w3 hR; obtain ⟨v, ids, rfl, hR, hids, hb⟩ := hR; obtain ⟨A1, c1, rfl, hc1, hC1⟩ := R_slice_int hR; have S3 := Aside0.mk ((SM.out.low (below_alloc (Below.refl _ _) _)).low hb); have L3 := Aside0.mk (below_then (below_alloc LM.out _) (Nat.le_trans LM.out.size (by rw [World.size_alloc]; omega)) hb); have X3 := Aside0.mk (blk_below (blk_below XM.out (below_alloc (Below.refl _ _) _)) hb); have HIDS := Aside0.mk hids; have HC1 := Aside0.mk hc1; have CI := Aside0.mk hC1; clear hR hids hb hc1 hC1))
              clear y0 y1 y2 y3 SM LM XM S3 L3 X3 CI HIDS HC1
              have y0 := blk_cell X4.out 0
              have y1 := blk_cell X4.out 1
              have y2 := blk_cell X4.out 2
              have y3 := blk_cell X4.out 3
              go_upto_region 23 with (go_at_call 16; (with_reducible refine (next_calls p mb (3 * i + 2) M j x.f2 x.f3 x.f1 _ S4.out HJW.out HNM.out HZS.out).mono ?_); rintro e w5 ⟨rfl, hS, hg⟩; rw [HNX.out] at hS ⊢; have S5 := Aside0.mk hS; have L5 := Aside0.mk (grown_below L4.out hg HPM.out.1 L4.out.size); have X5 := Aside0.mk (blk_grown X4.out hg (fun e => HGE.out (Option.some.inj e))); clear hS hg)
              clear y0 y1 y2 y3 S4 L4 X4
              have y1 := blk_cell X5.out 1
              have y2 := blk_cell X5.out 2
              have y3 := blk_cell X5.out 3
              go_upto_region 28 with fail
              rw [HG2.out]
              clear y1 y2 y3
              go_upto_region 29 with (go_at_call 19; refine (waits_calls p mb (3 * i + 2 + 1) M2 j _ S5.out HJW.out).mono ?_; rintro e w6 ⟨rfl, hb⟩; rw [HM2.out]; have S6 := Aside0.mk (S5.out.low hb); have L6 := Aside0.mk (below_then L5.out L5.out.size hb); clear hb)
              clear S5 L5
              go_wp2_with fail
              go_roundw
              case rel => exact ⟨i + 1, put, G2, M2, rfl, rfl, congrArg (Value.int .i64) hw1, ⟨by have := HM.out; omega⟩, ⟨by rw [HM2.out]; exact HPG2.out⟩, ⟨by rw [HM2.out]; exact ⟨rfl, rfl⟩⟩, HM2Z, HPS2, ⟨S6.out.mono HN33.out⟩, L6⟩
              case measure =>
                rw [hw1]
                show ((l.length : Int) - ((i + 1 : Nat) : Int)).toNat < ((l.length : Int) - (i : Int)).toNat
                have := HM.out
                omega
      · have e1 : (o == j) = false := beq_eq_false_iff_ne.mpr hoj
        have e2 : (o != j) = true := by simp [hoj]
        have HOJ : Aside0 (j ≠ o) := ⟨fun h => hoj h.symm⟩
        obtain ⟨b, hb⟩ : ∃ b, (Go.bits .and .i64 x.f1 1 == 1) = b := ⟨_, rfl⟩
        have HZ1 : Aside0 ((m o).t.size + x.f0.size ≤ 9223372036854775807) := ⟨by have := HZ.out o; have := HX.out; have := HI.out; have := HL.out; omega⟩
        obtain ⟨m1, hm1⟩ : ∃ m1, (putF m o x.f0 b).2 = m1 := ⟨_, rfl⟩
        have HM1 := Aside0.mk hm1
        have HM1J : Aside0 (m1 j = m j) := ⟨by rw [← hm1]; exact put_else _ _ HOJ.out⟩
        have HM1Z : Aside0 (∀ z, (m1 z).t.size ≤ (i + 1) * 1048576) := ⟨by rw [← hm1]; exact putF_size m o x.f0 b (i * 1048576) _ HZ.out (by have := HX.out; omega)⟩
        have HZ2 : Aside0 ((m1 o).t.size ≤ 9223372036854775807) := ⟨by have := HM1Z.out o; have := HI.out; have := HL.out; omega⟩
        obtain ⟨M, hM⟩ : ∃ M, (nextF m1 o 9 9 2).2 = M := ⟨_, rfl⟩
        have HMX := Aside0.mk hM
        have HMJ : Aside0 (M j = m j) := ⟨by rw [← hM]; exact (next_else _ _ _ HOJ.out).trans HM1J.out⟩
        have HMZ : Aside0 (∀ z, (M z).t.size ≤ (i + 1) * 1048576) := ⟨by rw [← hM]; exact nextF_size m1 o 9 9 2 _ HM1Z.out⟩
        have HN1 : Aside0 (3 * i < maxLen) := ⟨by have := HI.out; have := HL.out; unfold maxLen; omega⟩
        have HN2 : Aside0 (3 * i + 1 < maxLen) := ⟨by have := HI.out; have := HL.out; unfold maxLen; omega⟩
        have x0 := blk_cell X2.out 0
        have x1 := blk_cell X2.out 1
        clear hoj hm1 hM
        go_upto_region 17 with (first
          | (go_at_call 16; (with_reducible refine (next_calls p mb (3 * i + 1) m1 o 9 9 2 _ S3.out HO.out HN2.out HZ2.out).mono ?_); rintro e w4 ⟨rfl, hS, hg⟩; rw [HMX.out] at hS; have SM := Aside0.mk hS; have LM := Aside0.mk (grown_below L3.out hg HPM.out.1 L3.out.size); have XM := Aside0.mk (blk_grown X3.out hg (fun e => HGE.out (Option.some.inj e))); clear hS hg)
          | (go_at_call 15; (with_reducible refine (put_calls p mb (3 * i) m o x.f0 b _ S2.out HN1.out HZ1.out).mono ?_); rintro e w3 ⟨rfl, hS, hg⟩; rw [HM1.out] at hS; have S3 := Aside0.mk hS; have L3 := Aside0.mk (grown_below L2.out hg HPM.out.1 L2.out.size); have X3 := Aside0.mk (blk_grown X2.out hg (fun e => HGE.out (Option.some.inj e))); clear hS hg))
        clear S2 L2 X2 S3 L3 X3 e1 e2 hb x0 x1 HM1 HM1J HM1Z HMX
        by_cases ht : x.f1 ≤ 0
        · have dt : decide (x.f1 ≤ 0) = true := decide_eq_true ht
          obtain ⟨M2, hM2⟩ : ∃ M2, updM M j ⟨(M j).t ++ x.f0, false, false⟩ = M2 := ⟨_, rfl⟩
          have HM2 : Aside0 (M2 j = ⟨(M j).t ++ x.f0, false, false⟩) := ⟨by rw [← hM2]; exact upd_same _ _ _⟩
          have HM2Z : Aside0 (∀ z, (M2 z).t.size ≤ (i + 1) * 1048576) := ⟨by rw [← hM2]; exact updM_size M j _ _ HMZ.out (by show ((M j).t ++ x.f0).size ≤ _; rw [app_size, HMJ.out]; have := HZ.out j; have := HX.out; omega)⟩
          have HPJ : Aside0 (putF M j x.f0 false = (0, M2)) := ⟨by rw [← hM2]; exact put_open _ _ HJ.out (by rw [HMJ.out]; exact HQ.out.1)⟩
          have HZS : Aside0 ((M j).t.size + x.f0.size ≤ 9223372036854775807) := ⟨by rw [HMJ.out]; have := HZ.out j; have := HX.out; have := HI.out; have := HL.out; omega⟩
          have HNM : Aside0 (3 * i + 2 < maxLen) := ⟨by have := HI.out; have := HL.out; unfold maxLen; omega⟩
          have hcat : (put.size : Int) + (x.f0.size : Int) ≤ 9223372036854775807 := by have := HPS.out; have := HX.out; have := HI.out; have := HL.out; omega
          have y0 := blk_cell XM.out 0
          have y1 := blk_cell XM.out 1
          clear ht hM2
          go_upto_region 20 with (go_at_call 15; (with_reducible refine (put_calls p mb (3 * i + 2) M j x.f0 false _ SM.out HNM.out HZS.out).mono ?_); rintro e w3 ⟨rfl, hS, hg⟩; rw [HPJ.out] at hS ⊢; have S3 := Aside0.mk hS; have L3 := Aside0.mk (grown_below LM.out hg HPM.out.1 LM.out.size); have X3 := Aside0.mk (blk_grown XM.out hg (fun e => HGE.out (Option.some.inj e))); clear hS hg)
          clear y0 y1 SM LM
          have y0 := blk_cell X3.out 0
          go_wp2_with fail
          go_roundw
          case rel => exact ⟨i + 1, put ++ x.f0, got, M2, rfl, rfl, congrArg (Value.int .i64) hw1, ⟨by have := HM.out; omega⟩, ⟨by rw [HM2.out, HPG.out, HMJ.out, ByteArray.append_assoc]⟩, ⟨by rw [HM2.out]; exact ⟨rfl, rfl⟩⟩, HM2Z, ⟨by rw [app_size]; have := HPS.out; have := HX.out; omega⟩, ⟨S3.out.mono (by omega)⟩, L3⟩
          case measure =>
            rw [hw1]
            show ((l.length : Int) - ((i + 1 : Nat) : Int)).toNat < ((l.length : Int) - (i : Int)).toNat
            have := HM.out
            omega
        · have dt : decide (x.f1 ≤ 0) = false := decide_eq_false ht
          have HTK : Aside0 (1 ≤ x.f1) := ⟨by omega⟩
          have hd : decide (x.f1 < 0) = false := decide_eq_false (by omega)
          clear ht
          obtain ⟨T, hT⟩ : ∃ T, (m j).t = T := ⟨_, rfl⟩
          have HTJ := Aside0.mk hT
          have HTM : Aside0 ((M j).t = T) := ⟨by rw [HMJ.out, hT]⟩
          have HOM : Aside0 ((M j).o = false ∧ (M j).e = false) := ⟨by rw [HMJ.out]; exact HQ.out⟩
          have HPT : Aside0 (put.size = got.size + T.size) := ⟨by rw [HPG.out, hT, app_size]⟩
          clear hT
          by_cases hz : T.size = 0
          · obtain ⟨U, hU⟩ : ∃ U, ByteArray.empty = U := ⟨_, rfl⟩
            obtain ⟨R, hR⟩ : ∃ R, ByteArray.empty = R := ⟨_, rfl⟩
            obtain ⟨M2, hM2⟩ : ∃ M2, M = M2 := ⟨_, rfl⟩
            have HE : Aside0 (T = ByteArray.empty) := ⟨ByteArray.ext (Array.eq_empty_of_size_eq_zero hz)⟩
            have HNX : Aside0 (nextF M j x.f2 x.f3 x.f1 = (⟨U, false, 5⟩, M2)) := ⟨by rw [← hU, ← hM2]; exact next_empty _ _ _ HTK.out (by rw [HTM.out]; exact hz) HOM.out.2⟩
            have HM2 : Aside0 (M2 j = ⟨R, false, false⟩) := ⟨by rw [← hM2, ← hR, HMJ.out]; have h1 := HTJ.out; have h2 := HQ.out; have h3 := HE.out; cases hq : m j; rw [hq] at h1 h2; simp only at h1 h2; rw [h1, h2.1, h2.2, h3]⟩
            have HUR : Aside0 (U ++ R = T) := ⟨by rw [← hU, ← hR, HE.out]; rfl⟩
            have HRB : Aside0 (rdyB (M j) x.f2 x.f3 = false) := ⟨by unfold rdyB; rw [HTM.out, if_pos (by rw [bare_iff]; exact decide_eq_true hz), HOM.out.2]⟩
            have u0 : U.size = 0 := by rw [← hU]; rfl
            have u1 : U.toList.isEmpty = true := by rw [bare_iff]; exact decide_eq_true u0
            have u2 : decide (x.f1 < (U.size : Int)) = false := decide_eq_false (by have := HTK.out; omega)
            have u5 : ((got.size : Int) == (put.size : Int)) = true := beq_iff_eq.mpr (by have := HPT.out; omega)
            have u6 : (got.size == put.size) = true := beq_iff_eq.mpr (by have := HPT.out; omega)
            clear hU hR hM2 hz u0
            have HM2Z : Aside0 (∀ z, (M2 z).t.size ≤ (i + 1) * 1048576) := ⟨fun z => by have h := nextF_size M j x.f2 x.f3 x.f1 _ HMZ.out z; rw [HNX.out] at h; exact h⟩
            have HZS : Aside0 ((M j).t.size ≤ 9223372036854775807) := ⟨by rw [HMJ.out]; have := HZ.out j; have := HI.out; have := HL.out; omega⟩
            have HNM : Aside0 (3 * i + 2 < maxLen) := ⟨by have := HI.out; have := HL.out; unfold maxLen; omega⟩
            have HPS2 : Aside0 (put.size ≤ (i + 1) * 1048576) := ⟨Nat.le_trans HPS.out (Nat.mul_le_mul_right _ (Nat.le_succ i))⟩
            have HN33 : Aside0 (3 * i + 2 + 1 ≤ 3 * (i + 1)) := ⟨by omega⟩
            have HN30 : Aside0 (3 * i + 2 ≤ 1073741824) := ⟨by have := HI.out; have := HL.out; omega⟩
            obtain ⟨G2, hG2⟩ : ∃ G2, got ++ U = G2 := ⟨_, rfl⟩
            have HG2 := Aside0.mk hG2
            have HPG2 : Aside0 (put = G2 ++ R) := ⟨by rw [HPG.out, HTJ.out, ← HUR.out, ← hG2, ByteArray.append_assoc]⟩
            have HS2 : Aside0 (G2.size + R.size = put.size) := ⟨by have := congrArg ByteArray.size HPG2.out; rw [app_size] at this; omega⟩
            have HSU : Aside0 (got.size + U.size = G2.size) := ⟨by rw [← hG2, app_size]⟩
            have hcat : (got.size : Int) + (U.size : Int) ≤ 9223372036854775807 := by have := HSU.out; have := HS2.out; have := HPS.out; have := HI.out; have := HL.out; omega
            have hw2 : wrap64 ((put.size : Int) - (G2.size : Int)) = (R.size : Int) := by have := HS2.out; have := HPS.out; have := HI.out; have := HL.out; unfold wrap64; omega
            have hw3 : IntKind.i64.wrap ((put.size : Int) - (G2.size : Int)) = (R.size : Int) := by have := HS2.out; have := HPS.out; have := HI.out; have := HL.out; rw [IntWalk.i64_in _ (by omega)]; omega
            have HRB2 : Aside0 (rdyB (M j) x.f2 (leftL j [⟨j, x.f3⟩]) = false) := ⟨by rw [left_one]; exact HRB.out⟩
            have y0 := blk_cell XM.out 0
            have y1 := blk_cell XM.out 1
            have y2 := blk_cell XM.out 2
            have y3 := blk_cell XM.out 3
            clear hG2
            go_upto_region 22 with (first
              | (go_at_call 17; (with_reducible refine (has_calls A1 c1 ids j _ CI.out HC1.out).mono ?_); rintro e w4 ⟨rfl, hb⟩; rw [mem_dec HIDS.out j, HRB2.out]; have S4 := Aside0.mk (S3.out.low hb); have L4 := Aside0.mk (below_then L3.out L3.out.size hb); have X4 := Aside0.mk (blk_below X3.out hb); clear hb)
              | (go_at_call 18; refine (ready_calls p mb (3 * i + 2) M x.f2 (some ⟨_, 0, none⟩) 1 [⟨j, x.f3⟩] _ (SM.out.low (below_alloc (Below.refl _ _) _)) HN30.out (show 1 ≤ 9223372036854775807 by decide) (C_50_one (blk_new _ _))).mono ?_; rintro e w3 hR; obtain ⟨v, ids, rfl, hR, hids, hb⟩ := hR; obtain ⟨A1, c1, rfl, hc1, hC1⟩ := R_slice_int hR; have S3 := Aside0.mk ((SM.out.low (below_alloc (Below.refl _ _) _)).low hb); have L3 := Aside0.mk (below_then (below_alloc LM.out _) (Nat.le_trans LM.out.size (by rw [World.size_alloc]; omega)) hb); have X3 := Aside0.mk (blk_below (blk_below XM.out (below_alloc (Below.refl _ _) _)) hb); have HIDS := Aside0.mk hids; have HC1 := Aside0.mk hc1; have CI := Aside0.mk hC1; clear hR hids hb hc1 hC1))
            clear y0 y1 y2 y3 SM LM XM S3 L3 X3 CI HIDS HC1
            have y0 := blk_cell X4.out 0
            have y1 := blk_cell X4.out 1
            have y2 := blk_cell X4.out 2
            have y3 := blk_cell X4.out 3
            go_upto_region 23 with (go_at_call 16; (with_reducible refine (next_calls p mb (3 * i + 2) M j x.f2 x.f3 x.f1 _ S4.out HJW.out HNM.out HZS.out).mono ?_); rintro e w5 ⟨rfl, hS, hg⟩; rw [HNX.out] at hS ⊢; have S5 := Aside0.mk hS; have L5 := Aside0.mk (grown_below L4.out hg HPM.out.1 L4.out.size); have X5 := Aside0.mk (blk_grown X4.out hg (fun e => HGE.out (Option.some.inj e))); clear hS hg)
            clear y0 y1 y2 y3 S4 L4 X4
            have y1 := blk_cell X5.out 1
            have y2 := blk_cell X5.out 2
            have y3 := blk_cell X5.out 3
            go_upto_region 28 with fail
            rw [HG2.out]
            clear y1 y2 y3
            go_upto_region 29 with (go_at_call 19; refine (waits_calls p mb (3 * i + 2 + 1) M2 j _ S5.out HJW.out).mono ?_; rintro e w6 ⟨rfl, hb⟩; rw [HM2.out]; have S6 := Aside0.mk (S5.out.low hb); have L6 := Aside0.mk (below_then L5.out L5.out.size hb); clear hb)
            clear S5 L5
            go_wp2_with fail
            go_roundw
            case rel => exact ⟨i + 1, put, G2, M2, rfl, rfl, congrArg (Value.int .i64) hw1, ⟨by have := HM.out; omega⟩, ⟨by rw [HM2.out]; exact HPG2.out⟩, ⟨by rw [HM2.out]; exact ⟨rfl, rfl⟩⟩, HM2Z, HPS2, ⟨S6.out.mono HN33.out⟩, L6⟩
            case measure =>
              rw [hw1]
              show ((l.length : Int) - ((i + 1 : Nat) : Int)).toNat < ((l.length : Int) - (i : Int)).toNat
              have := HM.out
              omega
          · have HZP : Aside0 (0 < T.size) := ⟨by omega⟩
            by_cases hc : x.f2 ≤ 0 ∨ x.f3 ≤ 0
            · obtain ⟨U, hU⟩ : ∃ U, ByteArray.empty = U := ⟨_, rfl⟩
              obtain ⟨R, hR⟩ : ∃ R, T = R := ⟨_, rfl⟩
              obtain ⟨M2, hM2⟩ : ∃ M2, M = M2 := ⟨_, rfl⟩
              have HNX : Aside0 (nextF M j x.f2 x.f3 x.f1 = (⟨U, false, 6⟩, M2)) := ⟨by rw [← hU, ← hM2]; exact next_stuck _ _ _ HTK.out (by rw [HTM.out]; exact HZP.out) hc⟩
              have HM2 : Aside0 (M2 j = ⟨R, false, false⟩) := ⟨by rw [← hM2, ← hR, HMJ.out]; have h1 := HTJ.out; have h2 := HQ.out; cases hq : m j; rw [hq] at h1 h2; simp only at h1 h2; rw [h1, h2.1, h2.2]⟩
              have HUR : Aside0 (U ++ R = T) := ⟨by rw [← hU, ← hR]; exact empty_app T⟩
              have HRB : Aside0 (rdyB (M j) x.f2 x.f3 = false) := ⟨by unfold rdyB; rw [HTM.out, if_neg (by rw [bare_iff, decide_eq_false (by have := HZP.out; omega)]; decide)]; rcases hc with h | h <;> simp <;> omega⟩
              have u0 : U.size = 0 := by rw [← hU]; rfl
              have u1 : U.toList.isEmpty = true := by rw [bare_iff]; exact decide_eq_true u0
              have u2 : decide (x.f1 < (U.size : Int)) = false := decide_eq_false (by have := HTK.out; omega)
              have u5 : ((got.size : Int) == (put.size : Int)) = false := beq_eq_false_iff_ne.mpr (by have := HPT.out; have := HZP.out; omega)
              have u6 : (got.size == put.size) = false := beq_eq_false_iff_ne.mpr (by have := HPT.out; have := HZP.out; omega)
              clear hU hR hM2 hz hc u0
              have HM2Z : Aside0 (∀ z, (M2 z).t.size ≤ (i + 1) * 1048576) := ⟨fun z => by have h := nextF_size M j x.f2 x.f3 x.f1 _ HMZ.out z; rw [HNX.out] at h; exact h⟩
              have HZS : Aside0 ((M j).t.size ≤ 9223372036854775807) := ⟨by rw [HMJ.out]; have := HZ.out j; have := HI.out; have := HL.out; omega⟩
              have HNM : Aside0 (3 * i + 2 < maxLen) := ⟨by have := HI.out; have := HL.out; unfold maxLen; omega⟩
              have HPS2 : Aside0 (put.size ≤ (i + 1) * 1048576) := ⟨Nat.le_trans HPS.out (Nat.mul_le_mul_right _ (Nat.le_succ i))⟩
              have HN33 : Aside0 (3 * i + 2 + 1 ≤ 3 * (i + 1)) := ⟨by omega⟩
              have HN30 : Aside0 (3 * i + 2 ≤ 1073741824) := ⟨by have := HI.out; have := HL.out; omega⟩
              obtain ⟨G2, hG2⟩ : ∃ G2, got ++ U = G2 := ⟨_, rfl⟩
              have HG2 := Aside0.mk hG2
              have HPG2 : Aside0 (put = G2 ++ R) := ⟨by rw [HPG.out, HTJ.out, ← HUR.out, ← hG2, ByteArray.append_assoc]⟩
              have HS2 : Aside0 (G2.size + R.size = put.size) := ⟨by have := congrArg ByteArray.size HPG2.out; rw [app_size] at this; omega⟩
              have HSU : Aside0 (got.size + U.size = G2.size) := ⟨by rw [← hG2, app_size]⟩
              have hcat : (got.size : Int) + (U.size : Int) ≤ 9223372036854775807 := by have := HSU.out; have := HS2.out; have := HPS.out; have := HI.out; have := HL.out; omega
              have hw2 : wrap64 ((put.size : Int) - (G2.size : Int)) = (R.size : Int) := by have := HS2.out; have := HPS.out; have := HI.out; have := HL.out; unfold wrap64; omega
              have hw3 : IntKind.i64.wrap ((put.size : Int) - (G2.size : Int)) = (R.size : Int) := by have := HS2.out; have := HPS.out; have := HI.out; have := HL.out; rw [IntWalk.i64_in _ (by omega)]; omega
              have HRB2 : Aside0 (rdyB (M j) x.f2 (leftL j [⟨j, x.f3⟩]) = false) := ⟨by rw [left_one]; exact HRB.out⟩
              have y0 := blk_cell XM.out 0
              have y1 := blk_cell XM.out 1
              have y2 := blk_cell XM.out 2
              have y3 := blk_cell XM.out 3
              clear hG2
              go_upto_region 22 with (first
                | (go_at_call 17; (with_reducible refine (has_calls A1 c1 ids j _ CI.out HC1.out).mono ?_); rintro e w4 ⟨rfl, hb⟩; rw [mem_dec HIDS.out j, HRB2.out]; have S4 := Aside0.mk (S3.out.low hb); have L4 := Aside0.mk (below_then L3.out L3.out.size hb); have X4 := Aside0.mk (blk_below X3.out hb); clear hb)
                | (go_at_call 18; refine (ready_calls p mb (3 * i + 2) M x.f2 (some ⟨_, 0, none⟩) 1 [⟨j, x.f3⟩] _ (SM.out.low (below_alloc (Below.refl _ _) _)) HN30.out (show 1 ≤ 9223372036854775807 by decide) (C_50_one (blk_new _ _))).mono ?_; rintro e w3 hR; obtain ⟨v, ids, rfl, hR, hids, hb⟩ := hR; obtain ⟨A1, c1, rfl, hc1, hC1⟩ := R_slice_int hR; have S3 := Aside0.mk ((SM.out.low (below_alloc (Below.refl _ _) _)).low hb); have L3 := Aside0.mk (below_then (below_alloc LM.out _) (Nat.le_trans LM.out.size (by rw [World.size_alloc]; omega)) hb); have X3 := Aside0.mk (blk_below (blk_below XM.out (below_alloc (Below.refl _ _) _)) hb); have HIDS := Aside0.mk hids; have HC1 := Aside0.mk hc1; have CI := Aside0.mk hC1; clear hR hids hb hc1 hC1))
              clear y0 y1 y2 y3 SM LM XM S3 L3 X3 CI HIDS HC1
              have y0 := blk_cell X4.out 0
              have y1 := blk_cell X4.out 1
              have y2 := blk_cell X4.out 2
              have y3 := blk_cell X4.out 3
              go_upto_region 23 with (go_at_call 16; (with_reducible refine (next_calls p mb (3 * i + 2) M j x.f2 x.f3 x.f1 _ S4.out HJW.out HNM.out HZS.out).mono ?_); rintro e w5 ⟨rfl, hS, hg⟩; rw [HNX.out] at hS ⊢; have S5 := Aside0.mk hS; have L5 := Aside0.mk (grown_below L4.out hg HPM.out.1 L4.out.size); have X5 := Aside0.mk (blk_grown X4.out hg (fun e => HGE.out (Option.some.inj e))); clear hS hg)
              clear y0 y1 y2 y3 S4 L4 X4
              have y1 := blk_cell X5.out 1
              have y2 := blk_cell X5.out 2
              have y3 := blk_cell X5.out 3
              go_upto_region 28 with fail
              rw [HG2.out]
              clear y1 y2 y3
              go_upto_region 29 with (go_at_call 19; refine (waits_calls p mb (3 * i + 2 + 1) M2 j _ S5.out HJW.out).mono ?_; rintro e w6 ⟨rfl, hb⟩; rw [HM2.out]; have S6 := Aside0.mk (S5.out.low hb); have L6 := Aside0.mk (below_then L5.out L5.out.size hb); clear hb)
              clear S5 L5
              go_wp2_with fail
              go_roundw
              case rel => exact ⟨i + 1, put, G2, M2, rfl, rfl, congrArg (Value.int .i64) hw1, ⟨by have := HM.out; omega⟩, ⟨by rw [HM2.out]; exact HPG2.out⟩, ⟨by rw [HM2.out]; exact ⟨rfl, rfl⟩⟩, HM2Z, HPS2, ⟨S6.out.mono HN33.out⟩, L6⟩
              case measure =>
                rw [hw1]
                show ((l.length : Int) - ((i + 1 : Nat) : Int)).toNat < ((l.length : Int) - (i : Int)).toNat
                have := HM.out
                omega
            · obtain ⟨k, hk1, hk2, hk3, hk4, hk5, hN⟩ := next_some (m := M) (id := j) x.f2 x.f3 x.f1 HTK.out (by rw [HTM.out]; exact HZP.out) (by omega) (by omega) HOM.out.2
              rw [HTM.out, HOM.out.1] at hN
              rw [HTM.out] at hk2
              obtain ⟨U, hU⟩ : ∃ U, T.extract 0 k = U := ⟨_, rfl⟩
              obtain ⟨R, hR⟩ : ∃ R, T.extract k T.size = R := ⟨_, rfl⟩
              rw [hU, hR] at hN
              obtain ⟨M2, hM2⟩ : ∃ M2, updM M j ⟨R, false, false⟩ = M2 := ⟨_, rfl⟩
              rw [hM2] at hN
              have HNX : Aside0 (nextF M j x.f2 x.f3 x.f1 = (⟨U, false, 0⟩, M2)) := ⟨hN⟩
              have HM2 : Aside0 (M2 j = ⟨R, false, false⟩) := ⟨by rw [← hM2]; exact upd_same _ _ _⟩
              have HUR : Aside0 (U ++ R = T) := ⟨by rw [← hU, ← hR]; exact ext_app T k⟩
              have HRB : Aside0 (rdyB (M j) x.f2 x.f3 = true) := ⟨by unfold rdyB; rw [HTM.out, if_neg (by rw [bare_iff, decide_eq_false (by have := HZP.out; omega)]; decide)]; simp; omega⟩
              have hus : U.size = k := by rw [← hU, ByteArray.size_extract]; omega
              have u1 : U.toList.isEmpty = false := by rw [bare_iff]; exact decide_eq_false (by omega)
              have u2 : decide (x.f1 < (U.size : Int)) = false := decide_eq_false (by omega)
              have u3 : decide (x.f2 < (U.size : Int)) = false := decide_eq_false (by omega)
              have u4 : decide (x.f3 < (U.size : Int)) = false := decide_eq_false (by omega)
              have u5 : ((got.size : Int) == (put.size : Int)) = false := beq_eq_false_iff_ne.mpr (by have := HPT.out; have := HZP.out; omega)
              have u6 : (got.size == put.size) = false := beq_eq_false_iff_ne.mpr (by have := HPT.out; have := HZP.out; omega)
              clear hz hc hk1 hk2 hk3 hk4 hk5 hN hU hR hM2 hus
              have HM2Z : Aside0 (∀ z, (M2 z).t.size ≤ (i + 1) * 1048576) := ⟨fun z => by have h := nextF_size M j x.f2 x.f3 x.f1 _ HMZ.out z; rw [HNX.out] at h; exact h⟩
              have HZS : Aside0 ((M j).t.size ≤ 9223372036854775807) := ⟨by rw [HMJ.out]; have := HZ.out j; have := HI.out; have := HL.out; omega⟩
              have HNM : Aside0 (3 * i + 2 < maxLen) := ⟨by have := HI.out; have := HL.out; unfold maxLen; omega⟩
              have HPS2 : Aside0 (put.size ≤ (i + 1) * 1048576) := ⟨Nat.le_trans HPS.out (Nat.mul_le_mul_right _ (Nat.le_succ i))⟩
              have HN33 : Aside0 (3 * i + 2 + 1 ≤ 3 * (i + 1)) := ⟨by omega⟩
              have HN30 : Aside0 (3 * i + 2 ≤ 1073741824) := ⟨by have := HI.out; have := HL.out; omega⟩
              obtain ⟨G2, hG2⟩ : ∃ G2, got ++ U = G2 := ⟨_, rfl⟩
              have HG2 := Aside0.mk hG2
              have HPG2 : Aside0 (put = G2 ++ R) := ⟨by rw [HPG.out, HTJ.out, ← HUR.out, ← hG2, ByteArray.append_assoc]⟩
              have HS2 : Aside0 (G2.size + R.size = put.size) := ⟨by have := congrArg ByteArray.size HPG2.out; rw [app_size] at this; omega⟩
              have HSU : Aside0 (got.size + U.size = G2.size) := ⟨by rw [← hG2, app_size]⟩
              have hcat : (got.size : Int) + (U.size : Int) ≤ 9223372036854775807 := by have := HSU.out; have := HS2.out; have := HPS.out; have := HI.out; have := HL.out; omega
              have hw2 : wrap64 ((put.size : Int) - (G2.size : Int)) = (R.size : Int) := by have := HS2.out; have := HPS.out; have := HI.out; have := HL.out; unfold wrap64; omega
              have hw3 : IntKind.i64.wrap ((put.size : Int) - (G2.size : Int)) = (R.size : Int) := by have := HS2.out; have := HPS.out; have := HI.out; have := HL.out; rw [IntWalk.i64_in _ (by omega)]; omega
              have HRB2 : Aside0 (rdyB (M j) x.f2 (leftL j [⟨j, x.f3⟩]) = true) := ⟨by rw [left_one]; exact HRB.out⟩
              have y0 := blk_cell XM.out 0
              have y1 := blk_cell XM.out 1
              have y2 := blk_cell XM.out 2
              have y3 := blk_cell XM.out 3
              clear hG2
              go_upto_region 22 with (first
                | (go_at_call 17; (with_reducible refine (has_calls A1 c1 ids j _ CI.out HC1.out).mono ?_); rintro e w4 ⟨rfl, hb⟩; rw [mem_dec HIDS.out j, HRB2.out]; have S4 := Aside0.mk (S3.out.low hb); have L4 := Aside0.mk (below_then L3.out L3.out.size hb); have X4 := Aside0.mk (blk_below X3.out hb); clear hb)
                | (go_at_call 18; refine (ready_calls p mb (3 * i + 2) M x.f2 (some ⟨_, 0, none⟩) 1 [⟨j, x.f3⟩] _ (SM.out.low (below_alloc (Below.refl _ _) _)) HN30.out (show 1 ≤ 9223372036854775807 by decide) (C_50_one (blk_new _ _))).mono ?_; rintro e w3 hR; obtain ⟨v, ids, rfl, hR, hids, hb⟩ := hR; obtain ⟨A1, c1, rfl, hc1, hC1⟩ := R_slice_int hR; have S3 := Aside0.mk ((SM.out.low (below_alloc (Below.refl _ _) _)).low hb); have L3 := Aside0.mk (below_then (below_alloc LM.out _) (Nat.le_trans LM.out.size (by rw [World.size_alloc]; omega)) hb); have X3 := Aside0.mk (blk_below (blk_below XM.out (below_alloc (Below.refl _ _) _)) hb); have HIDS := Aside0.mk hids; have HC1 := Aside0.mk hc1; have CI := Aside0.mk hC1; clear hR hids hb hc1 hC1))
              clear y0 y1 y2 y3 SM LM XM S3 L3 X3 CI HIDS HC1
              have y0 := blk_cell X4.out 0
              have y1 := blk_cell X4.out 1
              have y2 := blk_cell X4.out 2
              have y3 := blk_cell X4.out 3
              go_upto_region 23 with (go_at_call 16; (with_reducible refine (next_calls p mb (3 * i + 2) M j x.f2 x.f3 x.f1 _ S4.out HJW.out HNM.out HZS.out).mono ?_); rintro e w5 ⟨rfl, hS, hg⟩; rw [HNX.out] at hS ⊢; have S5 := Aside0.mk hS; have L5 := Aside0.mk (grown_below L4.out hg HPM.out.1 L4.out.size); have X5 := Aside0.mk (blk_grown X4.out hg (fun e => HGE.out (Option.some.inj e))); clear hS hg)
              clear y0 y1 y2 y3 S4 L4 X4
              have y1 := blk_cell X5.out 1
              have y2 := blk_cell X5.out 2
              have y3 := blk_cell X5.out 3
              go_upto_region 28 with fail
              rw [HG2.out]
              clear y1 y2 y3
              go_upto_region 29 with (go_at_call 19; refine (waits_calls p mb (3 * i + 2 + 1) M2 j _ S5.out HJW.out).mono ?_; rintro e w6 ⟨rfl, hb⟩; rw [HM2.out]; have S6 := Aside0.mk (S5.out.low hb); have L6 := Aside0.mk (below_then L5.out L5.out.size hb); clear hb)
              clear S5 L5
              go_wp2_with fail
              go_roundw
              case rel => exact ⟨i + 1, put, G2, M2, rfl, rfl, congrArg (Value.int .i64) hw1, ⟨by have := HM.out; omega⟩, ⟨by rw [HM2.out]; exact HPG2.out⟩, ⟨by rw [HM2.out]; exact ⟨rfl, rfl⟩⟩, HM2Z, HPS2, ⟨S6.out.mono HN33.out⟩, L6⟩
              case measure =>
                rw [hw1]
                show ((l.length : Int) - ((i + 1 : Nat) : Int)).toNat < ((l.length : Int) - (i : Int)).toNat
                have := HM.out
                omega
    · have d1 : decide ((i : Int) < (l.length : Int)) = false := decide_eq_false (by omega)
      have d2 : decide (i < l.length) = false := decide_eq_false hil
      have HN30 : Aside0 (3 * i ≤ 1073741824) := ⟨by have := HI.out; have := HL.out; omega⟩
      have HPB : Aside0 (put.size ≤ 2199023255552) := ⟨by have := HPS.out; have := HI.out; have := HL.out; omega⟩
      clear hil
      go_wp2_with (go_at_call 20; (with_reducible refine (rest_calls p mb (3 * i) m j put got w.heap.size _ S1.out HJ.out HN30.out HPB.out HPG.out HQ.out.1 HQ.out.2 HPM.out.1 L1.out.size).mono ?_); rintro e w9 ⟨rfl, hb⟩; have L9 := Aside0.mk (L1.out.trans hb); clear hb)
      go_ret
      exact ⟨rfl, L9.out⟩
end Go.Proofs.Ytedkjbdkokdgdaa.Sh
