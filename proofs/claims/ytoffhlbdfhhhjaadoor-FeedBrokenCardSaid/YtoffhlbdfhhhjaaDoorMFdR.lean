/- FeedBroken: always true. The package's variable holds what the program lays. -/
import Derived.Test.YtoffhlbdfhhhjaaDoorMFdQ
namespace Go.Proofs.YtoffhlbdfhhhjaaDoor.Fr
open Go Go.RowKit Go.Proofs.YtoffhlbdfhhhjaaDoorW.PrintWords Go.Proofs.YtoffhlbdfhhhjaaDoorW.PrintLast Go.Proofs.YtoffhlbdfhhhjaaDoorW.PrintMore Go.Proofs.YtoffhlbdfhhhjaaDoor.QL
set_option linter.unusedSimpArgs false
set_option linter.unusedVariables false
set_option maxHeartbeats 40000000
set_option maxRecDepth 100000
theorem brokenlaw_calls (A : Option Addr) (c : Nat) (l : List ByteArray) (lim four stream : Int) (w : World) (hG : GL w) (hr : Kd.C Kd.string w A l.length l) (hc : l.length ≤ c) (hl : l.length ≤ 8796093022208) (h4 : 0 ≤ four ∧ four ≤ 4294967295) :
    Calls Tryd.prog 12 #[.slice A l.length c, .int .i64 lim, .int .u32 four, .int .u32 stream] w fun e w' => e = .returned (.bool true) ∧ Below w.heap.size w w' := by
  have HG := Aside0.mk hG
  have HR := Aside0.mk hr
  have HL := Aside0.mk hl
  have H4 := Aside0.mk h4
  have LA := Aside0.mk (Below.refl w.heap.size w)
  clear hG hr hc hl h4
  go_enter Tryd.func12, Tryd.ntmps12
  go_upto_if 19 with (go_at_call 29; refine (head_calls _ HG.out).mono ?_; rintro e w0 ⟨rfl, hb⟩; have L0 := Aside0.mk hb; clear hb)
  clear LA
  go_upto_region 4 with (go_at_call 31; refine (new_calls false 16384 _).mono ?_; rintro e w2 ⟨rfl, hf, hb⟩; have F2_ := Aside0.mk hf; have L1_ := Aside0.mk (below_then L0.out L0.out.size hb); clear hf hb)
  obtain ⟨gF, hg⟩ : ∃ g, w0.heap.size = g := ⟨_, rfl⟩
  have HFW : Aside0 (w.heap.size ≤ gF) := ⟨by have := L0.out.size; omega⟩
  rw [hg] at F2_ ⊢
  clear hg
  go_upto_region 5 with (go_at_call 31; refine (new_calls false 16384 _).mono ?_; rintro e w5 ⟨rfl, hf, hb⟩; have K5_ := Aside0.mk hf; have F3_ := Aside0.mk (F2_.out.low hb); have L4_ := Aside0.mk (below_then L1_.out L1_.out.size hb); clear hf hb)
  obtain ⟨gK, hg⟩ : ∃ g, w2.heap.size = g := ⟨_, rfl⟩
  have HFK : Aside0 (gF ≠ gK) := ⟨by have := blk_lt F2_.out; omega⟩
  have HKW : Aside0 (w.heap.size ≤ gK) := ⟨by have := L1_.out.size; omega⟩
  rw [hg] at K5_ ⊢
  clear hg
  go_upto_region 8 with (go_at_call 32; refine (push_calls gF (newF false 16384) (⟨#[0, 0, 8, 6, 0, 0, 0, 0, 0, 49, 50, 51, 52, 53, 54, 55, 56, 0, 64, 1, 0, 0, 0, 0, 0, 1, 0, 0, 8, 6, 0, 0, 0, 0, 0, 49, 50, 51, 52, 53, 54, 55, 56]⟩) _ F3_.out (by decide)).mono ?_; rintro e w8 ⟨rfl, hf, hc⟩; have F6_ := Aside0.mk hf; have K7_ := Aside0.mk (hc.fat K5_.out HFK.out.symm); have L8_ := Aside0.mk (hc.below L4_.out HFW.out L4_.out.size); clear hf hc)
  go_upto_region 9 with (go_at_call 36; refine (next_calls gF (pushF (newF false 16384) longB) _ (HG.out.below L8_.out) F6_.out (by decide) (by decide)).mono ?_; rintro e w11 hnx; rw [long_next1] at hnx; obtain ⟨A6, c6, rfl, hr, hf, hc⟩ := hnx; have F9_ := Aside0.mk hf; have K10_ := Aside0.mk (hc.fat K7_.out HFK.out.symm); have L11_ := Aside0.mk (hc.below L8_.out HFW.out L8_.out.size); clear hf hc hr; simp only [Fr.cells, Fr.zero, pingF, List.length_nil])
  obtain ⟨Wa, hW⟩ : ∃ W, (w11.alloc (.cells #[.int .i64 6, .int .i64 0, .int .i64 0, .string ⟨#[49, 50, 51, 52, 53, 54, 55, 56]⟩, .int .i64 0, .int .i64 0, .bool false, .int .i64 0, .int .i64 0, .int .i64 0, .slice A6 0 c6] 24)).alloc (.cells #[.int .i64 0, .int .i64 0] 35) = W := ⟨_, rfl⟩
  obtain ⟨xa, hx⟩ : ∃ g, w11.heap.size = g := ⟨_, rfl⟩
  obtain ⟨ya, hy⟩ : ∃ g, xa + 1 = g := ⟨_, rfl⟩
  have hb : Below w11.heap.size w11 Wa := by rw [← hW]; exact below_alloc (below_alloc (Below.refl _ _) _) _
  have F12_ := Aside0.mk (F9_.out.low hb)
  have K13_ := Aside0.mk (K10_.out.low hb)
  have L14_ := Aside0.mk (below_then L11_.out L11_.out.size hb)
  have Xa15_ : Aside0 (Wa.heap[xa]? = some (.cells #[.int .i64 6, .int .i64 0, .int .i64 0, .string ⟨#[49, 50, 51, 52, 53, 54, 55, 56]⟩, .int .i64 0, .int .i64 0, .bool false, .int .i64 0, .int .i64 0, .int .i64 0, .slice A6 0 c6] 24 (0, 0))) := ⟨by rw [← hW, ← hx]; exact heap_alloc2_old _ _ _⟩
  have Ya16_ : Aside0 (Wa.heap[ya]? = some (.cells #[.int .i64 0, .int .i64 0] 35 (0, 0))) := ⟨by rw [← hy, ← hW, ← hx]; exact heap_alloc2_new _ _ _⟩
  have hyw : w.heap.size ≤ ya := by have h := L11_.out.size; omega
  have hxw : w.heap.size ≤ xa := by have h := L11_.out.size; omega
  rw [hW, hx, hy]
  clear hW hx hy hb
  have HYW : Aside0 (w.heap.size ≤ ya) := ⟨hyw⟩
  have HXW : Aside0 (w.heap.size ≤ xa) := ⟨hxw⟩
  clear hyw hxw
  have qXa3 := blk_cell Xa15_.out 3
  have qYa0 := blk_cell Ya16_.out 0
  have qYa1 := blk_cell Ya16_.out 1
  go_wp2_with fail
  repeat (rename World.cell? _ _ = _ => hh; clear hh)
  go_loopw [14] (fun v w' => ∃ i : Nat, v = .int .i64 (i : Int) ∧ Aside0 (i ≤ l.length + 1) ∧ Aside0 (∃ fd m, FAt w' gF fd ∧ nextF fd = (fdB6 m, ⟨Fr.zero, false, 6, 0⟩) ∧ fd.wt.size ≤ 100 ∧ fd.pf.size ≤ 100) ∧ Aside0 (FAt w' gK (newF false 16384)) ∧ Aside0 (w'.heap[xa]? = some (.cells #[.int .i64 6, .int .i64 0, .int .i64 0, .string ⟨#[49, 50, 51, 52, 53, 54, 55, 56]⟩, .int .i64 0, .int .i64 0, .bool false, .int .i64 0, .int .i64 0, .int .i64 0, .slice A6 0 c6] 24 (0, 0))) ∧ Aside0 (∃ code st, w'.heap[ya]? = some (.cells #[.int .i64 code, .int .i64 st] 35 (0, 0))) ∧ Aside0 (Below w.heap.size w w')) (fun v _ => ((l.length : Int) + 1 - intOf v).toNat)
  case atStart => exact ⟨0, rfl, ⟨Nat.zero_le _⟩, ⟨_, _, F12_.out, long_next2, by decide, by decide⟩, K13_, Xa15_, ⟨_, _, Ya16_.out⟩, L14_⟩
  case round =>
    obtain ⟨i, rfl, HI, HFD, KI_, XI_, HYD, LI_⟩ := hrel
    clear F12_ K13_ Xa15_ Ya16_ L14_
    obtain ⟨fd, m, hfd, hnx, hs1, hs2⟩ := HFD.out
    obtain ⟨code, st, hyd⟩ := HYD.out
    have FI_ := Aside0.mk hfd
    have YI_ := Aside0.mk hyd
    have HNX := Aside0.mk hnx
    have HS := Aside0.mk (And.intro hs1 hs2)
    clear hfd hyd hnx hs1 hs2 HFD HYD
    by_cases hik : i ≤ l.length
    · have d1 : decide ((i : Int) ≤ (l.length : Int)) = true := decide_eq_true (by omega)
      have d2 : decide (i ≤ l.length) = true := decide_eq_true hik
      obtain ⟨j, hj⟩ : ∃ j, i + 1 = j := ⟨_, rfl⟩
      have hw1 : wrap64 ((i : Int) + 1) = (j : Int) := by have := HL.out; unfold wrap64; omega
      have HIK : Aside0 (i ≤ l.length ∧ i + 1 = j) := ⟨hik, hj⟩
      clear hj
      go_upto_region 15 with (first
        | (go_at_call 36; refine (next_calls gF fd _ (HG.out.below LI_.out) FI_.out (by have := HS.out.1; omega) (by have := HS.out.2; omega)).mono ?_; rintro e w21 hnx; rw [HNX.out] at hnx; obtain ⟨A7, c7, rfl, hr, hf, hc⟩ := hnx; have F17_ := Aside0.mk hf; have K18_ := Aside0.mk (hc.fat KI_.out HFK.out.symm); have Xa19_ := Aside0.mk (hc.blk XI_.out (blk_ne XI_.out FI_.out (by decide))); have Ya20_ := Aside0.mk (hc.blk YI_.out (blk_ne YI_.out FI_.out (by decide))); have L21_ := Aside0.mk (hc.below LI_.out HFW.out LI_.out.size); clear hf hc hr; simp only [Fr.cells, Fr.zero, pingF, List.length_nil])
        | (refine wpList_store_row rfl 35 _ _ rfl ya #[.int .i64 6, .int .i64 0] rfl rfl 35 _ Ya20_.out (by kernel_rfl) (by kernel_rfl) (by kernel_rfl) ?_; obtain ⟨W26, ew, q4, qo, qb⟩ := row_store _ ya #[.int .i64 6, .int .i64 0] 35 _ Ya20_.out; rw [ew]; have F22_ : Aside0 (FAt _ gF (fdB6 m)) := ⟨(qo _ (blk_ne F17_.out Ya20_.out (by decide))).trans F17_.out⟩; have K23_ : Aside0 (FAt _ gK (newF false 16384)) := ⟨(qo _ (blk_ne K18_.out Ya20_.out (by decide))).trans K18_.out⟩; have Xa24_ := Aside0.mk ((qo _ (blk_ne Xa19_.out Ya20_.out (by decide))).trans Xa19_.out); have Ya25_ := Aside0.mk q4; have L26_ := Aside0.mk (qb _ _ L21_.out HYW.out); clear q4 qo qb ew))
      have qYa0 := blk_cell Ya25_.out 0
      have qYa1 := blk_cell Ya25_.out 1
      go_upto_region 17 with (go_at_call 35; refine (waiting_calls gF (fdB6 m) _ F22_.out).mono ?_; rintro e w31 ⟨rfl, hb⟩; have F27_ := Aside0.mk (F22_.out.low hb); have K28_ := Aside0.mk (K23_.out.low hb); have Xa29_ := Aside0.mk (blk_below Xa24_.out hb); have Ya30_ := Aside0.mk (blk_below Ya25_.out hb); have L31_ := Aside0.mk (below_then L26_.out L26_.out.size hb); clear hb)
      repeat (rename World.cell? _ _ = _ => hh; clear hh)
      by_cases hlt : i < l.length
      · have e1 : decide ((i : Int) < (l.length : Int)) = true := decide_eq_true (by omega)
        have e2 : decide (i < l.length) = true := decide_eq_true hlt
        have e3 : (i : Int) < (l.length : Int) := by omega
        have e4 : (0 : Int) ≤ (i : Int) := by omega
        have hcw := Kd.C_below HR.out L31_.out
        obtain ⟨ad, hA, hcell⟩ := Kd.at_string hcw (i : Int) e4 e3
        subst hA
        rw [Int.toNat_natCast] at hcell
        obtain ⟨sc, hsc⟩ : ∃ s, rdOf ByteArray.empty l (i : Int) = s := ⟨_, rfl⟩
        rw [hsc] at hcell
        clear hcw hsc
        go_wp2_with (first
          | (go_at_call 32; refine (push_broken gF (fdB6 m) sc _ F27_.out rfl).mono ?_; rintro e w36 ⟨rfl, hf, hc⟩; have F32_ := Aside0.mk hf; have K33_ := Aside0.mk (hc.fat K28_.out HFK.out.symm); have Xa34_ := Aside0.mk (hc.blk Xa29_.out (blk_ne Xa29_.out F27_.out (by decide))); have Ya35_ := Aside0.mk (hc.blk Ya30_.out (blk_ne Ya30_.out F27_.out (by decide))); have L36_ := Aside0.mk (hc.below L31_.out HFW.out L31_.out.size); clear hf hc)
          | (go_at_call 42; refine (setMost_calls gF (fdB6 m) lim _ F32_.out).mono ?_; rintro e w41 ⟨rfl, hf, hc⟩; have F37_ := Aside0.mk hf; have K38_ := Aside0.mk (hc.fat K33_.out HFK.out.symm); have Xa39_ := Aside0.mk (hc.blk Xa34_.out (blk_ne Xa34_.out F32_.out (by decide))); have Ya40_ := Aside0.mk (hc.blk Ya35_.out (blk_ne Ya35_.out F32_.out (by decide))); have L41_ := Aside0.mk (hc.below L36_.out HFW.out L36_.out.size); clear hf hc))
        go_roundw
        case rel => exact ⟨j, congrArg (Value.int .i64) hw1, ⟨by have := HIK.out; omega⟩, ⟨fdB6 lim, lim, F37_.out, b6_next _, Nat.zero_le _, Nat.zero_le _⟩, K38_, Xa39_, ⟨_, _, Ya40_.out⟩, L41_⟩
        case measure =>
          rw [hw1]
          show ((l.length : Int) + 1 - (j : Int)).toNat < ((l.length : Int) + 1 - (i : Int)).toNat
          have := HIK.out
          omega
      · have e1 : decide ((i : Int) < (l.length : Int)) = false := decide_eq_false (by omega)
        have e2 : decide (i < l.length) = false := decide_eq_false hlt
        go_wp2_with fail
        go_roundw
        case rel => exact ⟨j, congrArg (Value.int .i64) hw1, ⟨by have := HIK.out; omega⟩, ⟨fdB6 m, m, F27_.out, b6_next _, Nat.zero_le _, Nat.zero_le _⟩, K28_, Xa29_, ⟨_, _, Ya30_.out⟩, L31_⟩
        case measure =>
          rw [hw1]
          show ((l.length : Int) + 1 - (j : Int)).toNat < ((l.length : Int) + 1 - (i : Int)).toNat
          have := HIK.out
          omega
    · have d1 : decide ((i : Int) ≤ (l.length : Int)) = false := decide_eq_false (by omega)
      have d2 : decide (i ≤ l.length) = false := decide_eq_false hik
      clear hik
      obtain ⟨d, hd, hdl⟩ := u32_and stream
      have hwd : wrap64 (d : Int) = (d : Int) := by unfold wrap64; omega
      obtain ⟨id, hid⟩ : ∃ id : Int, (if d = 0 then 1 else (d : Int)) = id := ⟨_, rfl⟩
      have HID := Aside0.mk hid
      have HIR : Aside0 (1 ≤ id ∧ id ≤ 2147483647) := ⟨by rw [← hid]; split <;> omega⟩
      clear hid
      obtain ⟨y, hy⟩ : ∃ y, ((d : Int) == 0) = y := ⟨_, rfl⟩
      have HY := Aside0.mk hy
      go_upto_if 88 with fail
      clear hy
      go_cut [15] from 15 to 15 (fun v wc => v = .int .i64 id ∧ Aside0 (wc = wr))
      case first =>
        cases y
        · go_wp2_with fail
          go_meet
          case rel => exact ⟨by rw [← HID.out, if_neg (by have := HY.out; simp at this; exact this)], ⟨rfl⟩⟩
        · go_wp2_with fail
          go_meet
          case rel => exact ⟨by rw [← HID.out, if_pos (by have := HY.out; simp at this; exact this)], ⟨rfl⟩⟩
      case rest =>
        obtain ⟨rfl, HWC⟩ := hcut
        rw [HWC.out]
        clear HWC hd hwd
        obtain ⟨nb, hnb, hcv⟩ := four_bytes wr (id / 16777216 % 256) (id / 65536 % 256) (id / 256 % 256) (id % 256) (by omega) (by omega) (by omega) (by omega)
        have HNB : Aside0 (nb.data.toList = be 4 id) := ⟨by rw [hnb]; unfold be be be be be; rw [show (256 : Int) ^ 3 = 16777216 from rfl, show (256 : Int) ^ 2 = 65536 from rfl, show (256 : Int) ^ 1 = 256 from rfl, show (256 : Int) ^ 0 = 1 from rfl, Int.ediv_one]⟩
        clear hnb
        go_upto_region 24 with fail
        clear hcv
        obtain ⟨W1, hW⟩ : ∃ W, wr.alloc (.cells #[.int .u8 (id / 16777216 % 256), .int .u8 (id / 65536 % 256), .int .u8 (id / 256 % 256), .int .u8 (id % 256)] 5) = W := ⟨_, rfl⟩
        have hb : Below wr.heap.size wr W1 := by rw [← hW]; exact below_alloc (Below.refl _ _) _
        have F42_ := Aside0.mk (FI_.out.low hb)
        have K43_ := Aside0.mk (KI_.out.low hb)
        have Xa44_ := Aside0.mk (blk_below XI_.out hb)
        have Ya45_ := Aside0.mk (blk_below YI_.out hb)
        have L46_ := Aside0.mk (below_then LI_.out LI_.out.size hb)
        rw [hW]
        clear hW hb
        obtain ⟨vb, hvb, hcv⟩ := four_bytes W1 (four / 16777216 % 256) (four / 65536 % 256) (four / 256 % 256) (four % 256) (by omega) (by omega) (by omega) (by omega)
        have HVB : Aside0 (vb.data.toList.length = 4) := ⟨by rw [hvb]; rfl⟩
        clear hvb
        go_upto_region 25 with fail
        clear hcv
        obtain ⟨W2, hW⟩ : ∃ W, W1.alloc (.cells #[.int .u8 (four / 16777216 % 256), .int .u8 (four / 65536 % 256), .int .u8 (four / 256 % 256), .int .u8 (four % 256)] 5) = W := ⟨_, rfl⟩
        have hb : Below W1.heap.size W1 W2 := by rw [← hW]; exact below_alloc (Below.refl _ _) _
        have F47_ := Aside0.mk (F42_.out.low hb)
        have K48_ := Aside0.mk (K43_.out.low hb)
        have Xa49_ := Aside0.mk (blk_below Xa44_.out hb)
        have Ya50_ := Aside0.mk (blk_below Ya45_.out hb)
        have L51_ := Aside0.mk (below_then L46_.out L46_.out.size hb)
        rw [hW]
        clear hW hb
        have hn4 : nb.size = 4 := by rw [ba_size, HNB.out, be_length]
        have hv4 : vb.size = 4 := HVB.out
        obtain ⟨T0, hT0⟩ : ∃ t : ByteArray, t = ((⟨#[0, 0, 8, 6, 0, 0, 0, 0, 0, 49, 50, 51, 52, 53, 54, 55, 56, 0, 0, 4, 2, 0]⟩ : ByteArray) ++ nb ++ vb) ++ (⟨#[0, 0, 8, 6, 0, 0, 0, 0, 0, 49, 50, 51, 52, 53, 54, 55, 56]⟩ : ByteArray) := ⟨_, rfl⟩
        have HT : Aside0 (T0.data.toList = pingB.data.toList ++ ([0, 0, 4, 2, 0] ++ be 4 id ++ vb.data.toList ++ (pingB.data.toList ++ []))) := ⟨by
          rw [hT0]
          simp only [ByteArray.data_append, Array.toList_append, HNB.out, List.append_nil, List.append_assoc]
          rfl⟩
        have HTZ : Aside0 (T0.size ≤ 100) := ⟨by rw [hT0]; simp only [ByteArray.size_append, hn4, hv4]; decide⟩
        obtain ⟨t1, ht1, hx1⟩ := ping_first T0 _ HT.out
        obtain ⟨t2, ht2, hx2⟩ := wrong_first t1 id vb.data.toList _ HIR.out.1 HIR.out.2 HVB.out ht1
        obtain ⟨t3, ht3, hx3⟩ := ping_first t2 [] ht2
        have h30 : t3 = ByteArray.empty := ba_ext ht3
        rw [h30] at hx3
        have HX1 := Aside0.mk hx1
        have HX2 := Aside0.mk hx2
        have HX3 := Aside0.mk hx3
        have HZ1 : Aside0 (t1.size ≤ 100) := ⟨by rw [ba_size, ht1]; simp only [List.length_append, be_length, HVB.out]; decide⟩
        have HZ2 : Aside0 (t2.size ≤ 100) := ⟨by rw [ba_size, ht2]; decide⟩
        have HPT : Aside0 (pushF (newF false 16384) T0 = fdW T0) := ⟨by
          unfold pushF
          rw [if_neg (by decide)]
          show (⟨16384, ByteArray.empty ++ T0, ByteArray.empty, 0, 0⟩ : Fd) = fdW T0
          have e : ByteArray.empty ++ T0 = T0 := by
            apply ba_ext
            rw [ByteArray.data_append, Array.toList_append]
            rfl
          rw [e]
          rfl⟩
        have HT0 := Aside0.mk hT0
        clear hx1 hx2 hx3 ht1 ht2 ht3 h30 hT0
        go_upto_region 26 with (go_at_call 32; refine (push_calls gK (newF false 16384) (((⟨#[0, 0, 8, 6, 0, 0, 0, 0, 0, 49, 50, 51, 52, 53, 54, 55, 56, 0, 0, 4, 2, 0]⟩ : ByteArray) ++ nb ++ vb) ++ (⟨#[0, 0, 8, 6, 0, 0, 0, 0, 0, 49, 50, 51, 52, 53, 54, 55, 56]⟩ : ByteArray)) _ K48_.out (by rw [← HT0.out]; show 0 + T0.size ≤ _; have := HTZ.out; omega)).mono ?_; rintro e w56 ⟨rfl, hf, hc⟩; rw [← HT0.out, HPT.out] at hf; have F52_ := Aside0.mk (hc.fat F47_.out HFK.out); have K53_ := Aside0.mk hf; have Xa54_ := Aside0.mk (hc.blk Xa49_.out (blk_ne Xa49_.out K48_.out (by decide))); have Ya55_ := Aside0.mk (hc.blk Ya50_.out (blk_ne Ya50_.out K48_.out (by decide))); have L56_ := Aside0.mk (hc.below L51_.out HKW.out L51_.out.size); clear hf hc)
        clear hn4 hv4
        go_upto_region 27 with (first
          | (go_at_call 36; refine (next_calls gK (fdW T0) _ (HG.out.below L56_.out) K53_.out (by show T0.size ≤ _; have := HTZ.out; omega) (by show (0 : Nat) ≤ _; exact Nat.zero_le _)).mono ?_; rintro e w61 hnx; rw [HX1.out] at hnx; obtain ⟨A8, c8, rfl, hr, hf, hc⟩ := hnx; have F57_ := Aside0.mk (hc.fat F52_.out HFK.out); have K58_ := Aside0.mk hf; have Xa59_ := Aside0.mk (hc.blk Xa54_.out (blk_ne Xa54_.out K53_.out (by decide))); have Ya60_ := Aside0.mk (hc.blk Ya55_.out (blk_ne Ya55_.out K53_.out (by decide))); have L61_ := Aside0.mk (hc.below L56_.out HKW.out L56_.out.size); clear hf hc hr; simp only [Fr.cells, Fr.zero, pingF, List.length_nil])
          | (refine wpList_store_row rfl 24 _ _ rfl xa #[.int .i64 6, .int .i64 0, .int .i64 0, .string ⟨#[49, 50, 51, 52, 53, 54, 55, 56]⟩, .int .i64 0, .int .i64 0, .bool false, .int .i64 0, .int .i64 0, .int .i64 0, .slice A8 0 c8] rfl rfl 24 _ Xa59_.out (by kernel_rfl) (by kernel_rfl) (by kernel_rfl) ?_; obtain ⟨W66, ew, q4, qo, qb⟩ := row_store _ xa #[.int .i64 6, .int .i64 0, .int .i64 0, .string ⟨#[49, 50, 51, 52, 53, 54, 55, 56]⟩, .int .i64 0, .int .i64 0, .bool false, .int .i64 0, .int .i64 0, .int .i64 0, .slice A8 0 c8] 24 _ Xa59_.out; rw [ew]; have F62_ : Aside0 (FAt _ gF fd) := ⟨(qo _ (blk_ne F57_.out Xa59_.out (by decide))).trans F57_.out⟩; have K63_ : Aside0 (FAt _ gK (fdW t1)) := ⟨(qo _ (blk_ne K58_.out Xa59_.out (by decide))).trans K58_.out⟩; have Xa64_ := Aside0.mk q4; have Ya65_ := Aside0.mk ((qo _ (blk_ne Ya60_.out Xa59_.out (by decide))).trans Ya60_.out); have L66_ := Aside0.mk (qb _ _ L61_.out HXW.out); clear q4 qo qb ew)
          | (refine wpList_store_row rfl 35 _ _ rfl ya #[.int .i64 0, .int .i64 0] rfl rfl 35 _ Ya65_.out (by kernel_rfl) (by kernel_rfl) (by kernel_rfl) ?_; obtain ⟨W71, ew, q4, qo, qb⟩ := row_store _ ya #[.int .i64 0, .int .i64 0] 35 _ Ya65_.out; rw [ew]; have F67_ : Aside0 (FAt _ gF fd) := ⟨(qo _ (blk_ne F62_.out Ya65_.out (by decide))).trans F62_.out⟩; have K68_ : Aside0 (FAt _ gK (fdW t1)) := ⟨(qo _ (blk_ne K63_.out Ya65_.out (by decide))).trans K63_.out⟩; have Xa69_ := Aside0.mk ((qo _ (blk_ne Xa64_.out Ya65_.out (by decide))).trans Xa64_.out); have Ya70_ := Aside0.mk q4; have L71_ := Aside0.mk (qb _ _ L66_.out HYW.out); clear q4 qo qb ew))
        have qXa0 := blk_cell Xa69_.out 0
        go_upto_region 29 with fail
        repeat (rename World.cell? _ _ = _ => hh; clear hh)
        go_upto_region 30 with (first
          | (go_at_call 36; refine (next_calls gK (fdW t1) _ (HG.out.below L71_.out) K68_.out (by show t1.size ≤ _; have := HZ1.out; omega) (by show (0 : Nat) ≤ _; exact Nat.zero_le _)).mono ?_; rintro e w76 hnx; rw [HX2.out] at hnx; obtain ⟨A9, c9, rfl, hr, hf, hc⟩ := hnx; have F72_ := Aside0.mk (hc.fat F67_.out HFK.out); have K73_ := Aside0.mk hf; have Xa74_ := Aside0.mk (hc.blk Xa69_.out (blk_ne Xa69_.out K68_.out (by decide))); have Ya75_ := Aside0.mk (hc.blk Ya70_.out (blk_ne Ya70_.out K68_.out (by decide))); have L76_ := Aside0.mk (hc.below L71_.out HKW.out L71_.out.size); clear hf hc hr; simp only [Fr.cells, Fr.zero, pingF, List.length_nil])
          | (refine wpList_store_row rfl 35 _ _ rfl ya #[.int .i64 6, .int .i64 id] rfl rfl 35 _ Ya75_.out (by kernel_rfl) (by kernel_rfl) (by kernel_rfl) ?_; obtain ⟨W81, ew, q4, qo, qb⟩ := row_store _ ya #[.int .i64 6, .int .i64 id] 35 _ Ya75_.out; rw [ew]; have F77_ : Aside0 (FAt _ gF fd) := ⟨(qo _ (blk_ne F72_.out Ya75_.out (by decide))).trans F72_.out⟩; have K78_ : Aside0 (FAt _ gK (fdW t2)) := ⟨(qo _ (blk_ne K73_.out Ya75_.out (by decide))).trans K73_.out⟩; have Xa79_ := Aside0.mk ((qo _ (blk_ne Xa74_.out Ya75_.out (by decide))).trans Xa74_.out); have Ya80_ := Aside0.mk q4; have L81_ := Aside0.mk (qb _ _ L76_.out HYW.out); clear q4 qo qb ew))
        have qYa0 := blk_cell Ya80_.out 0
        have qYa1 := blk_cell Ya80_.out 1
        go_upto_region 32 with fail
        repeat (rename World.cell? _ _ = _ => hh; clear hh)
        go_upto_region 33 with (first
          | (go_at_call 36; refine (next_calls gK (fdW t2) _ (HG.out.below L81_.out) K78_.out (by show t2.size ≤ _; have := HZ2.out; omega) (by show (0 : Nat) ≤ _; exact Nat.zero_le _)).mono ?_; rintro e w86 hnx; rw [HX3.out] at hnx; obtain ⟨A10, c10, rfl, hr, hf, hc⟩ := hnx; have F82_ := Aside0.mk (hc.fat F77_.out HFK.out); have K83_ := Aside0.mk hf; have Xa84_ := Aside0.mk (hc.blk Xa79_.out (blk_ne Xa79_.out K78_.out (by decide))); have Ya85_ := Aside0.mk (hc.blk Ya80_.out (blk_ne Ya80_.out K78_.out (by decide))); have L86_ := Aside0.mk (hc.below L81_.out HKW.out L81_.out.size); clear hf hc hr; simp only [Fr.cells, Fr.zero, pingF, List.length_nil])
          | (refine wpList_store_row rfl 24 _ _ rfl xa #[.int .i64 6, .int .i64 0, .int .i64 0, .string ⟨#[49, 50, 51, 52, 53, 54, 55, 56]⟩, .int .i64 0, .int .i64 0, .bool false, .int .i64 0, .int .i64 0, .int .i64 0, .slice A10 0 c10] rfl rfl 24 _ Xa84_.out (by kernel_rfl) (by kernel_rfl) (by kernel_rfl) ?_; obtain ⟨W91, ew, q4, qo, qb⟩ := row_store _ xa #[.int .i64 6, .int .i64 0, .int .i64 0, .string ⟨#[49, 50, 51, 52, 53, 54, 55, 56]⟩, .int .i64 0, .int .i64 0, .bool false, .int .i64 0, .int .i64 0, .int .i64 0, .slice A10 0 c10] 24 _ Xa84_.out; rw [ew]; have F87_ : Aside0 (FAt _ gF fd) := ⟨(qo _ (blk_ne F82_.out Xa84_.out (by decide))).trans F82_.out⟩; have K88_ : Aside0 (FAt _ gK (fdW ByteArray.empty)) := ⟨(qo _ (blk_ne K83_.out Xa84_.out (by decide))).trans K83_.out⟩; have Xa89_ := Aside0.mk q4; have Ya90_ := Aside0.mk ((qo _ (blk_ne Ya85_.out Xa84_.out (by decide))).trans Ya85_.out); have L91_ := Aside0.mk (qb _ _ L86_.out HXW.out); clear q4 qo qb ew)
          | (refine wpList_store_row rfl 35 _ _ rfl ya #[.int .i64 0, .int .i64 0] rfl rfl 35 _ Ya90_.out (by kernel_rfl) (by kernel_rfl) (by kernel_rfl) ?_; obtain ⟨W96, ew, q4, qo, qb⟩ := row_store _ ya #[.int .i64 0, .int .i64 0] 35 _ Ya90_.out; rw [ew]; have F92_ : Aside0 (FAt _ gF fd) := ⟨(qo _ (blk_ne F87_.out Ya90_.out (by decide))).trans F87_.out⟩; have K93_ : Aside0 (FAt _ gK (fdW ByteArray.empty)) := ⟨(qo _ (blk_ne K88_.out Ya90_.out (by decide))).trans K88_.out⟩; have Xa94_ := Aside0.mk ((qo _ (blk_ne Xa89_.out Ya90_.out (by decide))).trans Xa89_.out); have Ya95_ := Aside0.mk q4; have L96_ := Aside0.mk (qb _ _ L91_.out HYW.out); clear q4 qo qb ew))
        have qXa3 := blk_cell Xa94_.out 3
        have qYa0 := blk_cell Ya95_.out 0
        have qYa1 := blk_cell Ya95_.out 1
        go_upto_region 35 with fail
        repeat (rename World.cell? _ _ = _ => hh; clear hh)
        go_upto_region 36 with (first
          | (go_at_call 36; refine (next_calls gK (fdW ByteArray.empty) _ (HG.out.below L96_.out) K93_.out (by show (0 : Nat) ≤ _; exact Nat.zero_le _) (by show (0 : Nat) ≤ _; exact Nat.zero_le _)).mono ?_; rintro e w101 hnx; rw [empty_next] at hnx; obtain ⟨A11, c11, rfl, hr, hf, hc⟩ := hnx; have F97_ := Aside0.mk (hc.fat F92_.out HFK.out); have K98_ := Aside0.mk hf; have Xa99_ := Aside0.mk (hc.blk Xa94_.out (blk_ne Xa94_.out K93_.out (by decide))); have Ya100_ := Aside0.mk (hc.blk Ya95_.out (blk_ne Ya95_.out K93_.out (by decide))); have L101_ := Aside0.mk (hc.below L96_.out HKW.out L96_.out.size); clear hf hc hr; simp only [Fr.cells, Fr.zero, pingF, List.length_nil])
          | (refine wpList_store_row rfl 35 _ _ rfl ya #[.int .i64 0, .int .i64 0] rfl rfl 35 _ Ya100_.out (by kernel_rfl) (by kernel_rfl) (by kernel_rfl) ?_; obtain ⟨W106, ew, q4, qo, qb⟩ := row_store _ ya #[.int .i64 0, .int .i64 0] 35 _ Ya100_.out; rw [ew]; have F102_ : Aside0 (FAt _ gF fd) := ⟨(qo _ (blk_ne F97_.out Ya100_.out (by decide))).trans F97_.out⟩; have K103_ : Aside0 (FAt _ gK (fdW ByteArray.empty)) := ⟨(qo _ (blk_ne K98_.out Ya100_.out (by decide))).trans K98_.out⟩; have Xa104_ := Aside0.mk ((qo _ (blk_ne Xa99_.out Ya100_.out (by decide))).trans Xa99_.out); have Ya105_ := Aside0.mk q4; have L106_ := Aside0.mk (qb _ _ L101_.out HYW.out); clear q4 qo qb ew))
        have qYa0 := blk_cell Ya105_.out 0
        have qYa1 := blk_cell Ya105_.out 1
        go_wp2_with (go_at_call 35; refine (waiting_calls gK (fdW ByteArray.empty) _ K103_.out).mono ?_; rintro e w111 ⟨rfl, hb⟩; have F107_ := Aside0.mk (F102_.out.low hb); have K108_ := Aside0.mk (K103_.out.low hb); have Xa109_ := Aside0.mk (blk_below Xa104_.out hb); have Ya110_ := Aside0.mk (blk_below Ya105_.out hb); have L111_ := Aside0.mk (below_then L106_.out L106_.out.size hb); clear hb)
        go_ret
        exact ⟨rfl, L111_.out⟩
end Go.Proofs.YtoffhlbdfhhhjaaDoor.Fr
