/- ShareRising: always true where the script is small. -/
import Derived.Test.YtedkjbdkokdgdaaMOps
import Derived.LoopN
import Derived.BigQuiet
namespace Go.Proofs.Ytedkjbdkokdgdaa.Sh
open Go Go.RowKit Go.Proofs.YtedkjbdkokdgdaaW.PrintWords Go.Proofs.YtedkjbdkokdgdaaW.PrintLast Go.Proofs.YtedkjbdkokdgdaaW.PrintMore Go.Proofs.Ytedkjbdkokdgdaa.QL
set_option linter.unusedSimpArgs false
set_option linter.unusedVariables false
set_option maxHeartbeats 6000000
set_option maxRecDepth 100000
/-- What is gathered of a script: each stream that was named, with one left. -/
def allL (l : List S37) : List S50 := l.map fun x => ⟨x.f2, 1⟩
theorem allL_step (l : List S37) (i : Nat) (h : i < l.length) : allL (l.take (i + 1)) = allL (l.take i) ++ [⟨(l.getD i z37).f2, 1⟩] := by
  unfold allL
  rw [List.take_succ_eq_append_getElem h, List.map_append, List.getD_eq_getElem?_getD, List.getElem?_eq_getElem h]
  rfl
theorem leftL_all (l : List S37) (id : Int) (h : id ∈ (allL l).map (·.f0)) : leftL id (allL l) = 1 := by
  induction l with
  | nil => cases h
  | cons x l ih =>
    show (if x.f2 = id then 1 else leftL id (allL l)) = 1
    split
    · rfl
    · rename_i hne
      rcases List.mem_cons.1 h with e | h
      · exact absurd e.symm hne
      · exact ih h
theorem empty_size (s : ByteArray) : s.toList.isEmpty = decide (s.size = 0) := by
  rw [ByteArray.toList_eq]
  have e : s.size = s.data.toList.length := by rw [Array.length_toList]; rfl
  rw [e]
  cases s.data.toList <;> simp
theorem rdy_11 (q : Qu) : rdyB q 1 1 = (decide (0 < q.t.size) || q.e) := by
  unfold rdyB
  rw [empty_size]
  by_cases h : q.t.size = 0
  · simp [h]
  · have : 0 < q.t.size := by omega
    simp [h, this]
theorem rdy_0 (q : Qu) (x : Int) : rdyB q 0 x = (decide (q.t.size = 0) && q.e) := by
  unfold rdyB
  rw [empty_size]
  by_cases h : q.t.size = 0
  · simp [h]
  · simp [h]
theorem mem_dec {m : Int → Qu} {conn : Int} {l : List S50} {ids : List Int} (h : RdyL m conn l ids) (id : Int) : decide (id ∈ ids) = rdyB (m id) conn (leftL id l) := by
  cases hr : rdyB (m id) conn (leftL id l)
  · exact decide_eq_false (fun hm => by have := (h.2 id).1 hm; rw [hr] at this; cases this)
  · exact decide_eq_true ((h.2 id).2 hr)
theorem rd_get {l : List Int} {i : Nat} (h : i < l.length) : rd l (i : Int) = l[i] := by
  unfold rd
  rw [Int.toNat_natCast, List.getD_eq_getElem?_getD, List.getElem?_eq_getElem h]
  rfl
theorem rising_calls (A : Option Addr) (c : Nat) (l : List S37) (gone : Int) (w : World) (hl : l.length ≤ 1048576) (hC : Kd.C k37 w A l.length l) (ht : ∀ x ∈ l, x.f3.size ≤ 1048576 ∧ W64 x.f2) (hg : W64 gone) :
    Calls Try.prog 6 #[.slice A l.length c, .int .i64 gone] w fun e w' => e = .returned (.bool true) ∧ Below w.heap.size w w' := by
  have HL := Aside0.mk hl
  have HC := Aside0.mk hC
  have HT := Aside0.mk ht
  have HGN := Aside0.mk hg
  clear hl hC ht hg
  go_enter Try.func6, Try.ntmps6
  go_upto_if 8 with (first
    | (go_at_call 10; refine (first_calls _).mono ?_; rintro e w0 ⟨rfl, hb⟩; have L0 := Aside0.mk hb; clear hb)
    | (go_at_call 12; refine (new_calls _).mono ?_; rintro e w1 ⟨p, mb, rfl, hS, hp, hm, hb⟩; have S1 : Aside0 (ShAt w1 p mb 0 m0) := ⟨hS⟩; have L1 := Aside0.mk (below_then L0.out L0.out.size hb); have HPM : Aside0 (w.heap.size ≤ mb ∧ w.heap.size ≤ p) := ⟨Nat.le_trans L0.out.size hm, Nat.le_trans L0.out.size hp⟩; clear hS hp hm hb))
  clear L0
  go_loopw [6, 7] (fun v6 v w' => ∃ (i : Nat) (m : Int → Qu), v = .int .i64 (i : Int) ∧ Aside0 (i ≤ l.length) ∧ Aside0 (ShAt w' p mb i m) ∧ Aside0 (∀ z, (m z).t.size ≤ i * 1048576) ∧ Aside0 (Kd.R k50 50 w' w.heap.size (fun k => k ≠ mb ∧ k ≠ p) v6 (allL (l.take i))) ∧ Aside0 (Below w.heap.size w w')) (fun _ v _ => ((l.length : Int) - intOf v).toNat)
  case atStart => exact ⟨0, m0, rfl, ⟨Nat.zero_le _⟩, S1, ⟨fun z => Nat.le_of_eq (show ByteArray.empty.size = _ from rfl)⟩, ⟨Kd.R_nil _ _ _ _ _⟩, L1⟩
  case round =>
    clear S1 L1
    obtain ⟨i, m, rfl, HI, S1, HZ, R1, L1⟩ := hrel
    by_cases hil : i < l.length
    · have d1 : decide ((i : Int) < (l.length : Int)) = true := decide_eq_true (by omega)
      have d2 : decide (i < l.length) = true := decide_eq_true hil
      have hw1 : wrap64 ((i : Int) + 1) = ((i + 1 : Nat) : Int) := by have := HL.out; unfold wrap64; omega
      have HM : Aside0 (i < l.length) := ⟨hil⟩
      have q0 : (0 : Int) ≤ (i : Int) := by omega
      have q1 : (i : Int) < (l.length : Int) := by omega
      obtain ⟨x, hx⟩ : ∃ x, rd_T37 l (i : Int) = x := ⟨_, rfl⟩
      have HXD : Aside0 (l.getD i z37 = x) := ⟨by rw [← hx]; unfold rd_T37; rw [Int.toNat_natCast]⟩
      have HX : Aside0 (x.f3.size ≤ 1048576 ∧ W64 x.f2) := ⟨by
        have hmem : x ∈ l := by
          rw [← HXD.out, List.getD_eq_getElem?_getD, List.getElem?_eq_getElem hil]
          exact List.getElem_mem hil
        exact HT.out x hmem⟩
      obtain ⟨ad, A8, c8, hA, x0, x1, x2, x3, x4, x5, x6, x7, x8, _, _⟩ := at_T37 (Kd.C_below HC.out L1.out) (i : Int) q0 q1
      rw [Int.toNat_natCast, hx] at x0 x1 x2 x3 x4 x5 x6 x7 x8
      subst hA
      clear hx hil
      go_upto_region 11 with fail
      obtain ⟨W2, hW⟩ : ∃ W, wr.alloc (.cells #[.int .i64 x.f0, .int .i64 x.f1, .int .i64 x.f2, .string x.f3, .bool x.f4, .int .i64 x.f5, .int .i64 x.f6, .int .i64 x.f7, .slice A8 x.f8.length c8] 37) = W := ⟨_, rfl⟩
      obtain ⟨g, hg⟩ : ∃ g, wr.heap.size = g := ⟨_, rfl⟩
      have hb : Below wr.heap.size wr W2 := by rw [← hW]; exact below_alloc (Below.refl _ _) _
      have X2 : Aside0 (W2.heap[g]? = some (.cells #[.int .i64 x.f0, .int .i64 x.f1, .int .i64 x.f2, .string x.f3, .bool x.f4, .int .i64 x.f5, .int .i64 x.f6, .int .i64 x.f7, .slice A8 x.f8.length c8] 37 (0, 0))) := ⟨by rw [← hW, ← hg]; exact blk_new _ _⟩
      have S2 := Aside0.mk (S1.out.low hb)
      have R2 := Aside0.mk (Kd.R_below R1.out hb)
      have L2 := Aside0.mk (below_then L1.out L1.out.size hb)
      have HGE : Aside0 (g ≠ mb) := ⟨by have := S1.out.mq.lt; omega⟩
      rw [hW, hg]
      clear hW hg hb x0 x1 x2 x3 x4 x5 x6 x7 x8 S1 R1 L1
      have x0 := blk_cell X2.out 0
      have x2 := blk_cell X2.out 2
      have x3 := blk_cell X2.out 3
      have x4 := blk_cell X2.out 4
      have x5 := blk_cell X2.out 5
      have x6 := blk_cell X2.out 6
      have x7 := blk_cell X2.out 7
      by_cases h1 : x.f0 = 1
      · have k1 : (x.f0 == 1) = true := by rw [h1]; rfl
        have k5 : (x.f0 == 5) = false := by rw [h1]; rfl
        clear h1
        have HZN := Aside0.mk (putF_size m x.f2 x.f3 x.f4 (i * 1048576) ((i + 1) * 1048576) HZ.out (by have := HX.out; omega))
        have HZS : Aside0 ((m x.f2).t.size + x.f3.size ≤ 9223372036854775807) := ⟨by have := HZ.out x.f2; have := HX.out; have := HI.out; have := HL.out; omega⟩
        have HNM : Aside0 (i < maxLen) := ⟨by have := HI.out; have := HL.out; unfold maxLen; omega⟩
        go_upto_region 16 with (go_at_call 15; refine (put_calls p mb i m x.f2 x.f3 x.f4 _ S2.out HNM.out HZS.out).mono ?_; rintro e w3 ⟨rfl, hS, hg⟩; have S3 := Aside0.mk hS; have R3 := Aside0.mk (Kd.R_grown R2.out hg (fun k hk e => hk.1 (Option.some.inj e))); have L3 := Aside0.mk (grown_below L2.out hg HPM.out.1 L2.out.size); have X3 := Aside0.mk (blk_grown X2.out hg (fun e => HGE.out (Option.some.inj e))); clear hS hg)
        clear x0 x2 x3 x4 x5 x6 x7 k1 k5 S2 R2 L2
        have x2 := blk_cell X3.out 2
        have HAP : Aside0 (((allL (l.take i)).length + 1) * 16 ≤ 140737488355328) := ⟨by have := HI.out; have := HL.out; unfold allL; rw [List.length_map, List.length_take]; omega⟩
        go_wp2_with ((with_reducible refine gate_builtin (b := .append) (xs := #[.tmp 56, .tmp 60]) rfl ?_); at_builtin; refine Kd.R_append k50 (w0 := w) w.heap.size rfl (.tmp 56) (.tmp 60) 35 50 _ 16 rfl Try.underlying35 info50 rfl (Nat.succ_pos 1) (Nat.succ_pos 15) _ (allL (l.take i)) ⟨x.f2, 1⟩ [.int .i64 x.f2, .int .i64 1] (fun k => k ≠ mb ∧ k ≠ p) (fun _ => False) rfl rfl (k50_mkM _ _ _ (⟨x.f2, 1⟩ : S50)) (fun _ h => h.elim) (fun k hk => by have := HPM.out; have := L3.out.size; have := S3.out.mq.lt; have := blk_lt S3.out.blk; omega) R3.out L3.out L3.out.size ?aL ?_; (case aL => exact HAP.out))
        intro v9 w9 ho hb hg hat
        have S9 := Aside0.mk (S3.out.kept hg (fun e => (R3.out.1 p e.symm).2 rfl) (fun e => (R3.out.1 mb e.symm).1 rfl))
        have R9 : Aside0 (Kd.R k50 50 w9 w.heap.size (fun k => k ≠ mb ∧ k ≠ p) v9 (allL (l.take (i + 1)))) := ⟨by rw [allL_step l i HM.out, HXD.out]; exact ho⟩
        have L9 := Aside0.mk hb
        clear ho hb hg hat
        go_wp2_with fail
        go_roundw
        case rel => exact ⟨i + 1, _, congrArg (Value.int .i64) hw1, ⟨by have := HM.out; omega⟩, S9.out.mono (by omega) |> Aside0.mk, ⟨HZN.out⟩, R9, L9⟩
        case measure =>
          rw [hw1]
          show ((l.length : Int) - ((i + 1 : Nat) : Int)).toNat < ((l.length : Int) - (i : Int)).toNat
          have := HM.out
          omega
      · have k1 : (x.f0 == 1) = false := beq_eq_false_iff_ne.mpr h1
        by_cases h5 : x.f0 = 5
        · have k5 : (x.f0 == 5) = true := by rw [h5]; rfl
          clear h1 h5
          have HZN : Aside0 (∀ z, ((nextF m x.f2 x.f5 x.f6 x.f7).2 z).t.size ≤ (i + 1) * 1048576) := ⟨fun z => Nat.le_trans (nextF_size m x.f2 x.f5 x.f6 x.f7 (i * 1048576) HZ.out z) (Nat.mul_le_mul_right _ (Nat.le_succ i))⟩
          have HZS : Aside0 ((m x.f2).t.size ≤ 9223372036854775807) := ⟨by have := HZ.out x.f2; have := HI.out; have := HL.out; omega⟩
          have HNM : Aside0 (i < maxLen) := ⟨by have := HI.out; have := HL.out; unfold maxLen; omega⟩
          go_upto_region 16 with (go_at_call 16; refine (next_calls p mb i m x.f2 x.f5 x.f6 x.f7 _ S2.out HX.out.2 HNM.out HZS.out).mono ?_; rintro e w3 ⟨rfl, hS, hg⟩; have S3 := Aside0.mk hS; have R3 := Aside0.mk (Kd.R_grown R2.out hg (fun k hk e => hk.1 (Option.some.inj e))); have L3 := Aside0.mk (grown_below L2.out hg HPM.out.1 L2.out.size); have X3 := Aside0.mk (blk_grown X2.out hg (fun e => HGE.out (Option.some.inj e))); clear hS hg)
          clear x0 x2 x3 x4 x5 x6 x7 k1 k5 S2 R2 L2
          have x2 := blk_cell X3.out 2
          have HAP : Aside0 (((allL (l.take i)).length + 1) * 16 ≤ 140737488355328) := ⟨by have := HI.out; have := HL.out; unfold allL; rw [List.length_map, List.length_take]; omega⟩
          go_wp2_with ((with_reducible refine gate_builtin (b := .append) (xs := #[.tmp 56, .tmp 60]) rfl ?_); at_builtin; refine Kd.R_append k50 (w0 := w) w.heap.size rfl (.tmp 56) (.tmp 60) 35 50 _ 16 rfl Try.underlying35 info50 rfl (Nat.succ_pos 1) (Nat.succ_pos 15) _ (allL (l.take i)) ⟨x.f2, 1⟩ [.int .i64 x.f2, .int .i64 1] (fun k => k ≠ mb ∧ k ≠ p) (fun _ => False) rfl rfl (k50_mkM _ _ _ (⟨x.f2, 1⟩ : S50)) (fun _ h => h.elim) (fun k hk => by have := HPM.out; have := L3.out.size; have := S3.out.mq.lt; have := blk_lt S3.out.blk; omega) R3.out L3.out L3.out.size ?aL ?_; (case aL => exact HAP.out))
          intro v9 w9 ho hb hg hat
          have S9 := Aside0.mk (S3.out.kept hg (fun e => (R3.out.1 p e.symm).2 rfl) (fun e => (R3.out.1 mb e.symm).1 rfl))
          have R9 : Aside0 (Kd.R k50 50 w9 w.heap.size (fun k => k ≠ mb ∧ k ≠ p) v9 (allL (l.take (i + 1)))) := ⟨by rw [allL_step l i HM.out, HXD.out]; exact ho⟩
          have L9 := Aside0.mk hb
          clear ho hb hg hat
          go_wp2_with fail
          go_roundw
          case rel => exact ⟨i + 1, _, congrArg (Value.int .i64) hw1, ⟨by have := HM.out; omega⟩, S9.out.mono (by omega) |> Aside0.mk, ⟨HZN.out⟩, R9, L9⟩
          case measure =>
            rw [hw1]
            show ((l.length : Int) - ((i + 1 : Nat) : Int)).toNat < ((l.length : Int) - (i : Int)).toNat
            have := HM.out
            omega
        · have k5 : (x.f0 == 5) = false := beq_eq_false_iff_ne.mpr h5
          clear h1 h5
          have HZN : Aside0 (∀ z, (m z).t.size ≤ (i + 1) * 1048576) := ⟨fun z => Nat.le_trans (HZ.out z) (Nat.mul_le_mul_right _ (Nat.le_succ i))⟩
          have HAP : Aside0 (((allL (l.take i)).length + 1) * 16 ≤ 140737488355328) := ⟨by have := HI.out; have := HL.out; unfold allL; rw [List.length_map, List.length_take]; omega⟩
          go_wp2_with ((with_reducible refine gate_builtin (b := .append) (xs := #[.tmp 56, .tmp 60]) rfl ?_); at_builtin; refine Kd.R_append k50 (w0 := w) w.heap.size rfl (.tmp 56) (.tmp 60) 35 50 _ 16 rfl Try.underlying35 info50 rfl (Nat.succ_pos 1) (Nat.succ_pos 15) _ (allL (l.take i)) ⟨x.f2, 1⟩ [.int .i64 x.f2, .int .i64 1] (fun k => k ≠ mb ∧ k ≠ p) (fun _ => False) rfl rfl (k50_mkM _ _ _ (⟨x.f2, 1⟩ : S50)) (fun _ h => h.elim) (fun k hk => by have := HPM.out; have := L2.out.size; have := S2.out.mq.lt; have := blk_lt S2.out.blk; omega) R2.out L2.out L2.out.size ?aL ?_; (case aL => exact HAP.out))
          intro v9 w9 ho hb hg hat
          have S9 := Aside0.mk (S2.out.kept hg (fun e => (R2.out.1 p e.symm).2 rfl) (fun e => (R2.out.1 mb e.symm).1 rfl))
          have R9 : Aside0 (Kd.R k50 50 w9 w.heap.size (fun k => k ≠ mb ∧ k ≠ p) v9 (allL (l.take (i + 1)))) := ⟨by rw [allL_step l i HM.out, HXD.out]; exact ho⟩
          have L9 := Aside0.mk hb
          clear ho hb hg hat
          go_wp2_with fail
          go_roundw
          case rel => exact ⟨i + 1, m, congrArg (Value.int .i64) hw1, ⟨by have := HM.out; omega⟩, S9.out.mono (by omega) |> Aside0.mk, ⟨HZN.out⟩, R9, L9⟩
          case measure =>
            rw [hw1]
            show ((l.length : Int) - ((i + 1 : Nat) : Int)).toNat < ((l.length : Int) - (i : Int)).toNat
            have := HM.out
            omega
    · have d1 : decide ((i : Int) < (l.length : Int)) = false := decide_eq_false (by omega)
      have d2 : decide (i < l.length) = false := decide_eq_false hil
      have HIE : Aside0 (l.take i = l) := ⟨List.take_of_length_le (by omega)⟩
      clear hil
      obtain ⟨As, cs, rfl, hcs, hCs⟩ := Kd.R_reads R1.out
      have HLL : Aside0 ((allL (l.take i)).length ≤ 1048576) := ⟨by unfold allL; rw [List.length_map, List.length_take]; have := HL.out; omega⟩
      clear hcs hCs
      obtain ⟨M, hM⟩ : ∃ M, updM m gone Qu.zero = M := ⟨_, rfl⟩
      have HMG : Aside0 (M gone = Qu.zero) := ⟨by rw [← hM]; exact if_pos rfl⟩
      have HMS : Aside0 (∀ z, (M z).t.size ≤ 1099511627776) := ⟨by rw [← hM]; exact updM_size m gone _ _ (fun z => by have := HZ.out z; have := HI.out; have := HL.out; omega) (Nat.zero_le _)⟩
      obtain ⟨x, hx⟩ : ∃ x, (!(m gone).t.toList.isEmpty || (m gone).e) = x := ⟨_, rfl⟩
      have HDX := Aside0.mk hx
      have HMM := Aside0.mk hM
      clear hx hM
      obtain ⟨al, hal⟩ : ∃ al, allL (l.take i) = al := ⟨_, rfl⟩
      have HAL := Aside0.mk hal
      rw [hal] at R1 HLL ⊢
      clear hal
      go_upto_region 18 with (go_at_call 21; refine (drop_calls p mb i m gone x _ S1.out HGN.out HDX.out).mono ?_; rintro e w3 ⟨rfl, hS, hg⟩; rw [HMM.out] at hS; have S3 := Aside0.mk hS; have R3 := Aside0.mk (Kd.R_grown R1.out hg (fun k hk e => hk.1 (Option.some.inj e))); have L3 := Aside0.mk (grown_below L1.out hg HPM.out.1 L1.out.size); clear hS hg)
      clear d1 d2 S1 R1 L1
      have HN30 : Aside0 (i ≤ 1073741824) := ⟨by have := HI.out; have := HL.out; omega⟩
      have CA3 : Aside0 (Kd.C k50 w3 As al.length al) := ⟨by obtain ⟨A', c', e, _, h2⟩ := Kd.R_reads R3.out; injection e with e1 _ _; subst e1; exact h2⟩
      go_upto_region 19 with (go_at_call 18; refine (ready_calls p mb i M 1 As cs al _ S3.out HN30.out (by have := HLL.out; omega) CA3.out).mono ?_; rintro e w4 hR; obtain ⟨v, L1s, rfl, hR, hids, hb⟩ := hR; have S4 := Aside0.mk (S3.out.low hb); have L4 := Aside0.mk (below_then L3.out L3.out.size hb); have CA4 := Aside0.mk (Kd.C_below CA3.out hb); have Q4 := Aside0.mk hR; have HI1 := Aside0.mk hids; clear hR hids hb)
      clear S3 L3 R3 CA3
      obtain ⟨A1, c1, rfl, hc1, hC1⟩ := R_slice_int Q4.out
      have HC1 := Aside0.mk hc1
      clear hc1 hC1
      go_upto_if 21 with (go_at_call 18; refine (ready_calls p mb i M 0 As cs al _ S4.out HN30.out (by have := HLL.out; omega) CA4.out).mono ?_; rintro e w5 hR; obtain ⟨v, L0s, rfl, hR, hids, hb⟩ := hR; have S5 := Aside0.mk (S4.out.low hb); have L5 := Aside0.mk (below_then L4.out L4.out.size hb); have CA5 := Aside0.mk (Kd.C_below CA4.out hb); have D5 := Aside0.mk (R_slice_int2 (Kd.R_below Q4.out hb)); have Q5 := Aside0.mk hR; have HI0 := Aside0.mk hids; clear hR hids hb)
      clear S4 L4 CA4 Q4
      obtain ⟨A0, c0, rfl, hc0, hC0⟩ := R_slice_int Q5.out
      have HC0 := Aside0.mk hc0
      have E5 := Aside0.mk hC0
      clear hc0 hC0 Q5
      have HNG : Aside0 (gone ∉ L1s) := ⟨fun h => by have h2 := (HI1.out.2 gone).1 h; rw [HMG.out, rdy_zero] at h2; cases h2⟩
      go_loopw [11] (fun v w' => ∃ j : Nat, v = .int .i64 (j : Int) ∧ Aside0 (j ≤ L1s.length) ∧ Aside0 (Below w5.heap.size w5 w')) (fun v _ => ((L1s.length : Int) - intOf v).toNat)
      case atStart => exact ⟨0, rfl, ⟨Nat.zero_le _⟩, ⟨Below.refl _ _⟩⟩
      case round =>
        obtain ⟨j, rfl, HJ, LJ⟩ := hrel
        have WWR : Below wr.heap.size wr wr := Below.refl _ _
        clear WWR
        by_cases hj : j < L1s.length
        · have d1 : decide ((j : Int) < (L1s.length : Int)) = true := decide_eq_true (by omega)
          have d2 : decide (j < L1s.length) = true := decide_eq_true hj
          have hw1 : wrap64 ((j : Int) + 1) = ((j + 1 : Nat) : Int) := by have := D5.out.2.1; unfold wrap64; omega
          have HJM : Aside0 (j < L1s.length) := ⟨hj⟩
          have q0 : (0 : Int) ≤ (j : Int) := by omega
          have q1 : (j : Int) < (L1s.length : Int) := by omega
          obtain ⟨ad, hA, y0⟩ := Kd.at_int (Kd.C_below D5.out LJ.out) (j : Int) q0 q1
          obtain ⟨yv, hyv⟩ : ∃ y, rd L1s (j : Int) = y := ⟨_, rfl⟩
          rw [hyv, Int.toNat_natCast] at y0
          have HYV : Aside0 (L1s[j] = yv) := ⟨by rw [← hyv, rd_get hj]⟩
          have e1 : (yv == gone) = false := beq_eq_false_iff_ne.mpr (fun e => HNG.out (by rw [← e, ← HYV.out]; exact List.getElem_mem hj))
          clear hyv
          by_cases h0 : 0 < j
          · have d3 : decide ((0 : Int) < (j : Int)) = true := decide_eq_true (by omega)
            have d4 : decide (0 < j) = true := decide_eq_true h0
            obtain ⟨k, hk⟩ : ∃ k : Nat, j - 1 = k := ⟨_, rfl⟩
            have hw0 : wrap64 ((j : Int) - 1) = (k : Int) := by have := D5.out.2.1; unfold wrap64; omega
            have hw9 : IntKind.i64.wrap ((j : Int) - 1) = (k : Int) := by have := D5.out.2.1; rw [IntWalk.i64_in _ (by omega)]; omega
            have HK : Aside0 (k < j ∧ j < L1s.length) := ⟨by omega⟩
            have p0 : (0 : Int) ≤ (k : Int) := by omega
            have p1 : (k : Int) < (L1s.length : Int) := by omega
            obtain ⟨ad', hA', z0⟩ := Kd.at_int (Kd.C_below D5.out LJ.out) (k : Int) p0 p1
            obtain rfl : ad = ad' := Option.some.inj (hA.symm.trans hA')
            obtain ⟨zv, hzv⟩ : ∃ y, rd L1s (k : Int) = y := ⟨_, rfl⟩
            rw [hzv, Int.toNat_natCast] at z0
            have e2 : decide (yv ≤ zv) = false := decide_eq_false (by
              rw [← hzv, rd_get (show k < L1s.length by omega), ← HYV.out]
              have h := List.pairwise_iff_getElem.1 HI1.out.1 k j (by omega) hj (by omega)
              omega)
            clear hzv hA' hk
            subst hA
            clear h0 HYV hj HK
            go_upto_region 23 with fail
            go_big_quiet (fail)
            have LJ2 := Aside0.mk (below_then LJ.out LJ.out.size (pw_below_drewN (Below.refl _ _) nq))
            go_wp2_with fail
            go_roundw
            case rel => exact ⟨j + 1, congrArg (Value.int .i64) hw1, ⟨HJM.out⟩, LJ2⟩
            case measure =>
              rw [hw1]
              show ((L1s.length : Int) - ((j + 1 : Nat) : Int)).toNat < ((L1s.length : Int) - (j : Int)).toNat
              have := HJM.out
              omega
          · have d3 : decide ((0 : Int) < (j : Int)) = false := decide_eq_false (by omega)
            have d4 : decide (0 < j) = false := decide_eq_false h0
            subst hA
            clear h0 HYV hj
            go_upto_region 23 with fail
            go_big_quiet (fail)
            have LJ2 := Aside0.mk (below_then LJ.out LJ.out.size (pw_below_drewN (Below.refl _ _) nq))
            go_wp2_with fail
            go_roundw
            case rel => exact ⟨j + 1, congrArg (Value.int .i64) hw1, ⟨HJM.out⟩, LJ2⟩
            case measure =>
              rw [hw1]
              show ((L1s.length : Int) - ((j + 1 : Nat) : Int)).toNat < ((L1s.length : Int) - (j : Int)).toNat
              have := HJM.out
              omega
        · have d1 : decide ((j : Int) < (L1s.length : Int)) = false := decide_eq_false (by omega)
          have d2 : decide (j < L1s.length) = false := decide_eq_false hj
          have S6 := Aside0.mk (S5.out.low LJ.out)
          have L6 := Aside0.mk (below_then L5.out L5.out.size LJ.out)
          have CA6 := Aside0.mk (Kd.C_below CA5.out LJ.out)
          have D6 := Aside0.mk (Kd.C_below D5.out LJ.out)
          have E6 := Aside0.mk (Kd.C_below E5.out LJ.out)
          clear hj S5 L5 CA5 D5 E5
          go_upto_if 26 with fail
          clear d1 d2 LJ
          go_loopw [12] (fun v w' => ∃ t : Nat, v = .int .i64 (t : Int) ∧ Aside0 (t ≤ al.length) ∧ Aside0 (Below wr.heap.size wr w')) (fun v _ => ((al.length : Int) - intOf v).toNat)
          case atStart => exact ⟨0, rfl, ⟨Nat.zero_le _⟩, ⟨Below.refl _ _⟩⟩
          case round =>
            obtain ⟨t, rfl, HTI, LT⟩ := hrel
            by_cases htl : t < al.length
            · have d1 : decide ((t : Int) < (al.length : Int)) = true := decide_eq_true (by omega)
              have d2 : decide (t < al.length) = true := decide_eq_true htl
              have hw1 : wrap64 ((t : Int) + 1) = ((t + 1 : Nat) : Int) := by have := HLL.out; unfold wrap64; omega
              have HTM : Aside0 (t < al.length) := ⟨htl⟩
              have t0 : (0 : Int) ≤ (t : Int) := by omega
              have t1 : (t : Int) < (al.length : Int) := by omega
              obtain ⟨y, hy⟩ : ∃ y, rd_T50 al (t : Int) = y := ⟨_, rfl⟩
              have HYD : Aside0 (al.getD t z50 = y) := ⟨by rw [← hy]; unfold rd_T50; rw [Int.toNat_natCast]⟩
              have HY : Aside0 (W64 y.f0 ∧ leftL y.f0 al = 1) := ⟨by
                have hm : y ∈ al := by
                  rw [← HYD.out, List.getD_eq_getElem?_getD, List.getElem?_eq_getElem htl]
                  exact List.getElem_mem htl
                rw [← HAL.out, HIE.out] at hm ⊢
                have hm2 := hm
                unfold allL at hm2
                obtain ⟨x, hx, rfl⟩ := List.mem_map.1 hm2
                exact ⟨(HT.out x hx).2, leftL_all l x.f2 (List.mem_map.2 ⟨_, hm, rfl⟩)⟩⟩
              obtain ⟨ad, hA, y0, y1⟩ := at_T50 (Kd.C_below CA6.out LT.out) (t : Int) t0 t1
              rw [Int.toNat_natCast, hy] at y0
              have HYA : Aside0 (∀ W, Kd.C k50 W As al.length al → W.cell? (ad.add (t * 2)) = some (.int .i64 y.f0)) := ⟨fun W hb => by
                obtain ⟨ad', hA', y0', _⟩ := at_T50 hb (t : Int) t0 t1
                obtain rfl : ad = ad' := Option.some.inj (hA.symm.trans hA')
                rw [Int.toNat_natCast, hy] at y0'
                exact y0'⟩
              obtain ⟨q, hq⟩ : ∃ q, M y.f0 = q := ⟨_, rfl⟩
              have HQ := Aside0.mk hq
              have HV1 := Aside0.mk (mem_dec HI1.out y.f0)
              have HV0 := Aside0.mk (mem_dec HI0.out y.f0)
              rw [hq, HY.out.2, rdy_11] at HV1
              rw [hq, rdy_0] at HV0
              clear y1 hy htl hq
              obtain ⟨qe, hqe⟩ : ∃ z, q.e = z := ⟨_, rfl⟩
              have HQE := Aside0.mk hqe
              rw [hqe] at HV1 HV0
              by_cases hs : q.t.size = 0
              · have f1 : decide ((0 : Int) < (q.t.size : Int)) = false := decide_eq_false (by omega)
                have f2 : ((q.t.size : Int) == 0) = true := beq_iff_eq.mpr (by omega)
                have f3 : decide (0 < q.t.size) = false := decide_eq_false (by omega)
                have f4 : (q.t.size == 0) = true := beq_iff_eq.mpr hs
                rw [decide_eq_false (by omega : ¬ 0 < q.t.size), Bool.false_or] at HV1
                rw [decide_eq_true hs, Bool.true_and] at HV0
                subst hA
                clear hs
                cases qe
                · go_upto_region 29 with (go_at_call 19; refine (waits_calls p mb i M y.f0 _ (S6.out.low LT.out) HY.out.1).mono ?_; rintro e w7 ⟨rfl, hb⟩; rw [HQ.out]; have LT7 := Aside0.mk (below_then LT.out LT.out.size hb); clear hb)
                  have ya := HYA.out _ (Kd.C_below CA6.out LT7.out)
                  go_wp2_with (first
                    | (go_at_call 17; with_reducible refine (has_calls A1 c1 L1s y.f0 _ (Kd.C_below D6.out LT7.out) HC1.out).mono ?_; rintro e w8 ⟨rfl, hb⟩; rw [HV1.out]; have LT8 := Aside0.mk (below_then LT7.out LT7.out.size hb); have ya := HYA.out _ (Kd.C_below CA6.out LT8.out); clear hb)
                    | (go_at_call 17; with_reducible refine (has_calls A0 c0 L0s y.f0 _ (Kd.C_below E6.out LT8.out) HC0.out).mono ?_; rintro e w9 ⟨rfl, hb⟩; rw [HV0.out]; have LT9 := Aside0.mk (below_then LT8.out LT8.out.size hb); clear hb))
                  go_roundw
                  case rel => exact ⟨t + 1, congrArg (Value.int .i64) hw1, ⟨HTM.out⟩, LT9⟩
                  case measure =>
                    rw [hw1]
                    show ((al.length : Int) - ((t + 1 : Nat) : Int)).toNat < ((al.length : Int) - (t : Int)).toNat
                    have := HTM.out
                    omega
                · go_upto_region 29 with (go_at_call 19; refine (waits_calls p mb i M y.f0 _ (S6.out.low LT.out) HY.out.1).mono ?_; rintro e w7 ⟨rfl, hb⟩; rw [HQ.out]; have LT7 := Aside0.mk (below_then LT.out LT.out.size hb); clear hb)
                  have ya := HYA.out _ (Kd.C_below CA6.out LT7.out)
                  go_wp2_with (first
                    | (go_at_call 17; with_reducible refine (has_calls A1 c1 L1s y.f0 _ (Kd.C_below D6.out LT7.out) HC1.out).mono ?_; rintro e w8 ⟨rfl, hb⟩; rw [HV1.out]; have LT8 := Aside0.mk (below_then LT7.out LT7.out.size hb); have ya := HYA.out _ (Kd.C_below CA6.out LT8.out); clear hb)
                    | (go_at_call 17; with_reducible refine (has_calls A0 c0 L0s y.f0 _ (Kd.C_below E6.out LT8.out) HC0.out).mono ?_; rintro e w9 ⟨rfl, hb⟩; rw [HV0.out]; have LT9 := Aside0.mk (below_then LT8.out LT8.out.size hb); clear hb))
                  go_roundw
                  case rel => exact ⟨t + 1, congrArg (Value.int .i64) hw1, ⟨HTM.out⟩, LT9⟩
                  case measure =>
                    rw [hw1]
                    show ((al.length : Int) - ((t + 1 : Nat) : Int)).toNat < ((al.length : Int) - (t : Int)).toNat
                    have := HTM.out
                    omega
              · have f1 : decide ((0 : Int) < (q.t.size : Int)) = true := decide_eq_true (by omega)
                have f2 : ((q.t.size : Int) == 0) = false := beq_eq_false_iff_ne.mpr (by omega)
                have f3 : decide (0 < q.t.size) = true := decide_eq_true (by omega)
                have f4 : (q.t.size == 0) = false := beq_eq_false_iff_ne.mpr hs
                rw [decide_eq_true (by omega : 0 < q.t.size), Bool.true_or] at HV1
                rw [decide_eq_false hs, Bool.false_and] at HV0
                subst hA
                clear hs
                go_upto_region 29 with (go_at_call 19; refine (waits_calls p mb i M y.f0 _ (S6.out.low LT.out) HY.out.1).mono ?_; rintro e w7 ⟨rfl, hb⟩; rw [HQ.out]; have LT7 := Aside0.mk (below_then LT.out LT.out.size hb); clear hb)
                have ya := HYA.out _ (Kd.C_below CA6.out LT7.out)
                go_wp2_with (first
                  | (go_at_call 17; with_reducible refine (has_calls A1 c1 L1s y.f0 _ (Kd.C_below D6.out LT7.out) HC1.out).mono ?_; rintro e w8 ⟨rfl, hb⟩; rw [HV1.out]; have LT8 := Aside0.mk (below_then LT7.out LT7.out.size hb); have ya := HYA.out _ (Kd.C_below CA6.out LT8.out); clear hb)
                  | (go_at_call 17; with_reducible refine (has_calls A0 c0 L0s y.f0 _ (Kd.C_below E6.out LT8.out) HC0.out).mono ?_; rintro e w9 ⟨rfl, hb⟩; rw [HV0.out]; have LT9 := Aside0.mk (below_then LT8.out LT8.out.size hb); clear hb))
                go_roundw
                case rel => exact ⟨t + 1, congrArg (Value.int .i64) hw1, ⟨HTM.out⟩, LT9⟩
                case measure =>
                  rw [hw1]
                  show ((al.length : Int) - ((t + 1 : Nat) : Int)).toNat < ((al.length : Int) - (t : Int)).toNat
                  have := HTM.out
                  omega
            · have d1 : decide ((t : Int) < (al.length : Int)) = false := decide_eq_false (by omega)
              have d2 : decide (t < al.length) = false := decide_eq_false htl
              have S7 := Aside0.mk (S6.out.low LT.out)
              have L7 := Aside0.mk (below_then L6.out L6.out.size LT.out)
              have HZT : Aside0 (((Qu.zero).t.size : Int) = 0) := ⟨rfl⟩
              have HD2 : Aside0 ((!(M gone).t.toList.isEmpty || (M gone).e) = false) := ⟨by rw [HMG.out, zero_t]; rfl⟩
              clear htl
              go_upto_region 32 with (go_at_call 19; refine (waits_calls p mb i M gone _ S7.out HGN.out).mono ?_; rintro e w8 ⟨rfl, hb⟩; rw [HMG.out, HZT.out, show Qu.zero.e = false from rfl]; have S8 := Aside0.mk (S7.out.low hb); have L8 := Aside0.mk (below_then L7.out L7.out.size hb); clear hb)
              go_wp2_with (go_at_call 21; refine (drop_calls p mb i M gone false _ S8.out HGN.out HD2.out).mono ?_; rintro e w9 ⟨rfl, hS, hg⟩; have L9 := Aside0.mk (grown_below L8.out hg HPM.out.1 L8.out.size); clear hS hg)
              go_ret
              exact ⟨rfl, L9.out⟩
end Go.Proofs.Ytedkjbdkokdgdaa.Sh
