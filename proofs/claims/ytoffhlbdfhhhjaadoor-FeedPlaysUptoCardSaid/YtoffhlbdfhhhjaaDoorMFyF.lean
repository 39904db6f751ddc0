/- The document's Next. The feed lies in a block of its own; its text fits. -/
import Derived.Test.YtoffhlbdfhhhjaaDoorMFyE
namespace Go.Proofs.YtoffhlbdfhhhjaaDoor.Fr
open Go Go.RowKit Go.Proofs.YtoffhlbdfhhhjaaDoorW.PrintWords Go.Proofs.YtoffhlbdfhhhjaaDoorW.PrintLast Go.Proofs.YtoffhlbdfhhhjaaDoorW.PrintMore Go.Proofs.YtoffhlbdfhhhjaaDoor.QL
set_option linter.unusedSimpArgs false
set_option linter.unusedVariables false
set_option maxHeartbeats 40000000
set_option maxRecDepth 100000
/-- The first i bytes are the preface's. -/
def Agr (b : ByteArray) (i : Nat) : Prop := b.data.toList.take i = prefaceB.data.toList.take i
theorem pf_size : prefaceB.size = 24 := rfl
theorem agr_step {b : ByteArray} {i : Nat} (h : Agr b i) (h1 : i < b.size) (h2 : i < prefaceB.size) (e : b[i]'h1 = prefaceB[i]'h2) : Agr b (i + 1) := by
  unfold Agr at *
  rw [List.take_succ_eq_append_getElem (by rw [← ba_size]; exact h1), List.take_succ_eq_append_getElem (by rw [← ba_size]; exact h2), h]
  congr 2
theorem bad_no {f : Dc} {i : Nat} (h : Agr f.b i) (hi : min prefaceB.size f.b.size ≤ i) : badB f = false := by
  unfold badB
  have e : (f.b.extract 0 (min prefaceB.size f.b.size)).toList = (prefaceB.extract 0 (min prefaceB.size f.b.size)).toList := by
    have h3 := congrArg (List.take (min prefaceB.size f.b.size)) h
    rw [List.take_take, List.take_take, Nat.min_eq_left hi] at h3
    rw [ByteArray.toList_eq, ByteArray.toList_eq, ex_list, ex_list, List.drop_zero, List.drop_zero, Nat.sub_zero]
    exact h3
  rw [e]
  simp
theorem bad_yes {f : Dc} {i : Nat} (h1 : i < f.b.size) (h2 : i < prefaceB.size) (e : f.b[i]'h1 ≠ prefaceB[i]'h2) : badB f = true := by
  cases hb : badB f
  · exfalso
    unfold badB at hb
    have h : (f.b.extract 0 (min prefaceB.size f.b.size)).toList = (prefaceB.extract 0 (min prefaceB.size f.b.size)).toList := by simpa using hb
    rw [ByteArray.toList_eq, ByteArray.toList_eq, ex_list, ex_list, List.drop_zero, List.drop_zero, Nat.sub_zero] at h
    have h3 := congrArg (fun l => l[i]?) h
    simp only [List.getElem?_take] at h3
    rw [if_pos (by omega), if_pos (by omega), List.getElem?_eq_getElem (by rw [← ba_size]; exact h1), List.getElem?_eq_getElem (by rw [← ba_size]; exact h2)] at h3
    exact e (Option.some.inj h3)
  · rfl
theorem next7_calls (g : Nat) (f : Dc) (w : World) (h : DAt w g f) (hs : f.b.size ≤ 9223372036854775807) : Calls Tryd.prog 40 #[.pointer (some ⟨g, 0, none⟩)] w fun e w' => NyPost g w (nextD f) e w' := by
  by_cases hc : f.code ≠ 0
  · exact next7_broken g f w h hc
  have hc : f.code = 0 := Decidable.not_not.mp hc
  have H := Aside0.mk h
  have HS := Aside0.mk hs
  have HC := Aside0.mk hc
  have b0 : (f.code != 0) = false := by rw [hc]; rfl
  have b0' : (f.code == 0) = true := by rw [hc]; rfl
  obtain ⟨F, hF⟩ : ∃ F, nextD f = F := ⟨_, rfl⟩
  have HF := Aside0.mk hF
  rw [hF]
  clear h hs hc hF
  go_enter Tryd.func40, Tryd.ntmps40
  go_upto_region 1 with fail
  obtain ⟨W1, hW1⟩ : ∃ W, ((w.alloc (.cells #[.int .i64 0, .int .i64 0, .int .i64 0, .string ⟨#[]⟩, .int .i64 0, .int .i64 0, .bool false, .int .i64 0, .int .i64 0, .int .i64 0, .slice none 0 0] 24)).alloc (.cells #[.int .i64 0, .int .i64 0] 35)) = W := ⟨_, rfl⟩
  obtain ⟨g2, h2⟩ : ∃ q, w.heap.size = q := ⟨_, rfl⟩
  obtain ⟨g4, h4⟩ : ∃ q, g2 + 1 = q := ⟨_, rfl⟩
  have L1 : Aside0 (Below w.heap.size w W1) := ⟨by rw [← hW1]; exact below_alloc (below_alloc (Below.refl _ _) _) _⟩
  have X2 : Aside0 (At W1 g2 Fr.zero none 0) := ⟨by rw [← hW1, ← h2]; exact heap_alloc2_old _ _ _⟩
  have X4 : Aside0 (W1.heap[g4]? = some (.cells #[.int .i64 0, .int .i64 0] 35 (0, 0))) := ⟨by rw [← hW1, ← h4, ← h2]; exact heap_alloc2_new _ _ _⟩
  have I1 : Aside0 (YI w W1 g g2 g4 f Fr.zero none 0 0 0) := ⟨⟨H.out.low L1.out, X2.out, X4.out, Chg.of L1.out, blk_lt H.out, by omega, by omega⟩⟩
  rw [hW1, h2, h4]
  clear hW1 h2 h4 L1 X2 X4 H
  have z3 := I1.out.fd.c3
  have z0 := I1.out.fd.c0
  obtain ⟨gr, hgr⟩ : ∃ x, f.gr = x := ⟨_, rfl⟩
  rw [hgr] at z0
  have HGR := Aside0.mk hgr
  clear hgr
  cases gr
  · go_upto_region 13 with fail
    clear z0 z3 b0 b0'
    exact rest7 g g2 g4 f w W1 HS I1 F ⟨by rw [← HF.out]; unfold nextD; rw [if_neg (by rw [HC.out]; decide), if_pos HGR.out]⟩ _ (by assumption) _ _ _ _ _ _ _ _ _ _ _ _ _ _ _ _ _ _ _ _ _ _ _ _ _ _ _ _ _ _ _ _ _ _ _ _ _ _ _ _ _ _ _ _ _ _ _ _ _ _ _ _ _ _ _ _ _ _ _ _ _ _ _ _ _ _ _ _ _ _ _ _ _ _ _ _ _ _ _ _ _ _ _ _ _ _ _ _ _ _ _ _ _ _ _ _ _ _ _ _ _ _ _ _ _ _ _ _ _ _ _ _ _ _ _ _ _ _ _ _ _ _ _ _ _ _ _
  · go_upto_if 5 with fail
    clear z0 z3 b0 b0'
    go_loopw [5] (fun v w' => ∃ i : Nat, v = .int .i64 (i : Int) ∧ Aside0 (i ≤ f.b.size ∧ i ≤ 24) ∧ Aside0 (Agr f.b i) ∧ Aside0 (YI w w' g g2 g4 f Fr.zero none 0 0 0)) (fun v _ => ((24 : Int) - intOf v).toNat)
    case atStart => exact ⟨0, rfl, ⟨⟨Nat.zero_le _, Nat.zero_le _⟩⟩, ⟨rfl⟩, I1⟩
    case round =>
      clear I1
      obtain ⟨i, rfl, HI, HA, I1⟩ := hrel
      have z2 := I1.out.fd.c2
      have p0 : (0 : Int) ≤ (i : Int) := by omega
      by_cases hl : i < f.b.size
      · have d1 : decide ((i : Int) < (f.b.size : Int)) = true := decide_eq_true (by omega)
        have d2 : decide (i < f.b.size) = true := decide_eq_true hl
        by_cases hl2 : i < 24
        · have d3 : decide ((i : Int) < 24) = true := decide_eq_true (by omega)
          have d4 : decide (i < 24) = true := decide_eq_true hl2
          have p1 : (i : Int) < (f.b.size : Int) := by omega
          have p2 : (i : Int) < 24 := by omega
          obtain ⟨m, hm⟩ : ∃ m, i + 1 = m := ⟨_, rfl⟩
          have HW : Aside0 ((i : Int) + 1 = (m : Int)) := ⟨by omega⟩
          have HJ : Aside0 (i < f.b.size ∧ i < 24 ∧ i + 1 = m) := ⟨hl, hl2, hm⟩
          clear hm
          go_upto_region 7 with fail
          go_quiet (fail)
          obtain ⟨W2, hW2⟩ : ∃ W, wr.drewN nq = W := ⟨_, rfl⟩
          have I2 : Aside0 (YI w W2 g g2 g4 f Fr.zero none 0 0 0) := ⟨by rw [← hW2]; exact I1.out.below (pw_below_drewN (Below.refl _ _) nq)⟩
          rw [hW2]
          clear hW2 I1 z2
          obtain ⟨x, hx⟩ : ∃ x, (((f.b[i]'HJ.out.1).toNat : Int) != (((⟨#[80, 82, 73, 32, 42, 32, 72, 84, 84, 80, 47, 50, 46, 48, 13, 10, 13, 10, 83, 77, 13, 10, 13, 10]⟩ : ByteArray)[i]'HJ.out.2.1).toNat : Int)) = x := ⟨_, rfl⟩
          have HX := Aside0.mk hx
          rw [hx]
          clear hx d1 d2 d3 d4
          cases x
          · have HA2 : Aside0 (Agr f.b m) := ⟨by
              rw [← HJ.out.2.2]
              refine agr_step HA.out HJ.out.1 (by rw [pf_size]; exact HJ.out.2.1) ?_
              have h := HX.out
              rw [bne_eq_false_iff_eq] at h
              exact UInt8.toNat_inj.mp (Int.ofNat.inj h)⟩
            go_wp2_with fail
            go_roundw
            case rel => exact ⟨m, congrArg (Value.int .i64) HW.out, ⟨by have := HJ.out; omega⟩, HA2, I2⟩
            case measure =>
              show ((24 : Int) - ((i : Int) + 1)).toNat < ((24 : Int) - (i : Int)).toNat
              have := HJ.out
              omega
          · have HB : Aside0 (badB f = true) := ⟨by
              refine bad_yes HJ.out.1 (by rw [pf_size]; exact HJ.out.2.1) ?_
              have h := HX.out
              rw [bne_iff_ne] at h
              intro e
              apply h
              have e2 : f.b[i]'HJ.out.1 = (⟨#[80, 82, 73, 32, 42, 32, 72, 84, 84, 80, 47, 50, 46, 48, 13, 10, 13, 10, 83, 77, 13, 10, 13, 10]⟩ : ByteArray)[i]'HJ.out.2.1 := e
              rw [e2]⟩
            go_wp2_with (first
              | (go_at_call 70; refine (breaks7_calls g f 1 0 _ I2.out.fd).mono ?_; rintro e w16 ⟨rfl, hd, hch⟩; have I3 := Aside0.mk (I2.out.feed hd hch); clear hd hch)
              | (refine wpList_store_row rfl 24 _ _ rfl g2 (#[.int .i64 0, .int .i64 0, .int .i64 0, .string ⟨#[]⟩, .int .i64 0, .int .i64 0, .bool false, .int .i64 0, .int .i64 0, .int .i64 0, .slice none 0 0]) rfl rfl 24 _ I3.out.b2 (by kernel_rfl) (by kernel_rfl) (by kernel_rfl) ?_; obtain ⟨W8, e8, q4, qo, qb⟩ := row_store _ g2 (#[.int .i64 0, .int .i64 0, .int .i64 0, .string ⟨#[]⟩, .int .i64 0, .int .i64 0, .bool false, .int .i64 0, .int .i64 0, .int .i64 0, .slice none 0 0]) 24 _ I3.out.b2; rw [e8]; have I4 := Aside0.mk (I3.out.row2 (x' := Fr.zero) (A' := none) (c' := 0) q4 qo qb); clear q4 qo qb e8)
              | (refine wpList_store_row rfl 35 _ _ rfl g4 #[.int .i64 1, .int .i64 0] rfl rfl 35 _ I4.out.b4 (by kernel_rfl) (by kernel_rfl) (by kernel_rfl) ?_; obtain ⟨W9, e9, p6, po, pb⟩ := row_store _ g4 #[.int .i64 1, .int .i64 0] 35 _ I4.out.b4; rw [e9]; have I5 := Aside0.mk (I4.out.row4 p6 po pb); clear p6 po pb e9))
            have e : F = ({ f with b := ByteArray.empty, code := 1, st := 0 }, ⟨Fr.zero, false, 1, 0⟩) := by
              rw [← HF.out]; unfold nextD; rw [if_neg (by rw [HC.out]; decide), if_neg (by rw [HGR.out]; decide), if_pos HB.out]
            rw [e]
            exact bodyPost_ret (res40 _ _ g2 g4 Fr.zero none 0 false 1 0 rfl rfl rfl I5.out.b2 I5.out.b4) rfl ⟨none, 0, rfl, Kd.R_nil _ _ _ _ _, I5.out.fd, I5.out.chg⟩
        · have d3 : decide ((i : Int) < 24) = false := decide_eq_false (by omega)
          have d4 : decide (i < 24) = false := decide_eq_false hl2
          have hsz : 24 ≤ f.b.size ∧ 24 ≤ i := by omega
          clear hl2 hl z2
          have z2 := I1.out.fd.c2
          have z0 := I1.out.fd.c0
          have y2 := I1.out.fd.fz 2
          have y0 := I1.out.fd.fz 0
          have t1 : decide ((f.b.size : Int) < 24) = false := decide_eq_false (by omega)
          have t2 : decide (f.b.size < 24) = false := decide_eq_false (by omega)
          have q1 : (24 : Int) ≤ (f.b.size : Int) := by omega
          have HQ : Aside0 (badB f = false ∧ ¬ f.b.size < prefaceB.size) := ⟨bad_no (i := i) HA.out (by rw [pf_size]; omega), by rw [pf_size]; omega⟩
          have HS2 : Aside0 ((f.b.extract 24 f.b.size).size ≤ 9223372036854775807) := ⟨by rw [ByteArray.size_extract]; have := HS.out; omega⟩
          clear hsz
          go_upto_region 13 with fail
          clear t1 t2 q1 z2 y2 y0 z0
          obtain ⟨W10, hW⟩ : ∃ W', ((wr.setCell ⟨g, 2, none⟩ (.string (f.b.extract 24 f.b.size))).setCell ⟨g, 0, none⟩ (.bool false)) = W' := ⟨_, rfl⟩
          have I2 : Aside0 (YI w W10 g g2 g4 { f with b := f.b.extract 24 f.b.size, gr := false } Fr.zero none 0 0 0) := ⟨by rw [← hW]; exact I1.out.feed ((I1.out.fd.put2 _).put0 _) ((Chg.set _ _ _).trans (Chg.set _ _ _))⟩
          rw [hW]
          clear hW I1
          exact rest7 g g2 g4 { f with b := f.b.extract 24 f.b.size, gr := false } w W10 HS2 I2 F ⟨by rw [← HF.out]; unfold nextD; rw [if_neg (by rw [HC.out]; decide), if_neg (by rw [HGR.out]; decide), if_neg (by rw [HQ.out.1]; decide), if_neg HQ.out.2, pf_size]⟩ _ (by assumption) _ _ _ _ _ _ _ _ _ _ _ _ _ _ _ _ _ _ _ _ _ _ _ _ _ _ _ _ _ _ _ _ _ _ _ _ _ _ _ _ _ _ _ _ _ _ _ _ _ _ _ _ _ _ _ _ _ _ _ _ _ _ _ _ _ _ _ _ _ _ _ _ _ _ _ _ _ _ _ _ _ _ _ _ _ _ _ _ _ _ _ _ _ _ _ _ _ _ _ _ _ _ _ _ _ _ _ _ _ _ _ _ _ _ _ _ _ _ _ _ _ _ _ _ _ _ _
      · have d1 : decide ((i : Int) < (f.b.size : Int)) = false := decide_eq_false (by omega)
        have d2 : decide (i < f.b.size) = false := decide_eq_false hl
        by_cases hsz : 24 ≤ f.b.size
        · have hsz : 24 ≤ f.b.size ∧ 24 ≤ i := by omega
          clear z2 hl
          have z2 := I1.out.fd.c2
          have z0 := I1.out.fd.c0
          have y2 := I1.out.fd.fz 2
          have y0 := I1.out.fd.fz 0
          have t1 : decide ((f.b.size : Int) < 24) = false := decide_eq_false (by omega)
          have t2 : decide (f.b.size < 24) = false := decide_eq_false (by omega)
          have q1 : (24 : Int) ≤ (f.b.size : Int) := by omega
          have HQ : Aside0 (badB f = false ∧ ¬ f.b.size < prefaceB.size) := ⟨bad_no (i := i) HA.out (by rw [pf_size]; omega), by rw [pf_size]; omega⟩
          have HS2 : Aside0 ((f.b.extract 24 f.b.size).size ≤ 9223372036854775807) := ⟨by rw [ByteArray.size_extract]; have := HS.out; omega⟩
          clear hsz
          go_upto_region 13 with fail
          clear t1 t2 q1 z2 y2 y0 z0
          obtain ⟨W10, hW⟩ : ∃ W', ((wr.setCell ⟨g, 2, none⟩ (.string (f.b.extract 24 f.b.size))).setCell ⟨g, 0, none⟩ (.bool false)) = W' := ⟨_, rfl⟩
          have I2 : Aside0 (YI w W10 g g2 g4 { f with b := f.b.extract 24 f.b.size, gr := false } Fr.zero none 0 0 0) := ⟨by rw [← hW]; exact I1.out.feed ((I1.out.fd.put2 _).put0 _) ((Chg.set _ _ _).trans (Chg.set _ _ _))⟩
          rw [hW]
          clear hW I1
          exact rest7 g g2 g4 { f with b := f.b.extract 24 f.b.size, gr := false } w W10 HS2 I2 F ⟨by rw [← HF.out]; unfold nextD; rw [if_neg (by rw [HC.out]; decide), if_neg (by rw [HGR.out]; decide), if_neg (by rw [HQ.out.1]; decide), if_neg HQ.out.2, pf_size]⟩ _ (by assumption) _ _ _ _ _ _ _ _ _ _ _ _ _ _ _ _ _ _ _ _ _ _ _ _ _ _ _ _ _ _ _ _ _ _ _ _ _ _ _ _ _ _ _ _ _ _ _ _ _ _ _ _ _ _ _ _ _ _ _ _ _ _ _ _ _ _ _ _ _ _ _ _ _ _ _ _ _ _ _ _ _ _ _ _ _ _ _ _ _ _ _ _ _ _ _ _ _ _ _ _ _ _ _ _ _ _ _ _ _ _ _ _ _ _ _ _ _ _ _ _ _ _ _ _ _ _ _
        · have t1 : decide ((f.b.size : Int) < 24) = true := decide_eq_true (by omega)
          have t2 : decide (f.b.size < 24) = true := decide_eq_true (by omega)
          have HQ : Aside0 (badB f = false ∧ f.b.size < prefaceB.size) := ⟨bad_no (i := i) HA.out (by omega), by rw [pf_size]; omega⟩
          clear hsz hl
          have I3 := I1
          go_wp2_with (first
            | (refine wpList_store_row rfl 24 _ _ rfl g2 (#[.int .i64 0, .int .i64 0, .int .i64 0, .string ⟨#[]⟩, .int .i64 0, .int .i64 0, .bool false, .int .i64 0, .int .i64 0, .int .i64 0, .slice none 0 0]) rfl rfl 24 _ I3.out.b2 (by kernel_rfl) (by kernel_rfl) (by kernel_rfl) ?_; obtain ⟨W8, e8, q4, qo, qb⟩ := row_store _ g2 (#[.int .i64 0, .int .i64 0, .int .i64 0, .string ⟨#[]⟩, .int .i64 0, .int .i64 0, .bool false, .int .i64 0, .int .i64 0, .int .i64 0, .slice none 0 0]) 24 _ I3.out.b2; rw [e8]; have I4 := Aside0.mk (I3.out.row2 (x' := Fr.zero) (A' := none) (c' := 0) q4 qo qb); clear q4 qo qb e8)
            | (refine wpList_store_row rfl 35 _ _ rfl g4 #[.int .i64 0, .int .i64 0] rfl rfl 35 _ I4.out.b4 (by kernel_rfl) (by kernel_rfl) (by kernel_rfl) ?_; obtain ⟨W9, e9, p6, po, pb⟩ := row_store _ g4 #[.int .i64 0, .int .i64 0] 35 _ I4.out.b4; rw [e9]; have I5 := Aside0.mk (I4.out.row4 p6 po pb); clear p6 po pb e9))
          have e : F = (f, ⟨Fr.zero, false, 0, 0⟩) := by
            rw [← HF.out]; unfold nextD; rw [if_neg (by rw [HC.out]; decide), if_neg (by rw [HGR.out]; decide), if_neg (by rw [HQ.out.1]; decide), if_pos HQ.out.2]
          rw [e]
          exact bodyPost_ret (res40 _ _ g2 g4 Fr.zero none 0 false 0 0 rfl rfl rfl I5.out.b2 I5.out.b4) rfl ⟨none, 0, rfl, Kd.R_nil _ _ _ _ _, I5.out.fd, I5.out.chg⟩
end Go.Proofs.YtoffhlbdfhhhjaaDoor.Fr
