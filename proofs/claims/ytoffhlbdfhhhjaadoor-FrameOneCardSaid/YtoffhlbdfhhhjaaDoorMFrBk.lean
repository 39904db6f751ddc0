/- Frames out of bytes: FrameBack: the stage's theorem. The frame lies in a block of the call's own. -/
import Derived.Test.YtoffhlbdfhhhjaaDoorMFp7
namespace Go.Proofs.YtoffhlbdfhhhjaaDoor.Fr
open Go Go.RowKit Go.Proofs.YtoffhlbdfhhhjaaDoorW.PrintWords Go.Proofs.YtoffhlbdfhhhjaaDoorW.PrintLast Go.Proofs.YtoffhlbdfhhhjaaDoorW.PrintMore Go.Proofs.YtoffhlbdfhhhjaaDoor.QL
set_option linter.unusedSimpArgs false
set_option linter.unusedVariables false
set_option maxHeartbeats 40000000
set_option maxRecDepth 100000
/-- A whole row is loaded by an operation whose guard says yes. -/
theorem load_rowG {P : Program} {ops : Array Oper} {rest : List Oper} {o : Oper} {a : Act} {w : World} {Q : Exit → Act → World → Prop} (hw : Region.wanted o (yielded ops a.tmps) = true) (ty : TypeId) (x : Operand) (ho : o.op = .load ty x)
    (g : Nat) (hx : a.eval x = .pointer (some ⟨g, 0, none⟩)) (t : TypeId) (cs : Array Value) (fr : Nat × Nat) (d : TypeDesc) (hg : w.heap[g]? = some (.cells cs t fr))
    (hu : P.underlying ty = some d) (hd : (match d with | .struct _ | .array _ _ => true | _ => false) = true) (hi : (P.info? ty).map (·.size) = some cs.size)
    (h : wpList P ops Q rest (a.put o.dst (.agg cs)) w) : wpList P ops Q (o :: rest) a w :=
  BigFrame.wpList_want hw fun _ hK => wp_load_row ty x ho g hx t cs fr d hg hu hd hi (hK _ _ h)
theorem C_zero (w : World) (A : Option Addr) : Kd.C k32 w A 0 [] := ⟨rfl, by omega, fun h => absurd h (by decide)⟩
theorem arr_str (s : ByteArray) : (⟨((0 : Int), s.data.toList).2.toArray⟩ : ByteArray) = s := by cases s; simp
theorem back_calls (f : Fr) (A : Option Addr) (c : Nat) (r : ByteArray) (cut : Int) (w : World) (hG : GL w) (hps : Kd.C k32 w A f.ps.length f.ps) (hc : f.ps.length ≤ c) (hl : f.ps.length ≤ 8796093022208) (hda : f.da.size ≤ 9223372036854775799) (hr : r.size ≤ 140737488351232) :
    Calls Tryd.prog 6 #[.agg #[.int .i64 f.ty, .int .i64 f.fl, .int .i64 f.st, .string f.da, .int .i64 f.pad, .int .i64 f.dep, .bool f.ex, .int .i64 f.wt, .int .i64 f.co, .int .i64 f.la, .slice A f.ps.length c], .string r, .int .i64 cut] w fun e w' => e = .returned (.bool true) ∧ Below w.heap.size w w' := by
  have HG := Aside0.mk hG
  have HPS := Aside0.mk hps
  have HC := Aside0.mk hc
  have HL := Aside0.mk hl
  have HDA := Aside0.mk hda
  have HRS := Aside0.mk hr
  have HB := Aside0.mk (Below.refl w.heap.size w)
  clear hG hps hc hl hda hr
  obtain ⟨n, s, hw⟩ := made_w f
  obtain ⟨m, hm⟩ : ∃ m, madeF f = m := ⟨_, rfl⟩
  rw [hm] at hw
  have HM := Aside0.mk hm
  have MW := Aside0.mk hw
  clear hm hw
  go_enter Tryd.func6, Tryd.ntmps6
  go_upto_if 14 with (go_at_call 19; refine (first_calls _ (HG.out.below (below_alloc HB.out _))).mono ?_; rintro e w1 ⟨rfl, hb⟩; have L1 := Aside0.mk (below_then (below_alloc HB.out (.cells #[.int .i64 f.ty, .int .i64 f.fl, .int .i64 f.st, .string f.da, .int .i64 f.pad, .int .i64 f.dep, .bool f.ex, .int .i64 f.wt, .int .i64 f.co, .int .i64 f.la, .slice A f.ps.length c] 24)) (below_alloc HB.out (.cells #[.int .i64 f.ty, .int .i64 f.fl, .int .i64 f.st, .string f.da, .int .i64 f.pad, .int .i64 f.dep, .bool f.ex, .int .i64 f.wt, .int .i64 f.co, .int .i64 f.la, .slice A f.ps.length c] 24)).size hb); have X1 := Aside0.mk (blk_below (blk_new w (.cells #[.int .i64 f.ty, .int .i64 f.fl, .int .i64 f.st, .string f.da, .int .i64 f.pad, .int .i64 f.dep, .bool f.ex, .int .i64 f.wt, .int .i64 f.co, .int .i64 f.la, .slice A f.ps.length c] 24)) hb); clear hb)
  go_upto_region 3 with fail
  have X0 : Aside0 (At w1 w.heap.size f A c) := ⟨X1.out⟩
  obtain ⟨g0, hg0⟩ : ∃ g, w.heap.size = g := ⟨_, rfl⟩
  rw [hg0]
  rw [hg0] at X0
  clear hg0 X1
  go_upto_region 4 with (first
    | (refine wpList_load_row rfl 24 _ rfl g0 rfl 24 (f.cells A c) (0, 0) _ X0.out Tryd.underlying24 (by rfl) (by kernel_rfl) ?_)
    | (go_at_call 25; refine (made_calls f A c _ (Kd.C_below HPS.out L1.out) HC.out HL.out HDA.out).mono ?_; rintro e w5 ⟨A5, c5, rfl, hr, hb⟩; rw [HM.out] at hr ⊢; have R5 := Aside0.mk hr; have L5 := Aside0.mk (below_then L1.out L1.out.size hb); clear hr hb; unfold Fr.cells))
  obtain ⟨W6, hW6⟩ : ∃ W, w5.alloc (.cells #[.int .i64 m.ty, .int .i64 m.fl, .int .i64 m.st, .string m.da, .int .i64 m.pad, .int .i64 m.dep, .bool m.ex, .int .i64 m.wt, .int .i64 m.co, .int .i64 m.la, .slice A5 m.ps.length c5] 24) = W := ⟨_, rfl⟩
  obtain ⟨g7, hg7⟩ : ∃ g, w5.heap.size = g := ⟨_, rfl⟩
  have X6 : Aside0 (At W6 g7 m A5 c5) := ⟨by rw [← hW6, ← hg7]; exact blk_new w5 _⟩
  have L6 : Aside0 (Below w.heap.size w W6) := ⟨by rw [← hW6]; exact below_alloc L5.out _⟩
  have R6 : Aside0 (Kd.C k32 W6 A5 m.ps.length m.ps ∧ m.ps.length ≤ c5) := ⟨by rw [← hW6]; have h := Kd.R_reads' R5.out; exact ⟨Kd.C_below h.2.2 (below_alloc (Below.refl _ _) _), h.2.1⟩⟩
  rw [hW6, hg7]
  clear hW6 hg7 R5 L5 X0
  have HS0 : Aside0 ((s.size : Int) = 9 + n) := ⟨by have := MW.out.size; omega⟩
  go_upto_region 5 with (first
    | (refine wpList_load_row rfl 24 _ rfl g7 rfl 24 (m.cells A5 c5) (0, 0) _ X6.out Tryd.underlying24 (by rfl) (by kernel_rfl) ?_)
    | (go_at_call 16; refine (write_calls m A5 c5 _ (HG.out.below L6.out) R6.out.1 (by have := MW.out.da; omega) (by have := MW.out.ps; omega)).mono ?_; rintro e w7 ⟨rfl, hb⟩; have L7 := Aside0.mk hb; clear hb; rw [MW.out.wr, arr_str]))
  have X7 := Aside0.mk (X6.out.low L7.out)
  have LL7 := Aside0.mk (below_then L6.out L6.out.size L7.out)
  have R7 := Aside0.mk (Kd.C_below R6.out.1 L7.out)
  have h9 : decide ((s.size : Int) < 9) = false := decide_eq_false (by have := HS0.out; omega)
  have h16 : (s.size : Int) + (r.size : Int) ≤ 9223372036854775807 := by have h1 := HS0.out; have h2 := MW.out.le; have h3 := HRS.out; omega
  have h17 : s.size + r.size ≤ 9223372036854775807 := by omega
  have HBIG : Aside0 ((s ++ r).size ≤ 9223372036854775807) := ⟨by rw [ByteArray.size_append]; omega⟩
  go_upto_region 8 with (go_at_call 20; refine (read_calls (s ++ r) 65536 _ (HG.out.below LL7.out) HBIG.out).mono ?_; rintro e w8 hrd; rw [MW.out.read r] at hrd; obtain ⟨A8, c8, rfl, hr8, hb⟩ := hrd; have R8 := Aside0.mk hr8; have L8 := Aside0.mk hb; clear hb hr8; unfold Fr.cells)
  obtain ⟨W9, hW9⟩ : ∃ W, (w8.alloc (.cells #[.int .i64 m.ty, .int .i64 m.fl, .int .i64 m.st, .string m.da, .int .i64 m.pad, .int .i64 m.dep, .bool m.ex, .int .i64 m.wt, .int .i64 m.co, .int .i64 m.la, .slice A8 m.ps.length c8] 24)).alloc (.cells #[.int .i64 0, .int .i64 0] 35) = W := ⟨_, rfl⟩
  obtain ⟨g10, hg10⟩ : ∃ g, w8.heap.size = g := ⟨_, rfl⟩
  obtain ⟨g12, hg12⟩ : ∃ g, g10 + 1 = g := ⟨_, rfl⟩
  have LA : Aside0 (Below w8.heap.size w8 W9) := ⟨by rw [← hW9]; exact below_alloc (below_alloc (Below.refl _ _) _) _⟩
  have X10 : Aside0 (At W9 g10 m A8 c8) := ⟨by rw [← hW9, ← hg10]; exact heap_alloc2_old _ _ _⟩
  have X12 : Aside0 (W9.heap[g12]? = some (.cells #[.int .i64 0, .int .i64 0] 35 (0, 0))) := ⟨by rw [← hg12, ← hW9, ← hg10]; exact heap_alloc2_new _ _ _⟩
  have X9 := Aside0.mk ((X7.out.low L8.out).low LA.out)
  have R9 := Aside0.mk (Kd.C_below (Kd.C_below R7.out L8.out) LA.out)
  have R10 : Aside0 (Kd.C k32 W9 A8 m.ps.length m.ps ∧ m.ps.length ≤ c8) := ⟨by have h := Kd.R_reads' R8.out; exact ⟨Kd.C_below h.2.2 LA.out, h.2.1⟩⟩
  have L9 : Aside0 (Below w.heap.size w W9) := ⟨below_then (below_then LL7.out LL7.out.size L8.out) (below_then LL7.out LL7.out.size L8.out).size LA.out⟩
  have HG10 : Aside0 (w.heap.size ≤ g10 ∧ g10 + 1 = g12) := ⟨by rw [← hg10]; exact (below_then LL7.out LL7.out.size L8.out).size, hg12⟩
  rw [hW9, hg10, hg12]
  clear hW9 hg10 hg12 R8 LA X7 R7 h16 h17
  have q0 := blk_cell X12.out 0
  have q1 := blk_cell X12.out 1
  go_upto_if 51 with (first
    | (refine load_rowG (by rfl) 24 _ rfl g7 rfl 24 (m.cells A5 c5) (0, 0) _ X9.out Tryd.underlying24 (by rfl) (by kernel_rfl) ?_)
    | (refine load_rowG (by rfl) 24 _ rfl g10 rfl 24 (m.cells A8 c8) (0, 0) _ X10.out Tryd.underlying24 (by rfl) (by kernel_rfl) ?_)
    | (go_at_call 22; refine (same_calls m A5 A8 c5 c8 _ (by have := MW.out.ps; omega) R9.out R6.out.2 R10.out.1 R10.out.2).mono ?_; rintro e w10 ⟨rfl, hb⟩; have L10 := Aside0.mk hb; clear hb))
  clear q0 q1
  have hu0 : ∀ x : Int, IntKind.u64.wrap x = x % 18446744073709551616 := fun x => by simp [IntKind.wrap, IntKind.bits, IntKind.signed]
  have hz : IntKind.u64.wrap (s.size : Int) = (s.size : Int) := by rw [hu0]; have h1 := HS0.out; have h2 := MW.out.le; omega
  obtain ⟨k, hk, hks⟩ : ∃ k : Nat, Int.tmod (IntKind.u64.wrap cut) (s.size : Int) = k ∧ k < s.size := by
    have hp : (0 : Int) < (s.size : Int) := by have := HS0.out; omega
    have h0 : 0 ≤ IntKind.u64.wrap cut := by rw [hu0]; omega
    have e := Int.tmod_eq_emod_of_nonneg (b := (s.size : Int)) h0
    have h1 := Int.emod_nonneg (IntKind.u64.wrap cut) (show (s.size : Int) ≠ 0 by omega)
    have h2 := Int.emod_lt_of_pos (IntKind.u64.wrap cut) hp
    exact ⟨(IntKind.u64.wrap cut % (s.size : Int)).toNat, by rw [e]; omega, by omega⟩
  have HKS := Aside0.mk hks
  have hk64 : wrap64 (k : Int) = (k : Int) := by have h1 := HS0.out; have h2 := MW.out.le; unfold wrap64; omega
  have hnz : ((s.size : Int) == 0) = false := beq_eq_false_iff_ne.mpr (by have := HS0.out; omega)
  have hnz2 : ¬ (s.size : Int) = 0 := by have := HS0.out; omega
  have hkle : (k : Int) ≤ (s.size : Int) := by omega
  clear hu0 hks
  go_upto_region 11 with fail
  rw [hk64]
  have L10a := Aside0.mk (below_then L9.out L9.out.size L10.out)
  have HBIG2 : Aside0 ((s.extract 0 k).size ≤ 9223372036854775807) := ⟨by have h1 := HS0.out; have h2 := MW.out.le; rw [ByteArray.size_extract]; omega⟩
  have X10b := Aside0.mk (X10.out.low L10.out)
  have X12b := Aside0.mk (blk_below X12.out L10.out)
  go_upto_region 12 with (first
    | (go_at_call 20; refine (read_calls (s.extract 0 k) 65536 _ (HG.out.below L10a.out) HBIG2.out).mono ?_; rintro e w11 hrd; rw [MW.out.cut k HKS.out] at hrd; obtain ⟨A11, c11, rfl, hr11, hb⟩ := hrd; have R11 := Aside0.mk hr11; have L11 := Aside0.mk (below_then L10a.out L10a.out.size hb); have X10c := Aside0.mk (X10b.out.low hb); have X12c := Aside0.mk (blk_below X12b.out hb); clear hb hr11)
    | (refine wpList_store_row rfl 24 _ _ rfl g10 (Fr.zero.cells A11 c11) rfl rfl 24 _ X10c.out (by kernel_rfl) (by kernel_rfl) (by kernel_rfl) ?_; obtain ⟨W12, e12, q4, qo, qb⟩ := row_store _ g10 (Fr.zero.cells A11 c11) 24 _ X10c.out; rw [e12]; have Q10 := Aside0.mk q4; have Q12 := Aside0.mk ((qo _ (by have := HG10.out.2; omega)).trans X12c.out); have QO := Aside0.mk qo; have QL := Aside0.mk (qb _ _ L11.out HG10.out.1); clear q4 qo qb e12)
    | (refine wpList_store_row rfl 35 _ _ rfl g12 #[.int .i64 0, .int .i64 0] rfl rfl 35 _ Q12.out (by kernel_rfl) (by kernel_rfl) (by kernel_rfl) ?_; obtain ⟨W13, e13, p6, po, pb⟩ := row_store _ g12 #[.int .i64 0, .int .i64 0] 35 _ Q12.out; rw [e13]; have T12 := Aside0.mk p6; have T10 := Aside0.mk ((po _ (by have := HG10.out.2; omega)).trans Q10.out); have PO := Aside0.mk po; have TL := Aside0.mk (pb _ _ QL.out (by have h1 := HG10.out.1; have h2 := HG10.out.2; omega)); clear p6 po pb e13))
  have HC11 : Aside0 (0 ≤ c11) := ⟨Nat.zero_le _⟩
  have q0 := blk_cell T12.out 0
  have q1 := blk_cell T12.out 1
  go_upto_if 79 with (first
    | (refine load_rowG (by rfl) 24 _ rfl g10 rfl 24 (Fr.zero.cells A11 c11) (0, 0) _ T10.out Tryd.underlying24 (by rfl) (by kernel_rfl) ?_)
    | (go_at_call 22; refine (same_calls Fr.zero A11 none c11 0 _ (by decide) (C_zero _ _) (Nat.zero_le _) (C_zero _ _) (Nat.le_refl _)).mono ?_; rintro e w14 ⟨rfl, hb⟩; have L14 := Aside0.mk hb; clear hb))
  clear q0 q1
  have L14a := Aside0.mk (below_then TL.out TL.out.size L14.out)
  have U10 := Aside0.mk (blk_below T10.out L14.out)
  have U12 := Aside0.mk (blk_below T12.out L14.out)
  have HBIG3 : Aside0 ((s.extract 0 9 ++ r).size ≤ 9223372036854775807) := ⟨by have h3 := HRS.out; rw [ByteArray.size_append, ByteArray.size_extract]; omega⟩
  have j9 : (9 : Int) ≤ (s.size : Int) := by have := HS0.out; omega
  have j16 : ((s.extract 0 9).size : Int) + (r.size : Int) ≤ 9223372036854775807 := by have h3 := HRS.out; rw [ByteArray.size_extract]; omega
  have j17 : (s.extract 0 9).size + r.size ≤ 9223372036854775807 := by omega
  obtain ⟨rd, hrd3⟩ : ∃ d, rdF (s.extract 0 9 ++ r) 16384 = d := ⟨_, rfl⟩
  have HRD := Aside0.mk hrd3
  clear hrd3
  go_upto_region 15 with (first
    | (go_at_call 20; refine (read_calls (s.extract 0 9 ++ r) 16384 _ (HG.out.below L14a.out) HBIG3.out).mono ?_; rintro e w15 hrd; rw [HRD.out] at hrd; obtain ⟨A15, c15, rfl, hr15, hb⟩ := hrd; have L15 := Aside0.mk (below_then L14a.out L14a.out.size hb); have V10 := Aside0.mk (blk_below U10.out hb); have V12 := Aside0.mk (blk_below U12.out hb); clear hb hr15)
    | (refine wpList_store_row rfl 24 _ _ rfl g10 (rd.fr.cells A15 c15) rfl rfl 24 _ V10.out (by kernel_rfl) (by kernel_rfl) (by kernel_rfl) ?_; obtain ⟨W16, e16, q4, qo, qb⟩ := row_store _ g10 (rd.fr.cells A15 c15) 24 _ V10.out; rw [e16]; have Y10 := Aside0.mk q4; have Y12 := Aside0.mk ((qo _ (by have := HG10.out.2; omega)).trans V12.out); have YL := Aside0.mk (qb _ _ L15.out HG10.out.1); clear q4 qo qb e16)
    | (refine wpList_store_row rfl 35 _ _ rfl g12 #[.int .i64 rd.code, .int .i64 rd.st] rfl rfl 35 _ Y12.out (by kernel_rfl) (by kernel_rfl) (by kernel_rfl) ?_; obtain ⟨W17, e17, p6, po, pb⟩ := row_store _ g12 #[.int .i64 rd.code, .int .i64 rd.st] 35 _ Y12.out; rw [e17]; have Z12 := Aside0.mk p6; have Z10 := Aside0.mk ((po _ (by have := HG10.out.2; omega)).trans Y10.out); have ZL := Aside0.mk (pb _ _ YL.out (by have h1 := HG10.out.1; have h2 := HG10.out.2; omega)); clear p6 po pb e17))
  have q0 := blk_cell Z12.out 0
  have q1 := blk_cell Z12.out 1
  by_cases hbig : 16384 < n
  · have e := (MW.out.third r).1 hbig
    rw [HRD.out] at e
    subst e
    have hgt : decide ((16393 : Int) < (s.size : Int)) = true := decide_eq_true (by have := HS0.out; omega)
    go_wp2_with (first
      | (refine load_rowG (by rfl) 24 _ rfl g10 rfl 24 (Fr.zero.cells A15 c15) (0, 0) _ Z10.out Tryd.underlying24 (by rfl) (by kernel_rfl) ?_)
      | (go_at_call 22; refine (same_calls Fr.zero A15 none c15 0 _ (by decide) (C_zero _ _) (Nat.zero_le _) (C_zero _ _) (Nat.le_refl _)).mono ?_; rintro e w18 ⟨rfl, hb⟩; have L18 := Aside0.mk hb; clear hb))
    go_ret
    exact ⟨rfl, below_then ZL.out ZL.out.size L18.out⟩
  · have hgt : decide ((16393 : Int) < (s.size : Int)) = false := decide_eq_false (by have := HS0.out; omega)
    by_cases hless : r.size < n
    · have e := (MW.out.third r).2 (by omega) hless
      rw [HRD.out] at e
      have e0 : rd = ⟨Fr.zero, 0, 0, 0⟩ := e
      clear e
      subst e0
      have hge : decide (wrap64 ((s.size : Int) - 9) ≤ (r.size : Int)) = false := decide_eq_false (by have h1 := HS0.out; have h2 := MW.out.le; unfold wrap64; omega)
      go_wp2_with fail
      go_ret
      exact ⟨rfl, ZL.out⟩
    · have hge : decide (wrap64 ((s.size : Int) - 9) ≤ (r.size : Int)) = true := decide_eq_true (by have h1 := HS0.out; have h2 := MW.out.le; unfold wrap64; omega)
      go_wp2_with fail
      go_ret
      exact ⟨rfl, ZL.out⟩
end Go.Proofs.YtoffhlbdfhhhjaaDoor.Fr
