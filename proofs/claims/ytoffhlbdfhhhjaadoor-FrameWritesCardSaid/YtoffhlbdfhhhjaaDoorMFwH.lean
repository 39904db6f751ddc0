/- FrameWrites: always true. The package's variable holds what the program lays; the frame fits in memory. -/
import Derived.Test.YtoffhlbdfhhhjaaDoorMFwF
import Derived.Test.YtoffhlbdfhhhjaaDoorMFwG
import Derived.Test.YtoffhlbdfhhhjaaDoorMFrK
namespace Go.Proofs.YtoffhlbdfhhhjaaDoor.Fr
open Go Go.RowKit Go.Proofs.YtoffhlbdfhhhjaaDoorW.PrintWords Go.Proofs.YtoffhlbdfhhhjaaDoorW.PrintLast Go.Proofs.YtoffhlbdfhhhjaaDoorW.PrintMore Go.Proofs.YtoffhlbdfhhhjaaDoor.QL
set_option linter.unusedSimpArgs false
set_option linter.unusedVariables false
set_option maxHeartbeats 8000000
set_option maxRecDepth 100000
theorem lend_n (l : List S32) (n : Nat) (hn : l.length = n) (A : Option Addr) (c : Nat) (w : World) (h1 : Kd.C k32 w A n l) (hl : n * 16 ≤ 140737488351232) : Calls Tryd.prog 15 #[.slice A n c] w fun e w' => ∃ g c1, e = .returned (.slice (some ⟨g, 0, none⟩) n c1) ∧ Kd.R k32 32 w' w.heap.size (fun _ => True) (.slice (some ⟨g, 0, none⟩) (n + 1) c1) (l ++ [mk7]) ∧ Below w.heap.size w w' := by
  subst hn
  refine (lend_mark A c l w h1 hl).mono ?_
  rintro e w' ⟨A1, c1, rfl, hr, hb⟩
  obtain ⟨g, cg, eg, _⟩ := Kd.R_form hr (by simp)
  injection eg with e1 _ e2
  subst e1
  rw [List.length_append] at hr
  exact ⟨g, c1, rfl, hr, hb⟩
theorem kept_n (l : List S32) (n : Nat) (hn : l.length = n) (A B : Option Addr) (c d : Nat) {b : Nat} (w : World) (h1 : Kd.R k32 32 w b (fun _ => True) (.slice A (n + 1) c) (l ++ [mk7])) (h3 : Kd.C k32 w B n l) (h4 : n ≤ d) (hl : n * 16 ≤ 140737488351232) : Calls Tryd.prog 18 #[.slice A n c, .slice B n d] w fun e w' => e = .returned (.bool true) ∧ Below w.heap.size w w' := by
  subst hn
  have h := Kd.R_reads' h1
  exact kept_mark A B c d l w h.2.2 (by rw [← h.1]; exact h.2.1) h3 h4 hl
theorem row_put1 (w : World) (gb : Nat) {W : World} {g n cap : Nat} {cs : Array Value} {Q : List S32} (h : Kd.R k32 32 W w.heap.size (fun _ => True) (.slice (some ⟨g, 0, none⟩) n cap) Q) (j : Nat) (hj : j < n) (hB : Below w.heap.size w W) (hX : W.heap[gb]? = some (.cells cs 24 (0, 0))) (v : Int) (W1 : World) (e : W.setCell ⟨g, j * 2 + 1, none⟩ (.int .i64 v) = W1) :
    ∃ Q', Kd.R k32 32 W1 w.heap.size (fun _ => True) (.slice (some ⟨g, 0, none⟩) n cap) Q' ∧ W1.heap[gb]? = some (.cells cs 24 (0, 0)) ∧ Below w.heap.size w W1 := by
  subst e
  obtain ⟨cc, hcl, hcM, hcc, hcf⟩ := Kd.R_elem h z32 (j : Int) (by omega) (by omega)
  have ec := k32_openM hcM
  have hh := Kd.R_seg (seg := [.int .i64 v]) (j := 1) (okp := fun _ => False) (x' := (⟨(Q.getD (j : Int).toNat z32).f0, v⟩ : S32)) h (j : Int) (by omega) (by omega) hcl hcc (Nat.le_refl 2) (by rw [ec]; exact k32_mkM _ _ _ (⟨(Q.getD (j : Int).toNat z32).f0, v⟩ : S32)) (fun _ h => h.elim)
  exact ⟨_, hh.1, blk_grown hX hh.2 (Kd.R_ne h hX (by decide)), hB.setCell (p := ⟨g, j * 2 + 1, none⟩) (Kd.R_base h g (by simp [Value.ownBlock])) _⟩
theorem row_at1 {W : World} {g n cap b : Nat} {Q : List S32} (h : Kd.R k32 32 W b (fun _ => True) (.slice (some ⟨g, 0, none⟩) n cap) Q) (j : Nat) (hj : j < n) :
    ∃ v, W.cell? ⟨g, j * 2 + 1, none⟩ = some (.int .i64 v) ∧ W.frozen? ⟨g, j * 2 + 1, none⟩ = false := by
  obtain ⟨cc, hcl, hcM, hcc, hcf⟩ := Kd.R_elem h z32 (j : Int) (by omega) (by omega)
  have ec := k32_openM hcM
  exact ⟨_, hcc 1 _ (by rw [ec]; rfl), hcf 1⟩
theorem write_n (f : Fr) (n : Nat) (hn : f.ps.length = n) (A : Option Addr) (c : Nat) (w : World) (hG : GL w) (hps : Kd.C k32 w A n f.ps) (hda : f.da.size ≤ 140737488351232) (hpl : n * 16 ≤ 140737488351232) :
    Calls Tryd.prog 16 #[.agg #[.int .i64 f.ty, .int .i64 f.fl, .int .i64 f.st, .string f.da, .int .i64 f.pad, .int .i64 f.dep, .bool f.ex, .int .i64 f.wt, .int .i64 f.co, .int .i64 f.la, .slice A n c]] w fun e w' => e = .returned (.tuple #[.string ⟨(wr f).2.toArray⟩, .int .i64 (wr f).1]) ∧ Below w.heap.size w w' := by
  subst hn
  exact write_calls f A c w hG hps hda hpl
theorem writeR_n (f : Fr) (n : Nat) (hn : f.ps.length = n) (A : Option Addr) (c : Nat) (w : World) (h0 : -9223372036854775808 ≤ f.fl) (h1 : f.fl ≤ 9223372036854775807) (hps : Kd.C k32 w A n f.ps) (hpl : n * 16 ≤ 140737488351232) :
    Calls Tryd.prog 17 #[.agg #[.int .i64 f.ty, .int .i64 f.fl, .int .i64 f.st, .string f.da, .int .i64 f.pad, .int .i64 f.dep, .bool f.ex, .int .i64 f.wt, .int .i64 f.co, .int .i64 f.la, .slice A n c]] w fun e w' => e = .returned (.tuple #[.string ⟨(wr f).2.toArray⟩, .int .i64 (wr f).1]) ∧ Below w.heap.size w w' := by
  subst hn
  exact writeR_calls f A c w h0 h1 hps hpl
theorem writes_calls (f : Fr) (n : Nat) (hn : f.ps.length = n) (A : Option Addr) (c : Nat) (w : World) (hG : GL w) (hps : Kd.C k32 w A n f.ps) (hc : n ≤ c) (hpl : n * 16 ≤ 140737488351232) (hda : f.da.size ≤ 140737488351232) (h0 : -9223372036854775808 ≤ f.fl) (h1 : f.fl ≤ 9223372036854775807) :
    Calls Tryd.prog 3 #[.agg #[.int .i64 f.ty, .int .i64 f.fl, .int .i64 f.st, .string f.da, .int .i64 f.pad, .int .i64 f.dep, .bool f.ex, .int .i64 f.wt, .int .i64 f.co, .int .i64 f.la, .slice A n c]] w fun e w' => e = .returned (.bool true) ∧ Below w.heap.size w w' := by
  have HG := Aside0.mk hG
  have HN := Aside0.mk hn
  have HPS := Aside0.mk hps
  have HC := Aside0.mk hc
  have HPL := Aside0.mk hpl
  have HDA := Aside0.mk hda
  have HFR := Aside0.mk (And.intro h0 h1)
  clear hG hps hc hpl hda h0 h1 hn
  obtain ⟨s, e, hw⟩ : ∃ s e, s = (⟨(wr f).2.toArray⟩ : ByteArray) ∧ e = (wr f).1 := ⟨_, _, rfl, rfl⟩
  have HW := Aside0.mk hw
  clear hw
  go_enter Tryd.func3, Tryd.ntmps3
  go_upto_region 2 with fail
  obtain ⟨W0, hW0⟩ : ∃ W, (w.alloc (.cells #[.int .i64 f.ty, .int .i64 f.fl, .int .i64 f.st, .string f.da, .int .i64 f.pad, .int .i64 f.dep, .bool f.ex, .int .i64 f.wt, .int .i64 f.co, .int .i64 f.la, .slice A n c] 24)).alloc (.cells #[.int .i64 f.ty, .int .i64 f.fl, .int .i64 f.st, .string f.da, .int .i64 f.pad, .int .i64 f.dep, .bool f.ex, .int .i64 f.wt, .int .i64 f.co, .int .i64 f.la, .slice A n c] 24) = W := ⟨_, rfl⟩
  obtain ⟨ga, hga⟩ : ∃ g, w.heap.size = g := ⟨_, rfl⟩
  obtain ⟨gb, hgb⟩ : ∃ g, ga + 1 = g := ⟨_, rfl⟩
  have XA : Aside0 (W0.heap[ga]? = some (.cells #[.int .i64 f.ty, .int .i64 f.fl, .int .i64 f.st, .string f.da, .int .i64 f.pad, .int .i64 f.dep, .bool f.ex, .int .i64 f.wt, .int .i64 f.co, .int .i64 f.la, .slice A n c] 24 (0, 0))) := ⟨by rw [← hW0, ← hga]; exact heap_alloc2_old _ _ _⟩
  have XB : Aside0 (W0.heap[gb]? = some (.cells #[.int .i64 f.ty, .int .i64 f.fl, .int .i64 f.st, .string f.da, .int .i64 f.pad, .int .i64 f.dep, .bool f.ex, .int .i64 f.wt, .int .i64 f.co, .int .i64 f.la, .slice A n c] 24 (0, 0))) := ⟨by rw [← hgb, ← hW0, ← hga]; exact heap_alloc2_new _ _ _⟩
  have L0 : Aside0 (Below w.heap.size w W0) := ⟨by rw [← hW0]; exact below_alloc (below_alloc (Below.refl _ _) _) _⟩
  have HGE : Aside0 (w.heap.size = ga ∧ ga + 1 = gb) := ⟨hga, hgb⟩
  rw [hW0, hga, hgb]
  clear hW0 hga hgb
  have z1 := blk_cell XA.out 10
  go_upto_region 3 with (go_at_call 15; refine (lend_n f.ps n HN.out A c _ (Kd.C_below HPS.out L0.out) HPL.out).mono ?_; rintro e w2 ⟨g, c1, rfl, hr, hb⟩; have R2 := Aside0.mk (Kd.R_lower hr L0.out.size); have XA2 := Aside0.mk (blk_below XA.out hb); have XB2 := Aside0.mk (blk_below XB.out hb); have zb : w2.cell? ⟨gb, 10, none⟩ = some (.slice A n c) := blk_cell XB2.out 10; have yb : w2.frozen? ⟨gb, 10, none⟩ = false := blk_frozen XB2.out 10; have L2 := Aside0.mk (below_then L0.out L0.out.size hb); clear hr hb)
  obtain ⟨W3, hW3⟩ : ∃ W, w2.setCell ⟨gb, 10, none⟩ (.slice (some ⟨g, 0, none⟩) n c1) = W := ⟨_, rfl⟩
  have XA3 : Aside0 (W3.heap[ga]? = some (.cells #[.int .i64 f.ty, .int .i64 f.fl, .int .i64 f.st, .string f.da, .int .i64 f.pad, .int .i64 f.dep, .bool f.ex, .int .i64 f.wt, .int .i64 f.co, .int .i64 f.la, .slice A n c] 24 (0, 0))) := ⟨by rw [← hW3]; exact blk_far XA2.out (show ga ≠ gb by have := HGE.out; omega) _⟩
  have XB3 : Aside0 (W3.heap[gb]? = some (.cells #[.int .i64 f.ty, .int .i64 f.fl, .int .i64 f.st, .string f.da, .int .i64 f.pad, .int .i64 f.dep, .bool f.ex, .int .i64 f.wt, .int .i64 f.co, .int .i64 f.la, .slice (some ⟨g, 0, none⟩) n c1] 24 (0, 0))) := ⟨by rw [← hW3]; exact blk_put XB2.out 10 _ rfl⟩
  have R3 : Aside0 (Kd.R k32 32 W3 w.heap.size (fun _ => True) (.slice (some ⟨g, 0, none⟩) (n + 1) c1) (f.ps ++ [mk7])) := ⟨by rw [← hW3]; exact Kd.R_set R2.out XB2.out (by decide) _ _⟩
  have L3 : Aside0 (Below w.heap.size w W3) := ⟨by rw [← hW3]; exact below_set L2.out (by have := HGE.out; omega)⟩
  rw [hW3]
  clear hW3 XA XB L0 z1 zb yb XA2 XB2 R2 L2
  have HT : Aside0 (Kd.C k32 W3 (some ⟨g, 0, none⟩) n f.ps) := ⟨by have h := Kd.C_take (m := n) (Kd.R_reads' R3.out).2.2 (by rw [List.length_append, HN.out]; simp); rw [← HN.out, List.take_left] at h; rw [← HN.out]; exact h⟩
  have HPS3 := Aside0.mk (Kd.C_below HPS.out L3.out)
  go_upto_region 4 with (first
    | (refine wpList_load_row rfl 24 _ rfl gb rfl 24 #[.int .i64 f.ty, .int .i64 f.fl, .int .i64 f.st, .string f.da, .int .i64 f.pad, .int .i64 f.dep, .bool f.ex, .int .i64 f.wt, .int .i64 f.co, .int .i64 f.la, .slice (some ⟨g, 0, none⟩) n c1] (0, 0) _ XB3.out Tryd.underlying24 (by rfl) (by kernel_rfl) ?_)
    | (go_at_call 16; refine (write_n f n HN.out (some ⟨g, 0, none⟩) c1 _ (HG.out.below L3.out) HT.out HDA.out HPL.out).mono ?_; rintro e w4 ⟨rfl, hb⟩; rw [← HW.out.1, ← HW.out.2]; have L4 := Aside0.mk hb; clear hb))
  have XB4 := Aside0.mk (blk_below XB3.out L4.out)
  have LL4 := Aside0.mk (below_then L3.out L3.out.size L4.out)
  have HT4 := Aside0.mk (Kd.C_below HT.out L4.out)
  go_upto_region 5 with (first
    | (refine wpList_load_row rfl 24 _ rfl gb rfl 24 #[.int .i64 f.ty, .int .i64 f.fl, .int .i64 f.st, .string f.da, .int .i64 f.pad, .int .i64 f.dep, .bool f.ex, .int .i64 f.wt, .int .i64 f.co, .int .i64 f.la, .slice (some ⟨g, 0, none⟩) n c1] (0, 0) _ XB4.out Tryd.underlying24 (by rfl) (by kernel_rfl) ?_)
    | (go_at_call 16; refine (write_n f n HN.out (some ⟨g, 0, none⟩) c1 _ (HG.out.below LL4.out) HT4.out HDA.out HPL.out).mono ?_; rintro e w5 ⟨rfl, hb⟩; rw [← HW.out.1, ← HW.out.2]; have L5 := Aside0.mk (below_then L4.out L4.out.size hb); clear hb))
  have XA5 := Aside0.mk (blk_below XA3.out L5.out)
  have LL5 := Aside0.mk (below_then L3.out L3.out.size L5.out)
  clear XB4 LL4 HT4 L4
  go_upto_region 6 with (first
    | (refine wpList_load_row rfl 24 _ rfl ga rfl 24 #[.int .i64 f.ty, .int .i64 f.fl, .int .i64 f.st, .string f.da, .int .i64 f.pad, .int .i64 f.dep, .bool f.ex, .int .i64 f.wt, .int .i64 f.co, .int .i64 f.la, .slice A n c] (0, 0) _ XA5.out Tryd.underlying24 (by rfl) (by kernel_rfl) ?_)
    | (go_at_call 17; refine (writeR_n f n HN.out A c _ HFR.out.1 HFR.out.2 (Kd.C_below HPS.out LL5.out) HPL.out).mono ?_; rintro e w6 ⟨rfl, hb⟩; rw [← HW.out.1, ← HW.out.2]; have L6 := Aside0.mk (below_then L5.out L5.out.size hb); clear hb))
  have XA6 := Aside0.mk (blk_below XA3.out L6.out)
  have XB6 := Aside0.mk (blk_below XB3.out L6.out)
  have LL6 := Aside0.mk (below_then L3.out L3.out.size L6.out)
  have R6 := Aside0.mk (Kd.R_below R3.out L6.out)
  clear XA5 LL5 L5 HT HPS3 XA3 XB3 R3 L6
  have z1 := blk_cell XA6.out 10
  have z2 := blk_cell XB6.out 10
  go_upto_region 8 with (first
    | (go_at_call 18; refine (kept_n f.ps n HN.out (some ⟨g, 0, none⟩) A c1 c _ R6.out (Kd.C_below HPS.out LL6.out) HC.out HPL.out).mono ?_; rintro e w7 ⟨rfl, hb⟩; have L7 := Aside0.mk (below_then LL6.out LL6.out.size hb); have R7 := Aside0.mk (Kd.R_below R6.out hb); have XB7 := Aside0.mk (blk_below XB6.out hb); clear hb)
    | (go_at_call 19; refine (first_calls _ (HG.out.below L7.out)).mono ?_; rintro e w8 ⟨rfl, hb⟩; have L8 := Aside0.mk (below_then L7.out L7.out.size hb); have R8 := Aside0.mk (Kd.R_below R7.out hb); have XB8 := Aside0.mk (blk_below XB7.out hb); clear hb))
  clear z1 z2 XA6 XB6 R6 LL6 L7 R7 XB7 L3
  obtain ⟨m, hm⟩ : ∃ m, n + 1 = m := ⟨_, rfl⟩
  have HM := Aside0.mk hm
  rw [hm] at R8
  clear hm
  go_wp2_with fail
  go_loopw [10] (fun v w' => ∃ (j : Nat) (Q : List S32), v = .int .i64 (j : Int) ∧ Aside0 (j ≤ n) ∧ Aside0 (Kd.R k32 32 w' w.heap.size (fun _ => True) (.slice (some ⟨g, 0, none⟩) m c1) Q) ∧ Aside0 (w'.heap[gb]? = some (.cells #[.int .i64 f.ty, .int .i64 f.fl, .int .i64 f.st, .string f.da, .int .i64 f.pad, .int .i64 f.dep, .bool f.ex, .int .i64 f.wt, .int .i64 f.co, .int .i64 f.la, .slice (some ⟨g, 0, none⟩) n c1] 24 (0, 0))) ∧ Aside0 (Below w.heap.size w w')) (fun v _ => ((n : Int) - intOf v).toNat)
  case atStart => exact ⟨0, _, rfl, ⟨Nat.zero_le _⟩, R8, XB8, L8⟩
  case round =>
    clear R8 XB8 L8
    obtain ⟨j, Q, rfl, HJ, RQ, XBr, LR⟩ := hrel
    have z1 := blk_cell XBr.out 10
    by_cases hjl : j < n
    · have d1 : decide ((j : Int) < (n : Int)) = true := decide_eq_true (by omega)
      have d2 : decide (j < n) = true := decide_eq_true (by omega)
      obtain ⟨k, hk⟩ : ∃ k, j + 1 = k := ⟨_, rfl⟩
      have hw1 : wrap64 ((j : Int) + 1) = (k : Int) := by have := HPL.out; unfold wrap64; omega
      have HJM : Aside0 (j < n ∧ j + 1 = k) := ⟨hjl, hk⟩
      have p0 : (0 : Int) ≤ (j : Int) := by omega
      have p1 : (j : Int) < (n : Int) := by omega
      obtain ⟨v, z2, z3⟩ := row_at1 RQ.out j (by have := HM.out; omega)
      clear hk hjl
      go_upto_region 11 with fail
      refine start_ (n := 13) (S := fun w' => w'.cell? ⟨gb, 10, none⟩ = some (.slice (some ⟨g, 0, none⟩) n c1) ∧ w'.cell? ⟨g, j * 2 + 1, none⟩ = some (.int .i64 v) ∧ w'.frozen? ⟨g, j * 2 + 1, none⟩ = false ∧ Kd.R k32 32 w' w.heap.size (fun _ => True) (.slice (some ⟨g, 0, none⟩) m c1) Q ∧ w'.heap[gb]? = some (.cells #[.int .i64 f.ty, .int .i64 f.fl, .int .i64 f.st, .string f.da, .int .i64 f.pad, .int .i64 f.dep, .bool f.ex, .int .i64 f.wt, .int .i64 f.co, .int .i64 f.la, .slice (some ⟨g, 0, none⟩) n c1] 24 (0, 0)) ∧ Below w.heap.size w w') (ds := [12]) #[false, false, false, false, false, false, false, false, false, false, false, false, false] (by kernel_rfl) rfl rfl ⟨z1, z2, z3, (Kd.R_below RQ.out (below_drew (Below.refl _ _))), (blk_below XBr.out (below_drew (Below.refl _ _))), (below_then LR.out LR.out.size (below_drew (Below.refl _ _)))⟩ (fun hHeld => ?_)
      refine pure_ (i := 0) (N := some 68) (v := ?_) (a' := ?_) #[true, false, false, false, false, false, false, false, false, false, false, false, false] rfl rfl (by kernel_rfl) (fun _ _ _ h => h) (Or.inl ⟨by rfl, ?_⟩) ?_ ?_
      rotate_left
      · intro w'
        go_simp
        with_reducible rfl
      rotate_left
      · simp only [Act.put, List.setIfInBounds_toArray, List.set_cons_zero, List.set_cons_succ, i64_w, i32_w]
        rfl
      refine pure_ (i := 2) (N := some 70) (v := ?_) (a' := ?_) #[true, false, true, false, false, false, false, false, false, false, false, false, false] rfl rfl (by kernel_rfl) (fun _ _ _ h => h) (Or.inl ⟨by rfl, ?_⟩) ?_ ?_
      rotate_left
      · intro w'
        go_simp
        with_reducible rfl
      rotate_left
      · simp only [Act.put, List.setIfInBounds_toArray, List.set_cons_zero, List.set_cons_succ, i64_w, i32_w]
        rfl
      refine pure_ (i := 3) (N := some 71) (v := ?_) (a' := ?_) #[true, false, true, true, false, false, false, false, false, false, false, false, false] rfl rfl (by kernel_rfl) (fun _ _ _ h => h) (Or.inl ⟨by rfl, ?_⟩) ?_ ?_
      rotate_left
      · intro w'
        go_simp
        with_reducible rfl
      rotate_left
      · simp only [Act.put, List.setIfInBounds_toArray, List.set_cons_zero, List.set_cons_succ, i64_w, i32_w]
        rfl
      refine pure_ (i := 5) (N := some 73) (v := ?_) (a' := ?_) #[true, false, true, true, false, true, false, false, false, false, false, false, false] rfl rfl (by kernel_rfl) (fun _ _ _ h => h) (Or.inl ⟨by rfl, ?_⟩) ?_ ?_
      rotate_left
      · intro w'
        go_simp
        with_reducible rfl
      rotate_left
      · simp only [Act.put, List.setIfInBounds_toArray, List.set_cons_zero, List.set_cons_succ, i64_w, i32_w]
        rfl
      refine take_ (i := 1) (N := some 69) (v := ?_) (a' := ?_) #[true, true, true, true, false, true, false, false, false, false, false, false, false] rfl rfl (by kernel_rfl) (fun _ _ _ h => h) (Or.inl ⟨by rfl, ?_⟩) hHeld ?_ ?_
      rotate_left
      · rintro w' ⟨s0, s1, s2, s3, s4, s5⟩
        go_simp
        with_reducible rfl
      rotate_left
      · simp only [Act.put, List.setIfInBounds_toArray, List.set_cons_zero, List.set_cons_succ, i64_w, i32_w]
        rfl
      refine take_ (i := 4) (N := some 72) (v := ?_) (a' := ?_) #[true, true, true, true, true, true, false, false, false, false, false, false, false] rfl rfl (by kernel_rfl) (fun _ _ _ h => h) (Or.inl ⟨by rfl, ?_⟩) hHeld ?_ ?_
      rotate_left
      · rintro w' ⟨s0, s1, s2, s3, s4, s5⟩
        go_simp
        with_reducible rfl
      rotate_left
      · simp only [Act.put, List.setIfInBounds_toArray, List.set_cons_zero, List.set_cons_succ, i64_w, i32_w]
        rfl
      refine pure_ (i := 6) (N := some 74) (v := ?_) (a' := ?_) #[true, true, true, true, true, true, true, false, false, false, false, false, false] rfl rfl (by kernel_rfl) (fun _ _ _ h => h) (Or.inl ⟨by rfl, ?_⟩) ?_ ?_
      rotate_left
      · intro w'
        go_simp
        with_reducible rfl
      rotate_left
      · simp only [Act.put, List.setIfInBounds_toArray, List.set_cons_zero, List.set_cons_succ, i64_w, i32_w]
        rfl
      refine pure_ (i := 7) (N := some 75) (v := ?_) (a' := ?_) #[true, true, true, true, true, true, true, true, false, false, false, false, false] rfl rfl (by kernel_rfl) (fun _ _ _ h => h) (Or.inl ⟨by rfl, ?_⟩) ?_ ?_
      rotate_left
      · intro w'
        go_simp
        with_reducible rfl
      rotate_left
      · simp only [Act.put, List.setIfInBounds_toArray, List.set_cons_zero, List.set_cons_succ, i64_w, i32_w]
        rfl
      refine take_ (i := 8) (N := some 76) (v := ?_) (a' := ?_) #[true, true, true, true, true, true, true, true, true, false, false, false, false] rfl rfl (by kernel_rfl) (fun _ _ _ h => h) (Or.inl ⟨by rfl, ?_⟩) hHeld ?_ ?_
      rotate_left
      · rintro w' ⟨s0, s1, s2, s3, s4, s5⟩
        go_simp
        with_reducible rfl
      rotate_left
      · simp only [Act.put, List.setIfInBounds_toArray, List.set_cons_zero, List.set_cons_succ, i64_w, i32_w]
        rfl
      refine pure_ (i := 9) (N := some 77) (v := ?_) (a' := ?_) #[true, true, true, true, true, true, true, true, true, true, false, false, false] rfl rfl (by kernel_rfl) (fun _ _ _ h => h) (Or.inl ⟨by rfl, ?_⟩) ?_ ?_
      rotate_left
      · intro w'
        go_simp
        with_reducible rfl
      rotate_left
      · simp only [Act.put, List.setIfInBounds_toArray, List.set_cons_zero, List.set_cons_succ, i64_w, i32_w]
        rfl
      refine pure_ (i := 10) (N := some 78) (v := ?_) (a' := ?_) #[true, true, true, true, true, true, true, true, true, true, true, false, false] rfl rfl (by kernel_rfl) (fun _ _ _ h => h) (Or.inl ⟨by rfl, ?_⟩) ?_ ?_
      rotate_left
      · intro w'
        go_simp
        with_reducible rfl
      rotate_left
      · simp only [Act.put, List.setIfInBounds_toArray, List.set_cons_zero, List.set_cons_succ, i64_w, i32_w]
        rfl
      refine pure_ (i := 11) (N := some 79) (v := ?_) (a' := ?_) #[true, true, true, true, true, true, true, true, true, true, true, true, false] rfl rfl (by kernel_rfl) (fun _ _ _ h => h) (Or.inl ⟨by rfl, ?_⟩) ?_ ?_
      rotate_left
      · intro w'
        go_simp
        with_reducible rfl
      rotate_left
      · simp only [Act.put, List.setIfInBounds_toArray, List.set_cons_zero, List.set_cons_succ, i64_w, i32_w]
        rfl
      refine last_ (i := 12) (N := none) #[true, true, true, true, true, true, true, true, true, true, true, true, true] rfl rfl (by kernel_rfl) (by decide) (fun K hK => ?_)
      refine skip_ (w1 := ?_) (by rfl) rfl ?_ ?_
      rotate_left
      · go_simp
        rfl
      refine hK.out _ _ ?_
      clear hK K
      refine done_ (by kernel_rfl) ?_
      generalize hWn : World.setCell _ _ _ = Wn
      obtain ⟨Q1, q1, q2, q3⟩ := row_put1 w gb RQ.out j (by have := HJM.out; have := HM.out; omega) LR.out XBr.out _ _ hWn
      have RQ1 := Aside0.mk (Kd.R_below q1 (below_drew (Below.refl _ _)))
      have XB1 := Aside0.mk (blk_below q2 (below_drew (Below.refl _ _)))
      have LR1 := Aside0.mk (below_then q3 q3.size (below_drew (Below.refl _ _)))
      clear q1 q2 q3 hWn
      go_wp2_with fail
      go_roundw
      case rel => exact ⟨k, Q1, congrArg (Value.int .i64) hw1, ⟨by have := HJM.out; omega⟩, RQ1, XB1, LR1⟩
      case measure =>
        rw [hw1]
        show ((n : Int) - (k : Int)).toNat < ((n : Int) - (j : Int)).toNat
        have := HJM.out
        omega
    · have d1 : decide ((j : Int) < (n : Int)) = false := decide_eq_false (by omega)
      have d2 : decide (j < n) = false := decide_eq_false (by omega)
      clear hjl HJ HW
      have hQL : m = Q.length := (Kd.R_reads' RQ.out).1
      have hQ2 : (Q.take n).length = n := by rw [List.length_take]; have := HM.out; omega
      have HQ2 := Aside0.mk hQ2
      have CQ : Aside0 (Kd.C k32 wr (some ⟨g, 0, none⟩) n (Q.take n)) := ⟨by have h := Kd.C_take (m := n) (Kd.R_reads' RQ.out).2.2 (by have := HM.out; omega); rw [hQ2] at h; exact h⟩
      clear hQL hQ2 RQ
      obtain ⟨s2, e2, hw2⟩ : ∃ s e, s = (⟨(_root_.Go.Proofs.YtoffhlbdfhhhjaaDoor.Fr.wr ⟨f.ty, f.fl, f.st, f.da, f.pad, f.dep, f.ex, f.wt, f.co, f.la, Q.take n⟩).2.toArray⟩ : ByteArray) ∧ e = (_root_.Go.Proofs.YtoffhlbdfhhhjaaDoor.Fr.wr ⟨f.ty, f.fl, f.st, f.da, f.pad, f.dep, f.ex, f.wt, f.co, f.la, Q.take n⟩).1 := ⟨_, _, rfl, rfl⟩
      have HW := Aside0.mk hw2
      clear hw2
      go_upto_region 13 with (first
        | (refine wpList_load_row rfl 24 _ rfl gb rfl 24 #[.int .i64 f.ty, .int .i64 f.fl, .int .i64 f.st, .string f.da, .int .i64 f.pad, .int .i64 f.dep, .bool f.ex, .int .i64 f.wt, .int .i64 f.co, .int .i64 f.la, .slice (some ⟨g, 0, none⟩) n c1] (0, 0) _ XBr.out Tryd.underlying24 (by rfl) (by kernel_rfl) ?_)
        | (go_at_call 16; refine (write_n ⟨f.ty, f.fl, f.st, f.da, f.pad, f.dep, f.ex, f.wt, f.co, f.la, Q.take n⟩ n HQ2.out (some ⟨g, 0, none⟩) c1 _ (HG.out.below LR.out) CQ.out HDA.out HPL.out).mono ?_; rintro e w4 ⟨rfl, hb⟩; rw [← HW.out.1, ← HW.out.2]; have L4 := Aside0.mk hb; clear hb))
      have XB4 := Aside0.mk (blk_below XBr.out L4.out)
      have LL4 := Aside0.mk (below_then LR.out LR.out.size L4.out)
      have HT4 := Aside0.mk (Kd.C_below CQ.out L4.out)
      clear z1
      go_wp2_with (first
        | (refine wpList_load_row rfl 24 _ rfl gb rfl 24 #[.int .i64 f.ty, .int .i64 f.fl, .int .i64 f.st, .string f.da, .int .i64 f.pad, .int .i64 f.dep, .bool f.ex, .int .i64 f.wt, .int .i64 f.co, .int .i64 f.la, .slice (some ⟨g, 0, none⟩) n c1] (0, 0) _ XB4.out Tryd.underlying24 (by rfl) (by kernel_rfl) ?_)
        | (go_at_call 17; refine (writeR_n ⟨f.ty, f.fl, f.st, f.da, f.pad, f.dep, f.ex, f.wt, f.co, f.la, Q.take n⟩ n HQ2.out (some ⟨g, 0, none⟩) c1 _ HFR.out.1 HFR.out.2 HT4.out HPL.out).mono ?_; rintro e w6 ⟨rfl, hb⟩; rw [← HW.out.1, ← HW.out.2]; have L6 := Aside0.mk (below_then LL4.out LL4.out.size hb); clear hb))
      go_ret
      exact ⟨rfl, L6.out⟩
end Go.Proofs.YtoffhlbdfhhhjaaDoor.Fr
