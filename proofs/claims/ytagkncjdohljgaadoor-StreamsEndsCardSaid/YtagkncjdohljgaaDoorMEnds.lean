/- StreamsEnds: always true. The package's variables hold what the program lays; the script's numbers are numbers. -/
import Derived.Test.YtagkncjdohljgaaDoorMEndsA
import Derived.Test.YtagkncjdohljgaaDoorMApart
namespace Go.Proofs.YtagkncjdohljgaaDoor.St
open Go Go.RowKit Go.Proofs.YtagkncjdohljgaaDoorW.PrintWords Go.Proofs.YtagkncjdohljgaaDoorW.PrintLast Go.Proofs.YtagkncjdohljgaaDoorW.PrintMore Go.Proofs.YtagkncjdohljgaaDoor.QL
set_option linter.unusedSimpArgs false
set_option linter.unusedVariables false
set_option maxHeartbeats 8000000
set_option maxRecDepth 100000
theorem CutOk.new' (c : Bool) : CutOk (Tb.new c) := fun id x h => by cases h
theorem ends_calls (A : Option Addr) (c : Nat) (l : List S30) (w : World) (hG : GL w) (hC : Kd.C k30 w A l.length l) (ht : ∀ x ∈ l, W64 x.f1) :
    Calls Tryd.prog 5 #[.slice A l.length c] w fun e w' => e = .returned (.bool true) ∧ Below w.heap.size w w' := by
  have HG := Aside0.mk hG
  have HC := Aside0.mk hC
  have HT := Aside0.mk ht
  have HL : Aside0 (l.length ≤ 9223372036854775807) := ⟨hC.2.1⟩
  clear hG hC ht
  go_enter Tryd.func5, Tryd.ntmps5
  go_upto_region 2 with fail
  obtain ⟨W0, hW0⟩ : ∃ W, w.alloc (.cells #[.pointer none, .pointer none] 52) = W := ⟨_, rfl⟩
  obtain ⟨g3, hg3⟩ : ∃ g, w.heap.size = g := ⟨_, rfl⟩
  have B0 : Aside0 (W0.heap[g3]? = some (.cells #[.pointer none, .pointer none] 52 (0, 0))) := ⟨by rw [← hW0, ← hg3]; exact blk_new _ _⟩
  have L0 : Aside0 (Below w.heap.size w W0) := ⟨by rw [← hW0]; exact below_alloc (Below.refl _ _) _⟩
  have HG3 := Aside0.mk hg3
  rw [hW0, hg3]
  clear hW0 hg3
  go_upto_region 3 with (go_at_call 8; refine (new_calls _ true w.heap.size L0.out.size).mono ?_; rintro e w1 ⟨p1, S1, rfl, hT, hS, hb⟩; have T1 := Aside0.mk hT; have N1 : Aside0 (∀ k, S1 k → k ≠ g3) := ⟨fun k hk e => by have := hS k hk; have := blk_lt B0.out; omega⟩; have L1 := Aside0.mk (below_then L0.out L0.out.size hb); have B1 := Aside0.mk (blk_below B0.out hb); have r0 : w1.cell? ⟨g3, 0, none⟩ = some (.pointer none) := blk_cell B1.out 0; have rf : w1.frozen? ⟨g3, 0, none⟩ = false := blk_frozen B1.out 0; clear hT hS hb)
  generalize hW2 : World.setCell _ _ _ = W2
  have B2 : Aside0 (W2.heap[g3]? = some (.cells #[.pointer (some ⟨p1, 0, none⟩), .pointer none] 52 (0, 0))) := ⟨by rw [← hW2]; exact blk_set B1.out 0 (.pointer (some ⟨p1, 0, none⟩))⟩
  have K2 : Aside0 (Fr w1 W2 (fun k => k = g3)) := ⟨by rw [← hW2]; exact fr_set w1 ⟨g3, 0, none⟩ _⟩
  have T2 := Aside0.mk (T1.out.fr K2.out (fun k hk e => N1.out k hk e))
  have L2 := Aside0.mk (Fr.below L1.out L1.out.size K2.out (fun k e => by have := HG3.out; omega))
  clear hW2 r0 rf T1 B1 L1 K2
  go_upto_region 4 with (go_at_call 8; refine (new_calls _ false w.heap.size L2.out.size).mono ?_; rintro e w3 ⟨p2, S2, rfl, hT, hS, hb⟩; have T3 : Aside0 (Tw w3 w.heap.size S1 p1 (Tb.new true) S2 p2 (Tb.new false)) := ⟨T2.out.low hb, hT, fun k h1 h2 => by have := (T2.out.bd k h1).2; have := hS k h2; omega⟩; have N2 : Aside0 (∀ k, S2 k → k ≠ g3) := ⟨fun k hk e => by have := hS k hk; have := blk_lt B2.out; omega⟩; have L3 := Aside0.mk (below_then L2.out L2.out.size hb); have B3x := Aside0.mk (blk_below B2.out hb); have r0 : w3.cell? ⟨g3, 1, none⟩ = some (.pointer none) := blk_cell B3x.out 1; have rf : w3.frozen? ⟨g3, 1, none⟩ = false := blk_frozen B3x.out 1; clear hT hS hb)
  generalize hW4 : World.setCell _ _ _ = W4
  have B4 : Aside0 (W4.heap[g3]? = some (.cells #[.pointer (some ⟨p1, 0, none⟩), .pointer (some ⟨p2, 0, none⟩)] 52 (0, 0))) := ⟨by rw [← hW4]; exact blk_set B3x.out 1 (.pointer (some ⟨p2, 0, none⟩))⟩
  have K4 : Aside0 (Fr w3 W4 (fun k => k = g3)) := ⟨by rw [← hW4]; exact fr_set w3 ⟨g3, 1, none⟩ _⟩
  have E4 : Aside0 (EW w W4 (fun k => k = g3) S1 p1 (Tb.new true) S2 p2 (Tb.new false)) := ⟨⟨⟨T3.out.a.fr K4.out (fun k hk e => N1.out k hk e), T3.out.b.fr K4.out (fun k hk e => N2.out k hk e), T3.out.ap⟩, Fr.below L3.out L3.out.size K4.out (fun k e => by have := HG3.out; omega), fun k e => ⟨fun h => N1.out k h e, fun h => N2.out k h e⟩, fun k e => by have := HG3.out; have := blk_lt B4.out; omega⟩⟩
  clear hW4 r0 rf T2 T3 B2 L2 B3x L3 K4 N1 N2 B0 L0
  have r0 : W4.cell? ⟨g3, 0, none⟩ = some (.pointer (some ⟨p1, 0, none⟩)) := blk_cell B4.out 0
  have r1 : W4.cell? ⟨g3, 1, none⟩ = some (.pointer (some ⟨p2, 0, none⟩)) := blk_cell B4.out 1
  go_upto_region 6 with (go_at_call 9; refine (first_calls _ (HG.out.below E4.out.be)).mono ?_; rintro e w5 ⟨rfl, hb⟩; have E5 := Aside0.mk (E4.out.low hb); have B5 := Aside0.mk (blk_below B4.out hb); clear hb)
  clear r0 r1 E4 B4
  go_upto_if 28 with fail
  go_loopw [4] (fun v w' => ∃ (k : Nat) (S1 : Nat → Prop) (T : Tb) (S2 : Nat → Prop) (U : Tb), v = .int .i64 (k : Int) ∧ Aside0 (k ≤ l.length) ∧ Aside0 (EW w w' (fun k => k = g3) S1 p1 T S2 p2 U) ∧ Aside0 (Mir T U ∧ CutOk T ∧ CutOk U) ∧ Aside0 (w'.heap[g3]? = some (.cells #[.pointer (some ⟨p1, 0, none⟩), .pointer (some ⟨p2, 0, none⟩)] 52 (0, 0)))) (fun v _ => ((l.length : Int) - intOf v).toNat)
  case atStart => exact ⟨0, S1, _, S2, _, rfl, ⟨Nat.zero_le _⟩, E5, ⟨Mir.new true, CutOk.new' _, CutOk.new' _⟩, B5⟩
  case round =>
    clear E5 B5
    obtain ⟨k, S1, T, S2, U, rfl, HK, E1, PM, B1⟩ := hrel
    by_cases hk : k < l.length
    · have d1 : decide ((k : Int) < (l.length : Int)) = true := decide_eq_true (by omega)
      have d2 : decide (k < l.length) = true := decide_eq_true hk
      have hw1 : wrap64 ((k : Int) + 1) = ((k + 1 : Nat) : Int) := by have := HL.out; unfold wrap64; omega
      have q0 : (0 : Int) ≤ (k : Int) := by omega
      have q1 : (k : Int) < (l.length : Int) := by omega
      have HKM := Aside0.mk hk
      obtain ⟨ad, rfl, y0, y1, y2, y3⟩ := at_T30 (Kd.C_below HC.out E1.out.be) (k : Int) q0 q1
      rw [Int.toNat_natCast] at y0 y1 y2 y3
      obtain ⟨y, hy⟩ : ∃ y, rd_T30 l (k : Int) = y := ⟨_, rfl⟩
      rw [hy] at y0 y1 y2 y3
      have hw : W64 y.f1 := by rw [← hy, rd30_get hk]; exact HT.out _ (List.getElem_mem hk)
      obtain ⟨two, sid, sgot, sk⟩ := y
      have HW := Aside0.mk hw
      clear hy hk hw
      go_upto_region 10 with fail
      obtain ⟨W4, hW4⟩ : ∃ W, wr.alloc (.cells #[.bool two, .int .i64 sid, .bool sgot, .int .i64 sk] 30) = W := ⟨_, rfl⟩
      obtain ⟨gx, hgx⟩ : ∃ g, wr.heap.size = g := ⟨_, rfl⟩
      have E4 : Aside0 (EW w W4 (fun k => k = g3 ∨ k = gx) S1 p1 T S2 p2 U) := ⟨by rw [← hW4]; exact E1.out.add _ hgx⟩
      have X4 : Aside0 (W4.heap[gx]? = some (.cells #[.bool two, .int .i64 sid, .bool sgot, .int .i64 sk] 30 (0, 0))) := ⟨by rw [← hW4, ← hgx]; exact blk_new _ _⟩
      have B4 : Aside0 (W4.heap[g3]? = some (.cells #[.pointer (some ⟨p1, 0, none⟩), .pointer (some ⟨p2, 0, none⟩)] 52 (0, 0))) := ⟨by rw [← hW4]; exact blk_below B1.out (below_alloc (Below.refl _ _) _)⟩
      have b0 : W4.cell? ⟨gx, 0, none⟩ = some (.bool two) := blk_cell X4.out 0
      rw [hW4, hgx]
      clear hW4 hgx y0 y1 y2 y3 E1 B1
      cases two
      · go_upto_region 13 with fail
        clear b0
        have EA : Aside0 (EW w W4 (fun k => k = g3 ∨ k = gx) S1 p1 T S2 p2 U) := E4
        obtain ⟨MI, CA, CB⟩ : Mir T U ∧ CutOk T ∧ CutOk U := PM.out
        have MI := Aside0.mk MI
        have CA := Aside0.mk CA
        have CB := Aside0.mk CB
        clear E4 PM
        obtain ⟨⟨⟨va, vb⟩, T'⟩, hact⟩ : ∃ R, T.act sid false sk = R := ⟨_, rfl⟩
        have HA := Aside0.mk hact
        clear hact
        refine start_ (n := 11) (S := fun w' => w'.cell? ⟨g3, 0, none⟩ = some (.pointer (some ⟨p1, 0, none⟩)) ∧ w'.cell? ⟨gx, 1, none⟩ = some (.int .i64 sid) ∧ w'.cell? ⟨gx, 3, none⟩ = some (.int .i64 sk)) (ds := [10]) #[false, false, false, false, false, false, false, false, false, false, false] (by kernel_rfl) rfl rfl ⟨blk_cell (blk_below B4.out (below_drew (Below.refl _ _))) 0, blk_cell (blk_below X4.out (below_drew (Below.refl _ _))) 1, blk_cell (blk_below X4.out (below_drew (Below.refl _ _))) 3⟩ (fun hHeld => ?_)
        refine pure_ (i := 0) (N := some 37) (v := ?_) (a' := ?_) #[true, false, false, false, false, false, false, false, false, false, false] rfl rfl (by kernel_rfl) (fun _ _ _ h => h) (Or.inl ⟨by rfl, ?_⟩) ?_ ?_
        rotate_left
        · intro w'
          go_simp
          with_reducible rfl
        rotate_left
        · simp only [Act.put, List.setIfInBounds_toArray, List.set_cons_zero, List.set_cons_succ, i64_w, i32_w]
          rfl
        refine pure_ (i := 1) (N := some 38) (v := ?_) (a' := ?_) #[true, true, false, false, false, false, false, false, false, false, false] rfl rfl (by kernel_rfl) (fun _ _ _ h => h) (Or.inl ⟨by rfl, ?_⟩) ?_ ?_
        rotate_left
        · intro w'
          go_simp
          with_reducible rfl
        rotate_left
        · simp only [Act.put, List.setIfInBounds_toArray, List.set_cons_zero, List.set_cons_succ, i64_w, i32_w]
          rfl
        refine pure_ (i := 3) (N := some 40) (v := ?_) (a' := ?_) #[true, true, false, true, false, false, false, false, false, false, false] rfl rfl (by kernel_rfl) (fun _ _ _ h => h) (Or.inl ⟨by rfl, ?_⟩) ?_ ?_
        rotate_left
        · intro w'
          go_simp
          with_reducible rfl
        rotate_left
        · simp only [Act.put, List.setIfInBounds_toArray, List.set_cons_zero, List.set_cons_succ, i64_w, i32_w]
          rfl
        refine pure_ (i := 5) (N := some 42) (v := ?_) (a' := ?_) #[true, true, false, true, false, true, false, false, false, false, false] rfl rfl (by kernel_rfl) (fun _ _ _ h => h) (Or.inl ⟨by rfl, ?_⟩) ?_ ?_
        rotate_left
        · intro w'
          go_simp
          with_reducible rfl
        rotate_left
        · simp only [Act.put, List.setIfInBounds_toArray, List.set_cons_zero, List.set_cons_succ, i64_w, i32_w]
          rfl
        refine take_ (i := 2) (N := some 39) (v := ?_) (a' := ?_) #[true, true, true, true, false, true, false, false, false, false, false] rfl rfl (by kernel_rfl) (fun _ _ _ h => h) (Or.inl ⟨by rfl, ?_⟩) hHeld ?_ ?_
        rotate_left
        · rintro w' ⟨s0, s1, s2⟩
          go_simp
          with_reducible rfl
        rotate_left
        · simp only [Act.put, List.setIfInBounds_toArray, List.set_cons_zero, List.set_cons_succ, i64_w, i32_w]
          rfl
        refine take_ (i := 4) (N := some 41) (v := ?_) (a' := ?_) #[true, true, true, true, true, true, false, false, false, false, false] rfl rfl (by kernel_rfl) (fun _ _ _ h => h) (Or.inl ⟨by rfl, ?_⟩) hHeld ?_ ?_
        rotate_left
        · rintro w' ⟨s0, s1, s2⟩
          go_simp
          with_reducible rfl
        rotate_left
        · simp only [Act.put, List.setIfInBounds_toArray, List.set_cons_zero, List.set_cons_succ, i64_w, i32_w]
          rfl
        refine take_ (i := 6) (N := some 43) (v := ?_) (a' := ?_) #[true, true, true, true, true, true, true, false, false, false, false] rfl rfl (by kernel_rfl) (fun _ _ _ h => h) (Or.inl ⟨by rfl, ?_⟩) hHeld ?_ ?_
        rotate_left
        · rintro w' ⟨s0, s1, s2⟩
          go_simp
          with_reducible rfl
        rotate_left
        · simp only [Act.put, List.setIfInBounds_toArray, List.set_cons_zero, List.set_cons_succ, i64_w, i32_w]
          rfl
        refine pure_ (i := 7) (N := some 44) (v := ?_) (a' := ?_) #[true, true, true, true, true, true, true, true, false, false, false] rfl rfl (by kernel_rfl) (fun _ _ _ h => h) (Or.inl ⟨by rfl, ?_⟩) ?_ ?_
        rotate_left
        · intro w'
          go_simp
          with_reducible rfl
        rotate_left
        · simp only [Act.put, List.setIfInBounds_toArray, List.set_cons_zero, List.set_cons_succ, i64_w, i32_w]
          rfl
        refine join_ (σ := Nat) 1 #[true, true, true, true, true, true, true, true, true, true, false] (fun s => [(45, .agg #[.int .i64 va, .int .i64 vb]), (7, .pointer (some ⟨s, 0, none⟩))]) (fun s w' => (∃ S', EW w w' (fun k => (k = g3 ∨ k = gx) ∨ k = s) S' p1 T' S2 p2 U) ∧ w'.heap[s]? = some (.cells #[.int .i64 0, .int .i64 0] 53 (0, 0)) ∧ w'.heap[g3]? = some (.cells #[.pointer (some ⟨p1, 0, none⟩), .pointer (some ⟨p2, 0, none⟩)] 52 (0, 0)) ∧ w'.heap[gx]? = some (.cells #[.bool false, .int .i64 sid, .bool sgot, .int .i64 sk] 30 (0, 0)) ∧ w'.cell? ⟨g3, 0, none⟩ = some (.pointer (some ⟨p1, 0, none⟩)) ∧ w'.cell? ⟨gx, 1, none⟩ = some (.int .i64 sid) ∧ w'.cell? ⟨gx, 3, none⟩ = some (.int .i64 sk)) ?_ ?_
        rotate_left
        · intro hCont
          refine two_ (i := 8) (j := 9) (Ni := some 45) (Nj := some 7) #[true, true, true, true, true, true, true, true, true, false, false] #[true, true, true, true, true, true, true, true, false, true, false] rfl rfl rfl rfl (by kernel_rfl) (by decide) (by decide) (fun K hK => ?_) (fun K hK => ?_)
          · skip
            have E0_ := Aside0.mk (EA.out.low (below_drew (Below.refl _ _)))
            have B0_ := Aside0.mk (blk_below B4.out (below_drew (Below.refl _ _)))
            have X0_ := Aside0.mk (blk_below X4.out (below_drew (Below.refl _ _)))
            refine goes_ Tryd.func27 (by kernel_rfl) rfl #[.pointer (some ⟨p1, 0, none⟩), .int .i64 sid, .agg #[.bool false, .int .i64 sk]] (by rfl) rfl rfl (by simp only [List.map_toArray, List.map_cons, List.map_nil]; rfl) ?_
            with_reducible refine (do_calls w.heap.size S1 p1 T sid false sk _ E0_.out.tw.a (HG.out.below E0_.out.be) HW.out).mono ?_
            rintro e w5 ⟨rfl, hP⟩
            rw [HA.out] at hP ⊢
            refine ⟨_, rfl, ?_⟩
            obtain ⟨Sa, hE, hk⟩ := EW.act E0_.out hP
            have E2_ := Aside0.mk hE
            have B2_ := Aside0.mk (hk g3 _ (Or.inl rfl) B0_.out)
            have X2_ := Aside0.mk (hk gx _ (Or.inr rfl) X0_.out)
            clear hE hk hP
            refine hK.out _ _ ⟨blk_cell B2_.out 0, blk_cell X2_.out 1, blk_cell X2_.out 3⟩ (fun hHeld => ?_)
            clear hK K
            refine norm_ (a' := ?_) ?_ ?_
            rotate_left
            · show Act.put _ (some 45) _ = _
              simp only [Act.put, List.setIfInBounds_toArray, List.set_cons_zero, List.set_cons_succ, i64_w, i32_w]
              rfl
            refine one_ (i := 9) (N := some 7) #[true, true, true, true, true, true, true, true, true, true, false] rfl rfl (by kernel_rfl) (by decide) (fun K hK => ?_)
            refine value_ (w1 := ?_) (v := ?_) (by rfl) rfl ?_ ?_
            rotate_left 2
            · go_simp
              constructor
              · rfl
              · rfl
            have E3_ := Aside0.mk (EW.add E2_.out (.cells #[.int .i64 0, .int .i64 0] 53) (rfl : w5.heap.size = w5.heap.size))
            have B3_ := Aside0.mk (blk_below B2_.out (below_alloc (Below.refl _ _) (.cells #[.int .i64 0, .int .i64 0] 53)))
            have X3_ := Aside0.mk (blk_below X2_.out (below_alloc (Below.refl _ _) (.cells #[.int .i64 0, .int .i64 0] 53)))
            have V3_ : Aside0 ((w5.alloc (.cells #[.int .i64 0, .int .i64 0] 53)).heap[w5.heap.size]? = some (.cells #[.int .i64 0, .int .i64 0] 53 (0, 0))) := ⟨blk_new w5 (.cells #[.int .i64 0, .int .i64 0] 53)⟩
            refine hK.out _ _ ⟨blk_cell B3_.out 0, blk_cell X3_.out 1, blk_cell X3_.out 3⟩ (fun hHeld => ?_)
            clear hK K
            refine norm_ (a' := ?_) ?_ ?_
            rotate_left
            · show Act.put _ (some 7) _ = _
              simp only [Act.put, List.setIfInBounds_toArray, List.set_cons_zero, List.set_cons_succ, i64_w, i32_w]
              rfl
            exact norm_ (by simp only [putAll, Act.put, List.setIfInBounds_toArray, List.set_cons_zero, List.set_cons_succ]) (hCont w5.heap.size _ ⟨⟨Sa, E3_.out⟩, V3_.out, B3_.out, X3_.out, hHeld⟩)
          · skip
            refine value_ (w1 := ?_) (v := ?_) (by rfl) rfl ?_ ?_
            rotate_left 2
            · go_simp
              constructor
              · rfl
              · rfl
            have E1_ := Aside0.mk ((EW.add EA.out (.cells #[.int .i64 0, .int .i64 0] 53) (rfl : W4.heap.size = W4.heap.size)).low (below_drew (Below.refl _ _)))
            have B1_ := Aside0.mk (blk_below (blk_below B4.out (below_alloc (Below.refl _ _) (.cells #[.int .i64 0, .int .i64 0] 53))) (below_drew (Below.refl _ _)))
            have X1_ := Aside0.mk (blk_below (blk_below X4.out (below_alloc (Below.refl _ _) (.cells #[.int .i64 0, .int .i64 0] 53))) (below_drew (Below.refl _ _)))
            have V1_ : Aside0 ((W4.alloc (.cells #[.int .i64 0, .int .i64 0] 53)).drew.heap[W4.heap.size]? = some (.cells #[.int .i64 0, .int .i64 0] 53 (0, 0))) := ⟨blk_new W4 (.cells #[.int .i64 0, .int .i64 0] 53)⟩
            refine hK.out _ _ ⟨blk_cell B1_.out 0, blk_cell X1_.out 1, blk_cell X1_.out 3⟩ (fun hHeld => ?_)
            clear hK K
            refine norm_ (a' := ?_) ?_ ?_
            rotate_left
            · show Act.put _ (some 7) _ = _
              simp only [Act.put, List.setIfInBounds_toArray, List.set_cons_zero, List.set_cons_succ, i64_w, i32_w]
              rfl
            refine one_ (i := 8) (N := some 45) #[true, true, true, true, true, true, true, true, true, true, false] rfl rfl (by kernel_rfl) (by decide) (fun K hK => ?_)
            refine goes_ Tryd.func27 (by kernel_rfl) rfl #[.pointer (some ⟨p1, 0, none⟩), .int .i64 sid, .agg #[.bool false, .int .i64 sk]] (by rfl) rfl rfl (by simp only [List.map_toArray, List.map_cons, List.map_nil]; rfl) ?_
            with_reducible refine (do_calls w.heap.size S1 p1 T sid false sk _ E1_.out.tw.a (HG.out.below E1_.out.be) HW.out).mono ?_
            rintro e w5 ⟨rfl, hP⟩
            rw [HA.out] at hP ⊢
            refine ⟨_, rfl, ?_⟩
            obtain ⟨Sa, hE, hk⟩ := EW.act E1_.out hP
            have E2_ := Aside0.mk hE
            have B2_ := Aside0.mk (hk g3 _ (Or.inl (Or.inl rfl)) B1_.out)
            have X2_ := Aside0.mk (hk gx _ (Or.inl (Or.inr rfl)) X1_.out)
            have V2_ := Aside0.mk (hk _ _ (Or.inr rfl) V1_.out)
            clear hE hk hP
            refine hK.out _ _ ⟨blk_cell B2_.out 0, blk_cell X2_.out 1, blk_cell X2_.out 3⟩ (fun hHeld => ?_)
            clear hK K
            refine norm_ (a' := ?_) ?_ ?_
            rotate_left
            · show Act.put _ (some 45) _ = _
              simp only [Act.put, List.setIfInBounds_toArray, List.set_cons_zero, List.set_cons_succ, i64_w, i32_w]
              rfl
            exact norm_ (by simp only [putAll, Act.put, List.setIfInBounds_toArray, List.set_cons_zero, List.set_cons_succ]) (hCont W4.heap.size _ ⟨⟨Sa, E2_.out⟩, V2_.out, B2_.out, X2_.out, hHeld⟩)
        rintro g7 w9_ ⟨⟨Sa, hE⟩, hV, hB, hX, hHeld⟩
        have E4_ := Aside0.mk hE
        have V4_ := Aside0.mk hV
        have B4_ := Aside0.mk hB
        have X4_ := Aside0.mk hX
        clear hE hV hB hX
        refine norm_ (a' := ?_) ?_ ?_
        rotate_left
        · simp only [putAll, Act.put, List.setIfInBounds_toArray, List.set_cons_zero, List.set_cons_succ]
          rfl
        refine last_ (i := 10) (N := none) #[true, true, true, true, true, true, true, true, true, true, true] rfl rfl (by kernel_rfl) (by decide) (fun K hK => ?_)
        refine skip_row 53 _ _ rfl (by rfl) rfl g7 #[.int .i64 va, .int .i64 vb] rfl rfl 53 _ V4_.out (by kernel_rfl) (by kernel_rfl) (by kernel_rfl) ?_
        obtain ⟨W8, e8, q4, qo, qb⟩ := row_store _ g7 #[.int .i64 va, .int .i64 vb] 53 _ V4_.out
        rw [e8]
        have E8 := Aside0.mk (EW.put E4_.out (Or.inr rfl) qo qb)
        have V8 := Aside0.mk q4
        have B8 := Aside0.mk ((qo g3 (blk_ne2 B4_.out V4_.out (by decide))).trans B4_.out)
        have X8 := Aside0.mk ((qo gx (blk_ne2 X4_.out V4_.out (by decide))).trans X4_.out)
        clear e8 q4 qo qb E4_ V4_ B4_ X4_
        refine hK.out _ _ ?_
        clear hK K
        refine done_ (by kernel_rfl) ?_

        have c0 : W8.cell? ⟨g7, 0, none⟩ = some (.int .i64 va) := blk_cell V8.out 0
        have E8' := Aside0.mk (EW.mono (G' := fun k => k = g3 ∨ k = gx) E8.out (fun k hk => Or.inl hk))
        by_cases hv : va ≠ 0
        · have v0 : (va == 0) = false := beq_eq_false_iff_ne.mpr hv
          have v1 : (va != 0) = true := by simp [hv]
          have hv4 : va = 4 := by have h := act_kind EA.out.tw.a.ok sid sk; rw [HA.out] at h; exact h.resolve_left hv
          have hT : T' = T := by have h := act_same (T := T) sid false sk (by rw [HA.out]; exact hv); rw [HA.out] at h; exact h
          subst hT
          subst hv4
          clear hv v0 v1
          go_wp2_with fail
          go_roundw
          case rel => exact ⟨k + 1, Sa, _, S2, U, congrArg (Value.int .i64) hw1, ⟨by have := HKM.out; omega⟩, ⟨EW.mono (G' := fun k => k = g3) E8'.out (fun k hk => Or.inl hk)⟩, ⟨MI.out, CA.out, CB.out⟩, B8⟩
          case measure =>
            rw [hw1]
            show ((l.length : Int) - ((k + 1 : Nat) : Int)).toNat < ((l.length : Int) - (k : Int)).toNat
            have := HKM.out
            omega
        have hv := Classical.not_not.mp hv
        subst hv
        have PF := Aside0.mk (pair_act MI.out EA.out.tw.a.ok EA.out.tw.b.ok CA.out CB.out sid sk (by rw [HA.out]))
        have CF : Aside0 (CutOk T' ∧ CutOk (U.act sid true sk).2) := ⟨by have h := CA.out.act EA.out.tw.a.ok sid false sk; rw [HA.out] at h; exact ⟨h, CB.out.act EA.out.tw.b.ok sid true sk⟩⟩
        rw [HA.out] at PF
        obtain ⟨⟨⟨wa, wb⟩, U'⟩, hact⟩ : ∃ R, U.act sid true sk = R := ⟨_, rfl⟩
        have HB := Aside0.mk hact
        rw [hact] at PF CF
        clear hact
        go_upto_region 17 with fail
        clear c0 E8 V8
        have hwa1 : wrap64 1 = 1 := by unfold wrap64; omega
        have hwa0 : wrap64 0 = 0 := by unfold wrap64; omega
        have EB := Aside0.mk (E8'.out.swap)
        clear E8'
        refine start_ (n := 12) (S := fun w' => w'.cell? ⟨g3, 1, none⟩ = some (.pointer (some ⟨p2, 0, none⟩)) ∧ w'.cell? ⟨gx, 1, none⟩ = some (.int .i64 sid) ∧ w'.cell? ⟨gx, 3, none⟩ = some (.int .i64 sk)) (ds := [11]) #[false, false, false, false, false, false, false, false, false, false, false, false] (by kernel_rfl) rfl rfl ⟨blk_cell (blk_below B8.out (below_drew (Below.refl _ _))) 1, blk_cell (blk_below X8.out (below_drew (Below.refl _ _))) 1, blk_cell (blk_below X8.out (below_drew (Below.refl _ _))) 3⟩ (fun hHeld => ?_)
        refine pure_ (i := 0) (N := some 52) (v := ?_) (a' := ?_) #[true, false, false, false, false, false, false, false, false, false, false, false] rfl rfl (by kernel_rfl) (fun _ _ _ h => h) (Or.inl ⟨by rfl, ?_⟩) ?_ ?_
        rotate_left
        · intro w'
          go_simp
          with_reducible rfl
        rotate_left
        · simp only [Act.put, List.setIfInBounds_toArray, List.set_cons_zero, List.set_cons_succ, i64_w, i32_w]
          rfl
        refine pure_ (i := 1) (N := some 53) (v := ?_) (a' := ?_) #[true, true, false, false, false, false, false, false, false, false, false, false] rfl rfl (by kernel_rfl) (fun _ _ _ h => h) (Or.inl ⟨by rfl, ?_⟩) ?_ ?_
        rotate_left
        · intro w'
          go_simp
          with_reducible rfl
        rotate_left
        · simp only [Act.put, List.setIfInBounds_toArray, List.set_cons_zero, List.set_cons_succ, i64_w, i32_w]
          rfl
        refine pure_ (i := 2) (N := some 54) (v := ?_) (a' := ?_) #[true, true, true, false, false, false, false, false, false, false, false, false] rfl rfl (by kernel_rfl) (fun _ _ _ h => h) (Or.inl ⟨by rfl, ?_⟩) ?_ ?_
        rotate_left
        · intro w'
          go_simp
          with_reducible rfl
        rotate_left
        · simp only [Act.put, List.setIfInBounds_toArray, List.set_cons_zero, List.set_cons_succ, i64_w, i32_w]
          rfl
        refine pure_ (i := 4) (N := some 56) (v := ?_) (a' := ?_) #[true, true, true, false, true, false, false, false, false, false, false, false] rfl rfl (by kernel_rfl) (fun _ _ _ h => h) (Or.inl ⟨by rfl, ?_⟩) ?_ ?_
        rotate_left
        · intro w'
          go_simp
          with_reducible rfl
        rotate_left
        · simp only [Act.put, List.setIfInBounds_toArray, List.set_cons_zero, List.set_cons_succ, i64_w, i32_w]
          rfl
        refine pure_ (i := 6) (N := some 58) (v := ?_) (a' := ?_) #[true, true, true, false, true, false, true, false, false, false, false, false] rfl rfl (by kernel_rfl) (fun _ _ _ h => h) (Or.inl ⟨by rfl, ?_⟩) ?_ ?_
        rotate_left
        · intro w'
          go_simp
          with_reducible rfl
        rotate_left
        · simp only [Act.put, List.setIfInBounds_toArray, List.set_cons_zero, List.set_cons_succ, i64_w, i32_w]
          rfl
        refine take_ (i := 3) (N := some 55) (v := ?_) (a' := ?_) #[true, true, true, true, true, false, true, false, false, false, false, false] rfl rfl (by kernel_rfl) (fun _ _ _ h => h) (Or.inl ⟨by rfl, ?_⟩) hHeld ?_ ?_
        rotate_left
        · rintro w' ⟨s0, s1, s2⟩
          go_simp
          with_reducible rfl
        rotate_left
        · simp only [Act.put, List.setIfInBounds_toArray, List.set_cons_zero, List.set_cons_succ, i64_w, i32_w]
          rfl
        refine take_ (i := 5) (N := some 57) (v := ?_) (a' := ?_) #[true, true, true, true, true, true, true, false, false, false, false, false] rfl rfl (by kernel_rfl) (fun _ _ _ h => h) (Or.inl ⟨by rfl, ?_⟩) hHeld ?_ ?_
        rotate_left
        · rintro w' ⟨s0, s1, s2⟩
          go_simp
          with_reducible rfl
        rotate_left
        · simp only [Act.put, List.setIfInBounds_toArray, List.set_cons_zero, List.set_cons_succ, i64_w, i32_w]
          rfl
        refine take_ (i := 7) (N := some 59) (v := ?_) (a' := ?_) #[true, true, true, true, true, true, true, true, false, false, false, false] rfl rfl (by kernel_rfl) (fun _ _ _ h => h) (Or.inl ⟨by rfl, ?_⟩) hHeld ?_ ?_
        rotate_left
        · rintro w' ⟨s0, s1, s2⟩
          go_simp
          with_reducible rfl
        rotate_left
        · simp only [Act.put, List.setIfInBounds_toArray, List.set_cons_zero, List.set_cons_succ, i64_w, i32_w]
          rfl
        refine pure_ (i := 8) (N := some 60) (v := ?_) (a' := ?_) #[true, true, true, true, true, true, true, true, true, false, false, false] rfl rfl (by kernel_rfl) (fun _ _ _ h => h) (Or.inl ⟨by rfl, ?_⟩) ?_ ?_
        rotate_left
        · intro w'
          go_simp
          with_reducible rfl
        rotate_left
        · simp only [Act.put, List.setIfInBounds_toArray, List.set_cons_zero, List.set_cons_succ, i64_w, i32_w]
          rfl
        refine join_ (σ := Nat) 1 #[true, true, true, true, true, true, true, true, true, true, true, false] (fun s => [(61, .agg #[.int .i64 wa, .int .i64 wb]), (8, .pointer (some ⟨s, 0, none⟩))]) (fun s w' => (∃ S', EW w w' (fun k => (k = g3 ∨ k = gx) ∨ k = s) S' p2 U' Sa p1 T') ∧ w'.heap[s]? = some (.cells #[.int .i64 0, .int .i64 0] 53 (0, 0)) ∧ w'.heap[g3]? = some (.cells #[.pointer (some ⟨p1, 0, none⟩), .pointer (some ⟨p2, 0, none⟩)] 52 (0, 0)) ∧ w'.heap[gx]? = some (.cells #[.bool false, .int .i64 sid, .bool sgot, .int .i64 sk] 30 (0, 0)) ∧ w'.cell? ⟨g3, 1, none⟩ = some (.pointer (some ⟨p2, 0, none⟩)) ∧ w'.cell? ⟨gx, 1, none⟩ = some (.int .i64 sid) ∧ w'.cell? ⟨gx, 3, none⟩ = some (.int .i64 sk)) ?_ ?_
        rotate_left
        · intro hCont
          refine two_ (i := 9) (j := 10) (Ni := some 61) (Nj := some 8) #[true, true, true, true, true, true, true, true, true, true, false, false] #[true, true, true, true, true, true, true, true, true, false, true, false] rfl rfl rfl rfl (by kernel_rfl) (by decide) (by decide) (fun K hK => ?_) (fun K hK => ?_)
          · skip
            have E0_ := Aside0.mk (EB.out.low (below_drew (Below.refl _ _)))
            have B0_ := Aside0.mk (blk_below B8.out (below_drew (Below.refl _ _)))
            have X0_ := Aside0.mk (blk_below X8.out (below_drew (Below.refl _ _)))
            refine goes_ Tryd.func27 (by kernel_rfl) rfl #[.pointer (some ⟨p2, 0, none⟩), .int .i64 sid, .agg #[.bool true, .int .i64 sk]] (by rfl) rfl rfl (by simp only [List.map_toArray, List.map_cons, List.map_nil]; rfl) ?_
            with_reducible refine (do_calls w.heap.size S2 p2 U sid true sk _ E0_.out.tw.a (HG.out.below E0_.out.be) HW.out).mono ?_
            rintro e w9 ⟨rfl, hP⟩
            rw [HB.out] at hP ⊢
            refine ⟨_, rfl, ?_⟩
            obtain ⟨Sb, hE, hk⟩ := EW.act E0_.out hP
            have E2_ := Aside0.mk hE
            have B2_ := Aside0.mk (hk g3 _ (Or.inl rfl) B0_.out)
            have X2_ := Aside0.mk (hk gx _ (Or.inr rfl) X0_.out)
            clear hE hk hP
            refine hK.out _ _ ⟨blk_cell B2_.out 1, blk_cell X2_.out 1, blk_cell X2_.out 3⟩ (fun hHeld => ?_)
            clear hK K
            refine norm_ (a' := ?_) ?_ ?_
            rotate_left
            · show Act.put _ (some 61) _ = _
              simp only [Act.put, List.setIfInBounds_toArray, List.set_cons_zero, List.set_cons_succ, i64_w, i32_w]
              rfl
            refine one_ (i := 10) (N := some 8) #[true, true, true, true, true, true, true, true, true, true, true, false] rfl rfl (by kernel_rfl) (by decide) (fun K hK => ?_)
            refine value_ (w1 := ?_) (v := ?_) (by rfl) rfl ?_ ?_
            rotate_left 2
            · go_simp
              constructor
              · rfl
              · rfl
            have E3_ := Aside0.mk (EW.add E2_.out (.cells #[.int .i64 0, .int .i64 0] 53) (rfl : w9.heap.size = w9.heap.size))
            have B3_ := Aside0.mk (blk_below B2_.out (below_alloc (Below.refl _ _) (.cells #[.int .i64 0, .int .i64 0] 53)))
            have X3_ := Aside0.mk (blk_below X2_.out (below_alloc (Below.refl _ _) (.cells #[.int .i64 0, .int .i64 0] 53)))
            have V3_ : Aside0 ((w9.alloc (.cells #[.int .i64 0, .int .i64 0] 53)).heap[w9.heap.size]? = some (.cells #[.int .i64 0, .int .i64 0] 53 (0, 0))) := ⟨blk_new w9 (.cells #[.int .i64 0, .int .i64 0] 53)⟩
            refine hK.out _ _ ⟨blk_cell B3_.out 1, blk_cell X3_.out 1, blk_cell X3_.out 3⟩ (fun hHeld => ?_)
            clear hK K
            refine norm_ (a' := ?_) ?_ ?_
            rotate_left
            · show Act.put _ (some 8) _ = _
              simp only [Act.put, List.setIfInBounds_toArray, List.set_cons_zero, List.set_cons_succ, i64_w, i32_w]
              rfl
            exact norm_ (by simp only [putAll, Act.put, List.setIfInBounds_toArray, List.set_cons_zero, List.set_cons_succ]) (hCont w9.heap.size _ ⟨⟨Sb, E3_.out⟩, V3_.out, B3_.out, X3_.out, hHeld⟩)
          · skip
            refine value_ (w1 := ?_) (v := ?_) (by rfl) rfl ?_ ?_
            rotate_left 2
            · go_simp
              constructor
              · rfl
              · rfl
            have E1_ := Aside0.mk ((EW.add EB.out (.cells #[.int .i64 0, .int .i64 0] 53) (rfl : W8.heap.size = W8.heap.size)).low (below_drew (Below.refl _ _)))
            have B1_ := Aside0.mk (blk_below (blk_below B8.out (below_alloc (Below.refl _ _) (.cells #[.int .i64 0, .int .i64 0] 53))) (below_drew (Below.refl _ _)))
            have X1_ := Aside0.mk (blk_below (blk_below X8.out (below_alloc (Below.refl _ _) (.cells #[.int .i64 0, .int .i64 0] 53))) (below_drew (Below.refl _ _)))
            have V1_ : Aside0 ((W8.alloc (.cells #[.int .i64 0, .int .i64 0] 53)).drew.heap[W8.heap.size]? = some (.cells #[.int .i64 0, .int .i64 0] 53 (0, 0))) := ⟨blk_new W8 (.cells #[.int .i64 0, .int .i64 0] 53)⟩
            refine hK.out _ _ ⟨blk_cell B1_.out 1, blk_cell X1_.out 1, blk_cell X1_.out 3⟩ (fun hHeld => ?_)
            clear hK K
            refine norm_ (a' := ?_) ?_ ?_
            rotate_left
            · show Act.put _ (some 8) _ = _
              simp only [Act.put, List.setIfInBounds_toArray, List.set_cons_zero, List.set_cons_succ, i64_w, i32_w]
              rfl
            refine one_ (i := 9) (N := some 61) #[true, true, true, true, true, true, true, true, true, true, true, false] rfl rfl (by kernel_rfl) (by decide) (fun K hK => ?_)
            refine goes_ Tryd.func27 (by kernel_rfl) rfl #[.pointer (some ⟨p2, 0, none⟩), .int .i64 sid, .agg #[.bool true, .int .i64 sk]] (by rfl) rfl rfl (by simp only [List.map_toArray, List.map_cons, List.map_nil]; rfl) ?_
            with_reducible refine (do_calls w.heap.size S2 p2 U sid true sk _ E1_.out.tw.a (HG.out.below E1_.out.be) HW.out).mono ?_
            rintro e w9 ⟨rfl, hP⟩
            rw [HB.out] at hP ⊢
            refine ⟨_, rfl, ?_⟩
            obtain ⟨Sb, hE, hk⟩ := EW.act E1_.out hP
            have E2_ := Aside0.mk hE
            have B2_ := Aside0.mk (hk g3 _ (Or.inl (Or.inl rfl)) B1_.out)
            have X2_ := Aside0.mk (hk gx _ (Or.inl (Or.inr rfl)) X1_.out)
            have V2_ := Aside0.mk (hk _ _ (Or.inr rfl) V1_.out)
            clear hE hk hP
            refine hK.out _ _ ⟨blk_cell B2_.out 1, blk_cell X2_.out 1, blk_cell X2_.out 3⟩ (fun hHeld => ?_)
            clear hK K
            refine norm_ (a' := ?_) ?_ ?_
            rotate_left
            · show Act.put _ (some 61) _ = _
              simp only [Act.put, List.setIfInBounds_toArray, List.set_cons_zero, List.set_cons_succ, i64_w, i32_w]
              rfl
            exact norm_ (by simp only [putAll, Act.put, List.setIfInBounds_toArray, List.set_cons_zero, List.set_cons_succ]) (hCont W8.heap.size _ ⟨⟨Sb, E2_.out⟩, V2_.out, B2_.out, X2_.out, hHeld⟩)
        rintro g8 w9_ ⟨⟨Sb, hE⟩, hV, hB, hX, hHeld⟩
        have E4_ := Aside0.mk hE
        have V4_ := Aside0.mk hV
        have B4_ := Aside0.mk hB
        have X4_ := Aside0.mk hX
        clear hE hV hB hX
        refine norm_ (a' := ?_) ?_ ?_
        rotate_left
        · simp only [putAll, Act.put, List.setIfInBounds_toArray, List.set_cons_zero, List.set_cons_succ]
          rfl
        refine last_ (i := 11) (N := none) #[true, true, true, true, true, true, true, true, true, true, true, true] rfl rfl (by kernel_rfl) (by decide) (fun K hK => ?_)
        refine skip_row 53 _ _ rfl (by rfl) rfl g8 #[.int .i64 wa, .int .i64 wb] rfl rfl 53 _ V4_.out (by kernel_rfl) (by kernel_rfl) (by kernel_rfl) ?_
        obtain ⟨WF, e8, q4, qo, qb⟩ := row_store _ g8 #[.int .i64 wa, .int .i64 wb] 53 _ V4_.out
        rw [e8]
        have EF := Aside0.mk (EW.put E4_.out (Or.inr rfl) qo qb)
        have VF := Aside0.mk q4
        have BF := Aside0.mk ((qo g3 (blk_ne2 B4_.out V4_.out (by decide))).trans B4_.out)
        have XF := Aside0.mk ((qo gx (blk_ne2 X4_.out V4_.out (by decide))).trans X4_.out)
        clear e8 q4 qo qb E4_ V4_ B4_ X4_
        refine hK.out _ _ ?_
        clear hK K
        refine done_ (by kernel_rfl) ?_

        have EZ := Aside0.mk (EW.mono (G' := fun k => k = g3 ∨ k = gx) EF.out (fun k hk => Or.inl hk))
        have c0 : WF.cell? ⟨g8, 0, none⟩ = some (.int .i64 wa) := blk_cell VF.out 0
        have z0 : WF.cell? ⟨g3, 0, none⟩ = some (.pointer (some ⟨p1, 0, none⟩)) := blk_cell BF.out 0
        have z1 : WF.cell? ⟨g3, 1, none⟩ = some (.pointer (some ⟨p2, 0, none⟩)) := blk_cell BF.out 1
        have b1 : WF.cell? ⟨gx, 1, none⟩ = some (.int .i64 sid) := blk_cell XF.out 1
        obtain ⟨y, hy⟩ : ∃ y, T'.stt sid = y := ⟨_, rfl⟩
        obtain ⟨z, hz⟩ : ∃ z, mir y = z := ⟨_, rfl⟩
        have HY := Aside0.mk hy
        have HZ := Aside0.mk hz
        have Q1 : Aside0 (∀ k, Calls Tryd.prog 13 #[.pointer (some ⟨p1, 0, none⟩), .int .i64 sid] (WF.drewN k) fun e w'' => e = .returned (.int .i64 y) ∧ ∃ m, w'' = WF.drewN m) := ⟨fun k => (state_calls w.heap.size Sa p1 T' sid _ (EZ.out.tw.b.low (pw_below_drewN (Below.refl _ _) k)) HW.out).mono fun e w' h => ⟨by rw [h.1, HY.out], k, h.2.symm⟩⟩
        have Q2 : Aside0 (∀ k, Calls Tryd.prog 13 #[.pointer (some ⟨p2, 0, none⟩), .int .i64 sid] (WF.drewN k) fun e w'' => e = .returned (.int .i64 z) ∧ ∃ m, w'' = WF.drewN m) := ⟨fun k => (state_calls w.heap.size Sb p2 U' sid _ (EZ.out.tw.a.low (pw_below_drewN (Below.refl _ _) k)) HW.out).mono fun e w' h => ⟨by rw [h.1, PF.out.2.stt, HY.out, HZ.out], k, h.2.symm⟩⟩
        have Q3 : Aside0 (∀ k, Calls Tryd.prog 28 #[.int .i64 y] (WF.drewN k) fun e w'' => e = .returned (.int .i64 z) ∧ ∃ m, w'' = WF.drewN m) := ⟨fun k => quiet_drawn (heraldlaw11_mirror.calls y z _ (by rw [mirror_f, HZ.out]))⟩
        have n0 : (z != z) = false := by simp
        have n1 : (z == z) = true := by simp
        clear hy hz
        have hwa := PF.out.1
        obtain ⟨Wq, hWq⟩ : ∃ W, W = WF := ⟨_, rfl⟩
        rcases hwa with hwa | hwa
        all_goals
          have hwa : wa = _ := hwa
          subst hwa
          go_upto_region 18 with fail
          go_quiet ((first
            | (go_at_call 13; with_reducible exact Q1.out _)
            | (go_at_call 13; with_reducible exact Q2.out _)
            | (go_at_call 28; with_reducible exact Q3.out _)))
          obtain ⟨WG, hWG⟩ : ∃ X, WF.drewN nq = X := ⟨_, rfl⟩
          have hbG : Below WF.heap.size WF WG := by rw [← hWG]; exact pw_below_drewN (Below.refl _ _) nq
          have EG : Aside0 (EW w WG (fun k => k = g3) Sa p1 T' Sb p2 U') := ⟨((EW.mono (G' := fun k => k = g3) (EZ.out.low hbG) (fun k hk => Or.inl hk))).swap⟩
          have BG := Aside0.mk (blk_below BF.out hbG)
          have MG : Aside0 (Mir T' U') := ⟨PF.out.2⟩
          have CG : Aside0 (CutOk T' ∧ CutOk U') := ⟨CF.out⟩
          rw [hWG]
          clear hWG hbG c0 z0 z1 b1 Q1 Q2 Q3 n0 n1
          go_upto_region 20 with fail
          refine start_ (n := 26) (S := fun w' => w'.cell? ⟨g3, 0, none⟩ = some (.pointer (some ⟨p1, 0, none⟩)) ∧ w'.cell? ⟨g3, 1, none⟩ = some (.pointer (some ⟨p2, 0, none⟩)) ∧ EW w w' (fun k => k = g3) Sa p1 T' Sb p2 U' ∧ w'.heap[g3]? = some (.cells #[.pointer (some ⟨p1, 0, none⟩), .pointer (some ⟨p2, 0, none⟩)] 52 (0, 0))) (ds := []) #[false, false, false, false, false, false, false, false, false, false, false, false, false, false, false, false, false, false, false, false, false, false, false, false, false, false] (by kernel_rfl) rfl rfl ⟨blk_cell (blk_below BG.out (below_drew (Below.refl _ _))) 0, blk_cell (blk_below BG.out (below_drew (Below.refl _ _))) 1, EG.out.low (below_drew (Below.refl _ _)), blk_below BG.out (below_drew (Below.refl _ _))⟩ (fun hHeld => ?_)
          refine pure_ (i := 0) (N := some 87) (v := ?_) (a' := ?_) #[true, false, false, false, false, false, false, false, false, false, false, false, false, false, false, false, false, false, false, false, false, false, false, false, false, false] rfl rfl (by kernel_rfl) (fun _ _ _ h => h) (Or.inl ⟨by rfl, ?_⟩) ?_ ?_
          rotate_left
          · intro w'
            go_simp
            with_reducible rfl
          rotate_left
          · simp only [Act.put, List.setIfInBounds_toArray, List.set_cons_zero, List.set_cons_succ, i64_w, i32_w]
            rfl
          refine pure_ (i := 3) (N := some 90) (v := ?_) (a' := ?_) #[true, false, false, true, false, false, false, false, false, false, false, false, false, false, false, false, false, false, false, false, false, false, false, false, false, false] rfl rfl (by kernel_rfl) (fun _ _ _ h => h) (Or.inl ⟨by rfl, ?_⟩) ?_ ?_
          rotate_left
          · intro w'
            go_simp
            with_reducible rfl
          rotate_left
          · simp only [Act.put, List.setIfInBounds_toArray, List.set_cons_zero, List.set_cons_succ, i64_w, i32_w]
            rfl
          refine take_ (i := 1) (N := some 88) (v := ?_) (a' := ?_) #[true, true, false, true, false, false, false, false, false, false, false, false, false, false, false, false, false, false, false, false, false, false, false, false, false, false] rfl rfl (by kernel_rfl) (fun _ _ _ h => h) (Or.inl ⟨by rfl, ?_⟩) hHeld ?_ ?_
          rotate_left
          · rintro w' ⟨s0, s1, s2, s3⟩
            go_simp
            with_reducible rfl
          rotate_left
          · simp only [Act.put, List.setIfInBounds_toArray, List.set_cons_zero, List.set_cons_succ, i64_w, i32_w]
            rfl
          refine take_ (i := 4) (N := some 91) (v := ?_) (a' := ?_) #[true, true, false, true, true, false, false, false, false, false, false, false, false, false, false, false, false, false, false, false, false, false, false, false, false, false] rfl rfl (by kernel_rfl) (fun _ _ _ h => h) (Or.inl ⟨by rfl, ?_⟩) hHeld ?_ ?_
          rotate_left
          · rintro w' ⟨s0, s1, s2, s3⟩
            go_simp
            with_reducible rfl
          rotate_left
          · simp only [Act.put, List.setIfInBounds_toArray, List.set_cons_zero, List.set_cons_succ, i64_w, i32_w]
            rfl
          refine one_ (i := 2) (N := some 89) #[true, true, true, true, true, false, false, false, false, false, false, false, false, false, false, false, false, false, false, false, false, false, false, false, false, false] rfl rfl (by kernel_rfl) (by decide) (fun K hK => ?_)
          refine goes_ Tryd.func15 (by kernel_rfl) rfl #[.pointer (some ⟨p1, 0, none⟩), .bool true] (by rfl) rfl rfl (by simp only [List.map_toArray, List.map_cons, List.map_nil]; rfl) ?_
          with_reducible refine (count_calls w.heap.size Sa p1 T' true _ hHeld.2.2.1.tw.a).mono ?_
          rintro e w21 ⟨iw21, rfl, hw21, hb⟩
          have H21 := Aside0.mk hw21
          clear hw21
          refine ⟨_, rfl, ?_⟩
          refine hK.out _ _ ⟨blk_cell (blk_below hHeld.2.2.2 hb) 0, blk_cell (blk_below hHeld.2.2.2 hb) 1, hHeld.2.2.1.low hb, blk_below hHeld.2.2.2 hb⟩ (fun hHeld => ?_)
          clear hK K
          refine norm_ (a' := ?_) ?_ ?_
          rotate_left
          · show Act.put _ (some 89) _ = _
            simp only [Act.put, List.setIfInBounds_toArray, List.set_cons_zero, List.set_cons_succ, i64_w, i32_w]
            rfl
          refine one_ (i := 5) (N := some 92) #[true, true, true, true, true, true, false, false, false, false, false, false, false, false, false, false, false, false, false, false, false, false, false, false, false, false] rfl rfl (by kernel_rfl) (by decide) (fun K hK => ?_)
          refine goes_ Tryd.func15 (by kernel_rfl) rfl #[.pointer (some ⟨p2, 0, none⟩), .bool false] (by rfl) rfl rfl (by simp only [List.map_toArray, List.map_cons, List.map_nil]; rfl) ?_
          with_reducible refine (count_calls w.heap.size Sb p2 U' false _ hHeld.2.2.1.tw.b).mono ?_
          rintro e w22 ⟨iw22, rfl, hw22, hb⟩
          have hq := MG.out.count true H21.out hw22
          rw [← hq]
          have e0 : ((iw21.length : Int) != (iw21.length : Int)) = false := by simp
          have e1 : ((iw21.length : Int) == (iw21.length : Int)) = true := by simp
          clear hq hw22
          refine ⟨_, rfl, ?_⟩
          refine hK.out _ _ ⟨blk_cell (blk_below hHeld.2.2.2 hb) 0, blk_cell (blk_below hHeld.2.2.2 hb) 1, hHeld.2.2.1.low hb, blk_below hHeld.2.2.2 hb⟩ (fun hHeld => ?_)
          clear hK K
          refine norm_ (a' := ?_) ?_ ?_
          rotate_left
          · show Act.put _ (some 92) _ = _
            simp only [Act.put, List.setIfInBounds_toArray, List.set_cons_zero, List.set_cons_succ, i64_w, i32_w]
            rfl
          refine pure_ (i := 6) (N := some 93) (v := ?_) (a' := ?_) #[true, true, true, true, true, true, true, false, false, false, false, false, false, false, false, false, false, false, false, false, false, false, false, false, false, false] rfl rfl (by kernel_rfl) (fun _ _ _ h => h) (Or.inl ⟨by rfl, ?_⟩) ?_ ?_
          rotate_left
          · intro w'
            go_simp
            with_reducible rfl
          rotate_left
          · simp only [Act.put, List.setIfInBounds_toArray, List.set_cons_zero, List.set_cons_succ, i64_w, i32_w]
            rfl
          refine pure_ (i := 7) (N := some 94) (v := ?_) (a' := ?_) #[true, true, true, true, true, true, true, true, false, false, false, false, false, false, false, false, false, false, false, false, false, false, false, false, false, false] rfl rfl (by kernel_rfl) (fun _ _ _ h => h) (Or.inl ⟨by rfl, ?_⟩) ?_ ?_
          rotate_left
          · intro w'
            go_simp
            with_reducible rfl
          rotate_left
          · simp only [Act.put, List.setIfInBounds_toArray, List.set_cons_zero, List.set_cons_succ, i64_w, i32_w]
            rfl
          refine pure_ (i := 8) (N := some 95) (v := ?_) (a' := ?_) #[true, true, true, true, true, true, true, true, true, false, false, false, false, false, false, false, false, false, false, false, false, false, false, false, false, false] rfl rfl (by kernel_rfl) (fun _ _ _ h => h) (Or.inl ⟨by rfl, ?_⟩) ?_ ?_
          rotate_left
          · intro w'
            go_simp
            with_reducible rfl
          rotate_left
          · simp only [Act.put, List.setIfInBounds_toArray, List.set_cons_zero, List.set_cons_succ, i64_w, i32_w]
            rfl
          refine pure_ (i := 11) (N := some 98) (v := ?_) (a' := ?_) #[true, true, true, true, true, true, true, true, true, false, false, true, false, false, false, false, false, false, false, false, false, false, false, false, false, false] rfl rfl (by kernel_rfl) (fun _ _ _ h => h) (Or.inl ⟨by rfl, ?_⟩) ?_ ?_
          rotate_left
          · intro w'
            go_simp
            with_reducible rfl
          rotate_left
          · simp only [Act.put, List.setIfInBounds_toArray, List.set_cons_zero, List.set_cons_succ, i64_w, i32_w]
            rfl
          refine take_ (i := 9) (N := some 96) (v := ?_) (a' := ?_) #[true, true, true, true, true, true, true, true, true, true, false, true, false, false, false, false, false, false, false, false, false, false, false, false, false, false] rfl rfl (by kernel_rfl) (fun _ _ _ h => h) (Or.inl ⟨by rfl, ?_⟩) hHeld ?_ ?_
          rotate_left
          · rintro w' ⟨s0, s1, s2, s3⟩
            go_simp
            with_reducible rfl
          rotate_left
          · simp only [Act.put, List.setIfInBounds_toArray, List.set_cons_zero, List.set_cons_succ, i64_w, i32_w]
            rfl
          refine take_ (i := 12) (N := some 99) (v := ?_) (a' := ?_) #[true, true, true, true, true, true, true, true, true, true, false, true, true, false, false, false, false, false, false, false, false, false, false, false, false, false] rfl rfl (by kernel_rfl) (fun _ _ _ h => h) (Or.inl ⟨by rfl, ?_⟩) hHeld ?_ ?_
          rotate_left
          · rintro w' ⟨s0, s1, s2, s3⟩
            go_simp
            with_reducible rfl
          rotate_left
          · simp only [Act.put, List.setIfInBounds_toArray, List.set_cons_zero, List.set_cons_succ, i64_w, i32_w]
            rfl
          refine one_ (i := 10) (N := some 97) #[true, true, true, true, true, true, true, true, true, true, true, true, true, false, false, false, false, false, false, false, false, false, false, false, false, false] rfl rfl (by kernel_rfl) (by decide) (fun K hK => ?_)
          refine goes_ Tryd.func15 (by kernel_rfl) rfl #[.pointer (some ⟨p1, 0, none⟩), .bool false] (by rfl) rfl rfl (by simp only [List.map_toArray, List.map_cons, List.map_nil]; rfl) ?_
          with_reducible refine (count_calls w.heap.size Sa p1 T' false _ hHeld.2.2.1.tw.a).mono ?_
          rintro e w23 ⟨iw23, rfl, hw23, hb⟩
          have H23 := Aside0.mk hw23
          clear hw23
          refine ⟨_, rfl, ?_⟩
          refine hK.out _ _ ⟨blk_cell (blk_below hHeld.2.2.2 hb) 0, blk_cell (blk_below hHeld.2.2.2 hb) 1, hHeld.2.2.1.low hb, blk_below hHeld.2.2.2 hb⟩ (fun hHeld => ?_)
          clear hK K
          refine norm_ (a' := ?_) ?_ ?_
          rotate_left
          · show Act.put _ (some 97) _ = _
            simp only [Act.put, List.setIfInBounds_toArray, List.set_cons_zero, List.set_cons_succ, i64_w, i32_w]
            rfl
          refine one_ (i := 13) (N := some 100) #[true, true, true, true, true, true, true, true, true, true, true, true, true, true, false, false, false, false, false, false, false, false, false, false, false, false] rfl rfl (by kernel_rfl) (by decide) (fun K hK => ?_)
          refine goes_ Tryd.func15 (by kernel_rfl) rfl #[.pointer (some ⟨p2, 0, none⟩), .bool true] (by rfl) rfl rfl (by simp only [List.map_toArray, List.map_cons, List.map_nil]; rfl) ?_
          with_reducible refine (count_calls w.heap.size Sb p2 U' true _ hHeld.2.2.1.tw.b).mono ?_
          rintro e w24 ⟨iw24, rfl, hw24, hb⟩
          have hq := MG.out.count false H23.out hw24
          rw [← hq]
          have e2 : ((iw23.length : Int) != (iw23.length : Int)) = false := by simp
          have e3 : ((iw23.length : Int) == (iw23.length : Int)) = true := by simp
          clear hq hw24
          refine ⟨_, rfl, ?_⟩
          refine hK.out _ _ ⟨blk_cell (blk_below hHeld.2.2.2 hb) 0, blk_cell (blk_below hHeld.2.2.2 hb) 1, hHeld.2.2.1.low hb, blk_below hHeld.2.2.2 hb⟩ (fun hHeld => ?_)
          clear hK K
          refine norm_ (a' := ?_) ?_ ?_
          rotate_left
          · show Act.put _ (some 100) _ = _
            simp only [Act.put, List.setIfInBounds_toArray, List.set_cons_zero, List.set_cons_succ, i64_w, i32_w]
            rfl
          refine pure_ (i := 14) (N := some 101) (v := ?_) (a' := ?_) #[true, true, true, true, true, true, true, true, true, true, true, true, true, true, true, false, false, false, false, false, false, false, false, false, false, false] rfl rfl (by kernel_rfl) (fun _ _ _ h => h) (Or.inl ⟨by rfl, ?_⟩) ?_ ?_
          rotate_left
          · intro w'
            go_simp
            with_reducible rfl
          rotate_left
          · simp only [Act.put, List.setIfInBounds_toArray, List.set_cons_zero, List.set_cons_succ, i64_w, i32_w]
            rfl
          refine pure_ (i := 15) (N := some 102) (v := ?_) (a' := ?_) #[true, true, true, true, true, true, true, true, true, true, true, true, true, true, true, true, false, false, false, false, false, false, false, false, false, false] rfl rfl (by kernel_rfl) (fun _ _ _ h => h) (Or.inl ⟨by rfl, ?_⟩) ?_ ?_
          rotate_left
          · intro w'
            go_simp
            with_reducible rfl
          rotate_left
          · simp only [Act.put, List.setIfInBounds_toArray, List.set_cons_zero, List.set_cons_succ, i64_w, i32_w]
            rfl
          refine pure_ (i := 16) (N := some 103) (v := ?_) (a' := ?_) #[true, true, true, true, true, true, true, true, true, true, true, true, true, true, true, true, true, false, false, false, false, false, false, false, false, false] rfl rfl (by kernel_rfl) (fun _ _ _ h => h) (Or.inl ⟨by rfl, ?_⟩) ?_ ?_
          rotate_left
          · intro w'
            go_simp
            with_reducible rfl
          rotate_left
          · simp only [Act.put, List.setIfInBounds_toArray, List.set_cons_zero, List.set_cons_succ, i64_w, i32_w]
            rfl
          refine pure_ (i := 17) (N := some 104) (v := ?_) (a' := ?_) #[true, true, true, true, true, true, true, true, true, true, true, true, true, true, true, true, true, true, false, false, false, false, false, false, false, false] rfl rfl (by kernel_rfl) (fun _ _ _ h => h) (Or.inl ⟨by rfl, ?_⟩) ?_ ?_
          rotate_left
          · intro w'
            go_simp
            with_reducible rfl
          rotate_left
          · simp only [Act.put, List.setIfInBounds_toArray, List.set_cons_zero, List.set_cons_succ, i64_w, i32_w]
            rfl
          refine pure_ (i := 20) (N := some 107) (v := ?_) (a' := ?_) #[true, true, true, true, true, true, true, true, true, true, true, true, true, true, true, true, true, true, false, false, true, false, false, false, false, false] rfl rfl (by kernel_rfl) (fun _ _ _ h => h) (Or.inl ⟨by rfl, ?_⟩) ?_ ?_
          rotate_left
          · intro w'
            go_simp
            with_reducible rfl
          rotate_left
          · simp only [Act.put, List.setIfInBounds_toArray, List.set_cons_zero, List.set_cons_succ, i64_w, i32_w]
            rfl
          refine take_ (i := 18) (N := some 105) (v := ?_) (a' := ?_) #[true, true, true, true, true, true, true, true, true, true, true, true, true, true, true, true, true, true, true, false, true, false, false, false, false, false] rfl rfl (by kernel_rfl) (fun _ _ _ h => h) (Or.inl ⟨by rfl, ?_⟩) hHeld ?_ ?_
          rotate_left
          · rintro w' ⟨s0, s1, s2, s3⟩
            go_simp
            with_reducible rfl
          rotate_left
          · simp only [Act.put, List.setIfInBounds_toArray, List.set_cons_zero, List.set_cons_succ, i64_w, i32_w]
            rfl
          refine take_ (i := 21) (N := some 108) (v := ?_) (a' := ?_) #[true, true, true, true, true, true, true, true, true, true, true, true, true, true, true, true, true, true, true, false, true, true, false, false, false, false] rfl rfl (by kernel_rfl) (fun _ _ _ h => h) (Or.inl ⟨by rfl, ?_⟩) hHeld ?_ ?_
          rotate_left
          · rintro w' ⟨s0, s1, s2, s3⟩
            go_simp
            with_reducible rfl
          rotate_left
          · simp only [Act.put, List.setIfInBounds_toArray, List.set_cons_zero, List.set_cons_succ, i64_w, i32_w]
            rfl
          refine one_ (i := 19) (N := some 106) #[true, true, true, true, true, true, true, true, true, true, true, true, true, true, true, true, true, true, true, true, true, true, false, false, false, false] rfl rfl (by kernel_rfl) (by decide) (fun K hK => ?_)
          refine goes_ Tryd.func20 (by kernel_rfl) rfl #[.pointer (some ⟨p1, 0, none⟩)] (by rfl) rfl rfl (by simp only [List.map_toArray, List.map_cons, List.map_nil]; rfl) ?_
          with_reducible refine (live_calls w.heap.size Sa p1 T' _ hHeld.2.2.1.tw.a).mono ?_
          rintro e w25 ⟨vw25, iw25, rfl, rw25, hw25, hb⟩
          refine ⟨_, rfl, ?_⟩
          obtain ⟨Al, cl, rfl, hcl, hCl⟩ := R_slice_int rw25
          have H25 := Aside0.mk hw25
          have HCL := Aside0.mk hCl
          have HLL := Aside0.mk hcl
          clear rw25 hw25 hCl hcl
          refine hK.out _ _ ⟨blk_cell (blk_below hHeld.2.2.2 hb) 0, blk_cell (blk_below hHeld.2.2.2 hb) 1, hHeld.2.2.1.low hb, blk_below hHeld.2.2.2 hb⟩ (fun hHeld => ?_)
          clear hK K
          refine norm_ (a' := ?_) ?_ ?_
          rotate_left
          · show Act.put _ (some 106) _ = _
            simp only [Act.put, List.setIfInBounds_toArray, List.set_cons_zero, List.set_cons_succ, i64_w, i32_w]
            rfl
          refine one_ (i := 22) (N := some 109) #[true, true, true, true, true, true, true, true, true, true, true, true, true, true, true, true, true, true, true, true, true, true, true, false, false, false] rfl rfl (by kernel_rfl) (by decide) (fun K hK => ?_)
          refine goes_ Tryd.func20 (by kernel_rfl) rfl #[.pointer (some ⟨p2, 0, none⟩)] (by rfl) rfl rfl (by simp only [List.map_toArray, List.map_cons, List.map_nil]; rfl) ?_
          with_reducible refine (live_calls w.heap.size Sb p2 U' _ hHeld.2.2.1.tw.b).mono ?_
          rintro e w26 ⟨vw26, iw26, rfl, rw26, hw26, hb⟩
          refine ⟨_, rfl, ?_⟩
          obtain rfl := MG.out.live H25.out hw26
          obtain ⟨Am, cm, rfl, hcl, hCl⟩ := R_slice_int rw26
          have HCM := Aside0.mk hCl
          have HLM := Aside0.mk hcl
          have HCL2 := Aside0.mk (Kd.C_below HCL.out hb)
          clear rw26 hw26 hCl hcl
          refine hK.out _ _ ⟨blk_cell (blk_below hHeld.2.2.2 hb) 0, blk_cell (blk_below hHeld.2.2.2 hb) 1, hHeld.2.2.1.low hb, blk_below hHeld.2.2.2 hb⟩ (fun hHeld => ?_)
          clear hK K
          refine norm_ (a' := ?_) ?_ ?_
          rotate_left
          · show Act.put _ (some 109) _ = _
            simp only [Act.put, List.setIfInBounds_toArray, List.set_cons_zero, List.set_cons_succ, i64_w, i32_w]
            rfl
          refine one_ (i := 23) (N := some 110) #[true, true, true, true, true, true, true, true, true, true, true, true, true, true, true, true, true, true, true, true, true, true, true, true, false, false] rfl rfl (by kernel_rfl) (by decide) (fun K hK => ?_)
          refine goes_ Tryd.func19 (by kernel_rfl) rfl #[.slice Al iw25.length cl, .slice Am iw25.length cm] (by rfl) rfl rfl (by simp only [List.map_toArray, List.map_cons, List.map_nil]; rfl) ?_
          with_reducible refine (same_calls Al Am cl cm iw25 _ HCL2.out HLL.out HCM.out HLM.out).mono ?_
          rintro e w27 ⟨rfl, hd⟩
          refine ⟨_, rfl, ?_⟩
          have hb := drawn_below hd
          have EH := Aside0.mk (hHeld.2.2.1.low hb)
          have BH := Aside0.mk (blk_below hHeld.2.2.2 hb)
          refine hK.out _ _ ⟨blk_cell (blk_below hHeld.2.2.2 hb) 0, blk_cell (blk_below hHeld.2.2.2 hb) 1, hHeld.2.2.1.low hb, blk_below hHeld.2.2.2 hb⟩ (fun hHeld => ?_)
          clear hK K
          refine norm_ (a' := ?_) ?_ ?_
          rotate_left
          · show Act.put _ (some 110) _ = _
            simp only [Act.put, List.setIfInBounds_toArray, List.set_cons_zero, List.set_cons_succ, i64_w, i32_w]
            rfl
          refine pure_ (i := 24) (N := some 111) (v := ?_) (a' := ?_) #[true, true, true, true, true, true, true, true, true, true, true, true, true, true, true, true, true, true, true, true, true, true, true, true, true, false] rfl rfl (by kernel_rfl) (fun _ _ _ h => h) (Or.inl ⟨by rfl, ?_⟩) ?_ ?_
          rotate_left
          · intro w'
            go_simp
            with_reducible rfl
          rotate_left
          · simp only [Act.put, List.setIfInBounds_toArray, List.set_cons_zero, List.set_cons_succ, i64_w, i32_w]
            rfl
          refine pure_ (i := 25) (N := some 112) (v := ?_) (a' := ?_) #[true, true, true, true, true, true, true, true, true, true, true, true, true, true, true, true, true, true, true, true, true, true, true, true, true, true] rfl rfl (by kernel_rfl) (fun _ _ _ h => h) (Or.inl ⟨by rfl, ?_⟩) ?_ ?_
          rotate_left
          · intro w'
            go_simp
            with_reducible rfl
          rotate_left
          · simp only [Act.put, List.setIfInBounds_toArray, List.set_cons_zero, List.set_cons_succ, i64_w, i32_w]
            rfl
          refine done_ (by kernel_rfl) ?_

          go_wp2_with fail
          go_roundw
          case rel => exact ⟨k + 1, Sa, T', Sb, U', congrArg (Value.int .i64) hw1, ⟨by have := HKM.out; omega⟩, EH, ⟨MG.out, CG.out.1, CG.out.2⟩, BH⟩
          case measure =>
            rw [hw1]
            show ((l.length : Int) - ((k + 1 : Nat) : Int)).toNat < ((l.length : Int) - (k : Int)).toNat
            have := HKM.out
            omega
      · go_upto_region 13 with fail
        clear b0
        have EA : Aside0 (EW w W4 (fun k => k = g3 ∨ k = gx) S2 p2 U S1 p1 T) := ⟨E4.out.swap⟩
        obtain ⟨MI, CA, CB⟩ : Mir U T ∧ CutOk U ∧ CutOk T := ⟨PM.out.1.swap, PM.out.2.2, PM.out.2.1⟩
        have MI := Aside0.mk MI
        have CA := Aside0.mk CA
        have CB := Aside0.mk CB
        clear E4 PM
        obtain ⟨⟨⟨va, vb⟩, T'⟩, hact⟩ : ∃ R, U.act sid false sk = R := ⟨_, rfl⟩
        have HA := Aside0.mk hact
        clear hact
        refine start_ (n := 11) (S := fun w' => w'.cell? ⟨g3, 1, none⟩ = some (.pointer (some ⟨p2, 0, none⟩)) ∧ w'.cell? ⟨gx, 1, none⟩ = some (.int .i64 sid) ∧ w'.cell? ⟨gx, 3, none⟩ = some (.int .i64 sk)) (ds := [10]) #[false, false, false, false, false, false, false, false, false, false, false] (by kernel_rfl) rfl rfl ⟨blk_cell (blk_below B4.out (below_drew (Below.refl _ _))) 1, blk_cell (blk_below X4.out (below_drew (Below.refl _ _))) 1, blk_cell (blk_below X4.out (below_drew (Below.refl _ _))) 3⟩ (fun hHeld => ?_)
        refine pure_ (i := 0) (N := some 37) (v := ?_) (a' := ?_) #[true, false, false, false, false, false, false, false, false, false, false] rfl rfl (by kernel_rfl) (fun _ _ _ h => h) (Or.inl ⟨by rfl, ?_⟩) ?_ ?_
        rotate_left
        · intro w'
          go_simp
          with_reducible rfl
        rotate_left
        · simp only [Act.put, List.setIfInBounds_toArray, List.set_cons_zero, List.set_cons_succ, i64_w, i32_w]
          rfl
        refine pure_ (i := 1) (N := some 38) (v := ?_) (a' := ?_) #[true, true, false, false, false, false, false, false, false, false, false] rfl rfl (by kernel_rfl) (fun _ _ _ h => h) (Or.inl ⟨by rfl, ?_⟩) ?_ ?_
        rotate_left
        · intro w'
          go_simp
          with_reducible rfl
        rotate_left
        · simp only [Act.put, List.setIfInBounds_toArray, List.set_cons_zero, List.set_cons_succ, i64_w, i32_w]
          rfl
        refine pure_ (i := 3) (N := some 40) (v := ?_) (a' := ?_) #[true, true, false, true, false, false, false, false, false, false, false] rfl rfl (by kernel_rfl) (fun _ _ _ h => h) (Or.inl ⟨by rfl, ?_⟩) ?_ ?_
        rotate_left
        · intro w'
          go_simp
          with_reducible rfl
        rotate_left
        · simp only [Act.put, List.setIfInBounds_toArray, List.set_cons_zero, List.set_cons_succ, i64_w, i32_w]
          rfl
        refine pure_ (i := 5) (N := some 42) (v := ?_) (a' := ?_) #[true, true, false, true, false, true, false, false, false, false, false] rfl rfl (by kernel_rfl) (fun _ _ _ h => h) (Or.inl ⟨by rfl, ?_⟩) ?_ ?_
        rotate_left
        · intro w'
          go_simp
          with_reducible rfl
        rotate_left
        · simp only [Act.put, List.setIfInBounds_toArray, List.set_cons_zero, List.set_cons_succ, i64_w, i32_w]
          rfl
        refine take_ (i := 2) (N := some 39) (v := ?_) (a' := ?_) #[true, true, true, true, false, true, false, false, false, false, false] rfl rfl (by kernel_rfl) (fun _ _ _ h => h) (Or.inl ⟨by rfl, ?_⟩) hHeld ?_ ?_
        rotate_left
        · rintro w' ⟨s0, s1, s2⟩
          go_simp
          with_reducible rfl
        rotate_left
        · simp only [Act.put, List.setIfInBounds_toArray, List.set_cons_zero, List.set_cons_succ, i64_w, i32_w]
          rfl
        refine take_ (i := 4) (N := some 41) (v := ?_) (a' := ?_) #[true, true, true, true, true, true, false, false, false, false, false] rfl rfl (by kernel_rfl) (fun _ _ _ h => h) (Or.inl ⟨by rfl, ?_⟩) hHeld ?_ ?_
        rotate_left
        · rintro w' ⟨s0, s1, s2⟩
          go_simp
          with_reducible rfl
        rotate_left
        · simp only [Act.put, List.setIfInBounds_toArray, List.set_cons_zero, List.set_cons_succ, i64_w, i32_w]
          rfl
        refine take_ (i := 6) (N := some 43) (v := ?_) (a' := ?_) #[true, true, true, true, true, true, true, false, false, false, false] rfl rfl (by kernel_rfl) (fun _ _ _ h => h) (Or.inl ⟨by rfl, ?_⟩) hHeld ?_ ?_
        rotate_left
        · rintro w' ⟨s0, s1, s2⟩
          go_simp
          with_reducible rfl
        rotate_left
        · simp only [Act.put, List.setIfInBounds_toArray, List.set_cons_zero, List.set_cons_succ, i64_w, i32_w]
          rfl
        refine pure_ (i := 7) (N := some 44) (v := ?_) (a' := ?_) #[true, true, true, true, true, true, true, true, false, false, false] rfl rfl (by kernel_rfl) (fun _ _ _ h => h) (Or.inl ⟨by rfl, ?_⟩) ?_ ?_
        rotate_left
        · intro w'
          go_simp
          with_reducible rfl
        rotate_left
        · simp only [Act.put, List.setIfInBounds_toArray, List.set_cons_zero, List.set_cons_succ, i64_w, i32_w]
          rfl
        refine join_ (σ := Nat) 1 #[true, true, true, true, true, true, true, true, true, true, false] (fun s => [(45, .agg #[.int .i64 va, .int .i64 vb]), (7, .pointer (some ⟨s, 0, none⟩))]) (fun s w' => (∃ S', EW w w' (fun k => (k = g3 ∨ k = gx) ∨ k = s) S' p2 T' S1 p1 T) ∧ w'.heap[s]? = some (.cells #[.int .i64 0, .int .i64 0] 53 (0, 0)) ∧ w'.heap[g3]? = some (.cells #[.pointer (some ⟨p1, 0, none⟩), .pointer (some ⟨p2, 0, none⟩)] 52 (0, 0)) ∧ w'.heap[gx]? = some (.cells #[.bool true, .int .i64 sid, .bool sgot, .int .i64 sk] 30 (0, 0)) ∧ w'.cell? ⟨g3, 1, none⟩ = some (.pointer (some ⟨p2, 0, none⟩)) ∧ w'.cell? ⟨gx, 1, none⟩ = some (.int .i64 sid) ∧ w'.cell? ⟨gx, 3, none⟩ = some (.int .i64 sk)) ?_ ?_
        rotate_left
        · intro hCont
          refine two_ (i := 8) (j := 9) (Ni := some 45) (Nj := some 7) #[true, true, true, true, true, true, true, true, true, false, false] #[true, true, true, true, true, true, true, true, false, true, false] rfl rfl rfl rfl (by kernel_rfl) (by decide) (by decide) (fun K hK => ?_) (fun K hK => ?_)
          · skip
            have E0_ := Aside0.mk (EA.out.low (below_drew (Below.refl _ _)))
            have B0_ := Aside0.mk (blk_below B4.out (below_drew (Below.refl _ _)))
            have X0_ := Aside0.mk (blk_below X4.out (below_drew (Below.refl _ _)))
            refine goes_ Tryd.func27 (by kernel_rfl) rfl #[.pointer (some ⟨p2, 0, none⟩), .int .i64 sid, .agg #[.bool false, .int .i64 sk]] (by rfl) rfl rfl (by simp only [List.map_toArray, List.map_cons, List.map_nil]; rfl) ?_
            with_reducible refine (do_calls w.heap.size S2 p2 U sid false sk _ E0_.out.tw.a (HG.out.below E0_.out.be) HW.out).mono ?_
            rintro e w5 ⟨rfl, hP⟩
            rw [HA.out] at hP ⊢
            refine ⟨_, rfl, ?_⟩
            obtain ⟨Sa, hE, hk⟩ := EW.act E0_.out hP
            have E2_ := Aside0.mk hE
            have B2_ := Aside0.mk (hk g3 _ (Or.inl rfl) B0_.out)
            have X2_ := Aside0.mk (hk gx _ (Or.inr rfl) X0_.out)
            clear hE hk hP
            refine hK.out _ _ ⟨blk_cell B2_.out 1, blk_cell X2_.out 1, blk_cell X2_.out 3⟩ (fun hHeld => ?_)
            clear hK K
            refine norm_ (a' := ?_) ?_ ?_
            rotate_left
            · show Act.put _ (some 45) _ = _
              simp only [Act.put, List.setIfInBounds_toArray, List.set_cons_zero, List.set_cons_succ, i64_w, i32_w]
              rfl
            refine one_ (i := 9) (N := some 7) #[true, true, true, true, true, true, true, true, true, true, false] rfl rfl (by kernel_rfl) (by decide) (fun K hK => ?_)
            refine value_ (w1 := ?_) (v := ?_) (by rfl) rfl ?_ ?_
            rotate_left 2
            · go_simp
              constructor
              · rfl
              · rfl
            have E3_ := Aside0.mk (EW.add E2_.out (.cells #[.int .i64 0, .int .i64 0] 53) (rfl : w5.heap.size = w5.heap.size))
            have B3_ := Aside0.mk (blk_below B2_.out (below_alloc (Below.refl _ _) (.cells #[.int .i64 0, .int .i64 0] 53)))
            have X3_ := Aside0.mk (blk_below X2_.out (below_alloc (Below.refl _ _) (.cells #[.int .i64 0, .int .i64 0] 53)))
            have V3_ : Aside0 ((w5.alloc (.cells #[.int .i64 0, .int .i64 0] 53)).heap[w5.heap.size]? = some (.cells #[.int .i64 0, .int .i64 0] 53 (0, 0))) := ⟨blk_new w5 (.cells #[.int .i64 0, .int .i64 0] 53)⟩
            refine hK.out _ _ ⟨blk_cell B3_.out 1, blk_cell X3_.out 1, blk_cell X3_.out 3⟩ (fun hHeld => ?_)
            clear hK K
            refine norm_ (a' := ?_) ?_ ?_
            rotate_left
            · show Act.put _ (some 7) _ = _
              simp only [Act.put, List.setIfInBounds_toArray, List.set_cons_zero, List.set_cons_succ, i64_w, i32_w]
              rfl
            exact norm_ (by simp only [putAll, Act.put, List.setIfInBounds_toArray, List.set_cons_zero, List.set_cons_succ]) (hCont w5.heap.size _ ⟨⟨Sa, E3_.out⟩, V3_.out, B3_.out, X3_.out, hHeld⟩)
          · skip
            refine value_ (w1 := ?_) (v := ?_) (by rfl) rfl ?_ ?_
            rotate_left 2
            · go_simp
              constructor
              · rfl
              · rfl
            have E1_ := Aside0.mk ((EW.add EA.out (.cells #[.int .i64 0, .int .i64 0] 53) (rfl : W4.heap.size = W4.heap.size)).low (below_drew (Below.refl _ _)))
            have B1_ := Aside0.mk (blk_below (blk_below B4.out (below_alloc (Below.refl _ _) (.cells #[.int .i64 0, .int .i64 0] 53))) (below_drew (Below.refl _ _)))
            have X1_ := Aside0.mk (blk_below (blk_below X4.out (below_alloc (Below.refl _ _) (.cells #[.int .i64 0, .int .i64 0] 53))) (below_drew (Below.refl _ _)))
            have V1_ : Aside0 ((W4.alloc (.cells #[.int .i64 0, .int .i64 0] 53)).drew.heap[W4.heap.size]? = some (.cells #[.int .i64 0, .int .i64 0] 53 (0, 0))) := ⟨blk_new W4 (.cells #[.int .i64 0, .int .i64 0] 53)⟩
            refine hK.out _ _ ⟨blk_cell B1_.out 1, blk_cell X1_.out 1, blk_cell X1_.out 3⟩ (fun hHeld => ?_)
            clear hK K
            refine norm_ (a' := ?_) ?_ ?_
            rotate_left
            · show Act.put _ (some 7) _ = _
              simp only [Act.put, List.setIfInBounds_toArray, List.set_cons_zero, List.set_cons_succ, i64_w, i32_w]
              rfl
            refine one_ (i := 8) (N := some 45) #[true, true, true, true, true, true, true, true, true, true, false] rfl rfl (by kernel_rfl) (by decide) (fun K hK => ?_)
            refine goes_ Tryd.func27 (by kernel_rfl) rfl #[.pointer (some ⟨p2, 0, none⟩), .int .i64 sid, .agg #[.bool false, .int .i64 sk]] (by rfl) rfl rfl (by simp only [List.map_toArray, List.map_cons, List.map_nil]; rfl) ?_
            with_reducible refine (do_calls w.heap.size S2 p2 U sid false sk _ E1_.out.tw.a (HG.out.below E1_.out.be) HW.out).mono ?_
            rintro e w5 ⟨rfl, hP⟩
            rw [HA.out] at hP ⊢
            refine ⟨_, rfl, ?_⟩
            obtain ⟨Sa, hE, hk⟩ := EW.act E1_.out hP
            have E2_ := Aside0.mk hE
            have B2_ := Aside0.mk (hk g3 _ (Or.inl (Or.inl rfl)) B1_.out)
            have X2_ := Aside0.mk (hk gx _ (Or.inl (Or.inr rfl)) X1_.out)
            have V2_ := Aside0.mk (hk _ _ (Or.inr rfl) V1_.out)
            clear hE hk hP
            refine hK.out _ _ ⟨blk_cell B2_.out 1, blk_cell X2_.out 1, blk_cell X2_.out 3⟩ (fun hHeld => ?_)
            clear hK K
            refine norm_ (a' := ?_) ?_ ?_
            rotate_left
            · show Act.put _ (some 45) _ = _
              simp only [Act.put, List.setIfInBounds_toArray, List.set_cons_zero, List.set_cons_succ, i64_w, i32_w]
              rfl
            exact norm_ (by simp only [putAll, Act.put, List.setIfInBounds_toArray, List.set_cons_zero, List.set_cons_succ]) (hCont W4.heap.size _ ⟨⟨Sa, E2_.out⟩, V2_.out, B2_.out, X2_.out, hHeld⟩)
        rintro g7 w9_ ⟨⟨Sa, hE⟩, hV, hB, hX, hHeld⟩
        have E4_ := Aside0.mk hE
        have V4_ := Aside0.mk hV
        have B4_ := Aside0.mk hB
        have X4_ := Aside0.mk hX
        clear hE hV hB hX
        refine norm_ (a' := ?_) ?_ ?_
        rotate_left
        · simp only [putAll, Act.put, List.setIfInBounds_toArray, List.set_cons_zero, List.set_cons_succ]
          rfl
        refine last_ (i := 10) (N := none) #[true, true, true, true, true, true, true, true, true, true, true] rfl rfl (by kernel_rfl) (by decide) (fun K hK => ?_)
        refine skip_row 53 _ _ rfl (by rfl) rfl g7 #[.int .i64 va, .int .i64 vb] rfl rfl 53 _ V4_.out (by kernel_rfl) (by kernel_rfl) (by kernel_rfl) ?_
        obtain ⟨W8, e8, q4, qo, qb⟩ := row_store _ g7 #[.int .i64 va, .int .i64 vb] 53 _ V4_.out
        rw [e8]
        have E8 := Aside0.mk (EW.put E4_.out (Or.inr rfl) qo qb)
        have V8 := Aside0.mk q4
        have B8 := Aside0.mk ((qo g3 (blk_ne2 B4_.out V4_.out (by decide))).trans B4_.out)
        have X8 := Aside0.mk ((qo gx (blk_ne2 X4_.out V4_.out (by decide))).trans X4_.out)
        clear e8 q4 qo qb E4_ V4_ B4_ X4_
        refine hK.out _ _ ?_
        clear hK K
        refine done_ (by kernel_rfl) ?_

        have c0 : W8.cell? ⟨g7, 0, none⟩ = some (.int .i64 va) := blk_cell V8.out 0
        have E8' := Aside0.mk (EW.mono (G' := fun k => k = g3 ∨ k = gx) E8.out (fun k hk => Or.inl hk))
        by_cases hv : va ≠ 0
        · have v0 : (va == 0) = false := beq_eq_false_iff_ne.mpr hv
          have v1 : (va != 0) = true := by simp [hv]
          have hv4 : va = 4 := by have h := act_kind EA.out.tw.a.ok sid sk; rw [HA.out] at h; exact h.resolve_left hv
          have hT : T' = U := by have h := act_same (T := U) sid false sk (by rw [HA.out]; exact hv); rw [HA.out] at h; exact h
          subst hT
          subst hv4
          clear hv v0 v1
          go_wp2_with fail
          go_roundw
          case rel => exact ⟨k + 1, S1, T, Sa, _, congrArg (Value.int .i64) hw1, ⟨by have := HKM.out; omega⟩, ⟨(EW.mono (G' := fun k => k = g3) E8'.out (fun k hk => Or.inl hk)).swap⟩, ⟨MI.out.swap, CB.out, CA.out⟩, B8⟩
          case measure =>
            rw [hw1]
            show ((l.length : Int) - ((k + 1 : Nat) : Int)).toNat < ((l.length : Int) - (k : Int)).toNat
            have := HKM.out
            omega
        have hv := Classical.not_not.mp hv
        subst hv
        have PF := Aside0.mk (pair_act MI.out EA.out.tw.a.ok EA.out.tw.b.ok CA.out CB.out sid sk (by rw [HA.out]))
        have CF : Aside0 (CutOk T' ∧ CutOk (T.act sid true sk).2) := ⟨by have h := CA.out.act EA.out.tw.a.ok sid false sk; rw [HA.out] at h; exact ⟨h, CB.out.act EA.out.tw.b.ok sid true sk⟩⟩
        rw [HA.out] at PF
        obtain ⟨⟨⟨wa, wb⟩, U'⟩, hact⟩ : ∃ R, T.act sid true sk = R := ⟨_, rfl⟩
        have HB := Aside0.mk hact
        rw [hact] at PF CF
        clear hact
        go_upto_region 17 with fail
        clear c0 E8 V8
        have hwa1 : wrap64 1 = 1 := by unfold wrap64; omega
        have hwa0 : wrap64 0 = 0 := by unfold wrap64; omega
        have EB := Aside0.mk (E8'.out.swap)
        clear E8'
        refine start_ (n := 12) (S := fun w' => w'.cell? ⟨g3, 0, none⟩ = some (.pointer (some ⟨p1, 0, none⟩)) ∧ w'.cell? ⟨gx, 1, none⟩ = some (.int .i64 sid) ∧ w'.cell? ⟨gx, 3, none⟩ = some (.int .i64 sk)) (ds := [11]) #[false, false, false, false, false, false, false, false, false, false, false, false] (by kernel_rfl) rfl rfl ⟨blk_cell (blk_below B8.out (below_drew (Below.refl _ _))) 0, blk_cell (blk_below X8.out (below_drew (Below.refl _ _))) 1, blk_cell (blk_below X8.out (below_drew (Below.refl _ _))) 3⟩ (fun hHeld => ?_)
        refine pure_ (i := 0) (N := some 52) (v := ?_) (a' := ?_) #[true, false, false, false, false, false, false, false, false, false, false, false] rfl rfl (by kernel_rfl) (fun _ _ _ h => h) (Or.inl ⟨by rfl, ?_⟩) ?_ ?_
        rotate_left
        · intro w'
          go_simp
          with_reducible rfl
        rotate_left
        · simp only [Act.put, List.setIfInBounds_toArray, List.set_cons_zero, List.set_cons_succ, i64_w, i32_w]
          rfl
        refine pure_ (i := 1) (N := some 53) (v := ?_) (a' := ?_) #[true, true, false, false, false, false, false, false, false, false, false, false] rfl rfl (by kernel_rfl) (fun _ _ _ h => h) (Or.inl ⟨by rfl, ?_⟩) ?_ ?_
        rotate_left
        · intro w'
          go_simp
          with_reducible rfl
        rotate_left
        · simp only [Act.put, List.setIfInBounds_toArray, List.set_cons_zero, List.set_cons_succ, i64_w, i32_w]
          rfl
        refine pure_ (i := 2) (N := some 54) (v := ?_) (a' := ?_) #[true, true, true, false, false, false, false, false, false, false, false, false] rfl rfl (by kernel_rfl) (fun _ _ _ h => h) (Or.inl ⟨by rfl, ?_⟩) ?_ ?_
        rotate_left
        · intro w'
          go_simp
          with_reducible rfl
        rotate_left
        · simp only [Act.put, List.setIfInBounds_toArray, List.set_cons_zero, List.set_cons_succ, i64_w, i32_w]
          rfl
        refine pure_ (i := 4) (N := some 56) (v := ?_) (a' := ?_) #[true, true, true, false, true, false, false, false, false, false, false, false] rfl rfl (by kernel_rfl) (fun _ _ _ h => h) (Or.inl ⟨by rfl, ?_⟩) ?_ ?_
        rotate_left
        · intro w'
          go_simp
          with_reducible rfl
        rotate_left
        · simp only [Act.put, List.setIfInBounds_toArray, List.set_cons_zero, List.set_cons_succ, i64_w, i32_w]
          rfl
        refine pure_ (i := 6) (N := some 58) (v := ?_) (a' := ?_) #[true, true, true, false, true, false, true, false, false, false, false, false] rfl rfl (by kernel_rfl) (fun _ _ _ h => h) (Or.inl ⟨by rfl, ?_⟩) ?_ ?_
        rotate_left
        · intro w'
          go_simp
          with_reducible rfl
        rotate_left
        · simp only [Act.put, List.setIfInBounds_toArray, List.set_cons_zero, List.set_cons_succ, i64_w, i32_w]
          rfl
        refine take_ (i := 3) (N := some 55) (v := ?_) (a' := ?_) #[true, true, true, true, true, false, true, false, false, false, false, false] rfl rfl (by kernel_rfl) (fun _ _ _ h => h) (Or.inl ⟨by rfl, ?_⟩) hHeld ?_ ?_
        rotate_left
        · rintro w' ⟨s0, s1, s2⟩
          go_simp
          with_reducible rfl
        rotate_left
        · simp only [Act.put, List.setIfInBounds_toArray, List.set_cons_zero, List.set_cons_succ, i64_w, i32_w]
          rfl
        refine take_ (i := 5) (N := some 57) (v := ?_) (a' := ?_) #[true, true, true, true, true, true, true, false, false, false, false, false] rfl rfl (by kernel_rfl) (fun _ _ _ h => h) (Or.inl ⟨by rfl, ?_⟩) hHeld ?_ ?_
        rotate_left
        · rintro w' ⟨s0, s1, s2⟩
          go_simp
          with_reducible rfl
        rotate_left
        · simp only [Act.put, List.setIfInBounds_toArray, List.set_cons_zero, List.set_cons_succ, i64_w, i32_w]
          rfl
        refine take_ (i := 7) (N := some 59) (v := ?_) (a' := ?_) #[true, true, true, true, true, true, true, true, false, false, false, false] rfl rfl (by kernel_rfl) (fun _ _ _ h => h) (Or.inl ⟨by rfl, ?_⟩) hHeld ?_ ?_
        rotate_left
        · rintro w' ⟨s0, s1, s2⟩
          go_simp
          with_reducible rfl
        rotate_left
        · simp only [Act.put, List.setIfInBounds_toArray, List.set_cons_zero, List.set_cons_succ, i64_w, i32_w]
          rfl
        refine pure_ (i := 8) (N := some 60) (v := ?_) (a' := ?_) #[true, true, true, true, true, true, true, true, true, false, false, false] rfl rfl (by kernel_rfl) (fun _ _ _ h => h) (Or.inl ⟨by rfl, ?_⟩) ?_ ?_
        rotate_left
        · intro w'
          go_simp
          with_reducible rfl
        rotate_left
        · simp only [Act.put, List.setIfInBounds_toArray, List.set_cons_zero, List.set_cons_succ, i64_w, i32_w]
          rfl
        refine join_ (σ := Nat) 1 #[true, true, true, true, true, true, true, true, true, true, true, false] (fun s => [(61, .agg #[.int .i64 wa, .int .i64 wb]), (8, .pointer (some ⟨s, 0, none⟩))]) (fun s w' => (∃ S', EW w w' (fun k => (k = g3 ∨ k = gx) ∨ k = s) S' p1 U' Sa p2 T') ∧ w'.heap[s]? = some (.cells #[.int .i64 0, .int .i64 0] 53 (0, 0)) ∧ w'.heap[g3]? = some (.cells #[.pointer (some ⟨p1, 0, none⟩), .pointer (some ⟨p2, 0, none⟩)] 52 (0, 0)) ∧ w'.heap[gx]? = some (.cells #[.bool true, .int .i64 sid, .bool sgot, .int .i64 sk] 30 (0, 0)) ∧ w'.cell? ⟨g3, 0, none⟩ = some (.pointer (some ⟨p1, 0, none⟩)) ∧ w'.cell? ⟨gx, 1, none⟩ = some (.int .i64 sid) ∧ w'.cell? ⟨gx, 3, none⟩ = some (.int .i64 sk)) ?_ ?_
        rotate_left
        · intro hCont
          refine two_ (i := 9) (j := 10) (Ni := some 61) (Nj := some 8) #[true, true, true, true, true, true, true, true, true, true, false, false] #[true, true, true, true, true, true, true, true, true, false, true, false] rfl rfl rfl rfl (by kernel_rfl) (by decide) (by decide) (fun K hK => ?_) (fun K hK => ?_)
          · skip
            have E0_ := Aside0.mk (EB.out.low (below_drew (Below.refl _ _)))
            have B0_ := Aside0.mk (blk_below B8.out (below_drew (Below.refl _ _)))
            have X0_ := Aside0.mk (blk_below X8.out (below_drew (Below.refl _ _)))
            refine goes_ Tryd.func27 (by kernel_rfl) rfl #[.pointer (some ⟨p1, 0, none⟩), .int .i64 sid, .agg #[.bool true, .int .i64 sk]] (by rfl) rfl rfl (by simp only [List.map_toArray, List.map_cons, List.map_nil]; rfl) ?_
            with_reducible refine (do_calls w.heap.size S1 p1 T sid true sk _ E0_.out.tw.a (HG.out.below E0_.out.be) HW.out).mono ?_
            rintro e w9 ⟨rfl, hP⟩
            rw [HB.out] at hP ⊢
            refine ⟨_, rfl, ?_⟩
            obtain ⟨Sb, hE, hk⟩ := EW.act E0_.out hP
            have E2_ := Aside0.mk hE
            have B2_ := Aside0.mk (hk g3 _ (Or.inl rfl) B0_.out)
            have X2_ := Aside0.mk (hk gx _ (Or.inr rfl) X0_.out)
            clear hE hk hP
            refine hK.out _ _ ⟨blk_cell B2_.out 0, blk_cell X2_.out 1, blk_cell X2_.out 3⟩ (fun hHeld => ?_)
            clear hK K
            refine norm_ (a' := ?_) ?_ ?_
            rotate_left
            · show Act.put _ (some 61) _ = _
              simp only [Act.put, List.setIfInBounds_toArray, List.set_cons_zero, List.set_cons_succ, i64_w, i32_w]
              rfl
            refine one_ (i := 10) (N := some 8) #[true, true, true, true, true, true, true, true, true, true, true, false] rfl rfl (by kernel_rfl) (by decide) (fun K hK => ?_)
            refine value_ (w1 := ?_) (v := ?_) (by rfl) rfl ?_ ?_
            rotate_left 2
            · go_simp
              constructor
              · rfl
              · rfl
            have E3_ := Aside0.mk (EW.add E2_.out (.cells #[.int .i64 0, .int .i64 0] 53) (rfl : w9.heap.size = w9.heap.size))
            have B3_ := Aside0.mk (blk_below B2_.out (below_alloc (Below.refl _ _) (.cells #[.int .i64 0, .int .i64 0] 53)))
            have X3_ := Aside0.mk (blk_below X2_.out (below_alloc (Below.refl _ _) (.cells #[.int .i64 0, .int .i64 0] 53)))
            have V3_ : Aside0 ((w9.alloc (.cells #[.int .i64 0, .int .i64 0] 53)).heap[w9.heap.size]? = some (.cells #[.int .i64 0, .int .i64 0] 53 (0, 0))) := ⟨blk_new w9 (.cells #[.int .i64 0, .int .i64 0] 53)⟩
            refine hK.out _ _ ⟨blk_cell B3_.out 0, blk_cell X3_.out 1, blk_cell X3_.out 3⟩ (fun hHeld => ?_)
            clear hK K
            refine norm_ (a' := ?_) ?_ ?_
            rotate_left
            · show Act.put _ (some 8) _ = _
              simp only [Act.put, List.setIfInBounds_toArray, List.set_cons_zero, List.set_cons_succ, i64_w, i32_w]
              rfl
            exact norm_ (by simp only [putAll, Act.put, List.setIfInBounds_toArray, List.set_cons_zero, List.set_cons_succ]) (hCont w9.heap.size _ ⟨⟨Sb, E3_.out⟩, V3_.out, B3_.out, X3_.out, hHeld⟩)
          · skip
            refine value_ (w1 := ?_) (v := ?_) (by rfl) rfl ?_ ?_
            rotate_left 2
            · go_simp
              constructor
              · rfl
              · rfl
            have E1_ := Aside0.mk ((EW.add EB.out (.cells #[.int .i64 0, .int .i64 0] 53) (rfl : W8.heap.size = W8.heap.size)).low (below_drew (Below.refl _ _)))
            have B1_ := Aside0.mk (blk_below (blk_below B8.out (below_alloc (Below.refl _ _) (.cells #[.int .i64 0, .int .i64 0] 53))) (below_drew (Below.refl _ _)))
            have X1_ := Aside0.mk (blk_below (blk_below X8.out (below_alloc (Below.refl _ _) (.cells #[.int .i64 0, .int .i64 0] 53))) (below_drew (Below.refl _ _)))
            have V1_ : Aside0 ((W8.alloc (.cells #[.int .i64 0, .int .i64 0] 53)).drew.heap[W8.heap.size]? = some (.cells #[.int .i64 0, .int .i64 0] 53 (0, 0))) := ⟨blk_new W8 (.cells #[.int .i64 0, .int .i64 0] 53)⟩
            refine hK.out _ _ ⟨blk_cell B1_.out 0, blk_cell X1_.out 1, blk_cell X1_.out 3⟩ (fun hHeld => ?_)
            clear hK K
            refine norm_ (a' := ?_) ?_ ?_
            rotate_left
            · show Act.put _ (some 8) _ = _
              simp only [Act.put, List.setIfInBounds_toArray, List.set_cons_zero, List.set_cons_succ, i64_w, i32_w]
              rfl
            refine one_ (i := 9) (N := some 61) #[true, true, true, true, true, true, true, true, true, true, true, false] rfl rfl (by kernel_rfl) (by decide) (fun K hK => ?_)
            refine goes_ Tryd.func27 (by kernel_rfl) rfl #[.pointer (some ⟨p1, 0, none⟩), .int .i64 sid, .agg #[.bool true, .int .i64 sk]] (by rfl) rfl rfl (by simp only [List.map_toArray, List.map_cons, List.map_nil]; rfl) ?_
            with_reducible refine (do_calls w.heap.size S1 p1 T sid true sk _ E1_.out.tw.a (HG.out.below E1_.out.be) HW.out).mono ?_
            rintro e w9 ⟨rfl, hP⟩
            rw [HB.out] at hP ⊢
            refine ⟨_, rfl, ?_⟩
            obtain ⟨Sb, hE, hk⟩ := EW.act E1_.out hP
            have E2_ := Aside0.mk hE
            have B2_ := Aside0.mk (hk g3 _ (Or.inl (Or.inl rfl)) B1_.out)
            have X2_ := Aside0.mk (hk gx _ (Or.inl (Or.inr rfl)) X1_.out)
            have V2_ := Aside0.mk (hk _ _ (Or.inr rfl) V1_.out)
            clear hE hk hP
            refine hK.out _ _ ⟨blk_cell B2_.out 0, blk_cell X2_.out 1, blk_cell X2_.out 3⟩ (fun hHeld => ?_)
            clear hK K
            refine norm_ (a' := ?_) ?_ ?_
            rotate_left
            · show Act.put _ (some 61) _ = _
              simp only [Act.put, List.setIfInBounds_toArray, List.set_cons_zero, List.set_cons_succ, i64_w, i32_w]
              rfl
            exact norm_ (by simp only [putAll, Act.put, List.setIfInBounds_toArray, List.set_cons_zero, List.set_cons_succ]) (hCont W8.heap.size _ ⟨⟨Sb, E2_.out⟩, V2_.out, B2_.out, X2_.out, hHeld⟩)
        rintro g8 w9_ ⟨⟨Sb, hE⟩, hV, hB, hX, hHeld⟩
        have E4_ := Aside0.mk hE
        have V4_ := Aside0.mk hV
        have B4_ := Aside0.mk hB
        have X4_ := Aside0.mk hX
        clear hE hV hB hX
        refine norm_ (a' := ?_) ?_ ?_
        rotate_left
        · simp only [putAll, Act.put, List.setIfInBounds_toArray, List.set_cons_zero, List.set_cons_succ]
          rfl
        refine last_ (i := 11) (N := none) #[true, true, true, true, true, true, true, true, true, true, true, true] rfl rfl (by kernel_rfl) (by decide) (fun K hK => ?_)
        refine skip_row 53 _ _ rfl (by rfl) rfl g8 #[.int .i64 wa, .int .i64 wb] rfl rfl 53 _ V4_.out (by kernel_rfl) (by kernel_rfl) (by kernel_rfl) ?_
        obtain ⟨WF, e8, q4, qo, qb⟩ := row_store _ g8 #[.int .i64 wa, .int .i64 wb] 53 _ V4_.out
        rw [e8]
        have EF := Aside0.mk (EW.put E4_.out (Or.inr rfl) qo qb)
        have VF := Aside0.mk q4
        have BF := Aside0.mk ((qo g3 (blk_ne2 B4_.out V4_.out (by decide))).trans B4_.out)
        have XF := Aside0.mk ((qo gx (blk_ne2 X4_.out V4_.out (by decide))).trans X4_.out)
        clear e8 q4 qo qb E4_ V4_ B4_ X4_
        refine hK.out _ _ ?_
        clear hK K
        refine done_ (by kernel_rfl) ?_

        have EZ := Aside0.mk (EW.mono (G' := fun k => k = g3 ∨ k = gx) EF.out (fun k hk => Or.inl hk))
        have c0 : WF.cell? ⟨g8, 0, none⟩ = some (.int .i64 wa) := blk_cell VF.out 0
        have z0 : WF.cell? ⟨g3, 0, none⟩ = some (.pointer (some ⟨p1, 0, none⟩)) := blk_cell BF.out 0
        have z1 : WF.cell? ⟨g3, 1, none⟩ = some (.pointer (some ⟨p2, 0, none⟩)) := blk_cell BF.out 1
        have b1 : WF.cell? ⟨gx, 1, none⟩ = some (.int .i64 sid) := blk_cell XF.out 1
        obtain ⟨y, hy⟩ : ∃ y, T'.stt sid = y := ⟨_, rfl⟩
        obtain ⟨z, hz⟩ : ∃ z, mir y = z := ⟨_, rfl⟩
        have HY := Aside0.mk hy
        have HZ := Aside0.mk hz
        have Q1 : Aside0 (∀ k, Calls Tryd.prog 13 #[.pointer (some ⟨p2, 0, none⟩), .int .i64 sid] (WF.drewN k) fun e w'' => e = .returned (.int .i64 y) ∧ ∃ m, w'' = WF.drewN m) := ⟨fun k => (state_calls w.heap.size Sa p2 T' sid _ (EZ.out.tw.b.low (pw_below_drewN (Below.refl _ _) k)) HW.out).mono fun e w' h => ⟨by rw [h.1, HY.out], k, h.2.symm⟩⟩
        have Q2 : Aside0 (∀ k, Calls Tryd.prog 13 #[.pointer (some ⟨p1, 0, none⟩), .int .i64 sid] (WF.drewN k) fun e w'' => e = .returned (.int .i64 z) ∧ ∃ m, w'' = WF.drewN m) := ⟨fun k => (state_calls w.heap.size Sb p1 U' sid _ (EZ.out.tw.a.low (pw_below_drewN (Below.refl _ _) k)) HW.out).mono fun e w' h => ⟨by rw [h.1, PF.out.2.stt, HY.out, HZ.out], k, h.2.symm⟩⟩
        have Q3 : Aside0 (∀ k, Calls Tryd.prog 28 #[.int .i64 y] (WF.drewN k) fun e w'' => e = .returned (.int .i64 z) ∧ ∃ m, w'' = WF.drewN m) := ⟨fun k => quiet_drawn (heraldlaw11_mirror.calls y z _ (by rw [mirror_f, HZ.out]))⟩
        have n0 : (z != z) = false := by simp
        have n1 : (z == z) = true := by simp
        clear hy hz
        have hwa := PF.out.1
        obtain ⟨Wq, hWq⟩ : ∃ W, W = WF := ⟨_, rfl⟩
        rcases hwa with hwa | hwa
        all_goals
          have hwa : wa = _ := hwa
          subst hwa
          go_upto_region 18 with fail
          go_quiet ((first
            | (go_at_call 13; with_reducible exact Q1.out _)
            | (go_at_call 13; with_reducible exact Q2.out _)
            | (go_at_call 28; with_reducible exact Q3.out _)))
          obtain ⟨WG, hWG⟩ : ∃ X, WF.drewN nq = X := ⟨_, rfl⟩
          have hbG : Below WF.heap.size WF WG := by rw [← hWG]; exact pw_below_drewN (Below.refl _ _) nq
          have EG : Aside0 (EW w WG (fun k => k = g3) Sb p1 U' Sa p2 T') := ⟨(EW.mono (G' := fun k => k = g3) (EZ.out.low hbG) (fun k hk => Or.inl hk))⟩
          have BG := Aside0.mk (blk_below BF.out hbG)
          have MG : Aside0 (Mir U' T') := ⟨PF.out.2.swap⟩
          have CG : Aside0 (CutOk U' ∧ CutOk T') := ⟨⟨CF.out.2, CF.out.1⟩⟩
          rw [hWG]
          clear hWG hbG c0 z0 z1 b1 Q1 Q2 Q3 n0 n1
          go_upto_region 20 with fail
          refine start_ (n := 26) (S := fun w' => w'.cell? ⟨g3, 0, none⟩ = some (.pointer (some ⟨p1, 0, none⟩)) ∧ w'.cell? ⟨g3, 1, none⟩ = some (.pointer (some ⟨p2, 0, none⟩)) ∧ EW w w' (fun k => k = g3) Sb p1 U' Sa p2 T' ∧ w'.heap[g3]? = some (.cells #[.pointer (some ⟨p1, 0, none⟩), .pointer (some ⟨p2, 0, none⟩)] 52 (0, 0))) (ds := []) #[false, false, false, false, false, false, false, false, false, false, false, false, false, false, false, false, false, false, false, false, false, false, false, false, false, false] (by kernel_rfl) rfl rfl ⟨blk_cell (blk_below BG.out (below_drew (Below.refl _ _))) 0, blk_cell (blk_below BG.out (below_drew (Below.refl _ _))) 1, EG.out.low (below_drew (Below.refl _ _)), blk_below BG.out (below_drew (Below.refl _ _))⟩ (fun hHeld => ?_)
          refine pure_ (i := 0) (N := some 87) (v := ?_) (a' := ?_) #[true, false, false, false, false, false, false, false, false, false, false, false, false, false, false, false, false, false, false, false, false, false, false, false, false, false] rfl rfl (by kernel_rfl) (fun _ _ _ h => h) (Or.inl ⟨by rfl, ?_⟩) ?_ ?_
          rotate_left
          · intro w'
            go_simp
            with_reducible rfl
          rotate_left
          · simp only [Act.put, List.setIfInBounds_toArray, List.set_cons_zero, List.set_cons_succ, i64_w, i32_w]
            rfl
          refine pure_ (i := 3) (N := some 90) (v := ?_) (a' := ?_) #[true, false, false, true, false, false, false, false, false, false, false, false, false, false, false, false, false, false, false, false, false, false, false, false, false, false] rfl rfl (by kernel_rfl) (fun _ _ _ h => h) (Or.inl ⟨by rfl, ?_⟩) ?_ ?_
          rotate_left
          · intro w'
            go_simp
            with_reducible rfl
          rotate_left
          · simp only [Act.put, List.setIfInBounds_toArray, List.set_cons_zero, List.set_cons_succ, i64_w, i32_w]
            rfl
          refine take_ (i := 1) (N := some 88) (v := ?_) (a' := ?_) #[true, true, false, true, false, false, false, false, false, false, false, false, false, false, false, false, false, false, false, false, false, false, false, false, false, false] rfl rfl (by kernel_rfl) (fun _ _ _ h => h) (Or.inl ⟨by rfl, ?_⟩) hHeld ?_ ?_
          rotate_left
          · rintro w' ⟨s0, s1, s2, s3⟩
            go_simp
            with_reducible rfl
          rotate_left
          · simp only [Act.put, List.setIfInBounds_toArray, List.set_cons_zero, List.set_cons_succ, i64_w, i32_w]
            rfl
          refine take_ (i := 4) (N := some 91) (v := ?_) (a' := ?_) #[true, true, false, true, true, false, false, false, false, false, false, false, false, false, false, false, false, false, false, false, false, false, false, false, false, false] rfl rfl (by kernel_rfl) (fun _ _ _ h => h) (Or.inl ⟨by rfl, ?_⟩) hHeld ?_ ?_
          rotate_left
          · rintro w' ⟨s0, s1, s2, s3⟩
            go_simp
            with_reducible rfl
          rotate_left
          · simp only [Act.put, List.setIfInBounds_toArray, List.set_cons_zero, List.set_cons_succ, i64_w, i32_w]
            rfl
          refine one_ (i := 2) (N := some 89) #[true, true, true, true, true, false, false, false, false, false, false, false, false, false, false, false, false, false, false, false, false, false, false, false, false, false] rfl rfl (by kernel_rfl) (by decide) (fun K hK => ?_)
          refine goes_ Tryd.func15 (by kernel_rfl) rfl #[.pointer (some ⟨p1, 0, none⟩), .bool true] (by rfl) rfl rfl (by simp only [List.map_toArray, List.map_cons, List.map_nil]; rfl) ?_
          with_reducible refine (count_calls w.heap.size Sb p1 U' true _ hHeld.2.2.1.tw.a).mono ?_
          rintro e w21 ⟨iw21, rfl, hw21, hb⟩
          have H21 := Aside0.mk hw21
          clear hw21
          refine ⟨_, rfl, ?_⟩
          refine hK.out _ _ ⟨blk_cell (blk_below hHeld.2.2.2 hb) 0, blk_cell (blk_below hHeld.2.2.2 hb) 1, hHeld.2.2.1.low hb, blk_below hHeld.2.2.2 hb⟩ (fun hHeld => ?_)
          clear hK K
          refine norm_ (a' := ?_) ?_ ?_
          rotate_left
          · show Act.put _ (some 89) _ = _
            simp only [Act.put, List.setIfInBounds_toArray, List.set_cons_zero, List.set_cons_succ, i64_w, i32_w]
            rfl
          refine one_ (i := 5) (N := some 92) #[true, true, true, true, true, true, false, false, false, false, false, false, false, false, false, false, false, false, false, false, false, false, false, false, false, false] rfl rfl (by kernel_rfl) (by decide) (fun K hK => ?_)
          refine goes_ Tryd.func15 (by kernel_rfl) rfl #[.pointer (some ⟨p2, 0, none⟩), .bool false] (by rfl) rfl rfl (by simp only [List.map_toArray, List.map_cons, List.map_nil]; rfl) ?_
          with_reducible refine (count_calls w.heap.size Sa p2 T' false _ hHeld.2.2.1.tw.b).mono ?_
          rintro e w22 ⟨iw22, rfl, hw22, hb⟩
          have hq := MG.out.count true H21.out hw22
          rw [← hq]
          have e0 : ((iw21.length : Int) != (iw21.length : Int)) = false := by simp
          have e1 : ((iw21.length : Int) == (iw21.length : Int)) = true := by simp
          clear hq hw22
          refine ⟨_, rfl, ?_⟩
          refine hK.out _ _ ⟨blk_cell (blk_below hHeld.2.2.2 hb) 0, blk_cell (blk_below hHeld.2.2.2 hb) 1, hHeld.2.2.1.low hb, blk_below hHeld.2.2.2 hb⟩ (fun hHeld => ?_)
          clear hK K
          refine norm_ (a' := ?_) ?_ ?_
          rotate_left
          · show Act.put _ (some 92) _ = _
            simp only [Act.put, List.setIfInBounds_toArray, List.set_cons_zero, List.set_cons_succ, i64_w, i32_w]
            rfl
          refine pure_ (i := 6) (N := some 93) (v := ?_) (a' := ?_) #[true, true, true, true, true, true, true, false, false, false, false, false, false, false, false, false, false, false, false, false, false, false, false, false, false, false] rfl rfl (by kernel_rfl) (fun _ _ _ h => h) (Or.inl ⟨by rfl, ?_⟩) ?_ ?_
          rotate_left
          · intro w'
            go_simp
            with_reducible rfl
          rotate_left
          · simp only [Act.put, List.setIfInBounds_toArray, List.set_cons_zero, List.set_cons_succ, i64_w, i32_w]
            rfl
          refine pure_ (i := 7) (N := some 94) (v := ?_) (a' := ?_) #[true, true, true, true, true, true, true, true, false, false, false, false, false, false, false, false, false, false, false, false, false, false, false, false, false, false] rfl rfl (by kernel_rfl) (fun _ _ _ h => h) (Or.inl ⟨by rfl, ?_⟩) ?_ ?_
          rotate_left
          · intro w'
            go_simp
            with_reducible rfl
          rotate_left
          · simp only [Act.put, List.setIfInBounds_toArray, List.set_cons_zero, List.set_cons_succ, i64_w, i32_w]
            rfl
          refine pure_ (i := 8) (N := some 95) (v := ?_) (a' := ?_) #[true, true, true, true, true, true, true, true, true, false, false, false, false, false, false, false, false, false, false, false, false, false, false, false, false, false] rfl rfl (by kernel_rfl) (fun _ _ _ h => h) (Or.inl ⟨by rfl, ?_⟩) ?_ ?_
          rotate_left
          · intro w'
            go_simp
            with_reducible rfl
          rotate_left
          · simp only [Act.put, List.setIfInBounds_toArray, List.set_cons_zero, List.set_cons_succ, i64_w, i32_w]
            rfl
          refine pure_ (i := 11) (N := some 98) (v := ?_) (a' := ?_) #[true, true, true, true, true, true, true, true, true, false, false, true, false, false, false, false, false, false, false, false, false, false, false, false, false, false] rfl rfl (by kernel_rfl) (fun _ _ _ h => h) (Or.inl ⟨by rfl, ?_⟩) ?_ ?_
          rotate_left
          · intro w'
            go_simp
            with_reducible rfl
          rotate_left
          · simp only [Act.put, List.setIfInBounds_toArray, List.set_cons_zero, List.set_cons_succ, i64_w, i32_w]
            rfl
          refine take_ (i := 9) (N := some 96) (v := ?_) (a' := ?_) #[true, true, true, true, true, true, true, true, true, true, false, true, false, false, false, false, false, false, false, false, false, false, false, false, false, false] rfl rfl (by kernel_rfl) (fun _ _ _ h => h) (Or.inl ⟨by rfl, ?_⟩) hHeld ?_ ?_
          rotate_left
          · rintro w' ⟨s0, s1, s2, s3⟩
            go_simp
            with_reducible rfl
          rotate_left
          · simp only [Act.put, List.setIfInBounds_toArray, List.set_cons_zero, List.set_cons_succ, i64_w, i32_w]
            rfl
          refine take_ (i := 12) (N := some 99) (v := ?_) (a' := ?_) #[true, true, true, true, true, true, true, true, true, true, false, true, true, false, false, false, false, false, false, false, false, false, false, false, false, false] rfl rfl (by kernel_rfl) (fun _ _ _ h => h) (Or.inl ⟨by rfl, ?_⟩) hHeld ?_ ?_
          rotate_left
          · rintro w' ⟨s0, s1, s2, s3⟩
            go_simp
            with_reducible rfl
          rotate_left
          · simp only [Act.put, List.setIfInBounds_toArray, List.set_cons_zero, List.set_cons_succ, i64_w, i32_w]
            rfl
          refine one_ (i := 10) (N := some 97) #[true, true, true, true, true, true, true, true, true, true, true, true, true, false, false, false, false, false, false, false, false, false, false, false, false, false] rfl rfl (by kernel_rfl) (by decide) (fun K hK => ?_)
          refine goes_ Tryd.func15 (by kernel_rfl) rfl #[.pointer (some ⟨p1, 0, none⟩), .bool false] (by rfl) rfl rfl (by simp only [List.map_toArray, List.map_cons, List.map_nil]; rfl) ?_
          with_reducible refine (count_calls w.heap.size Sb p1 U' false _ hHeld.2.2.1.tw.a).mono ?_
          rintro e w23 ⟨iw23, rfl, hw23, hb⟩
          have H23 := Aside0.mk hw23
          clear hw23
          refine ⟨_, rfl, ?_⟩
          refine hK.out _ _ ⟨blk_cell (blk_below hHeld.2.2.2 hb) 0, blk_cell (blk_below hHeld.2.2.2 hb) 1, hHeld.2.2.1.low hb, blk_below hHeld.2.2.2 hb⟩ (fun hHeld => ?_)
          clear hK K
          refine norm_ (a' := ?_) ?_ ?_
          rotate_left
          · show Act.put _ (some 97) _ = _
            simp only [Act.put, List.setIfInBounds_toArray, List.set_cons_zero, List.set_cons_succ, i64_w, i32_w]
            rfl
          refine one_ (i := 13) (N := some 100) #[true, true, true, true, true, true, true, true, true, true, true, true, true, true, false, false, false, false, false, false, false, false, false, false, false, false] rfl rfl (by kernel_rfl) (by decide) (fun K hK => ?_)
          refine goes_ Tryd.func15 (by kernel_rfl) rfl #[.pointer (some ⟨p2, 0, none⟩), .bool true] (by rfl) rfl rfl (by simp only [List.map_toArray, List.map_cons, List.map_nil]; rfl) ?_
          with_reducible refine (count_calls w.heap.size Sa p2 T' true _ hHeld.2.2.1.tw.b).mono ?_
          rintro e w24 ⟨iw24, rfl, hw24, hb⟩
          have hq := MG.out.count false H23.out hw24
          rw [← hq]
          have e2 : ((iw23.length : Int) != (iw23.length : Int)) = false := by simp
          have e3 : ((iw23.length : Int) == (iw23.length : Int)) = true := by simp
          clear hq hw24
          refine ⟨_, rfl, ?_⟩
          refine hK.out _ _ ⟨blk_cell (blk_below hHeld.2.2.2 hb) 0, blk_cell (blk_below hHeld.2.2.2 hb) 1, hHeld.2.2.1.low hb, blk_below hHeld.2.2.2 hb⟩ (fun hHeld => ?_)
          clear hK K
          refine norm_ (a' := ?_) ?_ ?_
          rotate_left
          · show Act.put _ (some 100) _ = _
            simp only [Act.put, List.setIfInBounds_toArray, List.set_cons_zero, List.set_cons_succ, i64_w, i32_w]
            rfl
          refine pure_ (i := 14) (N := some 101) (v := ?_) (a' := ?_) #[true, true, true, true, true, true, true, true, true, true, true, true, true, true, true, false, false, false, false, false, false, false, false, false, false, false] rfl rfl (by kernel_rfl) (fun _ _ _ h => h) (Or.inl ⟨by rfl, ?_⟩) ?_ ?_
          rotate_left
          · intro w'
            go_simp
            with_reducible rfl
          rotate_left
          · simp only [Act.put, List.setIfInBounds_toArray, List.set_cons_zero, List.set_cons_succ, i64_w, i32_w]
            rfl
          refine pure_ (i := 15) (N := some 102) (v := ?_) (a' := ?_) #[true, true, true, true, true, true, true, true, true, true, true, true, true, true, true, true, false, false, false, false, false, false, false, false, false, false] rfl rfl (by kernel_rfl) (fun _ _ _ h => h) (Or.inl ⟨by rfl, ?_⟩) ?_ ?_
          rotate_left
          · intro w'
            go_simp
            with_reducible rfl
          rotate_left
          · simp only [Act.put, List.setIfInBounds_toArray, List.set_cons_zero, List.set_cons_succ, i64_w, i32_w]
            rfl
          refine pure_ (i := 16) (N := some 103) (v := ?_) (a' := ?_) #[true, true, true, true, true, true, true, true, true, true, true, true, true, true, true, true, true, false, false, false, false, false, false, false, false, false] rfl rfl (by kernel_rfl) (fun _ _ _ h => h) (Or.inl ⟨by rfl, ?_⟩) ?_ ?_
          rotate_left
          · intro w'
            go_simp
            with_reducible rfl
          rotate_left
          · simp only [Act.put, List.setIfInBounds_toArray, List.set_cons_zero, List.set_cons_succ, i64_w, i32_w]
            rfl
          refine pure_ (i := 17) (N := some 104) (v := ?_) (a' := ?_) #[true, true, true, true, true, true, true, true, true, true, true, true, true, true, true, true, true, true, false, false, false, false, false, false, false, false] rfl rfl (by kernel_rfl) (fun _ _ _ h => h) (Or.inl ⟨by rfl, ?_⟩) ?_ ?_
          rotate_left
          · intro w'
            go_simp
            with_reducible rfl
          rotate_left
          · simp only [Act.put, List.setIfInBounds_toArray, List.set_cons_zero, List.set_cons_succ, i64_w, i32_w]
            rfl
          refine pure_ (i := 20) (N := some 107) (v := ?_) (a' := ?_) #[true, true, true, true, true, true, true, true, true, true, true, true, true, true, true, true, true, true, false, false, true, false, false, false, false, false] rfl rfl (by kernel_rfl) (fun _ _ _ h => h) (Or.inl ⟨by rfl, ?_⟩) ?_ ?_
          rotate_left
          · intro w'
            go_simp
            with_reducible rfl
          rotate_left
          · simp only [Act.put, List.setIfInBounds_toArray, List.set_cons_zero, List.set_cons_succ, i64_w, i32_w]
            rfl
          refine take_ (i := 18) (N := some 105) (v := ?_) (a' := ?_) #[true, true, true, true, true, true, true, true, true, true, true, true, true, true, true, true, true, true, true, false, true, false, false, false, false, false] rfl rfl (by kernel_rfl) (fun _ _ _ h => h) (Or.inl ⟨by rfl, ?_⟩) hHeld ?_ ?_
          rotate_left
          · rintro w' ⟨s0, s1, s2, s3⟩
            go_simp
            with_reducible rfl
          rotate_left
          · simp only [Act.put, List.setIfInBounds_toArray, List.set_cons_zero, List.set_cons_succ, i64_w, i32_w]
            rfl
          refine take_ (i := 21) (N := some 108) (v := ?_) (a' := ?_) #[true, true, true, true, true, true, true, true, true, true, true, true, true, true, true, true, true, true, true, false, true, true, false, false, false, false] rfl rfl (by kernel_rfl) (fun _ _ _ h => h) (Or.inl ⟨by rfl, ?_⟩) hHeld ?_ ?_
          rotate_left
          · rintro w' ⟨s0, s1, s2, s3⟩
            go_simp
            with_reducible rfl
          rotate_left
          · simp only [Act.put, List.setIfInBounds_toArray, List.set_cons_zero, List.set_cons_succ, i64_w, i32_w]
            rfl
          refine one_ (i := 19) (N := some 106) #[true, true, true, true, true, true, true, true, true, true, true, true, true, true, true, true, true, true, true, true, true, true, false, false, false, false] rfl rfl (by kernel_rfl) (by decide) (fun K hK => ?_)
          refine goes_ Tryd.func20 (by kernel_rfl) rfl #[.pointer (some ⟨p1, 0, none⟩)] (by rfl) rfl rfl (by simp only [List.map_toArray, List.map_cons, List.map_nil]; rfl) ?_
          with_reducible refine (live_calls w.heap.size Sb p1 U' _ hHeld.2.2.1.tw.a).mono ?_
          rintro e w25 ⟨vw25, iw25, rfl, rw25, hw25, hb⟩
          refine ⟨_, rfl, ?_⟩
          obtain ⟨Al, cl, rfl, hcl, hCl⟩ := R_slice_int rw25
          have H25 := Aside0.mk hw25
          have HCL := Aside0.mk hCl
          have HLL := Aside0.mk hcl
          clear rw25 hw25 hCl hcl
          refine hK.out _ _ ⟨blk_cell (blk_below hHeld.2.2.2 hb) 0, blk_cell (blk_below hHeld.2.2.2 hb) 1, hHeld.2.2.1.low hb, blk_below hHeld.2.2.2 hb⟩ (fun hHeld => ?_)
          clear hK K
          refine norm_ (a' := ?_) ?_ ?_
          rotate_left
          · show Act.put _ (some 106) _ = _
            simp only [Act.put, List.setIfInBounds_toArray, List.set_cons_zero, List.set_cons_succ, i64_w, i32_w]
            rfl
          refine one_ (i := 22) (N := some 109) #[true, true, true, true, true, true, true, true, true, true, true, true, true, true, true, true, true, true, true, true, true, true, true, false, false, false] rfl rfl (by kernel_rfl) (by decide) (fun K hK => ?_)
          refine goes_ Tryd.func20 (by kernel_rfl) rfl #[.pointer (some ⟨p2, 0, none⟩)] (by rfl) rfl rfl (by simp only [List.map_toArray, List.map_cons, List.map_nil]; rfl) ?_
          with_reducible refine (live_calls w.heap.size Sa p2 T' _ hHeld.2.2.1.tw.b).mono ?_
          rintro e w26 ⟨vw26, iw26, rfl, rw26, hw26, hb⟩
          refine ⟨_, rfl, ?_⟩
          obtain rfl := MG.out.live H25.out hw26
          obtain ⟨Am, cm, rfl, hcl, hCl⟩ := R_slice_int rw26
          have HCM := Aside0.mk hCl
          have HLM := Aside0.mk hcl
          have HCL2 := Aside0.mk (Kd.C_below HCL.out hb)
          clear rw26 hw26 hCl hcl
          refine hK.out _ _ ⟨blk_cell (blk_below hHeld.2.2.2 hb) 0, blk_cell (blk_below hHeld.2.2.2 hb) 1, hHeld.2.2.1.low hb, blk_below hHeld.2.2.2 hb⟩ (fun hHeld => ?_)
          clear hK K
          refine norm_ (a' := ?_) ?_ ?_
          rotate_left
          · show Act.put _ (some 109) _ = _
            simp only [Act.put, List.setIfInBounds_toArray, List.set_cons_zero, List.set_cons_succ, i64_w, i32_w]
            rfl
          refine one_ (i := 23) (N := some 110) #[true, true, true, true, true, true, true, true, true, true, true, true, true, true, true, true, true, true, true, true, true, true, true, true, false, false] rfl rfl (by kernel_rfl) (by decide) (fun K hK => ?_)
          refine goes_ Tryd.func19 (by kernel_rfl) rfl #[.slice Al iw25.length cl, .slice Am iw25.length cm] (by rfl) rfl rfl (by simp only [List.map_toArray, List.map_cons, List.map_nil]; rfl) ?_
          with_reducible refine (same_calls Al Am cl cm iw25 _ HCL2.out HLL.out HCM.out HLM.out).mono ?_
          rintro e w27 ⟨rfl, hd⟩
          refine ⟨_, rfl, ?_⟩
          have hb := drawn_below hd
          have EH := Aside0.mk (hHeld.2.2.1.low hb)
          have BH := Aside0.mk (blk_below hHeld.2.2.2 hb)
          refine hK.out _ _ ⟨blk_cell (blk_below hHeld.2.2.2 hb) 0, blk_cell (blk_below hHeld.2.2.2 hb) 1, hHeld.2.2.1.low hb, blk_below hHeld.2.2.2 hb⟩ (fun hHeld => ?_)
          clear hK K
          refine norm_ (a' := ?_) ?_ ?_
          rotate_left
          · show Act.put _ (some 110) _ = _
            simp only [Act.put, List.setIfInBounds_toArray, List.set_cons_zero, List.set_cons_succ, i64_w, i32_w]
            rfl
          refine pure_ (i := 24) (N := some 111) (v := ?_) (a' := ?_) #[true, true, true, true, true, true, true, true, true, true, true, true, true, true, true, true, true, true, true, true, true, true, true, true, true, false] rfl rfl (by kernel_rfl) (fun _ _ _ h => h) (Or.inl ⟨by rfl, ?_⟩) ?_ ?_
          rotate_left
          · intro w'
            go_simp
            with_reducible rfl
          rotate_left
          · simp only [Act.put, List.setIfInBounds_toArray, List.set_cons_zero, List.set_cons_succ, i64_w, i32_w]
            rfl
          refine pure_ (i := 25) (N := some 112) (v := ?_) (a' := ?_) #[true, true, true, true, true, true, true, true, true, true, true, true, true, true, true, true, true, true, true, true, true, true, true, true, true, true] rfl rfl (by kernel_rfl) (fun _ _ _ h => h) (Or.inl ⟨by rfl, ?_⟩) ?_ ?_
          rotate_left
          · intro w'
            go_simp
            with_reducible rfl
          rotate_left
          · simp only [Act.put, List.setIfInBounds_toArray, List.set_cons_zero, List.set_cons_succ, i64_w, i32_w]
            rfl
          refine done_ (by kernel_rfl) ?_

          go_wp2_with fail
          go_roundw
          case rel => exact ⟨k + 1, Sb, U', Sa, T', congrArg (Value.int .i64) hw1, ⟨by have := HKM.out; omega⟩, EH, ⟨MG.out, CG.out.1, CG.out.2⟩, BH⟩
          case measure =>
            rw [hw1]
            show ((l.length : Int) - ((k + 1 : Nat) : Int)).toNat < ((l.length : Int) - (k : Int)).toNat
            have := HKM.out
            omega
    · have d1 : decide ((k : Int) < (l.length : Int)) = false := decide_eq_false (by omega)
      have d2 : decide (k < l.length) = false := decide_eq_false hk
      clear hk HK
      go_upto_region 22 with fail
      clear d1 d2
      obtain ⟨x1, hx1⟩ : ∃ x, T.lastk true = x := ⟨_, rfl⟩
      obtain ⟨x2, hx2⟩ : ∃ x, T.lastk false = x := ⟨_, rfl⟩
      have HX1 := Aside0.mk hx1
      have HX2 : Aside0 (U.lastk false = x1) := ⟨by rw [← hx1]; exact PM.out.1.lastk true⟩
      have HX3 := Aside0.mk hx2
      have HX4 : Aside0 (U.lastk true = x2) := ⟨by rw [← hx2]; exact PM.out.1.lastk false⟩
      have e1 : (x1 == x1) = true := by simp
      have e2 : (x2 == x2) = true := by simp
      clear hx1 hx2
      refine start_ (n := 17) (S := fun w' => w'.cell? ⟨g3, 0, none⟩ = some (.pointer (some ⟨p1, 0, none⟩)) ∧ w'.cell? ⟨g3, 1, none⟩ = some (.pointer (some ⟨p2, 0, none⟩)) ∧ EW w w' (fun k => k = g3) S1 p1 T S2 p2 U ∧ w'.heap[g3]? = some (.cells #[.pointer (some ⟨p1, 0, none⟩), .pointer (some ⟨p2, 0, none⟩)] 52 (0, 0))) (ds := []) #[false, false, false, false, false, false, false, false, false, false, false, false, false, false, false, false, false] (by kernel_rfl) rfl rfl ⟨blk_cell (blk_below B1.out (below_drew (Below.refl _ _))) 0, blk_cell (blk_below B1.out (below_drew (Below.refl _ _))) 1, E1.out.low (below_drew (Below.refl _ _)), blk_below B1.out (below_drew (Below.refl _ _))⟩ (fun hHeld => ?_)
      refine pure_ (i := 0) (N := some 113) (v := ?_) (a' := ?_) #[true, false, false, false, false, false, false, false, false, false, false, false, false, false, false, false, false] rfl rfl (by kernel_rfl) (fun _ _ _ h => h) (Or.inl ⟨by rfl, ?_⟩) ?_ ?_
      rotate_left
      · intro w'
        go_simp
        with_reducible rfl
      rotate_left
      · simp only [Act.put, List.setIfInBounds_toArray, List.set_cons_zero, List.set_cons_succ, i64_w, i32_w]
        rfl
      refine pure_ (i := 3) (N := some 116) (v := ?_) (a' := ?_) #[true, false, false, true, false, false, false, false, false, false, false, false, false, false, false, false, false] rfl rfl (by kernel_rfl) (fun _ _ _ h => h) (Or.inl ⟨by rfl, ?_⟩) ?_ ?_
      rotate_left
      · intro w'
        go_simp
        with_reducible rfl
      rotate_left
      · simp only [Act.put, List.setIfInBounds_toArray, List.set_cons_zero, List.set_cons_succ, i64_w, i32_w]
        rfl
      refine take_ (i := 1) (N := some 114) (v := ?_) (a' := ?_) #[true, true, false, true, false, false, false, false, false, false, false, false, false, false, false, false, false] rfl rfl (by kernel_rfl) (fun _ _ _ h => h) (Or.inl ⟨by rfl, ?_⟩) hHeld ?_ ?_
      rotate_left
      · rintro w' ⟨s0, s1, s2, s3⟩
        go_simp
        with_reducible rfl
      rotate_left
      · simp only [Act.put, List.setIfInBounds_toArray, List.set_cons_zero, List.set_cons_succ, i64_w, i32_w]
        rfl
      refine take_ (i := 4) (N := some 117) (v := ?_) (a' := ?_) #[true, true, false, true, true, false, false, false, false, false, false, false, false, false, false, false, false] rfl rfl (by kernel_rfl) (fun _ _ _ h => h) (Or.inl ⟨by rfl, ?_⟩) hHeld ?_ ?_
      rotate_left
      · rintro w' ⟨s0, s1, s2, s3⟩
        go_simp
        with_reducible rfl
      rotate_left
      · simp only [Act.put, List.setIfInBounds_toArray, List.set_cons_zero, List.set_cons_succ, i64_w, i32_w]
        rfl
      refine one_ (i := 2) (N := some 115) #[true, true, true, true, true, false, false, false, false, false, false, false, false, false, false, false, false] rfl rfl (by kernel_rfl) (by decide) (fun K hK => ?_)
      refine goes_ Tryd.func26 (by kernel_rfl) rfl #[.pointer (some ⟨p1, 0, none⟩), .bool true] (by rfl) rfl rfl (by simp only [List.map_toArray, List.map_cons, List.map_nil]; rfl) ?_
      with_reducible refine (last_calls w.heap.size S1 p1 T true _ hHeld.2.2.1.tw.a).mono ?_
      rintro e w21 ⟨rfl, hb⟩
      rw [HX1.out]
      refine ⟨_, rfl, ?_⟩
      refine hK.out _ _ ⟨blk_cell (blk_below hHeld.2.2.2 hb) 0, blk_cell (blk_below hHeld.2.2.2 hb) 1, hHeld.2.2.1.low hb, blk_below hHeld.2.2.2 hb⟩ (fun hHeld => ?_)
      clear hK K
      refine norm_ (a' := ?_) ?_ ?_
      rotate_left
      · show Act.put _ (some 115) _ = _
        simp only [Act.put, List.setIfInBounds_toArray, List.set_cons_zero, List.set_cons_succ, i64_w, i32_w]
        rfl
      refine one_ (i := 5) (N := some 118) #[true, true, true, true, true, true, false, false, false, false, false, false, false, false, false, false, false] rfl rfl (by kernel_rfl) (by decide) (fun K hK => ?_)
      refine goes_ Tryd.func26 (by kernel_rfl) rfl #[.pointer (some ⟨p2, 0, none⟩), .bool false] (by rfl) rfl rfl (by simp only [List.map_toArray, List.map_cons, List.map_nil]; rfl) ?_
      with_reducible refine (last_calls w.heap.size S2 p2 U false _ hHeld.2.2.1.tw.b).mono ?_
      rintro e w22 ⟨rfl, hb⟩
      rw [HX2.out]
      refine ⟨_, rfl, ?_⟩
      refine hK.out _ _ ⟨blk_cell (blk_below hHeld.2.2.2 hb) 0, blk_cell (blk_below hHeld.2.2.2 hb) 1, hHeld.2.2.1.low hb, blk_below hHeld.2.2.2 hb⟩ (fun hHeld => ?_)
      clear hK K
      refine norm_ (a' := ?_) ?_ ?_
      rotate_left
      · show Act.put _ (some 118) _ = _
        simp only [Act.put, List.setIfInBounds_toArray, List.set_cons_zero, List.set_cons_succ, i64_w, i32_w]
        rfl
      refine pure_ (i := 6) (N := some 119) (v := ?_) (a' := ?_) #[true, true, true, true, true, true, true, false, false, false, false, false, false, false, false, false, false] rfl rfl (by kernel_rfl) (fun _ _ _ h => h) (Or.inl ⟨by rfl, ?_⟩) ?_ ?_
      rotate_left
      · intro w'
        go_simp
        with_reducible rfl
      rotate_left
      · simp only [Act.put, List.setIfInBounds_toArray, List.set_cons_zero, List.set_cons_succ, i64_w, i32_w]
        rfl
      refine pure_ (i := 7) (N := some 120) (v := ?_) (a' := ?_) #[true, true, true, true, true, true, true, true, false, false, false, false, false, false, false, false, false] rfl rfl (by kernel_rfl) (fun _ _ _ h => h) (Or.inl ⟨by rfl, ?_⟩) ?_ ?_
      rotate_left
      · intro w'
        go_simp
        with_reducible rfl
      rotate_left
      · simp only [Act.put, List.setIfInBounds_toArray, List.set_cons_zero, List.set_cons_succ, i64_w, i32_w]
        rfl
      refine pure_ (i := 8) (N := some 121) (v := ?_) (a' := ?_) #[true, true, true, true, true, true, true, true, true, false, false, false, false, false, false, false, false] rfl rfl (by kernel_rfl) (fun _ _ _ h => h) (Or.inl ⟨by rfl, ?_⟩) ?_ ?_
      rotate_left
      · intro w'
        go_simp
        with_reducible rfl
      rotate_left
      · simp only [Act.put, List.setIfInBounds_toArray, List.set_cons_zero, List.set_cons_succ, i64_w, i32_w]
        rfl
      refine pure_ (i := 11) (N := some 124) (v := ?_) (a' := ?_) #[true, true, true, true, true, true, true, true, true, false, false, true, false, false, false, false, false] rfl rfl (by kernel_rfl) (fun _ _ _ h => h) (Or.inl ⟨by rfl, ?_⟩) ?_ ?_
      rotate_left
      · intro w'
        go_simp
        with_reducible rfl
      rotate_left
      · simp only [Act.put, List.setIfInBounds_toArray, List.set_cons_zero, List.set_cons_succ, i64_w, i32_w]
        rfl
      refine take_ (i := 9) (N := some 122) (v := ?_) (a' := ?_) #[true, true, true, true, true, true, true, true, true, true, false, true, false, false, false, false, false] rfl rfl (by kernel_rfl) (fun _ _ _ h => h) (Or.inl ⟨by rfl, ?_⟩) hHeld ?_ ?_
      rotate_left
      · rintro w' ⟨s0, s1, s2, s3⟩
        go_simp
        with_reducible rfl
      rotate_left
      · simp only [Act.put, List.setIfInBounds_toArray, List.set_cons_zero, List.set_cons_succ, i64_w, i32_w]
        rfl
      refine take_ (i := 12) (N := some 125) (v := ?_) (a' := ?_) #[true, true, true, true, true, true, true, true, true, true, false, true, true, false, false, false, false] rfl rfl (by kernel_rfl) (fun _ _ _ h => h) (Or.inl ⟨by rfl, ?_⟩) hHeld ?_ ?_
      rotate_left
      · rintro w' ⟨s0, s1, s2, s3⟩
        go_simp
        with_reducible rfl
      rotate_left
      · simp only [Act.put, List.setIfInBounds_toArray, List.set_cons_zero, List.set_cons_succ, i64_w, i32_w]
        rfl
      refine one_ (i := 10) (N := some 123) #[true, true, true, true, true, true, true, true, true, true, true, true, true, false, false, false, false] rfl rfl (by kernel_rfl) (by decide) (fun K hK => ?_)
      refine goes_ Tryd.func26 (by kernel_rfl) rfl #[.pointer (some ⟨p1, 0, none⟩), .bool false] (by rfl) rfl rfl (by simp only [List.map_toArray, List.map_cons, List.map_nil]; rfl) ?_
      with_reducible refine (last_calls w.heap.size S1 p1 T false _ hHeld.2.2.1.tw.a).mono ?_
      rintro e w23 ⟨rfl, hb⟩
      rw [HX3.out]
      refine ⟨_, rfl, ?_⟩
      refine hK.out _ _ ⟨blk_cell (blk_below hHeld.2.2.2 hb) 0, blk_cell (blk_below hHeld.2.2.2 hb) 1, hHeld.2.2.1.low hb, blk_below hHeld.2.2.2 hb⟩ (fun hHeld => ?_)
      clear hK K
      refine norm_ (a' := ?_) ?_ ?_
      rotate_left
      · show Act.put _ (some 123) _ = _
        simp only [Act.put, List.setIfInBounds_toArray, List.set_cons_zero, List.set_cons_succ, i64_w, i32_w]
        rfl
      refine one_ (i := 13) (N := some 126) #[true, true, true, true, true, true, true, true, true, true, true, true, true, true, false, false, false] rfl rfl (by kernel_rfl) (by decide) (fun K hK => ?_)
      refine goes_ Tryd.func26 (by kernel_rfl) rfl #[.pointer (some ⟨p2, 0, none⟩), .bool true] (by rfl) rfl rfl (by simp only [List.map_toArray, List.map_cons, List.map_nil]; rfl) ?_
      with_reducible refine (last_calls w.heap.size S2 p2 U true _ hHeld.2.2.1.tw.b).mono ?_
      rintro e w24 ⟨rfl, hb⟩
      rw [HX4.out]
      refine ⟨_, rfl, ?_⟩
      have EH := Aside0.mk (hHeld.2.2.1.low hb)
      refine hK.out _ _ ⟨blk_cell (blk_below hHeld.2.2.2 hb) 0, blk_cell (blk_below hHeld.2.2.2 hb) 1, hHeld.2.2.1.low hb, blk_below hHeld.2.2.2 hb⟩ (fun hHeld => ?_)
      clear hK K
      refine norm_ (a' := ?_) ?_ ?_
      rotate_left
      · show Act.put _ (some 126) _ = _
        simp only [Act.put, List.setIfInBounds_toArray, List.set_cons_zero, List.set_cons_succ, i64_w, i32_w]
        rfl
      refine pure_ (i := 14) (N := some 127) (v := ?_) (a' := ?_) #[true, true, true, true, true, true, true, true, true, true, true, true, true, true, true, false, false] rfl rfl (by kernel_rfl) (fun _ _ _ h => h) (Or.inl ⟨by rfl, ?_⟩) ?_ ?_
      rotate_left
      · intro w'
        go_simp
        with_reducible rfl
      rotate_left
      · simp only [Act.put, List.setIfInBounds_toArray, List.set_cons_zero, List.set_cons_succ, i64_w, i32_w]
        rfl
      refine pure_ (i := 15) (N := some 128) (v := ?_) (a' := ?_) #[true, true, true, true, true, true, true, true, true, true, true, true, true, true, true, true, false] rfl rfl (by kernel_rfl) (fun _ _ _ h => h) (Or.inl ⟨by rfl, ?_⟩) ?_ ?_
      rotate_left
      · intro w'
        go_simp
        with_reducible rfl
      rotate_left
      · simp only [Act.put, List.setIfInBounds_toArray, List.set_cons_zero, List.set_cons_succ, i64_w, i32_w]
        rfl
      refine pure_ (i := 16) (N := some 2) (v := ?_) (a' := ?_) #[true, true, true, true, true, true, true, true, true, true, true, true, true, true, true, true, true] rfl rfl (by kernel_rfl) (fun _ _ _ h => h) (Or.inl ⟨by rfl, ?_⟩) ?_ ?_
      rotate_left
      · intro w'
        go_simp
        with_reducible rfl
      rotate_left
      · simp only [Act.put, List.setIfInBounds_toArray, List.set_cons_zero, List.set_cons_succ, i64_w, i32_w]
        rfl
      refine done_ (by kernel_rfl) ?_

      go_wp2_with fail
      go_ret
      exact ⟨rfl, EH.out.be⟩
end Go.Proofs.YtagkncjdohljgaaDoor.St
