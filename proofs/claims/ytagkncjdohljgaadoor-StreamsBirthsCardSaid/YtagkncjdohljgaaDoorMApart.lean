/- StreamsApart: always true. The package's variables hold what the program lays; the script's numbers are numbers. -/
import Derived.Test.YtagkncjdohljgaaDoorMTwo
namespace Go.Proofs.YtagkncjdohljgaaDoor.St
open Go Go.RowKit Go.Proofs.YtagkncjdohljgaaDoorW.PrintWords Go.Proofs.YtagkncjdohljgaaDoorW.PrintLast Go.Proofs.YtagkncjdohljgaaDoorW.PrintMore Go.Proofs.YtagkncjdohljgaaDoor.QL
set_option linter.unusedSimpArgs false
set_option linter.unusedVariables false
set_option maxHeartbeats 4000000
set_option maxRecDepth 100000
theorem int_cell {w : World} {A : Option Addr} {n : Nat} {xs : List Int} (h : Kd.C (Kd.int .i64) w A n xs) (i : Nat) (h1 : i < n) (x : Int) (hx : rd xs (i : Int) = x) : ∃ ad, A = some ad ∧ w.cell? (ad.add i) = some (.int .i64 x) := by
  obtain ⟨ad, e, hc⟩ := Kd.at_int h (i : Int) (by omega) (by omega)
  rw [Int.toNat_natCast, hx] at hc
  exact ⟨ad, e, hc⟩
theorem rd_get {xs : List Int} {i : Nat} (h : i < xs.length) : rd xs (i : Int) = xs[i] := by
  unfold rd
  rw [Int.toNat_natCast, List.getD_eq_getElem?_getD, List.getElem?_eq_getElem h]
  rfl
section
variable {W W1 : World} {B g n c i : Nat} {ok : Nat → Prop} {is : List Int} {u : Int}
theorem int_elem (h : Kd.R (Kd.int .i64) 2 W B ok (.slice (some ⟨g, 0, none⟩) n c) is) (hi : i < n) : (∃ y : Int, W.cell? ⟨g, i, none⟩ = some (.int .i64 y)) ∧ W.frozen? ⟨g, i, none⟩ = false := by
  obtain ⟨cc, hcl, hcM, hcc, hcf⟩ := Kd.R_elem h 0 (i : Int) (by omega) (by omega)
  rw [Int.toNat_natCast] at hcc hcf hcM
  have e : cc = [.int .i64 (is.getD i 0)] := hcM
  have h1 := hcc 0 (.int .i64 (is.getD i 0)) (by rw [e]; rfl)
  have h2 := hcf 0
  simp only [Kd.int, Kd.scalar, Nat.mul_one, Nat.add_zero] at h1 h2
  exact ⟨⟨_, h1⟩, h2⟩
theorem int_set (h : Kd.R (Kd.int .i64) 2 W B ok (.slice (some ⟨g, 0, none⟩) n c) is) (e : W.setCell ⟨g, i, none⟩ (.int .i64 u) = W1) :
    Kd.R (Kd.int .i64) 2 W1 B ok (.slice (some ⟨g, 0, none⟩) n c) (is.set i u) ∧ W.grownBy W1 (some g) := by
  have hh := Kd.R_putg (enc := Value.int .i64) (h1 := fun _ => rfl) h (i : Int) u
  rw [Int.toNat_natCast, e] at hh
  exact hh
end
theorem below_row {B : Nat} {w0 W W1 : World} {row : Option Nat} (h : Below B w0 W) (hg : W.grownBy W1 row) (hB : B ≤ W.heap.size) (hr : ∀ k, row = some k → B ≤ k) : Below B w0 W1 :=
  ⟨hg.os.trans h.os, hg.tape.trans h.tape, hg.output.trans h.output, Nat.le_trans h.size hg.size, fun k hk => (hg.block k (by omega) (by intro e; have := hr k e.symm; omega)).trans (h.block k hk)⟩
/-- What holds from the two Lives on. -/
structure AM (w W : World) (S1 : Nat → Prop) (p1 : Nat) (T1 : Tb) (S2 : Nat → Prop) (p2 : Nat) (T2 : Tb) (h4 h5 h6 : Nat) (va : Value) (Q : List Int) (vb vk : Value) (L : List Int) : Prop where
  tw : Tw W w.heap.size S1 p1 T1 S2 p2 T2
  sl : ∀ k, S1 k ∨ S2 k → k < h4
  be : Below w.heap.size w W
  ra : Kd.R (Kd.int .i64) 2 W h4 (fun k => k < h5) va Q
  rb : Kd.R (Kd.int .i64) 2 W h5 (fun k => k < h6) vb L
  rk : Kd.R (Kd.int .i64) 2 W h6 (fun _ => True) vk L
  lt : w.heap.size ≤ h4 ∧ h4 ≤ h5 ∧ h5 ≤ h6 ∧ h6 ≤ W.heap.size
section
variable {w W W1 : World} {S1 S2 : Nat → Prop} {p1 p2 h4 h5 h6 : Nat} {T1 T2 : Tb} {va va' vb vk : Value} {Q Q' L : List Int}
theorem AM.low (h : AM w W S1 p1 T1 S2 p2 T2 h4 h5 h6 va Q vb vk L) (hb : Below W.heap.size W W1) : AM w W1 S1 p1 T1 S2 p2 T2 h4 h5 h6 va Q vb vk L :=
  ⟨h.tw.low hb, h.sl, below_then h.be h.be.size hb, Kd.R_below h.ra hb, Kd.R_below h.rb hb, Kd.R_below h.rk hb, by have := h.lt; have := hb.size; omega⟩
theorem AM.a (h : AM w W S1 p1 T1 S2 p2 T2 h4 h5 h6 va Q vb vk L) (hg : W.grownBy W1 va.ownBlock) (hR : Kd.R (Kd.int .i64) 2 W1 h4 (fun k => k < h5) va' Q') : AM w W1 S1 p1 T1 S2 p2 T2 h4 h5 h6 va' Q' vb vk L := by
  have hl := h.lt
  have hb : ∀ k, va.ownBlock = some k → h4 ≤ k ∧ k < h5 := fun k e => ⟨Kd.R_base h.ra k e, h.ra.1 k e⟩
  have hF : Fr W W1 (fun k => h4 ≤ k) := Fr.of_grown hg (fun k e => (hb k e).1)
  refine ⟨⟨h.tw.a.fr hF (fun k hk e => by have := h.sl k (Or.inl hk); omega), h.tw.b.fr hF (fun k hk e => by have := h.sl k (Or.inr hk); omega), h.tw.ap⟩, h.sl, below_row h.be hg h.be.size (fun k e => by have := hb k e; omega), hR, ?_, ?_, by have := hg.size; omega⟩
  · exact Kd.R_mono (Kd.R_grown (Kd.R_bound h.rb) hg (fun k hk e => by have := hb k e.symm; omega)) (fun _ hk => hk.1)
  · exact Kd.R_mono (Kd.R_grown (Kd.R_bound h.rk) hg (fun k hk e => by have := hb k e.symm; omega)) (fun _ hk => hk.1)
end
/-- .. and from the grown list on. -/
structure EM (w W : World) (S1 : Nat → Prop) (p1 : Nat) (T1 : Tb) (S2 : Nat → Prop) (p2 : Nat) (T2 : Tb) (Aa Ab Ak Ag : Option Addr) (L : List Int) : Prop where
  tw : Tw W w.heap.size S1 p1 T1 S2 p2 T2
  be : Below w.heap.size w W
  ca : Kd.C (Kd.int .i64) W Aa L.length (List.replicate L.length (-7))
  cb : Kd.C (Kd.int .i64) W Ab L.length L
  ck : Kd.C (Kd.int .i64) W Ak L.length L
  cg : Kd.C (Kd.int .i64) W Ag (L.length + 1) (List.replicate L.length (-7) ++ [-8])
theorem EM.low {w W W1 : World} {S1 S2 : Nat → Prop} {p1 p2 : Nat} {T1 T2 : Tb} {Aa Ab Ak Ag : Option Addr} {L : List Int} (h : EM w W S1 p1 T1 S2 p2 T2 Aa Ab Ak Ag L) (hb : Below W.heap.size W W1) : EM w W1 S1 p1 T1 S2 p2 T2 Aa Ab Ak Ag L :=
  ⟨h.tw.low hb, below_then h.be h.be.size hb, Kd.C_below h.ca hb, Kd.C_below h.cb hb, Kd.C_below h.ck hb, Kd.C_below h.cg hb⟩
theorem rep_of {Q : List Int} {n : Nat} (hn : Q.length = n) (h : ∀ j, j < n → Q[j]? = some (-7)) : Q = List.replicate n (-7) := by
  refine List.ext_getElem? fun j => ?_
  rcases Nat.lt_or_ge j n with hj | hj
  · rw [h j hj, List.getElem?_replicate, if_pos hj]
  · rw [List.getElem?_eq_none (by omega), List.getElem?_replicate, if_neg (by omega)]
theorem live_new {cl : Bool} {ids : List Int} (h : LivL (Tb.new cl) ids) : ids = [] :=
  List.eq_nil_iff_forall_not_mem.2 fun id hm => by have := (h.2 id).1 hm; cases this
theorem apart_calls (A : Option Addr) (c : Nat) (cl : Bool) (l : List S30) (w : World) (hG : GL w) (hC : Kd.C k30 w A l.length l) (ht : ∀ x ∈ l, W64 x.f1) :
    Calls Tryd.prog 7 #[.bool cl, .slice A l.length c] w fun e w' => e = .returned (.bool true) ∧ Below w.heap.size w w' := by
  have HG := Aside0.mk hG
  have HC := Aside0.mk hC
  have HT := Aside0.mk ht
  have HL : Aside0 (l.length ≤ 9223372036854775807) := ⟨hC.2.1⟩
  clear hG hC ht
  go_enter Tryd.func7, Tryd.ntmps7
  go_upto_region 2 with (go_at_call 8; refine (new_calls _ cl w.heap.size (Nat.le_refl _)).mono ?_; rintro e w1 ⟨p1, S1, rfl, hT, hS, hb⟩; have A1 := Aside0.mk hT; have L1 := Aside0.mk hb; clear hT hS hb)
  go_upto_region 3 with (go_at_call 8; refine (new_calls _ cl w.heap.size L1.out.size).mono ?_; rintro e w2 ⟨p2, S2, rfl, hT, hS, hb⟩; have A2 : Aside0 (Tw w2 w.heap.size S1 p1 (Tb.new cl) S2 p2 (Tb.new cl)) := ⟨A1.out.low hb, hT, fun k h1 h2 => by have := (A1.out.bd k h1).2; have := hS k h2; omega⟩; have L2 := Aside0.mk (below_then L1.out L1.out.size hb); clear hT hS hb)
  clear A1 L1
  go_upto_region 5 with (go_at_call 9; refine (first_calls _ (HG.out.below L2.out)).mono ?_; rintro e w3 ⟨rfl, hb⟩; have A3 := Aside0.mk (A2.out.low hb); have L3 := Aside0.mk (below_then L2.out L2.out.size hb); clear hb)
  clear A2 L2
  go_upto_if 31 with fail
  go_loopw [7] (fun v w' => ∃ (k : Nat) (S1 : Nat → Prop) (T1 : Tb), v = .int .i64 (k : Int) ∧ Aside0 (k ≤ l.length) ∧ Aside0 (Tw w' w.heap.size S1 p1 T1 S2 p2 (Tb.new cl)) ∧ Aside0 (Below w.heap.size w w')) (fun v _ => ((l.length : Int) - intOf v).toNat)
  case atStart => exact ⟨0, S1, _, rfl, ⟨Nat.zero_le _⟩, A3, L3⟩
  case round =>
    clear A3 L3
    obtain ⟨k, S1, T1, rfl, HK, A4, L4⟩ := hrel
    by_cases hk : k < l.length
    · have d1 : decide ((k : Int) < (l.length : Int)) = true := decide_eq_true (by omega)
      have d2 : decide (k < l.length) = true := decide_eq_true hk
      have hw1 : wrap64 ((k : Int) + 1) = ((k + 1 : Nat) : Int) := by have := HL.out; unfold wrap64; omega
      have q0 : (0 : Int) ≤ (k : Int) := by omega
      have q1 : (k : Int) < (l.length : Int) := by omega
      have HKM := Aside0.mk hk
      obtain ⟨ad, rfl, y0, y1, y2, y3⟩ := at_T30 (Kd.C_below HC.out L4.out) (k : Int) q0 q1
      rw [Int.toNat_natCast] at y0 y1 y2 y3
      obtain ⟨y, hy⟩ : ∃ y, rd_T30 l (k : Int) = y := ⟨_, rfl⟩
      rw [hy] at y0 y1 y2 y3
      have HW : Aside0 (W64 y.f1) := ⟨by rw [← hy, rd30_get hk]; exact HT.out _ (List.getElem_mem hk)⟩
      clear hy hk
      go_upto_region 7 with (go_at_call 11; refine (done_calls w.heap.size S1 p1 T1 y.f0 y.f1 y.f2 y.f3 _ A4.out.a (HG.out.below L4.out) HW.out).mono ?_; rintro e w5 ⟨rfl, hP⟩; obtain ⟨S5, hT, hF⟩ := A4.out.act hP; have A5 := Aside0.mk hT; have L5 := Aside0.mk (A4.out.below hF L4.out L4.out.size (Nat.le_refl _)); clear hP hT hF)
      clear y0 y1 y2 y3
      go_wp2_with fail
      go_roundw
      case rel => exact ⟨k + 1, S5, _, congrArg (Value.int .i64) hw1, ⟨by have := HKM.out; omega⟩, A5, L5⟩
      case measure =>
        rw [hw1]
        show ((l.length : Int) - ((k + 1 : Nat) : Int)).toNat < ((l.length : Int) - (k : Int)).toNat
        have := HKM.out
        omega
    · have d1 : decide ((k : Int) < (l.length : Int)) = false := decide_eq_false (by omega)
      have d2 : decide (k < l.length) = false := decide_eq_false hk
      clear hk HK
      go_upto_region 10 with (go_at_call 20; refine (live_calls w.heap.size S1 p1 T1 _ A4.out.a).mono ?_; rintro e w5 ⟨va, L, rfl, hR, hLL, hb⟩; have RA := Aside0.mk hR; have LV := Aside0.mk hLL; have A5 := Aside0.mk (A4.out.low hb); have L5 := Aside0.mk (below_then L4.out L4.out.size hb); have H45 := Aside0.mk hb.size; clear hR hLL hb)
      clear d1 d2
      go_upto_region 11 with (go_at_call 20; refine (live_calls w.heap.size S1 p1 T1 _ A5.out.a).mono ?_; rintro e w6 ⟨vb, L', rfl, hR, hLL, hb⟩; have RB := Aside0.mk hR; have LV2 := Aside0.mk hLL; have A6 := Aside0.mk (A5.out.low hb); have L6 := Aside0.mk (below_then L5.out L5.out.size hb); have H56 := Aside0.mk hb.size; have RA6 := Aside0.mk (Kd.R_below (Kd.R_mono (Kd.R_bound RA.out) (fun k hk => hk.2.2.1)) hb); clear hR hLL hb)
      clear A5 L5 RA
      obtain rfl := LV.out.uniq LV2.out
      have HLN := Aside0.mk (live_len A6.out.a.ok LV.out)
      obtain ⟨Aa, ca, rfl, hca, hCa⟩ := R_slice_int RA6.out
      obtain ⟨Ab, cb, rfl, hcb, hCb⟩ := R_slice_int RB.out
      have HCA := Aside0.mk hCa
      clear hca hCa hcb hCb LV2
      go_upto_region 13 with ((with_reducible refine gate_builtin (b := .append) (xs := #[.tmp 44, .tmp 45]) rfl ?_); at_builtin; refine Kd.R_append_rows (Kd.int .i64) (Rr := (Kd.int .i64).K w6) (w0 := w6) w6.heap.size rfl (.tmp 44) (.tmp 45) 28 2 (.int .i64 0) 8 rfl Tryd.underlying28 info2 rfl (Nat.succ_pos 0) (Nat.succ_pos 7) (.slice none 0 0) [] L Aa L.length ca (fun _ => True) (fun _ => False) rfl rfl (Kd.R_nil _ _ _ _ _) HCA.out (fun _ _ h => h) (fun _ h => h.elim) (fun _ _ => trivial) (Below.refl _ _) (Nat.le_refl _) (by have := HLN.out; rw [List.length_nil]; omega) ?_; intro v10 w7 ho hb hg hat; rw [List.nil_append] at ho; have RK := Aside0.mk ho; have B7 := Aside0.mk hb; clear ho hb hg hat)
      have AM0 : Aside0 (AM w w7 S1 p1 T1 S2 p2 (Tb.new cl) wr.heap.size w5.heap.size w6.heap.size (.slice Aa L.length ca) L (.slice Ab L.length cb) v10 L) := ⟨A6.out.low B7.out, fun k hk => by rcases hk with hk | hk; exact (A4.out.a.bd k hk).2; exact (A4.out.b.bd k hk).2, below_then L6.out L6.out.size B7.out, Kd.R_below RA6.out B7.out, Kd.R_below (Kd.R_mono (Kd.R_bound RB.out) (fun k hk => hk.2.2.1)) B7.out, RK.out, L4.out.size, H45.out, H56.out, B7.out.size⟩
      obtain ⟨h4, hh4⟩ : ∃ h, wr.heap.size = h := ⟨_, rfl⟩
      rw [hh4] at AM0
      clear hh4 A4 L4 A6 L6 RA6 RB RK B7 HCA H45 H56
      obtain ⟨Ak, ck, rfl, hck, _⟩ := R_slice_int AM0.out.rk
      have HCK := Aside0.mk hck
      clear hck
      have AQ0 : Aside0 (∃ Q, Q.length = L.length ∧ (∀ j, j < 0 → Q[j]? = some (-7)) ∧ AM w w7 S1 p1 T1 S2 p2 (Tb.new cl) h4 w5.heap.size w6.heap.size (.slice Aa L.length ca) Q (.slice Ab L.length cb) (.slice Ak L.length ck) L) := ⟨L, rfl, fun j hj => absurd hj (Nat.not_lt_zero j), AM0.out⟩
      clear AM0
      go_upto_if 50 with fail
      go_loopw [11] (fun v w' => ∃ k : Nat, v = .int .i64 (k : Int) ∧ Aside0 (k ≤ L.length) ∧ Aside0 (∃ Q, Q.length = L.length ∧ (∀ j, j < k → Q[j]? = some (-7)) ∧ AM w w' S1 p1 T1 S2 p2 (Tb.new cl) h4 w5.heap.size w6.heap.size (.slice Aa L.length ca) Q (.slice Ab L.length cb) (.slice Ak L.length ck) L)) (fun v _ => ((L.length : Int) - intOf v).toNat)
      case atStart => exact ⟨0, rfl, ⟨Nat.zero_le _⟩, AQ0⟩
      case round =>
        clear AQ0
        obtain ⟨k, rfl, HK, AQ⟩ := hrel
        obtain ⟨Q, hQ, hz, hA⟩ := AQ.out
        have HQ := Aside0.mk hQ
        have HZ := Aside0.mk hz
        have M1 := Aside0.mk hA
        clear AQ hQ hA hz
        by_cases hk : k < L.length
        · have d1 : decide ((k : Int) < (L.length : Int)) = true := decide_eq_true (by omega)
          have d2 : decide (k < L.length) = true := decide_eq_true hk
          have hw1 : wrap64 ((k : Int) + 1) = ((k + 1 : Nat) : Int) := by have := HLN.out; unfold wrap64; omega
          have q0 : (0 : Int) ≤ (k : Int) := by omega
          have q1 : (k : Int) < (L.length : Int) := by omega
          have HKM := Aside0.mk hk
          obtain ⟨ga, cq, e, _, _, _⟩ := Kd.R_form M1.out.ra (by rw [HQ.out]; omega)
          injection e with e1 e2 e3
          subst e1
          obtain ⟨⟨y, r1⟩, rf⟩ := int_elem M1.out.ra hk
          clear e2 e3 hk cq
          go_upto_region 15 with fail
          generalize hWn : World.setCell _ _ _ = Wn
          obtain ⟨hR, hg⟩ := int_set (u := -7) M1.out.ra hWn
          have M2 := Aside0.mk (M1.out.a hg hR)
          have HZ2 : Aside0 (∀ j, j < k + 1 → (Q.set k (-7))[j]? = some (-7)) := ⟨fun j hj => by
            rcases Nat.lt_or_ge j k with h | h
            · rw [List.getElem?_set_ne (by omega)]; exact HZ.out j h
            · obtain rfl : j = k := by omega
              rw [List.getElem?_set_self (by rw [HQ.out]; exact HKM.out)]⟩
          clear hR hg hWn r1 rf
          go_wp2_with fail
          go_roundw
          case rel => exact ⟨k + 1, congrArg (Value.int .i64) hw1, ⟨by have := HKM.out; omega⟩, ⟨_, by rw [List.length_set]; exact HQ.out, HZ2.out, M2.out⟩⟩
          case measure =>
            rw [hw1]
            show ((L.length : Int) - ((k + 1 : Nat) : Int)).toNat < ((L.length : Int) - (k : Int)).toNat
            have := HKM.out
            omega
        · have d1 : decide ((k : Int) < (L.length : Int)) = false := decide_eq_false (by omega)
          have d2 : decide (k < L.length) = false := decide_eq_false hk
          have HKE : k = L.length := by have := HK.out; omega
          rw [HKE] at HZ d1 d2 ⊢
          clear hk HKE HK k
          obtain rfl := rep_of HQ.out HZ.out
          clear HZ HQ
          obtain ⟨v12, W8, hrun, hRg, hBg, hgg, hCg⟩ := append_keeps (-8) M1.out.ra (by rw [List.length_replicate]; have := HLN.out; omega) (by have := M1.out.lt; omega)
          have hCa := hCg _ _ _ rfl
          have M8 : Aside0 (∃ vq, AM w W8 S1 p1 T1 S2 p2 (Tb.new cl) h4 w5.heap.size w6.heap.size vq [] (.slice Ab L.length cb) (.slice Ak L.length ck) L) := ⟨_, M1.out.a hgg (Kd.R_nil _ _ _ _ _)⟩
          obtain ⟨Ag, cg, eg, _, hCgg⟩ := R_slice_int hRg
          rw [List.length_append, List.length_singleton, List.length_replicate] at eg hCgg
          rw [eg] at hrun
          have EM8 : Aside0 (EM w W8 S1 p1 T1 S2 p2 (Tb.new cl) Aa Ab Ak Ag L) := ⟨by
            obtain ⟨vq, h⟩ := M8.out
            exact ⟨h.tw, h.be, hCa, (Kd.R_reads' h.rb).2.2, (Kd.R_reads' h.rk).2.2, hCgg⟩⟩
          clear hRg hBg hgg hCg hCa eg hCgg M8 M1
          obtain ⟨N, hN⟩ : ∃ N, L.length + 1 = N := ⟨_, rfl⟩
          have HN := Aside0.mk hN
          rw [hN] at hrun
          clear hN
          have HRUN := Aside0.mk hrun
          clear hrun
          go_upto_region 18 with ((with_reducible refine gate_builtin (b := .append) (xs := #[.tmp 56, .tmp 57]) rfl ?_); at_builtin; refine wpList_append_run rfl (.tmp 56) (.tmp 57) 28 rfl rfl rfl HRUN.out ?_)
          clear d1 d2 HRUN
          go_upto_if 62 with fail
          go_loopw [13] (fun v w' => ∃ k : Nat, v = .int .i64 (k : Int) ∧ Aside0 (k ≤ L.length) ∧ Aside0 (EM w w' S1 p1 T1 S2 p2 (Tb.new cl) Aa Ab Ak Ag L)) (fun v _ => ((L.length : Int) - intOf v).toNat)
          case atStart => exact ⟨0, rfl, ⟨Nat.zero_le _⟩, EM8⟩
          case round =>
            clear EM8
            obtain ⟨k, rfl, HK, M1⟩ := hrel
            by_cases hk : k < L.length
            · have d1 : decide ((k : Int) < (L.length : Int)) = true := decide_eq_true (by omega)
              have d2 : decide (k < L.length) = true := decide_eq_true hk
              have hw1 : wrap64 ((k : Int) + 1) = ((k + 1 : Nat) : Int) := by have := HLN.out; unfold wrap64; omega
              have q0 : (0 : Int) ≤ (k : Int) := by omega
              have q1 : (k : Int) < (L.length : Int) := by omega
              have q2 : (k : Int) < (N : Int) := by have := HN.out; omega
              have HKM := Aside0.mk hk
              obtain ⟨y, hy⟩ : ∃ y, rd L (k : Int) = y := ⟨_, rfl⟩
              obtain ⟨aa, rfl, x1⟩ := int_cell M1.out.ca k hk (-7) (by rw [rd_get (by rw [List.length_replicate]; exact hk), List.getElem_replicate])
              obtain ⟨ab, rfl, x2⟩ := int_cell M1.out.cb k hk y hy
              obtain ⟨ak, rfl, x3⟩ := int_cell M1.out.ck k hk y hy
              obtain ⟨ag, rfl, x4⟩ := int_cell M1.out.cg k (by omega) (-7) (by
                have hl : k < (List.replicate L.length (-7 : Int) ++ [-8]).length := by rw [List.length_append, List.length_replicate]; omega
                rw [rd_get hl, List.getElem_append_left (by rw [List.length_replicate]; exact hk), List.getElem_replicate])
              have b0 : (y == y) = true := by simp
              have b1 : (y != y) = false := by simp
              clear hk hy
              go_upto_region 21 with fail
              go_quiet (fail)
              have M2 := Aside0.mk (M1.out.low (pw_below_drewN (Below.refl _ _) nq))
              clear x1 x2 x3 x4 b0 b1 M1
              go_wp2_with fail
              go_roundw
              case rel => exact ⟨k + 1, congrArg (Value.int .i64) hw1, ⟨by have := HKM.out; omega⟩, M2⟩
              case measure =>
                rw [hw1]
                show ((L.length : Int) - ((k + 1 : Nat) : Int)).toNat < ((L.length : Int) - (k : Int)).toNat
                have := HKM.out
                omega
            · have d1 : decide ((k : Int) < (L.length : Int)) = false := decide_eq_false (by omega)
              have d2 : decide (k < L.length) = false := decide_eq_false hk
              have n0 : ((L.length : Int) == (L.length : Int)) = true := by simp
              clear hk HK
              have hsub : wrap64 ((N : Int) - 1) = (L.length : Int) := by have := HN.out; have := HLN.out; unfold wrap64; omega
              have q0 : (0 : Int) ≤ (L.length : Int) := by omega
              have q1 : (L.length : Int) < (N : Int) := by have := HN.out; omega
              go_upto_region 23 with fail
              go_wp2_with fail
              refine Calls.mono (live_calls w.heap.size S1 p1 T1 _ M1.out.tw.a) ?_
              rintro e w13 ⟨vl, L2, rfl, hR, hLL, hb⟩
              obtain rfl := LV.out.uniq hLL
              obtain ⟨Al, cl2, rfl, hcl, hCl⟩ := R_slice_int hR
              have M2 := Aside0.mk (M1.out.low hb)
              have HCL := Aside0.mk hCl
              have HLL := Aside0.mk hcl
              clear hR hLL hb hCl hcl
              go_wp2_with fail
              refine Calls.mono (same_calls Al Ak cl2 ck L _ HCL.out HLL.out M2.out.ck HCK.out) ?_
              rintro e w14 ⟨rfl, hd⟩
              have M3 := Aside0.mk (M2.out.low (drawn_below hd))
              clear hd M2 HCL HLL
              go_wp2_with fail
              refine Calls.mono (live_calls w.heap.size S2 p2 (Tb.new cl) _ M3.out.tw.b) ?_
              rintro e w15 ⟨vu, L3, rfl, hR, hLL, hb⟩
              obtain rfl := live_new hLL
              obtain ⟨Au, cu, rfl, _, _⟩ := R_slice_int hR
              have M4 := Aside0.mk (M3.out.low hb)
              clear hR hLL hb
              go_wp2_with fail
              refine Calls.mono (last_calls w.heap.size S2 p2 (Tb.new cl) true _ M4.out.tw.b) ?_
              rintro e w16 ⟨rfl, hb⟩
              have M5 := Aside0.mk (M4.out.low hb)
              rw [show (Tb.new cl).lastk true = 0 from by cases cl <;> rfl]
              clear hb
              go_wp2_with fail
              refine Calls.mono (last_calls w.heap.size S2 p2 (Tb.new cl) false _ M5.out.tw.b) ?_
              rintro e w17 ⟨rfl, hb⟩
              have M6 := Aside0.mk (M5.out.low hb)
              rw [show (Tb.new cl).lastk false = 0 from by cases cl <;> rfl]
              clear hb
              obtain ⟨ag, rfl, x4⟩ := int_cell M6.out.cg L.length (by omega) (-8) (by
                have hl : L.length < (List.replicate L.length (-7 : Int) ++ [-8]).length := by rw [List.length_append, List.length_replicate]; exact Nat.lt_succ_self _
                rw [rd_get hl, List.getElem_append_right (by rw [List.length_replicate]; exact Nat.le_refl _)]
                simp)
              go_wp2_with fail
              refine Calls.mono (state_calls w.heap.size S2 p2 (Tb.new cl) 1 _ M6.out.tw.b ⟨by decide, by decide⟩) ?_
              rintro e w18 ⟨rfl, rfl⟩
              rw [show (Tb.new cl).stt 1 = 0 from by cases cl <;> rfl]
              go_wp2_with fail
              go_ret
              exact ⟨rfl, M6.out.be⟩



end Go.Proofs.YtagkncjdohljgaaDoor.St
