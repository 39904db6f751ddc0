/- An event on the table: Do, walked. The package's variables hold what the program lays. -/
import Derived.Test.YtagkncjdohljgaaDoorMDoM
import Derived.Deep.DeepCutAuto
import Derived.Deep.CutBlock
namespace Go.Proofs.YtagkncjdohljgaaDoor.St
open Go Go.RowKit Go.Proofs.YtagkncjdohljgaaDoorW.PrintWords Go.Proofs.YtagkncjdohljgaaDoorW.PrintLast Go.Proofs.YtagkncjdohljgaaDoorW.PrintMore Go.Proofs.YtagkncjdohljgaaDoor.QL
set_option linter.unusedSimpArgs false
set_option linter.unusedVariables false
set_option maxHeartbeats 2000000
set_option maxRecDepth 100000
/-- What holds while Do runs. -/
structure DoI (w W : World) (base : Nat) (S : Nat → Prop) (p : Nat) (T : Tb) (got : Bool) (k : Int) (g5 g6 : Nat) : Prop where
  ta : TAt W base S p T
  be : Below w.heap.size w W
  b5 : W.heap[g5]? = some (.cells #[.bool got, .int .i64 k] 55 (0, 0))
  b6 : W.heap[g6]? = some (.cells #[.int .i64 0, .int .i64 0] 53 (0, 0))
  lt : w.heap.size ≤ g5 ∧ g5 < g6
  sl : ∀ k, S k → k < w.heap.size
def DoPost (w w' : World) (base : Nat) (S : Nat → Prop) (p : Nat) (T : Tb) : Prop := ∃ S', TAt w' base S' p T ∧ Fr w w' S ∧ ∀ k, S' k → S k ∨ w.heap.size ≤ k
section
variable {w W W1 : World} {base p g5 g6 : Nat} {S : Nat → Prop} {T : Tb} {got : Bool} {k : Int}
theorem DoI.low (h : DoI w W base S p T got k g5 g6) (hb : Below W.heap.size W W1) : DoI w W1 base S p T got k g5 g6 :=
  ⟨h.ta.low hb, below_then h.be h.be.size hb, blk_below h.b5 hb, blk_below h.b6 hb, h.lt, h.sl⟩
theorem Fr.mono {S2 : Nat → Prop} (h : Fr w W S) (hs : ∀ k, S k → S2 k) : Fr w W S2 := ⟨h.os, h.tape, h.output, h.size, fun k hk hn => h.block k hk (fun e => hn (hs k e))⟩
theorem fr_set (w : World) (p : Addr) (u : Value) : Fr w (w.setCell p u) (fun k => k = p.block) := ⟨rfl, rfl, rfl, by simp [World.setCell], fun k _ hn => Below.heap_setCell _ _ _ _ hn⟩
theorem DoI.fin (h : DoI w W base S p T got k g5 g6) (a b : Value) : DoPost w ((W.setCell ⟨g6, 0, none⟩ a).setCell ⟨g6, 1, none⟩ b) base S p T := by
  have hl := h.lt
  have h1 : Fr W ((W.setCell ⟨g6, 0, none⟩ a).setCell ⟨g6, 1, none⟩ b) (fun k => k = g6) := (fr_set W ⟨g6, 0, none⟩ a).then_ (fr_set _ ⟨g6, 1, none⟩ b) (fun k e => Or.inl e)
  refine ⟨S, h.ta.fr h1 (fun k hk e => by have := h.sl k hk; omega), ?_, fun k hk => Or.inl hk⟩
  exact (Fr.of_below h.be S).then_ h1 (fun k e => Or.inr (by omega))
end
theorem do_calls (base : Nat) (S : Nat → Prop) (p : Nat) (T : Tb) (id : Int) (got : Bool) (k : Int) (w : World) (h : TAt w base S p T) (hG : GL w) (hid : W64 id) : Calls Tryd.prog 27 #[.pointer (some ⟨p, 0, none⟩), .int .i64 id, .agg #[.bool got, .int .i64 k]] w fun e w' => e = .returned (.agg #[.int .i64 (T.act id got k).1.1, .int .i64 (T.act id got k).1.2]) ∧ DoPost w w' base S p (T.act id got k).2 := by
  obtain ⟨R, hR⟩ : ∃ R, T.act id got k = R := ⟨_, rfl⟩
  rw [hR]
  have HR := Aside0.mk hR
  unfold Tb.act at HR
  have H := Aside0.mk h
  have HG := Aside0.mk hG
  have HW := Aside0.mk hid
  clear hR h hG hid
  go_enter Tryd.func27, Tryd.ntmps27
  go_upto_region 1 with fail
  obtain ⟨W, hW⟩ : ∃ W, (w.alloc (.cells #[.bool got, .int .i64 k] 55)).alloc (.cells #[.int .i64 0, .int .i64 0] 53) = W := ⟨_, rfl⟩
  obtain ⟨g5, hg5⟩ : ∃ g, w.heap.size = g := ⟨_, rfl⟩
  obtain ⟨g6, hg6⟩ : ∃ g, g5 + 1 = g := ⟨_, rfl⟩
  have I0 : Aside0 (DoI w W base S p T got k g5 g6) := ⟨by
    have hb : Below w.heap.size w W := by rw [← hW]; exact below_alloc (below_alloc (Below.refl _ _) _) _
    refine ⟨H.out.low hb, hb, ?_, ?_, by omega, fun k hk => (H.out.bd k hk).2⟩
    · rw [← hW, ← hg5]; exact blk_below (blk_new _ _) (below_alloc (Below.refl _ _) _)
    · have h := blk_new (w.alloc (.cells #[.bool got, .int .i64 k] 55)) (.cells #[.int .i64 0, .int .i64 0] 53)
      rw [World.size_alloc, hW, hg5, hg6] at h
      exact h⟩
  rw [hW, hg5, hg6]
  clear hW hg5 hg6
  have e0 : W.cell? ⟨g5, 0, none⟩ = some (.bool got) := blk_cell I0.out.b5 0
  have e1 : W.cell? ⟨g5, 1, none⟩ = some (.int .i64 k) := blk_cell I0.out.b5 1
  have q0 : W.cell? ⟨g6, 0, none⟩ = some (.int .i64 0) := blk_cell I0.out.b6 0
  have q1 : W.cell? ⟨g6, 1, none⟩ = some (.int .i64 0) := blk_cell I0.out.b6 1
  have p0 : W.frozen? ⟨g6, 0, none⟩ = false := blk_frozen I0.out.b6 0
  have p1 : W.frozen? ⟨g6, 1, none⟩ = false := blk_frozen I0.out.b6 1
  by_cases hk : k < 1
  · have d1 : decide (k < 1) = true := decide_eq_true hk
    rw [if_pos (Or.inl hk)] at HR
    obtain rfl := HR.out
    clear hk
    go_wp2_with fail
    refine bodyPost_ret (v := .agg #[.int .i64 4, .int .i64 0]) (by simp [results, Tryd.results27, go_sem, *]) rfl ⟨rfl, ?_⟩
    exact I0.out.fin _ _
  have d1 : decide (k < 1) = false := decide_eq_false hk
  by_cases hk2 : 8 < k
  · have d2 : decide (8 < k) = true := decide_eq_true hk2
    rw [if_pos (Or.inr hk2)] at HR
    obtain rfl := HR.out
    clear hk hk2
    go_wp2_with fail
    refine bodyPost_ret (v := .agg #[.int .i64 4, .int .i64 0]) (by simp [results, Tryd.results27, go_sem, *]) rfl ⟨rfl, ?_⟩
    exact I0.out.fin _ _
  have d2 : decide (8 < k) = false := decide_eq_false hk2
  rw [if_neg (by omega)] at HR
  have HK : Aside0 (1 ≤ k ∧ k ≤ 8) := ⟨by omega⟩
  clear hk hk2
  obtain ⟨ra, rb, hrf⟩ : ∃ a b, refV got = (a, b) := ⟨_, _, rfl⟩
  have HRF : Aside0 (streams_refused.f got k = some (ra, rb)) := ⟨by rw [← hrf]; unfold streams_refused.f refV; cases got <;> rfl⟩
  rw [hrf] at HR
  clear hrf
  by_cases hI : In31 id
  · have HRT : Aside0 (decide (In31 id) = true) := ⟨decide_eq_true hI⟩
    rw [if_neg (fun h => h hI)] at HR
    have HI := Aside0.mk hI
    clear hI
    obtain ⟨s, hs⟩ : ∃ s, T.stt id = s := ⟨_, rfl⟩
    have HS := Aside0.mk hs
    rw [hs] at HR
    clear hs
    go_upto_region 6 with (first | (go_at_call 33; refine (right_calls p id _).mono ?_; rintro e w1 ⟨rfl, rfl⟩; rw [HRT.out]) | (go_at_call 13; refine (state_calls base S p T id _ I0.out.ta HW.out).mono ?_; rintro e w1 ⟨rfl, rfl⟩; rw [HS.out]))
    clear d1 d2
    obtain ⟨bg, hbg⟩ : ∃ b, decide (k = 1 ∨ k = 2 ∨ k = 5) = b := ⟨_, rfl⟩
    have HBG := Aside0.mk hbg
    clear hbg
    go_cut [8] from 30 to 42 (fun v wc => v = .bool bg ∧ Aside0 (wc = W))
    case first =>
      by_cases h1 : k = 1
      · have k1 : (k == 1) = true := beq_iff_eq.mpr h1
        have HB : Aside0 (true = bg) := ⟨by rw [← HBG.out]; exact (decide_eq_true (Or.inl h1)).symm⟩
        clear h1
        go_wp2_with fail
        go_meet
        case rel => exact ⟨by rw [HB.out], ⟨rfl⟩⟩
      have k1 : (k == 1) = false := beq_eq_false_iff_ne.mpr h1
      by_cases h2 : k = 2
      · have k2 : (k == 2) = true := beq_iff_eq.mpr h2
        have HB : Aside0 (true = bg) := ⟨by rw [← HBG.out]; exact (decide_eq_true (Or.inr (Or.inl h2))).symm⟩
        clear h1 h2
        go_wp2_with fail
        go_meet
        case rel => exact ⟨by rw [HB.out], ⟨rfl⟩⟩
      have k2 : (k == 2) = false := beq_eq_false_iff_ne.mpr h2
      by_cases h5 : k = 5
      · have k5 : (k == 5) = true := beq_iff_eq.mpr h5
        have HB : Aside0 (true = bg) := ⟨by rw [← HBG.out]; exact (decide_eq_true (Or.inr (Or.inr h5))).symm⟩
        clear h1 h2 h5
        go_wp2_with fail
        go_meet
        case rel => exact ⟨by rw [HB.out], ⟨rfl⟩⟩
      · have k5 : (k == 5) = false := beq_eq_false_iff_ne.mpr h5
        have HB : Aside0 (false = bg) := ⟨by rw [← HBG.out]; exact (decide_eq_false (fun h => by rcases h with h | h | h <;> contradiction)).symm⟩
        clear h1 h2 h5
        go_wp2_with fail
        go_meet
        case rel => exact ⟨by rw [HB.out], ⟨rfl⟩⟩
    case rest =>
      obtain ⟨rfl, HWC⟩ := hcut
      rw [HWC.out]
      clear HWC
      rename_i hk9
      refine hk9 _ _ ?_
      refine wp_seq_k ?_
      intro K2 hK2
      clear hk9
      obtain ⟨gv, hgv⟩ : ∃ g, T.gives id got k = g := ⟨_, rfl⟩
      have HGV := Aside0.mk hgv
      rw [hgv] at HR
      clear hgv
      by_cases hc : s = 0 ∧ bg = true ∧ gv = false
      · have hh : s = 0 ∧ (k = 1 ∨ k = 2 ∨ k = 5) ∧ gv = false := ⟨hc.1, of_decide_eq_true (by rw [HBG.out]; exact hc.2.1), hc.2.2⟩
        rw [if_pos hh] at HR
        obtain rfl := HR.out
        obtain ⟨hs0, rfl, rfl⟩ := hc
        have s0 : (s == 0) = true := beq_iff_eq.mpr hs0
        clear hh hs0
        go_wp2_with (first | (go_at_call 44; refine (gives_calls base S p T id got k _ I0.out.ta HI.out).mono ?_; rintro e w2 ⟨rfl, hb⟩; rw [HGV.out]; have I1 := Aside0.mk (I0.out.low hb); clear hb q0 q1 p0 p1 e0 e1; have q0 : w2.cell? ⟨g6, 0, none⟩ = some (.int .i64 0) := blk_cell I1.out.b6 0; have q1 : w2.cell? ⟨g6, 1, none⟩ = some (.int .i64 0) := blk_cell I1.out.b6 1; have p0 : w2.frozen? ⟨g6, 0, none⟩ = false := blk_frozen I1.out.b6 0; have p1 : w2.frozen? ⟨g6, 1, none⟩ = false := blk_frozen I1.out.b6 1; have e0 : w2.cell? ⟨g5, 0, none⟩ = some (.bool got) := blk_cell I1.out.b5 0; have e1 : w2.cell? ⟨g5, 1, none⟩ = some (.int .i64 k) := blk_cell I1.out.b5 1) | (go_at_call 43; refine (streams_refused.calls got k ra rb _ HRF.out).mono ?_; rintro e w2 ⟨rfl, hb⟩; have I2 := Aside0.mk (I1.out.low hb); clear hb q0 q1 p0 p1; have q0 : w2.cell? ⟨g6, 0, none⟩ = some (.int .i64 0) := blk_cell I2.out.b6 0; have q1 : w2.cell? ⟨g6, 1, none⟩ = some (.int .i64 0) := blk_cell I2.out.b6 1; have p0 : w2.frozen? ⟨g6, 0, none⟩ = false := blk_frozen I2.out.b6 0; have p1 : w2.frozen? ⟨g6, 1, none⟩ = false := blk_frozen I2.out.b6 1))
        refine bodyPost_ret (v := .agg #[.int .i64 ra, .int .i64 rb]) (by simp [results, Tryd.results27, go_sem, *]) rfl ⟨rfl, ?_⟩
        exact I2.out.fin _ _
      rw [if_neg (fun h => hc ⟨h.1, by rw [← HBG.out]; exact decide_eq_true h.2.1, h.2.2⟩)] at HR
      go_cut [54] from 43 to 54 (fun v wc => v = .bool false ∧ Aside0 (DoI w wc base S p T got k g5 g6))
      case first =>
        by_cases h0 : s = 0
        · have s0 : (s == 0) = true := beq_iff_eq.mpr h0
          cases bg
          · clear hc h0
            go_wp2_with fail
            go_meet
            case rel => exact ⟨rfl, I0⟩
          · cases gv
            · exact absurd ⟨h0, rfl, rfl⟩ hc
            · clear hc h0
              go_wp2_with (go_at_call 44; refine (gives_calls base S p T id got k _ I0.out.ta HI.out).mono ?_; rintro e w2 ⟨rfl, hb⟩; rw [HGV.out]; have I1 := Aside0.mk (I0.out.low hb); clear hb q0 q1 p0 p1 e0 e1; have q0 : w2.cell? ⟨g6, 0, none⟩ = some (.int .i64 0) := blk_cell I1.out.b6 0; have q1 : w2.cell? ⟨g6, 1, none⟩ = some (.int .i64 0) := blk_cell I1.out.b6 1; have p0 : w2.frozen? ⟨g6, 0, none⟩ = false := blk_frozen I1.out.b6 0; have p1 : w2.frozen? ⟨g6, 1, none⟩ = false := blk_frozen I1.out.b6 1; have e0 : w2.cell? ⟨g5, 0, none⟩ = some (.bool got) := blk_cell I1.out.b5 0; have e1 : w2.cell? ⟨g5, 1, none⟩ = some (.int .i64 k) := blk_cell I1.out.b5 1)
              go_meet
              case rel => exact ⟨rfl, I1⟩
        · have s0 : (s == 0) = false := beq_eq_false_iff_ne.mpr h0
          clear hc h0
          go_wp2_with fail
          go_meet
          case rel => exact ⟨rfl, I0⟩
      case rest =>
        obtain ⟨rfl, IC⟩ := hcut
        obtain ⟨wv, rfl⟩ : ∃ x, x = wc := ⟨_, rfl⟩
        clear hc I0 e0 e1 q0 q1 p0 p1 HGV HBG
        refine hK2 _ _ ?_
        clear hK2
        have e0 : wv.cell? ⟨g5, 0, none⟩ = some (.bool got) := blk_cell IC.out.b5 0
        have e1 : wv.cell? ⟨g5, 1, none⟩ = some (.int .i64 k) := blk_cell IC.out.b5 1
        have q0 : wv.cell? ⟨g6, 0, none⟩ = some (.int .i64 0) := blk_cell IC.out.b6 0
        have q1 : wv.cell? ⟨g6, 1, none⟩ = some (.int .i64 0) := blk_cell IC.out.b6 1
        have p0 : wv.frozen? ⟨g6, 0, none⟩ = false := blk_frozen IC.out.b6 0
        have p1 : wv.frozen? ⟨g6, 1, none⟩ = false := blk_frozen IC.out.b6 1
        obtain ⟨mb, pt, hb, hm, hn, hx, hi, hmb⟩ := IC.out.ta.ex
        have z1 := blk_cell hb 1
        have HB := Aside0.mk hb
        have HM := Aside0.mk hm
        have HN := Aside0.mk hn
        have HX := Aside0.mk hx
        have HIJ := Aside0.mk hi
        have HMB := Aside0.mk hmb
        obtain ⟨⟨r1, r2, r3⟩, hr⟩ : ∃ r, nx got k s = r := ⟨_, rfl⟩
        have hsr := stt_range H.out.ok id
        rw [HS.out] at hsr
        have HNX : Aside0 (state_Next.f s got k = some (r1, r2, r3)) := ⟨by unfold state_Next.f; rw [if_neg (by have := HK.out; omega), hr]⟩
        have HRG : Aside0 (0 ≤ r1 ∧ r1 ≤ 6 ∧ (r1 = 0 → s = 0)) := ⟨by have h := nx_range got k s HK.out.1 HK.out.2 hsr.1 hsr.2; rw [hr] at h; exact h⟩
        have HCL : Aside0 (s = 6 → r1 = 6) := ⟨fun e => by have h := nx_closed got k HK.out.1 HK.out.2; rw [← e, hr] at h; exact h.trans e⟩
        rw [hr] at HR
        clear hb hi hmb hr hsr
        rcases ho : T.m id with _ | x
        · have hl := hm.look0 HW.out (hn id ho)
          have HO := Aside0.mk ho
          have HC : Aside0 (T.cut id = false) := ⟨by unfold Tb.cut; rw [ho]⟩
          rw [if_neg (by rw [HC.out]; exact fun h => Bool.noConfusion h.1)] at HR
          clear hm hn hx ho
          go_upto_region 12 with fail
          go_upto_region 13 with (go_at_call 45; refine (state_Next.calls s got k r1 r2 r3 _ (HG.out.below IC.out.be) HNX.out).mono ?_; rintro e w4 ⟨rfl, hb⟩; have I4 := Aside0.mk (IC.out.low hb); have HB4 := Aside0.mk hb; clear hb)
          obtain ⟨W5, hW5⟩ : ∃ W, w4.alloc (.cells #[.int .i64 r2, .int .i64 r3] 53) = W := ⟨_, rfl⟩
          obtain ⟨ga, hga⟩ : ∃ g, w4.heap.size = g := ⟨_, rfl⟩
          have hb5 : Below w4.heap.size w4 W5 := by rw [← hW5]; exact below_alloc (Below.refl _ _) _
          have I5 := Aside0.mk (I4.out.low hb5)
          have BA : Aside0 (W5.heap[ga]? = some (.cells #[.int .i64 r2, .int .i64 r3] 53 (0, 0))) := ⟨by rw [← hW5, ← hga]; exact blk_new _ _⟩
          have F5 : Aside0 (Below wv.heap.size wv W5) := ⟨below_then HB4.out HB4.out.size hb5⟩
          rw [hW5, hga]
          clear hW5 hga hb5 I4 HB4 q0 q1 p0 p1 e0 e1 z1
          have e0 : W5.cell? ⟨g5, 0, none⟩ = some (.bool got) := blk_cell I5.out.b5 0
          have e1 : W5.cell? ⟨g5, 1, none⟩ = some (.int .i64 k) := blk_cell I5.out.b5 1
          have q0 : W5.cell? ⟨g6, 0, none⟩ = some (.int .i64 0) := blk_cell I5.out.b6 0
          have q1 : W5.cell? ⟨g6, 1, none⟩ = some (.int .i64 0) := blk_cell I5.out.b6 1
          have p0 : W5.frozen? ⟨g6, 0, none⟩ = false := blk_frozen I5.out.b6 0
          have p1 : W5.frozen? ⟨g6, 1, none⟩ = false := blk_frozen I5.out.b6 1
          have a0 : W5.cell? ⟨ga, 0, none⟩ = some (.int .i64 r2) := blk_cell BA.out 0
          have a1 : W5.cell? ⟨ga, 1, none⟩ = some (.int .i64 r3) := blk_cell BA.out 1
          by_cases h2 : r2 ≠ 0
          · rw [if_pos (Or.inl h2)] at HR
            obtain rfl := HR.out
            have n2 : (r2 == 0) = false := beq_eq_false_iff_ne.mpr h2
            have n3 : (r2 != 0) = true := by simp [h2]
            clear h2
            go_wp2_with fail
            refine bodyPost_ret (v := .agg #[.int .i64 r2, .int .i64 r3]) (by simp [results, Tryd.results27, go_sem, *]) rfl ⟨rfl, ?_⟩
            exact I5.out.fin _ _
          have n2 : (r2 == 0) = true := beq_iff_eq.mpr (Classical.not_not.mp h2)
          have n3 : (r2 != 0) = false := by simp [Classical.not_not.mp h2]
          by_cases h3 : r1 = s
          · rw [if_pos (Or.inr h3)] at HR
            obtain rfl := HR.out
            have n4 : (r1 == s) = true := beq_iff_eq.mpr h3
            clear h2 h3
            go_wp2_with fail
            refine bodyPost_ret (v := .agg #[.int .i64 r2, .int .i64 r3]) (by simp [results, Tryd.results27, go_sem, *]) rfl ⟨rfl, ?_⟩
            exact I5.out.fin _ _
          have n4 : (r1 == s) = false := beq_eq_false_iff_ne.mpr h3
          rw [if_neg (by rintro (h | h); exact h2 h; exact h3 h)] at HR
          obtain rfl := HR.out
          have HR1 : Aside0 (1 ≤ r1 ∧ r1 ≤ 6) := ⟨by have := HRG.out; rcases Int.lt_or_eq_of_le this.1 with h | h; omega; exact absurd (this.2.2 h.symm) (by omega)⟩
          have HS6 : Aside0 (s ≠ 6) := ⟨fun e => h3 (by rw [HCL.out e, e])⟩
          clear h2 h3
          obtain ⟨L0, hL0⟩ : ∃ z, (if id % 2 = 0 then id else T.l0) = z := ⟨_, rfl⟩
          obtain ⟨L1, hL1⟩ : ∃ z, (if id % 2 = 1 then id else T.l1) = z := ⟨_, rfl⟩
          have HL0 := Aside0.mk hL0
          have HL1 := Aside0.mk hL1
          clear hL0 hL1
          have zc : W5.cell? ⟨p, 1, none⟩ = some (.map (some mb)) := blk_cell (blk_below HB.out F5.out) 1
          go_upto_region 17 with fail
          obtain ⟨W6, hW6⟩ : ∃ W, W5.alloc (.cells #[.int .i64 0, .bool false] 73) = W := ⟨_, rfl⟩
          obtain ⟨g9, hg9⟩ : ∃ g, W5.heap.size = g := ⟨_, rfl⟩
          have H59 := Aside0.mk hg9
          have hb6 : Below W5.heap.size W5 W6 := by rw [← hW6]; exact below_alloc (Below.refl _ _) _
          have B9 : Aside0 (W6.heap[g9]? = some (.cells #[.int .i64 0, .bool false] 73 (0, 0))) := ⟨by rw [← hW6, ← hg9]; exact blk_new _ _⟩
          have I6 := Aside0.mk (I5.out.low hb6)
          have BA6 := Aside0.mk (blk_below BA.out hb6)
          have HB6 := Aside0.mk hb6
          have P6 : Aside0 (W6.heap[p]? = some (.cells #[.bool T.cl, .map (some mb), .int .i64 T.l0, .int .i64 T.l1] 61 (0, 0))) := ⟨blk_below (blk_below HB.out F5.out) hb6⟩
          rw [hW6, hg9]
          clear hW6 hg9 zc q0 q1 p0 p1 e0 e1 a0 a1
          have hM6 := (HM.out.low F5.out).low hb6
          clear hb6
          obtain ⟨W7, hrun, hmp, hg7⟩ := hM6.put (by have := H.out.ok.b0; have := H.out.ok.b1; unfold maxLen; omega) HI.out.1 HI.out.2 g9
          have NM : Aside0 (∀ g cs t, W6.heap[g]? = some (.cells cs t (0, 0)) → some g ≠ some mb) := ⟨fun g cs t h e => by obtain rfl := Option.some.inj e; exact hM6.kind h⟩
          have M7 := Aside0.mk hmp
          have G7 := Aside0.mk hg7
          have B57 := Aside0.mk (blk_grown I6.out.b5 hg7 (NM.out _ _ _ I6.out.b5))
          have B67 := Aside0.mk (blk_grown I6.out.b6 hg7 (NM.out _ _ _ I6.out.b6))
          have BA7 := Aside0.mk (blk_grown BA6.out hg7 (NM.out _ _ _ BA6.out))
          have B97 := Aside0.mk (blk_grown B9.out hg7 (NM.out _ _ _ B9.out))
          have P7 := Aside0.mk (blk_grown P6.out hg7 (NM.out _ _ _ P6.out))
          have zc : W6.cell? ⟨p, 1, none⟩ = some (.map (some mb)) := blk_cell P6.out 1
          clear hM6 hmp hg7
          go_upto_region 18 with fail
          clear hrun zc
          go_cut [] from 106 to 112 (fun wd => Aside0 (wd.heap[p]? = some (.cells #[.bool T.cl, .map (some mb), .int .i64 L0, .int .i64 L1] 61 (0, 0)) ∧ Fr W7 wd (fun j => j = p)))
          case first =>
            rcases par HI.out.1 with ⟨w1, w2⟩ | ⟨w1, w2⟩
            · have z2 : W7.cell? ⟨p, 2, none⟩ = some (.int .i64 T.l0) := blk_cell P7.out 2
              have zf : W7.frozen? ⟨p, 2, none⟩ = false := blk_frozen P7.out 2
              have HE : Aside0 (L0 = id ∧ L1 = T.l1) := ⟨by rw [← HL0.out, ← HL1.out]; exact ⟨if_pos w1, if_neg (by omega)⟩⟩
              clear w1
              go_wp2_with fail
              go_meet
              case rel => exact ⟨by rw [HE.out.1, HE.out.2]; exact blk_set P7.out 2 (.int .i64 id), fr_set W7 ⟨p, 2, none⟩ _⟩
            · have z2 : W7.cell? ⟨p, 3, none⟩ = some (.int .i64 T.l1) := blk_cell P7.out 3
              have zf : W7.frozen? ⟨p, 3, none⟩ = false := blk_frozen P7.out 3
              have HE : Aside0 (L0 = T.l0 ∧ L1 = id) := ⟨by rw [← HL0.out, ← HL1.out]; exact ⟨if_neg (by omega), if_pos w1⟩⟩
              clear w1
              go_wp2_with fail
              go_meet
              case rel => exact ⟨by rw [HE.out.1, HE.out.2]; exact blk_set P7.out 3 (.int .i64 id), fr_set W7 ⟨p, 3, none⟩ _⟩
          case rest =>
            have PK := hcut
            clear hcut
            obtain ⟨W8, rfl⟩ : ∃ x, x = wc := ⟨_, rfl⟩
            rename_i hk9
            refine hk9 _ _ ?_
            have NP : Aside0 (g5 ≠ p ∧ g6 ≠ p ∧ ga ≠ p ∧ g9 ≠ p ∧ mb ≠ p) := ⟨by
              refine ⟨fun e => ?_, fun e => ?_, fun e => ?_, fun e => ?_, fun e => ?_⟩
              · have h := B57.out; rw [e, P7.out] at h; simp at h
              · have h := B67.out; rw [e, P7.out] at h; simp at h
              · have h := BA7.out; rw [e, P7.out] at h; simp at h
              · have h := B97.out; rw [e, P7.out] at h; simp at h
              · exact M7.out.kind (by rw [e]; exact P7.out)⟩
            have NG : Aside0 (g5 ≠ g9 ∧ g6 ≠ g9 ∧ ga ≠ g9 ∧ p ≠ g9 ∧ mb ≠ g9) := ⟨by
              refine ⟨fun e => ?_, fun e => ?_, fun e => ?_, fun e => ?_, fun e => ?_⟩
              · have h := B57.out; rw [e, B97.out] at h; simp at h
              · have h := B67.out; rw [e, B97.out] at h; simp at h
              · have h := BA7.out; rw [e, B97.out] at h; simp at h
              · exact NP.out.2.2.2.1 e.symm
              · exact M7.out.kind (by rw [e]; exact B97.out)⟩
            have B58 := Aside0.mk (PK.out.2.blk B57.out NP.out.1)
            have B68 := Aside0.mk (PK.out.2.blk B67.out NP.out.2.1)
            have BA8 := Aside0.mk (PK.out.2.blk BA7.out NP.out.2.2.1)
            have B98 := Aside0.mk (PK.out.2.blk B97.out NP.out.2.2.2.1)
            have s0 : W8.cell? ⟨g9, 0, none⟩ = some (.int .i64 0) := blk_cell B98.out 0
            have sf : W8.frozen? ⟨g9, 0, none⟩ = false := blk_frozen B98.out 0
            go_upto_region 20 with fail
            generalize hW9 : World.setCell _ _ _ = W9
            have B99 : Aside0 (W9.heap[g9]? = some (.cells #[.int .i64 r1, .bool false] 73 (0, 0))) := ⟨by rw [← hW9]; exact blk_set B98.out 0 (.int .i64 r1)⟩
            have K9 : Aside0 (Fr W8 W9 (fun j => j = g9)) := ⟨by rw [← hW9]; exact fr_set W8 ⟨g9, 0, none⟩ _⟩
            have B59 := Aside0.mk (K9.out.blk B58.out NG.out.1)
            have B69 := Aside0.mk (K9.out.blk B68.out NG.out.2.1)
            have BA9 := Aside0.mk (K9.out.blk BA8.out NG.out.2.2.1)
            clear hW9 s0 sf
            have e0 : W9.cell? ⟨g5, 0, none⟩ = some (.bool got) := blk_cell B59.out 0
            have e1 : W9.cell? ⟨g5, 1, none⟩ = some (.int .i64 k) := blk_cell B59.out 1
            have s1 : W9.cell? ⟨g9, 1, none⟩ = some (.bool false) := blk_cell B99.out 1
            have sf : W9.frozen? ⟨g9, 1, none⟩ = false := blk_frozen B99.out 1
            obtain ⟨nc, hnc⟩ : ∃ c, (false || (decide (k = 6) && !got)) = c := ⟨_, rfl⟩
            have HNC := Aside0.mk hnc
            clear hnc
            go_cut [] from 117 to 133 (fun wd => Aside0 (wd = W9.setCell ⟨g9, 1, none⟩ (.bool nc)))
            case first =>
              by_cases h6 : k = 6
              · have k6 : (k == 6) = true := beq_iff_eq.mpr h6
                by_cases hg0 : got = true
                · rw [hg0] at e0
                  have HQ : Aside0 (false = nc) := ⟨by rw [← HNC.out, hg0]; simp⟩
                  clear h6 hg0
                  go_wp2_with fail
                  go_meet
                  case rel => exact ⟨by rw [HQ.out]⟩
                · have hg1 : got = false := by cases got <;> simp_all
                  rw [hg1] at e0
                  have HQ : Aside0 (true = nc) := ⟨by rw [← HNC.out, hg1, decide_eq_true h6]; rfl⟩
                  clear h6 hg0 hg1
                  go_wp2_with fail
                  go_meet
                  case rel => exact ⟨by rw [HQ.out]⟩
              · have k6 : (k == 6) = false := beq_eq_false_iff_ne.mpr h6
                have HQ : Aside0 (false = nc) := ⟨by rw [← HNC.out, decide_eq_false h6]; rfl⟩
                clear h6
                go_wp2_with fail
                go_meet
                case rel => exact ⟨by rw [HQ.out]⟩
            case rest =>
              have HWC := hcut
              rw [HWC.out]
              clear HWC
              rename_i hk8
              refine hk8 _ _ ?_
              clear e0 e1 s1 sf
              generalize hWX : World.setCell _ _ _ = WX
              have B9X : Aside0 (WX.heap[g9]? = some (.cells #[.int .i64 r1, .bool nc] 73 (0, 0))) := ⟨by rw [← hWX]; exact blk_set B99.out 1 (.bool nc)⟩
              have KX : Aside0 (Fr W9 WX (fun j => j = g9)) := ⟨by rw [← hWX]; exact fr_set W9 ⟨g9, 1, none⟩ _⟩
              have B6X := Aside0.mk (KX.out.blk B69.out NG.out.2.1)
              have BAX := Aside0.mk (KX.out.blk BA9.out NG.out.2.2.1)
              clear hWX
              have q0 : WX.cell? ⟨g6, 0, none⟩ = some (.int .i64 0) := blk_cell B6X.out 0
              have q1 : WX.cell? ⟨g6, 1, none⟩ = some (.int .i64 0) := blk_cell B6X.out 1
              have p0 : WX.frozen? ⟨g6, 0, none⟩ = false := blk_frozen B6X.out 0
              have p1 : WX.frozen? ⟨g6, 1, none⟩ = false := blk_frozen B6X.out 1
              have a0 : WX.cell? ⟨ga, 0, none⟩ = some (.int .i64 r2) := blk_cell BAX.out 0
              have a1 : WX.cell? ⟨ga, 1, none⟩ = some (.int .i64 r3) := blk_cell BAX.out 1
              go_wp2_with fail
              refine bodyPost_ret (v := .agg #[.int .i64 r2, .int .i64 r3]) (by simp [results, Tryd.results27, go_sem, *]) rfl ⟨rfl, ?_⟩
              show DoPost w _ base S p (T.put id ⟨r1, T.cut id || (decide (k = 6) && !got)⟩)
              rw [HC.out, HNC.out]
              have hF := F5.out
              have h1 : Fr WX ((WX.setCell ⟨g6, 0, none⟩ (.int .i64 r2)).setCell ⟨g6, 1, none⟩ (.int .i64 r3)) (fun k => k = g6) := (fr_set WX ⟨g6, 0, none⟩ _).then_ (fr_set _ ⟨g6, 1, none⟩ _) (fun k e => Or.inl e)
              have h8X : Fr W8 WX (fun j => j = g9) := K9.out.then_ KX.out (fun _ e => Or.inl e)
              have h7X : Fr W7 WX (fun j => j = p ∨ j = g9) := (PK.out.2.mono (fun _ e => Or.inl e)).then_ h8X (fun j e => Or.inl (Or.inr e))
              have h6X : Fr W6 WX (fun j => j = mb ∨ j = p ∨ j = g9) := (Fr.of_grown G7.out (fun k e => Or.inl (Option.some.inj e).symm)).then_ h7X (fun j e => Or.inl (Or.inr e))
              have h5X : Fr W5 WX (fun j => j = p ∨ j = mb) := (Fr.of_below HB6.out _).then_ h6X (fun j e => by
                rcases e with e | e | e
                · exact Or.inl (Or.inr e)
                · exact Or.inl (Or.inl e)
                · exact Or.inr (by have := H59.out; omega))
              have z0 : (T.put id ⟨r1, nc⟩).l0 = L0 := by rw [← HL0.out]; unfold Tb.put; rw [HO.out]; simp
              have z1 : (T.put id ⟨r1, nc⟩).l1 = L1 := by rw [← HL1.out]; unfold Tb.put; rw [HO.out]; simp
              have hT := tat_born (T := T) (x := ⟨r1, nc⟩) (g9 := g9) (HM.out.low hF) (blk_below HB.out hF) HN.out (fun i y hy => by obtain ⟨c, c1, c2, c3⟩ := HX.out i y hy; exact ⟨c, c1, blk_below c2 hF, c3⟩) HIJ.out HMB.out I5.out.ta.sp I5.out.ta.bd H.out.ok HI.out HO.out (stt_none HI.out HO.out (by rw [HS.out]; exact HS6.out)) HR1.out.1 HR1.out.2 h5X (by have := H59.out; omega) (blk_lt B9X.out) (by rw [z0, z1]; exact h8X.blk PK.out.1 NG.out.2.2.2.1) (M7.out.move (h7X.block mb M7.out.lt (fun e => by rcases e with e | e; exact NP.out.2.2.2.2 e; exact NG.out.2.2.2.2 e)) h7X.size) B9X.out
              refine ⟨fun j => S j ∨ j = g9, hT.fr h1 (fun j hj e => ?_), ?_, fun j hj => hj.imp (fun e => e) (fun e => ?_)⟩
              · rcases hj with hj | hj
                · have := I5.out.sl j hj; have := I5.out.lt; omega
                · exact NG.out.2.1 (e.symm.trans hj)
              · exact ((Fr.of_below I5.out.be S).then_ h5X (fun j e => Or.inl (by rcases e with e | e; rw [e]; exact I5.out.ta.sp; rw [e]; exact HMB.out))).then_ h1 (fun j e => Or.inr (by have := I5.out.lt; omega))
              · have := H59.out; have := I5.out.be.size; omega
        · obtain ⟨b, hpt, hbb, hSb⟩ := hx id x ho
          have hl := hm.look1 HW.out hpt
          have HO := Aside0.mk ho
          have HPT := Aside0.mk hpt
          have HBB := Aside0.mk hbb
          have HSB := Aside0.mk hSb
          obtain ⟨xc, hxc⟩ : ∃ c, x.c = c := ⟨_, rfl⟩
          have HXC := Aside0.mk hxc
          have HC : Aside0 (T.cut id = xc) := ⟨by unfold Tb.cut; rw [ho]; exact hxc⟩
          rw [HC.out] at HR
          have y1 : wv.cell? ⟨b, 1, none⟩ = some (.bool xc) := by rw [← hxc]; exact blk_cell hbb 1
          clear hm hn hx ho hpt hbb hSb hxc
          by_cases hc : xc = true ∧ got = true ∧ k ≠ 5
          · rw [if_pos hc] at HR
            obtain rfl := HR.out
            obtain ⟨rfl, rfl, hk5⟩ := hc
            have k5 : (k == 5) = false := beq_eq_false_iff_ne.mpr hk5
            have k5b : (k != 5) = true := by simp [hk5]
            clear hk5
            go_wp2_with fail
            refine bodyPost_ret (v := .agg #[.int .i64 1, .int .i64 0]) (by simp [results, Tryd.results27, go_sem, *]) rfl ⟨rfl, ?_⟩
            exact IC.out.fin _ _
          rw [if_neg hc] at HR
          go_upto_region 10 with fail
          go_cut [79] from 63 to 79 (fun v wd => v = .bool false ∧ Aside0 (wd = wv))
          case first =>
            by_cases hx0 : xc = true
            · rw [hx0] at y1
              by_cases hg0 : got = true
              · rw [hg0] at e0
                by_cases hk5 : k = 5
                · have k5 : (k == 5) = true := beq_iff_eq.mpr hk5
                  have k5b : (k != 5) = false := by simp [hk5]
                  clear hc hk5 hx0 hg0
                  go_wp2_with fail
                  go_meet
                  case rel => exact ⟨rfl, ⟨rfl⟩⟩
                · exact absurd ⟨hx0, hg0, hk5⟩ hc
              · have hg1 : got = false := by cases got <;> simp_all
                rw [hg1] at e0
                clear hc hx0 hg0 hg1
                go_wp2_with fail
                go_meet
                case rel => exact ⟨rfl, ⟨rfl⟩⟩
            · have hx1 : xc = false := by cases xc <;> simp_all
              rw [hx1] at y1
              clear hc hx0 hx1
              go_wp2_with fail
              go_meet
              case rel => exact ⟨rfl, ⟨rfl⟩⟩
          case rest =>
            obtain ⟨rfl, HWC⟩ := hcut
            rw [HWC.out]
            clear HWC hc
            rename_i hk9
            refine hk9 _ _ ?_
            clear hl y1
            go_upto_region 13 with (go_at_call 45; refine (state_Next.calls s got k r1 r2 r3 _ (HG.out.below IC.out.be) HNX.out).mono ?_; rintro e w4 ⟨rfl, hb⟩; have I4 := Aside0.mk (IC.out.low hb); have HB4 := Aside0.mk hb; clear hb)
            obtain ⟨W5, hW5⟩ : ∃ W, w4.alloc (.cells #[.int .i64 r2, .int .i64 r3] 53) = W := ⟨_, rfl⟩
            obtain ⟨ga, hga⟩ : ∃ g, w4.heap.size = g := ⟨_, rfl⟩
            have hb5 : Below w4.heap.size w4 W5 := by rw [← hW5]; exact below_alloc (Below.refl _ _) _
            have I5 := Aside0.mk (I4.out.low hb5)
            have BA : Aside0 (W5.heap[ga]? = some (.cells #[.int .i64 r2, .int .i64 r3] 53 (0, 0))) := ⟨by rw [← hW5, ← hga]; exact blk_new _ _⟩
            have F5 : Aside0 (Below wv.heap.size wv W5) := ⟨below_then HB4.out HB4.out.size hb5⟩
            rw [hW5, hga]
            clear hW5 hga hb5 I4 HB4 q0 q1 p0 p1 e0 e1 z1
            have e0 : W5.cell? ⟨g5, 0, none⟩ = some (.bool got) := blk_cell I5.out.b5 0
            have e1 : W5.cell? ⟨g5, 1, none⟩ = some (.int .i64 k) := blk_cell I5.out.b5 1
            have q0 : W5.cell? ⟨g6, 0, none⟩ = some (.int .i64 0) := blk_cell I5.out.b6 0
            have q1 : W5.cell? ⟨g6, 1, none⟩ = some (.int .i64 0) := blk_cell I5.out.b6 1
            have p0 : W5.frozen? ⟨g6, 0, none⟩ = false := blk_frozen I5.out.b6 0
            have p1 : W5.frozen? ⟨g6, 1, none⟩ = false := blk_frozen I5.out.b6 1
            have a0 : W5.cell? ⟨ga, 0, none⟩ = some (.int .i64 r2) := blk_cell BA.out 0
            have a1 : W5.cell? ⟨ga, 1, none⟩ = some (.int .i64 r3) := blk_cell BA.out 1
            by_cases h2 : r2 ≠ 0
            · rw [if_pos (Or.inl h2)] at HR
              obtain rfl := HR.out
              have n2 : (r2 == 0) = false := beq_eq_false_iff_ne.mpr h2
              have n3 : (r2 != 0) = true := by simp [h2]
              clear h2
              go_wp2_with fail
              refine bodyPost_ret (v := .agg #[.int .i64 r2, .int .i64 r3]) (by simp [results, Tryd.results27, go_sem, *]) rfl ⟨rfl, ?_⟩
              exact I5.out.fin _ _
            have n2 : (r2 == 0) = true := beq_iff_eq.mpr (Classical.not_not.mp h2)
            have n3 : (r2 != 0) = false := by simp [Classical.not_not.mp h2]
            by_cases h3 : r1 = s
            · rw [if_pos (Or.inr h3)] at HR
              obtain rfl := HR.out
              have n4 : (r1 == s) = true := beq_iff_eq.mpr h3
              clear h2 h3
              go_wp2_with fail
              refine bodyPost_ret (v := .agg #[.int .i64 r2, .int .i64 r3]) (by simp [results, Tryd.results27, go_sem, *]) rfl ⟨rfl, ?_⟩
              exact I5.out.fin _ _
            have n4 : (r1 == s) = false := beq_eq_false_iff_ne.mpr h3
            rw [if_neg (by rintro (h | h); exact h2 h; exact h3 h)] at HR
            obtain rfl := HR.out
            have HR1 : Aside0 (1 ≤ r1 ∧ r1 ≤ 6) := ⟨by have := HRG.out; rcases Int.lt_or_eq_of_le this.1 with h | h; omega; exact absurd (this.2.2 h.symm) (by omega)⟩
            have HS6 : Aside0 (s ≠ 6) := ⟨fun e => h3 (by rw [HCL.out e, e])⟩
            clear h2 h3
            have BB5 : Aside0 (W5.heap[b]? = some (.cells #[.int .i64 x.s, .bool xc] 73 (0, 0))) := ⟨by rw [← HXC.out]; exact blk_below HBB.out F5.out⟩
            have NB : Aside0 (b ≠ g5 ∧ b ≠ g6 ∧ b ≠ ga) := ⟨by
              have h1 := I5.out.sl _ HSB.out
              have h2 := I5.out.lt
              refine ⟨by omega, by omega, fun e => ?_⟩
              have h3 := BB5.out
              rw [e, BA.out] at h3
              cases h3⟩
            have s0 : W5.cell? ⟨b, 0, none⟩ = some (.int .i64 x.s) := blk_cell BB5.out 0
            have sf : W5.frozen? ⟨b, 0, none⟩ = false := blk_frozen BB5.out 0
            go_upto_region 20 with fail
            generalize hW6 : World.setCell _ _ _ = W6
            have BB6 : Aside0 (W6.heap[b]? = some (.cells #[.int .i64 r1, .bool xc] 73 (0, 0))) := ⟨by rw [← hW6]; exact blk_set BB5.out 0 (.int .i64 r1)⟩
            have K6 : Aside0 (Fr W5 W6 (fun j => j = b)) := ⟨by rw [← hW6]; exact fr_set W5 ⟨b, 0, none⟩ _⟩
            have B56 : Aside0 (W6.heap[g5]? = some (.cells #[.bool got, .int .i64 k] 55 (0, 0))) := ⟨K6.out.blk I5.out.b5 (fun e => NB.out.1 e.symm)⟩
            have B66 : Aside0 (W6.heap[g6]? = some (.cells #[.int .i64 0, .int .i64 0] 53 (0, 0))) := ⟨K6.out.blk I5.out.b6 (fun e => NB.out.2.1 e.symm)⟩
            have BA6 : Aside0 (W6.heap[ga]? = some (.cells #[.int .i64 r2, .int .i64 r3] 53 (0, 0))) := ⟨K6.out.blk BA.out (fun e => NB.out.2.2 e.symm)⟩
            clear hW6 s0 sf e0 e1 q0 q1 p0 p1 a0 a1
            have e0 : W6.cell? ⟨g5, 0, none⟩ = some (.bool got) := blk_cell B56.out 0
            have e1 : W6.cell? ⟨g5, 1, none⟩ = some (.int .i64 k) := blk_cell B56.out 1
            have s1 : W6.cell? ⟨b, 1, none⟩ = some (.bool xc) := blk_cell BB6.out 1
            have sf : W6.frozen? ⟨b, 1, none⟩ = false := blk_frozen BB6.out 1
            obtain ⟨nc, hnc⟩ : ∃ c, (xc || (decide (k = 6) && !got)) = c := ⟨_, rfl⟩
            have HNC := Aside0.mk hnc
            clear hnc
            go_cut [] from 117 to 133 (fun wd => Aside0 (wd = W6.setCell ⟨b, 1, none⟩ (.bool nc)))
            case first =>
              by_cases hx0 : xc = true
              · rw [hx0] at s1
                have HQ : Aside0 (true = nc) := ⟨by rw [← HNC.out, hx0]; rfl⟩
                clear hx0
                go_wp2_with fail
                go_meet
                case rel => exact ⟨by rw [HQ.out]⟩
              have hx1 : xc = false := by cases xc <;> simp_all
              rw [hx1] at s1
              by_cases h6 : k = 6
              · have k6 : (k == 6) = true := beq_iff_eq.mpr h6
                by_cases hg0 : got = true
                · rw [hg0] at e0
                  have HQ : Aside0 (false = nc) := ⟨by rw [← HNC.out, hx1, hg0]; simp⟩
                  clear h6 hg0 hx0 hx1
                  go_wp2_with fail
                  go_meet
                  case rel => exact ⟨by rw [HQ.out]⟩
                · have hg1 : got = false := by cases got <;> simp_all
                  rw [hg1] at e0
                  have HQ : Aside0 (true = nc) := ⟨by rw [← HNC.out, hx1, hg1, decide_eq_true h6]; rfl⟩
                  clear h6 hg0 hg1 hx0 hx1
                  go_wp2_with fail
                  go_meet
                  case rel => exact ⟨by rw [HQ.out]⟩
              · have k6 : (k == 6) = false := beq_eq_false_iff_ne.mpr h6
                have HQ : Aside0 (false = nc) := ⟨by rw [← HNC.out, hx1, decide_eq_false h6]; rfl⟩
                clear h6 hx0 hx1
                go_wp2_with fail
                go_meet
                case rel => exact ⟨by rw [HQ.out]⟩
            case rest =>
              have HWC := hcut
              rw [HWC.out]
              clear HWC
              rename_i hk9
              refine hk9 _ _ ?_
              clear e0 e1 s1 sf
              generalize hW7 : World.setCell _ _ _ = W7
              have BB7 : Aside0 (W7.heap[b]? = some (.cells #[.int .i64 r1, .bool nc] 73 (0, 0))) := ⟨by rw [← hW7]; exact blk_set BB6.out 1 (.bool nc)⟩
              have K7 : Aside0 (Fr W6 W7 (fun j => j = b)) := ⟨by rw [← hW7]; exact fr_set W6 ⟨b, 1, none⟩ _⟩
              have B67 := Aside0.mk (K7.out.blk B66.out (fun e => NB.out.2.1 e.symm))
              have BA7 := Aside0.mk (K7.out.blk BA6.out (fun e => NB.out.2.2 e.symm))
              have KK : Aside0 (Fr W5 W7 (fun j => j = b)) := ⟨K6.out.then_ K7.out (fun _ e => Or.inl e)⟩
              clear hW7
              have q0 : W7.cell? ⟨g6, 0, none⟩ = some (.int .i64 0) := blk_cell B67.out 0
              have q1 : W7.cell? ⟨g6, 1, none⟩ = some (.int .i64 0) := blk_cell B67.out 1
              have p0 : W7.frozen? ⟨g6, 0, none⟩ = false := blk_frozen B67.out 0
              have p1 : W7.frozen? ⟨g6, 1, none⟩ = false := blk_frozen B67.out 1
              have a0 : W7.cell? ⟨ga, 0, none⟩ = some (.int .i64 r2) := blk_cell BA7.out 0
              have a1 : W7.cell? ⟨ga, 1, none⟩ = some (.int .i64 r3) := blk_cell BA7.out 1
              go_wp2_with fail
              refine bodyPost_ret (v := .agg #[.int .i64 r2, .int .i64 r3]) (by simp [results, Tryd.results27, go_sem, *]) rfl ⟨rfl, ?_⟩
              show DoPost w _ base S p (T.put id ⟨r1, xc || (decide (k = 6) && !got)⟩)
              rw [HNC.out]
              have hF := F5.out
              have h1 : Fr W7 ((W7.setCell ⟨g6, 0, none⟩ (.int .i64 r2)).setCell ⟨g6, 1, none⟩ (.int .i64 r3)) (fun k => k = g6) := (fr_set W7 ⟨g6, 0, none⟩ _).then_ (fr_set _ ⟨g6, 1, none⟩ _) (fun k e => Or.inl e)
              have hT := tat_upd (T := T) (x := ⟨r1, nc⟩) (HM.out.low hF) (blk_below HB.out hF) rfl HN.out (fun i y hy => by obtain ⟨c, c1, c2, c3⟩ := HX.out i y hy; exact ⟨c, c1, blk_below c2 hF, c3⟩) HIJ.out HMB.out I5.out.ta.sp I5.out.ta.bd H.out.ok HO.out HPT.out HR1.out.1 HR1.out.2 KK.out BB7.out
              refine ⟨S, hT.fr h1 (fun j hj e => by have := I5.out.sl j hj; have := I5.out.lt; omega), ?_, fun j hj => Or.inl hj⟩
              exact ((Fr.of_below I5.out.be S).then_ KK.out (fun j e => Or.inl (by rw [e]; exact HSB.out))).then_ h1 (fun j e => Or.inr (by have := I5.out.lt; omega))

  · have HRT : Aside0 (decide (In31 id) = false) := ⟨decide_eq_false hI⟩
    rw [if_pos hI] at HR
    obtain rfl := HR.out
    clear hI
    go_wp2_with (first | (go_at_call 33; refine (right_calls p id _).mono ?_; rintro e w1 ⟨rfl, rfl⟩; rw [HRT.out]) | (go_at_call 43; refine (streams_refused.calls got k ra rb _ HRF.out).mono ?_; rintro e w2 ⟨rfl, hb⟩; have I2 := Aside0.mk (I0.out.low hb); clear hb q0 q1 p0 p1; have q0 : w2.cell? ⟨g6, 0, none⟩ = some (.int .i64 0) := blk_cell I2.out.b6 0; have q1 : w2.cell? ⟨g6, 1, none⟩ = some (.int .i64 0) := blk_cell I2.out.b6 1; have p0 : w2.frozen? ⟨g6, 0, none⟩ = false := blk_frozen I2.out.b6 0; have p1 : w2.frozen? ⟨g6, 1, none⟩ = false := blk_frozen I2.out.b6 1))
    refine bodyPost_ret (v := .agg #[.int .i64 ra, .int .i64 rb]) (by simp [results, Tryd.results27, go_sem, *]) rfl ⟨rfl, ?_⟩
    exact I2.out.fin _ _
end Go.Proofs.YtagkncjdohljgaaDoor.St
