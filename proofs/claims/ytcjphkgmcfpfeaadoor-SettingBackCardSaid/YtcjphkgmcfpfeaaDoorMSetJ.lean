/- The law SettingBack, walked. The package's variable holds what the program lays; no other condition. -/
import Derived.Test.YtcjphkgmcfpfeaaDoorMSetQ
namespace Go.Proofs.YtcjphkgmcfpfeaaDoor.MS
open Go Go.RowKit Go.Proofs.YtcjphkgmcfpfeaaDoorW.PrintWords Go.Proofs.YtcjphkgmcfpfeaaDoorW.PrintLast Go.Proofs.YtcjphkgmcfpfeaaDoorW.PrintMore Go.Proofs.YtcjphkgmcfpfeaaDoor.QL
set_option linter.unusedSimpArgs false
set_option linter.unusedVariables false
set_option maxHeartbeats 40000000
set_option maxRecDepth 100000
attribute [local go_sem high] eqA23 eqA28
theorem apply_s1 (s : St) (A : Option Addr) (c : Nat) (l : List S28) (cl : Bool) (s2 : St) (c2 : Int) (w : World) (hr : Kd.C k28 w A l.length l) (hc : l.length ≤ c) (h : apply cl s l = (s2, c2)) :
    Calls Tryd.prog 11 #[.agg #[.int .i64 s.a, .int .i64 s.b, .int .i64 s.c, .int .i64 s.d, .int .i64 s.e, .int .i64 s.f], .slice A l.length c, .bool cl] w fun e w' => e = .returned (.tuple #[.agg #[.int .i64 s2.a, .int .i64 s2.b, .int .i64 s2.c, .int .i64 s2.d, .int .i64 s2.e, .int .i64 s2.f], .int .i64 c2]) ∧ Below w.heap.size w w' := by
  have h1 := apply_calls s A c l cl w hr hc
  rw [h] at h1
  exact h1
theorem apply_s1n (s : St) (A : Option Addr) (c n : Nat) (l : List S28) (cl : Bool) (s2 : St) (c2 : Int) (w : World) (hn : n = l.length) (hr : Kd.C k28 w A l.length l) (hc : l.length ≤ c) (h : apply cl s l = (s2, c2)) :
    Calls Tryd.prog 11 #[.agg #[.int .i64 s.a, .int .i64 s.b, .int .i64 s.c, .int .i64 s.d, .int .i64 s.e, .int .i64 s.f], .slice A n c, .bool cl] w fun e w' => e = .returned (.tuple #[.agg #[.int .i64 s2.a, .int .i64 s2.b, .int .i64 s2.c, .int .i64 s2.d, .int .i64 s2.e, .int .i64 s2.f], .int .i64 c2]) ∧ Below w.heap.size w w' := by
  subst hn
  exact apply_s1 s A c l cl s2 c2 w hr hc h
theorem apply_z (s : St) (A : Option Addr) (c : Nat) (l : List S28) (cl : Bool) (c2 : Int) (w : World) (hr : Kd.C k28 w A l.length l) (hc : l.length ≤ c) (h : apply cl s l = (St.zero, c2)) :
    Calls Tryd.prog 11 #[.agg #[.int .i64 s.a, .int .i64 s.b, .int .i64 s.c, .int .i64 s.d, .int .i64 s.e, .int .i64 s.f], .slice A l.length c, .bool cl] w fun e w' => e = .returned (.tuple #[.agg #[.int .i64 0, .int .i64 0, .int .i64 0, .int .i64 0, .int .i64 0, .int .i64 0], .int .i64 c2]) ∧ Below w.heap.size w w' := by
  have h1 := apply_calls s A c l cl w hr hc
  rw [h] at h1
  exact h1
theorem apply_zn (s : St) (A : Option Addr) (c n : Nat) (l : List S28) (cl : Bool) (c2 : Int) (w : World) (hn : n = l.length) (hr : Kd.C k28 w A l.length l) (hc : l.length ≤ c) (h : apply cl s l = (St.zero, c2)) :
    Calls Tryd.prog 11 #[.agg #[.int .i64 s.a, .int .i64 s.b, .int .i64 s.c, .int .i64 s.d, .int .i64 s.e, .int .i64 s.f], .slice A n c, .bool cl] w fun e w' => e = .returned (.tuple #[.agg #[.int .i64 0, .int .i64 0, .int .i64 0, .int .i64 0, .int .i64 0, .int .i64 0], .int .i64 c2]) ∧ Below w.heap.size w w' := by
  subst hn
  exact apply_z s A c l cl c2 w hr hc h
theorem made_calls (s : St) (s2 : St) (h : made s = s2) (w : World) : Calls Tryd.prog 30 #[.agg #[.int .i64 s.a, .int .i64 s.b, .int .i64 s.c, .int .i64 s.d, .int .i64 s.e, .int .i64 s.f]] w fun e w' => e = .returned (.agg #[.int .i64 s2.a, .int .i64 s2.b, .int .i64 s2.c, .int .i64 s2.d, .int .i64 s2.e, .int .i64 s2.f]) ∧ Below w.heap.size w w' := by
  subst h
  exact heraldlaw08_made.calls s.a s.b s.c s.d s.e s.f _ _ _ _ _ _ w rfl
theorem params_ex (s t : St) (cl : Bool) (L : List S28) (h : params cl s t 6 = L) (w : World) :
    Calls Tryd.prog 14 #[.agg #[.int .i64 s.a, .int .i64 s.b, .int .i64 s.c, .int .i64 s.d, .int .i64 s.e, .int .i64 s.f], .agg #[.int .i64 t.a, .int .i64 t.b, .int .i64 t.c, .int .i64 t.d, .int .i64 t.e, .int .i64 t.f], .bool cl] w fun e w' => ∃ A c, e = .returned (.slice A L.length c) ∧ Kd.R k28 28 w' w.heap.size (fun _ => True) (.slice A L.length c) L ∧ Below w.heap.size w w' := by
  subst h
  refine (params_calls s t cl w).mono ?_
  rintro e w' ⟨v, rfl, hv, hb⟩
  obtain ⟨A, c, rfl⟩ := Kd.R_slice hv
  exact ⟨A, c, rfl, hv, hb⟩
theorem fits_ex (s : St) (h : Fit s) (w : World) : Calls Tryd.prog 21 #[.agg #[.int .i64 s.a, .int .i64 s.b, .int .i64 s.c, .int .i64 s.d, .int .i64 s.e, .int .i64 s.f]] w fun e w' => e = .returned (.bool true) ∧ Below w.heap.size w w' := setting_Fits.calls s.a s.b s.c s.d s.e s.f true w h.fits
theorem same_ex (A B : Option Addr) (c d : Nat) (L : List S28) (hl : L.length ≤ 9223372036854775806) (w : World) (h1 : Kd.C k28 w A L.length L) (h2 : L.length ≤ c) (h3 : Kd.C k28 w B L.length L) (h4 : L.length ≤ d) : Calls Tryd.prog 17 #[.slice A L.length c, .slice B L.length d] w fun e w' => e = .returned (.bool true) ∧ Below w.heap.size w w' := (heraldlaw08_sameParams.calls (L.length + 1) A c L B d L true w h1 h2 h3 h4 (same_self L hl)).mono (fun _ _ h => ⟨h.1, by first | exact h.2 | exact h.2.below⟩)
theorem back_calls (a0 b0 a b m : St) (cl : Bool) (L : List S28) (ha : made a0 = a) (hb : made b0 = b) (hm : meant cl a b = m) (hL : params cl a b 6 = L) (w : World) (hG : GL w) :
    Calls Tryd.prog 5 #[.agg #[.int .i64 a0.a, .int .i64 a0.b, .int .i64 a0.c, .int .i64 a0.d, .int .i64 a0.e, .int .i64 a0.f], .agg #[.int .i64 b0.a, .int .i64 b0.b, .int .i64 b0.c, .int .i64 b0.d, .int .i64 b0.e, .int .i64 b0.f], .bool cl] w fun e w' => e = .returned (.bool true) ∧ Below w.heap.size w w' := by
  have HA := Aside0.mk ha
  have HBm := Aside0.mk hb
  have HM := Aside0.mk hm
  have HLL := Aside0.mk hL
  have HG := Aside0.mk hG
  have FA : Aside0 (Fit a) := ⟨ha ▸ made_fit a0⟩
  have FB : Aside0 (Fit b) := ⟨hb ▸ made_fit b0⟩
  have FM : Aside0 (Fit m) := ⟨hm ▸ meant_fit cl a b FA.out FB.out⟩
  have hlen : L.length ≤ 6 := hL ▸ params_len cl a b 6
  have HB := Aside0.mk (Below.refl w.heap.size w)
  clear ha hb hm hL hG
  go_enter Tryd.func5, Tryd.ntmps5
  go_upto_region 1 with fail
  have H3 := Aside0.mk (blk_alloc (blk_new w (.cells #[.int .i64 a0.a, .int .i64 a0.b, .int .i64 a0.c, .int .i64 a0.d, .int .i64 a0.e, .int .i64 a0.f] 23)) (.cells #[.int .i64 b0.a, .int .i64 b0.b, .int .i64 b0.c, .int .i64 b0.d, .int .i64 b0.e, .int .i64 b0.f] 23))
  have H4 : Aside0 (((w.alloc (.cells #[.int .i64 a0.a, .int .i64 a0.b, .int .i64 a0.c, .int .i64 a0.d, .int .i64 a0.e, .int .i64 a0.f] 23)).alloc (.cells #[.int .i64 b0.a, .int .i64 b0.b, .int .i64 b0.c, .int .i64 b0.d, .int .i64 b0.e, .int .i64 b0.f] 23)).heap[w.heap.size + 1]? = some (.cells #[.int .i64 b0.a, .int .i64 b0.b, .int .i64 b0.c, .int .i64 b0.d, .int .i64 b0.e, .int .i64 b0.f] 23 (0, 0))) := ⟨by
    have h := blk_new (w.alloc (.cells #[.int .i64 a0.a, .int .i64 a0.b, .int .i64 a0.c, .int .i64 a0.d, .int .i64 a0.e, .int .i64 a0.f] 23)) (.cells #[.int .i64 b0.a, .int .i64 b0.b, .int .i64 b0.c, .int .i64 b0.d, .int .i64 b0.e, .int .i64 b0.f] 23)
    rwa [World.size_alloc] at h⟩
  have LS := Aside0.mk (below_alloc (below_alloc HB.out (.cells #[.int .i64 a0.a, .int .i64 a0.b, .int .i64 a0.c, .int .i64 a0.d, .int .i64 a0.e, .int .i64 a0.f] 23)) (.cells #[.int .i64 b0.a, .int .i64 b0.b, .int .i64 b0.c, .int .i64 b0.d, .int .i64 b0.e, .int .i64 b0.f] 23))
  obtain ⟨Ws, hWs⟩ : ∃ W, (w.alloc (.cells #[.int .i64 a0.a, .int .i64 a0.b, .int .i64 a0.c, .int .i64 a0.d, .int .i64 a0.e, .int .i64 a0.f] 23)).alloc (.cells #[.int .i64 b0.a, .int .i64 b0.b, .int .i64 b0.c, .int .i64 b0.d, .int .i64 b0.e, .int .i64 b0.f] 23) = W := ⟨_, rfl⟩
  rw [hWs] at H3 H4 LS ⊢
  clear hWs
  have z0 : Ws.cell? ⟨w.heap.size, 0, none⟩ = some (.int .i64 a0.a) := blk_cell H3.out 0
  have z1 : Ws.cell? ⟨w.heap.size, 1, none⟩ = some (.int .i64 a0.b) := blk_cell H3.out 1
  have z2 : Ws.cell? ⟨w.heap.size, 2, none⟩ = some (.int .i64 a0.c) := blk_cell H3.out 2
  have z3 : Ws.cell? ⟨w.heap.size, 3, none⟩ = some (.int .i64 a0.d) := blk_cell H3.out 3
  have z4 : Ws.cell? ⟨w.heap.size, 4, none⟩ = some (.int .i64 a0.e) := blk_cell H3.out 4
  have z5 : Ws.cell? ⟨w.heap.size, 5, none⟩ = some (.int .i64 a0.f) := blk_cell H3.out 5
  go_upto_region 2 with (first
    | (go_at_call 30; refine (made_calls a0 a HA.out _).mono ?_; rintro e w1 ⟨rfl, hb⟩; have HB1 := Aside0.mk hb; clear hb))
  clear z0 z1 z2 z3 z4 z5
  obtain ⟨Wt, hWt⟩ : ∃ W, w1.alloc (.cells #[.int .i64 a.a, .int .i64 a.b, .int .i64 a.c, .int .i64 a.d, .int .i64 a.e, .int .i64 a.f] 23) = W := ⟨_, rfl⟩
  obtain ⟨b7, hb7⟩ : ∃ x, w1.heap.size = x := ⟨_, rfl⟩
  have XT : Aside0 (Below Ws.heap.size Ws Wt) := ⟨by rw [← hWt]; exact below_alloc HB1.out _⟩
  have H7 : Aside0 (Wt.heap[b7]? = some (.cells #[.int .i64 a.a, .int .i64 a.b, .int .i64 a.c, .int .i64 a.d, .int .i64 a.e, .int .i64 a.f] 23 (0, 0))) := ⟨by rw [← hWt, ← hb7]; exact blk_new w1 _⟩
  replace H4 := Aside0.mk (blk_below H4.out XT.out)
  replace LS := Aside0.mk (below_then LS.out LS.out.size XT.out)
  have G7 : Aside0 (w.heap.size ≤ b7) := ⟨by rw [← hb7]; exact Nat.le_trans (by have := blk_lt H3.out; omega) HB1.out.size⟩
  rw [hWt, hb7]
  clear hWt hb7 HB1 H3
  have z0 : Wt.cell? ⟨w.heap.size + 1, 0, none⟩ = some (.int .i64 b0.a) := blk_cell H4.out 0
  have z1 : Wt.cell? ⟨w.heap.size + 1, 1, none⟩ = some (.int .i64 b0.b) := blk_cell H4.out 1
  have z2 : Wt.cell? ⟨w.heap.size + 1, 2, none⟩ = some (.int .i64 b0.c) := blk_cell H4.out 2
  have z3 : Wt.cell? ⟨w.heap.size + 1, 3, none⟩ = some (.int .i64 b0.d) := blk_cell H4.out 3
  have z4 : Wt.cell? ⟨w.heap.size + 1, 4, none⟩ = some (.int .i64 b0.e) := blk_cell H4.out 4
  have z5 : Wt.cell? ⟨w.heap.size + 1, 5, none⟩ = some (.int .i64 b0.f) := blk_cell H4.out 5
  go_upto_region 3 with (first
    | (go_at_call 30; refine (made_calls b0 b HBm.out _).mono ?_; rintro e w2 ⟨rfl, hb⟩; have HB2 := Aside0.mk hb; clear hb))
  clear z0 z1 z2 z3 z4 z5
  obtain ⟨W0, hW0⟩ : ∃ W, w2.alloc (.cells #[.int .i64 b.a, .int .i64 b.b, .int .i64 b.c, .int .i64 b.d, .int .i64 b.e, .int .i64 b.f] 23) = W := ⟨_, rfl⟩
  obtain ⟨b8, hb8⟩ : ∃ x, w2.heap.size = x := ⟨_, rfl⟩
  have X0 : Aside0 (Below Wt.heap.size Wt W0) := ⟨by rw [← hW0]; exact below_alloc HB2.out _⟩
  have H8 : Aside0 (W0.heap[b8]? = some (.cells #[.int .i64 b.a, .int .i64 b.b, .int .i64 b.c, .int .i64 b.d, .int .i64 b.e, .int .i64 b.f] 23 (0, 0))) := ⟨by rw [← hW0, ← hb8]; exact blk_new w2 _⟩
  have N78 : Aside0 (b7 ≠ b8) := ⟨by have := blk_lt H7.out; have := HB2.out.size; omega⟩
  have G8 : Aside0 (w.heap.size ≤ b8) := ⟨by rw [← hb8]; exact Nat.le_trans LS.out.size HB2.out.size⟩
  replace H7 := Aside0.mk (blk_below H7.out X0.out)
  replace LS := Aside0.mk (below_then LS.out LS.out.size X0.out)
  rw [hW0, hb8]
  clear hW0 hb8 HB2 H4 XT X0
  have z0 : W0.cell? ⟨b7, 0, none⟩ = some (.int .i64 a.a) := blk_cell H7.out 0
  have z1 : W0.cell? ⟨b7, 1, none⟩ = some (.int .i64 a.b) := blk_cell H7.out 1
  have z2 : W0.cell? ⟨b7, 2, none⟩ = some (.int .i64 a.c) := blk_cell H7.out 2
  have z3 : W0.cell? ⟨b7, 3, none⟩ = some (.int .i64 a.d) := blk_cell H7.out 3
  have z4 : W0.cell? ⟨b7, 4, none⟩ = some (.int .i64 a.e) := blk_cell H7.out 4
  have z5 : W0.cell? ⟨b7, 5, none⟩ = some (.int .i64 a.f) := blk_cell H7.out 5
  have y0 : W0.cell? ⟨b8, 0, none⟩ = some (.int .i64 b.a) := blk_cell H8.out 0
  have y1 : W0.cell? ⟨b8, 1, none⟩ = some (.int .i64 b.b) := blk_cell H8.out 1
  have y2 : W0.cell? ⟨b8, 2, none⟩ = some (.int .i64 b.c) := blk_cell H8.out 2
  have y3 : W0.cell? ⟨b8, 3, none⟩ = some (.int .i64 b.d) := blk_cell H8.out 3
  have y4 : W0.cell? ⟨b8, 4, none⟩ = some (.int .i64 b.e) := blk_cell H8.out 4
  have y5 : W0.cell? ⟨b8, 5, none⟩ = some (.int .i64 b.f) := blk_cell H8.out 5
  go_upto_region 4 with (first
    | (go_at_call 14; refine (params_ex a b cl L HLL.out _).mono ?_; rintro e w3 ⟨A9, c9, rfl, hr, hb⟩; have HL3 := Aside0.mk hr; have HB3 := Aside0.mk hb; clear hr hb))
  clear z0 z1 z2 z3 z4 z5
  clear y0 y1 y2 y3 y4 y5
  have H73 := Aside0.mk (blk_below H7.out HB3.out)
  have H83 := Aside0.mk (blk_below H8.out HB3.out)
  have z0 : w3.cell? ⟨b7, 0, none⟩ = some (.int .i64 a.a) := blk_cell H73.out 0
  have z1 : w3.cell? ⟨b7, 1, none⟩ = some (.int .i64 a.b) := blk_cell H73.out 1
  have z2 : w3.cell? ⟨b7, 2, none⟩ = some (.int .i64 a.c) := blk_cell H73.out 2
  have z3 : w3.cell? ⟨b7, 3, none⟩ = some (.int .i64 a.d) := blk_cell H73.out 3
  have z4 : w3.cell? ⟨b7, 4, none⟩ = some (.int .i64 a.e) := blk_cell H73.out 4
  have z5 : w3.cell? ⟨b7, 5, none⟩ = some (.int .i64 a.f) := blk_cell H73.out 5
  have y0 : w3.cell? ⟨b8, 0, none⟩ = some (.int .i64 b.a) := blk_cell H83.out 0
  have y1 : w3.cell? ⟨b8, 1, none⟩ = some (.int .i64 b.b) := blk_cell H83.out 1
  have y2 : w3.cell? ⟨b8, 2, none⟩ = some (.int .i64 b.c) := blk_cell H83.out 2
  have y3 : w3.cell? ⟨b8, 3, none⟩ = some (.int .i64 b.d) := blk_cell H83.out 3
  have y4 : w3.cell? ⟨b8, 4, none⟩ = some (.int .i64 b.e) := blk_cell H83.out 4
  have y5 : w3.cell? ⟨b8, 5, none⟩ = some (.int .i64 b.f) := blk_cell H83.out 5
  go_upto_region 5 with (first
    | (go_at_call 14; refine (params_ex a b cl L HLL.out _).mono ?_; rintro e w4 ⟨A10, c10, rfl, hr, hb⟩; have HM4 := Aside0.mk hr; have HB4 := Aside0.mk hb; clear hr hb))
  clear z0 z1 z2 z3 z4 z5
  clear y0 y1 y2 y3 y4 y5
  have H84 := Aside0.mk (blk_below H83.out HB4.out)
  have y0 : w4.cell? ⟨b8, 0, none⟩ = some (.int .i64 b.a) := blk_cell H84.out 0
  have y1 : w4.cell? ⟨b8, 1, none⟩ = some (.int .i64 b.b) := blk_cell H84.out 1
  have y2 : w4.cell? ⟨b8, 2, none⟩ = some (.int .i64 b.c) := blk_cell H84.out 2
  have y3 : w4.cell? ⟨b8, 3, none⟩ = some (.int .i64 b.d) := blk_cell H84.out 3
  have y4 : w4.cell? ⟨b8, 4, none⟩ = some (.int .i64 b.e) := blk_cell H84.out 4
  have y5 : w4.cell? ⟨b8, 5, none⟩ = some (.int .i64 b.f) := blk_cell H84.out 5
  go_upto_if 36 with (first
    | (go_at_call 14; refine (params_ex b b cl [] (back_self cl b) _).mono ?_; rintro e w5 ⟨A11, c11, rfl, _, hb⟩; have HB5 := Aside0.mk hb; clear hb))
  clear y0 y1 y2 y3 y4 y5
  have H7 := Aside0.mk (blk_below (blk_below H73.out HB4.out) HB5.out)
  have H8 := Aside0.mk (blk_below H84.out HB5.out)
  have HL := Aside0.mk (Kd.R_below (Kd.R_below HL3.out HB4.out) HB5.out)
  have HM5 := Aside0.mk (Kd.R_below HM4.out HB5.out)
  have LS5 := Aside0.mk (below_then (below_then (below_then LS.out LS.out.size HB3.out) (Nat.le_trans LS.out.size HB3.out.size) HB4.out) (Nat.le_trans (Nat.le_trans LS.out.size HB3.out.size) HB4.out.size) HB5.out)
  have S05 : Aside0 (W0.heap.size ≤ w5.heap.size) := ⟨Nat.le_trans HB3.out.size (Nat.le_trans HB4.out.size HB5.out.size)⟩
  have B8L : Aside0 (b8 < W0.heap.size) := ⟨blk_lt ‹Aside0 (W0.heap[b8]? = _)›.out⟩
  have B7L : Aside0 (b7 < W0.heap.size) := ⟨blk_lt ‹Aside0 (W0.heap[b7]? = _)›.out⟩
  have RL3 : Aside0 (∀ q, (Value.slice A9 L.length c9).ownBlock = some q → q < w3.heap.size) := ⟨fun q hq => by obtain ⟨inner, ho⟩ := Kd.R_own HL3.out; exact own_lt ho q hq⟩
  clear H73 H83 H84 HL3 HM4 HB4 HB5 LS
  obtain ⟨nc, hnc⟩ : ∃ x, (!cl) = x := ⟨_, rfl⟩
  rw [hnc]
  have HNC := Aside0.mk hnc
  clear hnc
  go_cut [38] from 37 to 39 (fun v38 wc => Aside0 (wc.heap[b7]? = some (.cells #[.int .i64 a.a, .int .i64 a.b, .int .i64 a.c, .int .i64 a.d, .int .i64 a.e, .int .i64 a.f] 23 (0, 0))) ∧ Aside0 (wc.heap[b8]? = some (.cells #[.int .i64 m.a, .int .i64 m.b, .int .i64 m.c, .int .i64 m.d, .int .i64 m.e, .int .i64 m.f] 23 (0, 0))) ∧ Aside0 (Kd.R k28 28 wc W0.heap.size (fun _ => True) (.slice A9 L.length c9) L) ∧ Aside0 (Kd.R k28 28 wc w3.heap.size (fun _ => True) (.slice A10 L.length c10) L) ∧ Aside0 (Below w.heap.size w wc) ∧ Aside0 (W0.heap.size ≤ wc.heap.size))
  case first =>
    cases nc
    rotate_left
    · have hcl : cl = false := by have := HNC.out; simpa using this
      have hmb : { b with b := a.b } = m := by have := HM.out; rw [hcl] at this; simpa [meant] using this
      replace hmb := Aside0.mk hmb
      clear hcl
      have z1 : w5.cell? ⟨b7, 1, none⟩ = some (.int .i64 a.b) := blk_cell H7.out 1
      have y1 : w5.cell? ⟨b8, 1, none⟩ = some (.int .i64 b.b) := blk_cell H8.out 1
      have yf : w5.frozen? ⟨b8, 1, none⟩ = false := blk_frozen H8.out 1
      go_wp2_with fail
      go_meet
      case rel =>
        refine ⟨⟨blk_far (p := ⟨b8, 1, none⟩) H7.out N78.out _⟩, ⟨?_⟩, ⟨?_⟩, ⟨?_⟩, ⟨LS5.out.setCell (p := ⟨b8, 1, none⟩) G8.out _⟩, ⟨by have := S05.out; simpa using this⟩⟩
        · rw [← hmb.out]; simpa using blk_set H8.out 1 (.int .i64 a.b)
        · exact Kd.R_mono (Kd.R_far (p := ⟨b8, 1, none⟩) (Kd.R_bound HL.out) (fun k hk => by have := hk.2.1; have := B8L.out; simp; omega) _) (fun _ _ => trivial)
        · exact Kd.R_mono (Kd.R_far (p := ⟨b8, 1, none⟩) (Kd.R_bound HM5.out) (fun k hk => by have := hk.2.1; have := B8L.out; have := HB3.out.size; simp; omega) _) (fun _ _ => trivial)
    · have hcl : cl = true := by have := HNC.out; simpa using this
      have hmb : b = m := by have := HM.out; rw [hcl] at this; simpa [meant] using this
      replace hmb := Aside0.mk hmb
      clear hcl
      go_wp2_with fail
      go_meet
      case rel => exact ⟨H7, ⟨by rw [← hmb.out]; exact H8.out⟩, HL, HM5, LS5, S05⟩
  case rest =>
    clear H7 H8 HL HM5 LS5 S05
    obtain ⟨H7, H8, HL, HM5, LS5, S05⟩ := hcut
    have HLC := Kd.R_reads HL.out
    obtain ⟨A9', c9', he9, hl9, hC9⟩ := HLC
    injection he9 with he1 he2 he3
    subst he1; subst he3
    obtain ⟨A10', c10', he10, hl10, hC10⟩ := Kd.R_reads HM5.out
    injection he10 with he1 he2 he3
    subst he1; subst he3
    clear he2
    have HL9 := Aside0.mk hl9
    have HL10 := Aside0.mk hl10
    have HC9 := Aside0.mk hC9
    have HC10 := Aside0.mk hC10
    clear hl9 hl10 hC9 hC10
    have BA : Aside0 (apply cl a L = (m, 0)) := ⟨by rw [← HLL.out, ← HM.out]; exact back_all cl a b FB.out⟩
    have z0 : wc.cell? ⟨b7, 0, none⟩ = some (.int .i64 a.a) := blk_cell H7.out 0
    have z1 : wc.cell? ⟨b7, 1, none⟩ = some (.int .i64 a.b) := blk_cell H7.out 1
    have z2 : wc.cell? ⟨b7, 2, none⟩ = some (.int .i64 a.c) := blk_cell H7.out 2
    have z3 : wc.cell? ⟨b7, 3, none⟩ = some (.int .i64 a.d) := blk_cell H7.out 3
    have z4 : wc.cell? ⟨b7, 4, none⟩ = some (.int .i64 a.e) := blk_cell H7.out 4
    have z5 : wc.cell? ⟨b7, 5, none⟩ = some (.int .i64 a.f) := blk_cell H7.out 5
    go_upto_region 9 with (first
      | (go_at_call 11; refine (apply_s1 a A9 c9 L cl m 0 _ HC9.out HL9.out BA.out).mono ?_; rintro e w8 ⟨rfl, hb⟩; have HB8 := Aside0.mk hb; clear hb))
    clear z0 z1 z2 z3 z4 z5
    obtain ⟨V, hV⟩ : ∃ W, w8.alloc (.cells #[.int .i64 m.a, .int .i64 m.b, .int .i64 m.c, .int .i64 m.d, .int .i64 m.e, .int .i64 m.f] 23) = W := ⟨_, rfl⟩
    obtain ⟨b12, hb12⟩ : ∃ x, w8.heap.size = x := ⟨_, rfl⟩
    have XV : Aside0 (Below wc.heap.size wc V) := ⟨by rw [← hV]; exact below_alloc HB8.out _⟩
    have H12 : Aside0 (V.heap[b12]? = some (.cells #[.int .i64 m.a, .int .i64 m.b, .int .i64 m.c, .int .i64 m.d, .int .i64 m.e, .int .i64 m.f] 23 (0, 0))) := ⟨by rw [← hV, ← hb12]; exact blk_new w8 _⟩
    have V7 := Aside0.mk (blk_below H7.out XV.out)
    have V8 := Aside0.mk (blk_below H8.out XV.out)
    rw [hV, hb12]
    clear hV hb12 HB8
    have hl6 : decide ((6 : Int) < (L.length : Int)) = false := decide_eq_false (by omega)
    have x0 : V.cell? ⟨b12, 0, none⟩ = some (.int .i64 m.a) := blk_cell H12.out 0
    have x1 : V.cell? ⟨b12, 1, none⟩ = some (.int .i64 m.b) := blk_cell H12.out 1
    have x2 : V.cell? ⟨b12, 2, none⟩ = some (.int .i64 m.c) := blk_cell H12.out 2
    have x3 : V.cell? ⟨b12, 3, none⟩ = some (.int .i64 m.d) := blk_cell H12.out 3
    have x4 : V.cell? ⟨b12, 4, none⟩ = some (.int .i64 m.e) := blk_cell H12.out 4
    have x5 : V.cell? ⟨b12, 5, none⟩ = some (.int .i64 m.f) := blk_cell H12.out 5
    have y0 : V.cell? ⟨b8, 0, none⟩ = some (.int .i64 m.a) := blk_cell V8.out 0
    have y1 : V.cell? ⟨b8, 1, none⟩ = some (.int .i64 m.b) := blk_cell V8.out 1
    have y2 : V.cell? ⟨b8, 2, none⟩ = some (.int .i64 m.c) := blk_cell V8.out 2
    have y3 : V.cell? ⟨b8, 3, none⟩ = some (.int .i64 m.d) := blk_cell V8.out 3
    have y4 : V.cell? ⟨b8, 4, none⟩ = some (.int .i64 m.e) := blk_cell V8.out 4
    have y5 : V.cell? ⟨b8, 5, none⟩ = some (.int .i64 m.f) := blk_cell V8.out 5
    have z0 : V.cell? ⟨b7, 0, none⟩ = some (.int .i64 a.a) := blk_cell V7.out 0
    have z1 : V.cell? ⟨b7, 1, none⟩ = some (.int .i64 a.b) := blk_cell V7.out 1
    have z2 : V.cell? ⟨b7, 2, none⟩ = some (.int .i64 a.c) := blk_cell V7.out 2
    have z3 : V.cell? ⟨b7, 3, none⟩ = some (.int .i64 a.d) := blk_cell V7.out 3
    have z4 : V.cell? ⟨b7, 4, none⟩ = some (.int .i64 a.e) := blk_cell V7.out 4
    have z5 : V.cell? ⟨b7, 5, none⟩ = some (.int .i64 a.f) := blk_cell V7.out 5
    have CV9 := Aside0.mk (Kd.C_below HC9.out XV.out)
    have CV10 := Aside0.mk (Kd.C_below HC10.out XV.out)
    go_upto_region 11 with (first
      | (go_at_call 21; (with_reducible refine (fits_ex a FA.out _).mono ?_); rintro e w21 ⟨rfl, hb⟩; have HB21 := Aside0.mk hb; clear hb; have xx0 : w21.cell? ⟨b12, 0, none⟩ = some (.int .i64 m.a) := blk_cell (blk_below H12.out HB21.out) 0; have xx1 : w21.cell? ⟨b12, 1, none⟩ = some (.int .i64 m.b) := blk_cell (blk_below H12.out HB21.out) 1; have xx2 : w21.cell? ⟨b12, 2, none⟩ = some (.int .i64 m.c) := blk_cell (blk_below H12.out HB21.out) 2; have xx3 : w21.cell? ⟨b12, 3, none⟩ = some (.int .i64 m.d) := blk_cell (blk_below H12.out HB21.out) 3; have xx4 : w21.cell? ⟨b12, 4, none⟩ = some (.int .i64 m.e) := blk_cell (blk_below H12.out HB21.out) 4; have xx5 : w21.cell? ⟨b12, 5, none⟩ = some (.int .i64 m.f) := blk_cell (blk_below H12.out HB21.out) 5)
      | (go_at_call 21; (with_reducible refine (fits_ex m FM.out _).mono ?_); rintro e w22 ⟨rfl, hb⟩; have HB22 := Aside0.mk (below_then HB21.out HB21.out.size hb); clear hb)
      | (go_at_call 17; (with_reducible refine (same_ex A9 A10 c9 c10 L (by omega) _ (Kd.C_below CV9.out HB22.out) HL9.out (Kd.C_below CV10.out HB22.out) HL10.out).mono ?_); rintro e w23 ⟨rfl, hb⟩; have HB23 := Aside0.mk (below_then HB22.out HB22.out.size hb); clear hb)
      | (go_at_call 24; (with_reducible refine (first_calls _ (HG.out.below (below_then (below_then LS5.out LS5.out.size XV.out) (Nat.le_trans LS5.out.size XV.out.size) HB23.out))).mono ?_); rintro e w24 ⟨rfl, hb⟩; have HB24 := Aside0.mk (below_then HB23.out HB23.out.size hb); clear hb))
    clear x0 x1 x2 x3 x4 x5; clear y0 y1 y2 y3 y4 y5; clear z0 z1 z2 z3 z4 z5; clear xx0 xx1 xx2 xx3 xx4 xx5
    have LV := Aside0.mk (below_then XV.out XV.out.size HB24.out)
    clear HB21 HB22 HB23 HB24 XV CV9 CV10 H12 V7 V8
    go_wp2_with fail
    go_loopw [14] (fun i w' => ∃ (n : Nat), n ≤ L.length ∧ i = .int .i64 n ∧ Aside0 (Below wc.heap.size wc w')) (fun i _ => L.length - (intOf i).toNat)
    case atStart => exact ⟨0, Nat.zero_le _, rfl, LV⟩
    case round =>
      obtain ⟨n, hn, rfl, HW⟩ := hrel
      by_cases hlt : n < L.length
      · have p0 : (0 : Int) ≤ n := by omega
        have q0 : (n : Int) < (L.length : Int) := by omega
        have e16 : wrap64 ((n : Int) + 1) = ((n + 1 : Nat) : Int) := by unfold wrap64; omega
        obtain ⟨i0, hi0, _, hsz0, _⟩ := info_parts info28
        have hcut15 : ∀ W, (Instr.slice 24 (.slice A9 L.length c9) none (some (.int .i64 (n : Int))) none).run Tryd.prog W = .ok (.slice A9 n c9) W := by
          have h := cut_to (P := Tryd.prog) 24 28 .i64 Tryd.underlying24 hi0 A9 L.length c9 (n : Int) p0 (by omega) HL9.out
          rwa [Int.toNat_natCast] at h
        obtain ⟨A16, hA16⟩ : ∃ A1, A1 = (if c9 = n + 1 then A9 else A9.map (·.add ((n + 1) * 2))) := ⟨_, rfl⟩
        obtain ⟨c16, hc16⟩ : ∃ c1, c1 = c9 - (n + 1) := ⟨_, rfl⟩
        obtain ⟨n16, hn16⟩ : ∃ c1, c1 = L.length - (n + 1) := ⟨_, rfl⟩
        have hcut16 : ∀ W, (Instr.slice 24 (.slice A9 L.length c9) (some (.int .i64 (wrap64 ((n : Int) + 1)))) none none).run Tryd.prog W = .ok (.slice A16 n16 c16) W := by
          rw [e16, hA16, hc16, hn16]
          have h := cut_from (P := Tryd.prog) 24 28 .i64 Tryd.underlying24 hi0 2 hsz0 A9 L.length c9 ((n + 1 : Nat) : Int) (by omega) (by omega)
          rwa [Int.toNat_natCast] at h
        have hcut17 : ∀ W, (Instr.slice 24 (.slice A9 L.length c9) (some (.int .i64 ((n : Int) + 1))) none none).run Tryd.prog W = .ok (.slice A16 n16 c16) W := by
          have e : wrap64 ((n : Int) + 1) = (n : Int) + 1 := by rw [e16]; omega
          rw [e] at hcut16; exact hcut16
        have CW := Aside0.mk (Kd.C_below HC9.out HW.out)
        have T15 : Aside0 (Kd.C k28 wr A9 n (L.take n)) := ⟨by
          have h := Kd.C_take (m := n) CW.out hn
          rwa [show (L.take n).length = n by rw [List.length_take]; omega] at h⟩
        have T16 : Aside0 (Kd.C k28 wr A16 n16 (L.drop (n + 1))) := ⟨by
          have h := Kd.C_drop (m := n + 1) (c := c9) CW.out (by omega) HL9.out
          rw [hA16, hn16]
          rwa [List.length_drop] at h⟩
        have HN16 := Aside0.mk hn16
        clear hA16 hc16 hn16 hi0 hsz0 e16
        obtain ⟨t, ht, htm⟩ := back_less cl a b FB.out n (by rw [HLL.out]; exact hlt)
        rw [HLL.out] at ht
        rw [HM.out] at htm
        have HT := Aside0.mk ht
        have HTM := Aside0.mk htm
        clear ht htm
        have W7 := Aside0.mk (blk_below H7.out HW.out)
        have W8 := Aside0.mk (blk_below H8.out HW.out)
        go_upto_region 17 with (first
          | ((with_reducible refine gate_builtin (b := .append) (xs := #[.tmp 90, .tmp 93]) rfl ?_); at_builtin; refine Kd.R_append_rows k28 (w0 := wr) wr.heap.size rfl (.tmp 90) (.tmp 93) 24 28 (.agg #[.int .i64 0, .int .i64 0]) 16 rfl Tryd.underlying24 info28 rfl (by decide) (by omega) (.slice none 0 0) [] (L.take n) A9 n c9 (fun k => wr.heap.size ≤ k) (fun _ => False) rfl rfl ?aO ?aR (fun _ _ h => h) (fun _ h => h.elim) ?aF ?aB ?aS ?aL ?_; (case aO => exact Kd.R_nil _ _ _ _ _); (case aR => exact T15.out); (case aF => exact fun _ hk => hk); (case aB => exact Below.refl _ _); (case aS => exact Nat.le_refl _); (case aL => simp; omega); intro v94 w94 ho hb hg hat; rw [List.nil_append] at ho; have HO94 := Aside0.mk ho; have L94 := Aside0.mk hb; clear ho hb hg hat)
          | ((with_reducible refine gate_builtin (b := .append) (xs := #[.tmp 95, .tmp 99]) rfl ?_); at_builtin; refine Kd.R_append_rows k28 (w0 := wr) wr.heap.size rfl (.tmp 95) (.tmp 99) 24 28 (.agg #[.int .i64 0, .int .i64 0]) 16 rfl Tryd.underlying24 info28 rfl (by decide) (by omega) v94 (L.take n) (L.drop (n + 1)) A16 n16 c16 (fun k => wr.heap.size ≤ k) (fun _ => False) rfl rfl ?aO ?aR (fun _ _ h => h) (fun _ h => h.elim) ?aF ?aB ?aS ?aL ?_; (case aO => exact HO94.out); (case aR => exact Kd.C_below T16.out L94.out); (case aF => exact fun _ hk => Nat.le_trans L94.out.size hk); (case aB => exact L94.out); (case aS => exact L94.out.size); (case aL => have := HN16.out; rw [List.length_take]; omega); intro v100 w100 ho hb hg hat; obtain ⟨A100, c100, e100, hl100, hc100⟩ := Kd.R_reads ho; obtain ⟨n100, hn100⟩ : ∃ q, (L.take n ++ L.drop (n + 1)).length = q := ⟨_, rfl⟩; rw [hn100] at e100; subst e100; have HN100 := Aside0.mk hn100; have HL100 := Aside0.mk hl100; have HC100 := Aside0.mk hc100; have L100 := Aside0.mk hb; clear ho hb hg hat hl100 hc100 hn100))
        have z0 : w100.cell? ⟨b7, 0, none⟩ = some (.int .i64 a.a) := blk_cell (blk_below W7.out L100.out) 0
        have z1 : w100.cell? ⟨b7, 1, none⟩ = some (.int .i64 a.b) := blk_cell (blk_below W7.out L100.out) 1
        have z2 : w100.cell? ⟨b7, 2, none⟩ = some (.int .i64 a.c) := blk_cell (blk_below W7.out L100.out) 2
        have z3 : w100.cell? ⟨b7, 3, none⟩ = some (.int .i64 a.d) := blk_cell (blk_below W7.out L100.out) 3
        have z4 : w100.cell? ⟨b7, 4, none⟩ = some (.int .i64 a.e) := blk_cell (blk_below W7.out L100.out) 4
        have z5 : w100.cell? ⟨b7, 5, none⟩ = some (.int .i64 a.f) := blk_cell (blk_below W7.out L100.out) 5
        go_upto_region 18 with (first
          | (go_at_call 11; refine (apply_s1n a A100 c100 n100 (L.take n ++ L.drop (n + 1)) cl t 0 _ HN100.out.symm HC100.out HL100.out HT.out).mono ?_; rintro e w17 ⟨rfl, hb⟩; have HB17 := Aside0.mk (below_then L100.out L100.out.size hb); clear hb))
        clear z0 z1 z2 z3 z4 z5
        obtain ⟨W8', hW8⟩ : ∃ W, w17.alloc (.cells #[.int .i64 t.a, .int .i64 t.b, .int .i64 t.c, .int .i64 t.d, .int .i64 t.e, .int .i64 t.f] 23) = W := ⟨_, rfl⟩
        obtain ⟨b16, hb16⟩ : ∃ x, w17.heap.size = x := ⟨_, rfl⟩
        have X18 : Aside0 (Below wr.heap.size wr W8') := ⟨by rw [← hW8]; exact below_alloc HB17.out _⟩
        have H16 : Aside0 (W8'.heap[b16]? = some (.cells #[.int .i64 t.a, .int .i64 t.b, .int .i64 t.c, .int .i64 t.d, .int .i64 t.e, .int .i64 t.f] 23 (0, 0))) := ⟨by rw [← hW8, ← hb16]; exact blk_new w17 _⟩
        rw [hW8, hb16]
        clear hW8 hb16 HB17
        have V8 := Aside0.mk (blk_below W8.out X18.out)
        have CL8 := Aside0.mk (Kd.C_below CW.out X18.out)
        obtain ⟨ad, e0, y0, y1⟩ := at_T28 CL8.out n p0 q0
        have hpi := params_id cl a b n (by rw [HLL.out]; exact hlt)
        rw [HLL.out] at hpi
        have hup := params_up cl a b n
        rw [HLL.out] at hup
        have HUP := Aside0.mk hup
        obtain ⟨id, hid⟩ : ∃ K, (rd_T28 L (n : Int)).f0 = K := ⟨_, rfl⟩
        have HID := Aside0.mk hid
        rw [hid] at hpi
        simp only [Int.toNat_natCast] at y0
        rw [hid] at y0
        have i1 : decide (id < 1) = false := decide_eq_false (by omega)
        have i6 : decide (6 < id) = false := decide_eq_false (by omega)
        clear hid hpi hup y1
        cases e0
        have x0 : W8'.cell? ⟨b16, 0, none⟩ = some (.int .i64 t.a) := blk_cell H16.out 0
        have x1 : W8'.cell? ⟨b16, 1, none⟩ = some (.int .i64 t.b) := blk_cell H16.out 1
        have x2 : W8'.cell? ⟨b16, 2, none⟩ = some (.int .i64 t.c) := blk_cell H16.out 2
        have x3 : W8'.cell? ⟨b16, 3, none⟩ = some (.int .i64 t.d) := blk_cell H16.out 3
        have x4 : W8'.cell? ⟨b16, 4, none⟩ = some (.int .i64 t.e) := blk_cell H16.out 4
        have x5 : W8'.cell? ⟨b16, 5, none⟩ = some (.int .i64 t.f) := blk_cell H16.out 5
        have z0 : W8'.cell? ⟨b8, 0, none⟩ = some (.int .i64 m.a) := blk_cell V8.out 0
        have z1 : W8'.cell? ⟨b8, 1, none⟩ = some (.int .i64 m.b) := blk_cell V8.out 1
        have z2 : W8'.cell? ⟨b8, 2, none⟩ = some (.int .i64 m.c) := blk_cell V8.out 2
        have z3 : W8'.cell? ⟨b8, 3, none⟩ = some (.int .i64 m.d) := blk_cell V8.out 3
        have z4 : W8'.cell? ⟨b8, 4, none⟩ = some (.int .i64 m.e) := blk_cell V8.out 4
        have z5 : W8'.cell? ⟨b8, 5, none⟩ = some (.int .i64 m.f) := blk_cell V8.out 5
        have hne : (t.a == m.a && (t.b == m.b && (t.c == m.c && (t.d == m.d && (t.e == m.e && (t.f == m.f)))))) = false := by
          rw [Bool.eq_false_iff]
          intro h
          simp only [Bool.and_eq_true, beq_iff_eq] at h
          obtain ⟨h1, h2, h3, h4, h5, h6⟩ := h
          exact HTM.out (by cases t; cases m; simp_all)
        by_cases hn0 : n = 0
        · have hp0 : decide ((0 : Int) < (n : Int)) = false := decide_eq_false (by omega)
          have hp1 : decide (0 < n) = false := decide_eq_false (by omega)
          have HN0 := Aside0.mk hn0
          clear hn0
          go_quiet (fail)
          go_wp2_with fail
          go_roundw
          case rel => exact ⟨n + 1, by omega, by go_num, ⟨pw_below_drewN (below_then HW.out HW.out.size X18.out) _⟩⟩
          case measure => simp [intOf]; omega
        · have hp0 : decide ((0 : Int) < (n : Int)) = true := decide_eq_true (by omega)
          have hp1 : decide (0 < n) = true := decide_eq_true (by omega)
          obtain ⟨q, hq⟩ : ∃ q, n - 1 = q := ⟨_, rfl⟩
          have hlq := HUP.out (by omega) hlt
          rw [hq, HID.out] at hlq
          have e1 : wrap64 ((n : Int) - 1) = (q : Int) := by unfold wrap64; omega
          have e2 : (n : Int) - 1 = (q : Int) := by omega
          have r0 : (0 : Int) ≤ (q : Int) := by omega
          have r1 : (q : Int) < (L.length : Int) := by omega
          obtain ⟨ad2, e3, yq, _⟩ := at_T28 CL8.out q r0 r1
          cases e3
          simp only [Int.toNat_natCast] at yq
          obtain ⟨idq, hidq⟩ : ∃ K, (rd_T28 L (q : Int)).f0 = K := ⟨_, rfl⟩
          rw [hidq] at yq hlq
          have hle : decide (id ≤ idq) = false := decide_eq_false (by omega)
          have HN0 := Aside0.mk hn0
          have HQ := Aside0.mk hq
          clear hn0 hq hlq hidq
          go_quiet (fail)
          go_wp2_with fail
          go_roundw
          case rel => exact ⟨n + 1, by omega, by go_num, ⟨pw_below_drewN (below_then HW.out HW.out.size X18.out) _⟩⟩
          case measure => simp [intOf]; omega
      · have hlt1 : decide ((n : Int) < (L.length : Int)) = false := decide_eq_false (by omega)

        have HLr := Aside0.mk (Kd.R_below HL.out HW.out)
        have HMr := Aside0.mk (Kd.R_below HM5.out HW.out)
        have W7 := Aside0.mk (blk_below H7.out HW.out)
        have W8 := Aside0.mk (blk_below H8.out HW.out)
        have LW := Aside0.mk (below_lo HW.out S05.out)
        clear HW
        go_wp2_with fail
        go_loopw [18] (fun i w' => ∃ (n : Nat) (L' : List S28), n ≤ L.length ∧ i = .int .i64 n ∧ Aside0 (L'.length = L.length) ∧ Aside0 (Kd.R k28 28 w' W0.heap.size (fun _ => True) (.slice A9 L.length c9) L') ∧ Aside0 (Kd.R k28 28 w' w3.heap.size (fun _ => True) (.slice A10 L.length c10) L) ∧ Aside0 (w'.heap[b7]? = some (.cells #[.int .i64 a.a, .int .i64 a.b, .int .i64 a.c, .int .i64 a.d, .int .i64 a.e, .int .i64 a.f] 23 (0, 0))) ∧ Aside0 (w'.heap[b8]? = some (.cells #[.int .i64 m.a, .int .i64 m.b, .int .i64 m.c, .int .i64 m.d, .int .i64 m.e, .int .i64 m.f] 23 (0, 0))) ∧ Aside0 (Below W0.heap.size wc w')) (fun i _ => L.length - (intOf i).toNat)
        case atStart => exact ⟨0, L, Nat.zero_le _, rfl, ⟨rfl⟩, HLr, HMr, W7, W8, LW⟩
        case round =>
          clear HLr HMr W7 W8 LW
          obtain ⟨n, L', hn, rfl, HLE, HLr, HMr, W7, W8, LW⟩ := hrel
          by_cases hlt : n < L.length
          · have p0 : (0 : Int) ≤ n := by omega
            have q0 : (n : Int) < (L.length : Int) := by omega
            obtain ⟨inner, ho⟩ := Kd.R_own HLr.out
            obtain ⟨g, hA⟩ : ∃ g, A9 = some ⟨g, 0, none⟩ := by
              rcases ho.2 with ⟨hv, _⟩ | ⟨g, cap, cur, hv, _⟩
              · injection hv with _ h _; omega
              · injection hv with h; exact ⟨g, h⟩
            clear ho
            subst hA
            have hCr := (Kd.R_reads' HLr.out).2.2
            obtain ⟨ad, e0, y0, y1⟩ := at_T28 (xs := L') (n := L'.length) hCr n p0 (by have := HLE.out; omega)
            injection e0 with e0
            subst e0
            obtain ⟨x0, hx0⟩ : ∃ K, (rd_T28 L' (n : Int)).f0 = K := ⟨_, rfl⟩
            obtain ⟨x1, hx1⟩ : ∃ K, (rd_T28 L' (n : Int)).f1 = K := ⟨_, rfl⟩
            rw [hx0] at y0
            rw [hx1] at y1
            rw [Int.toNat_natCast, add_plain] at y0 y1
            have Y0 := Aside0.mk y0
            have Y1 := Aside0.mk y1
            have HLE2 := Aside0.mk (show n < L'.length by have := HLE.out; omega)
            clear y0 y1 hx0 hx1 hCr
            have RL0 := RL3.out g (by simp [Value.ownBlock])
            have GE0 : W0.heap.size ≤ g := by rcases Kd.R_base2 HLr.out with h | ⟨q, h1, h2⟩; (simp [Value.ownBlock] at h); (simp [Value.ownBlock] at h1; omega)
            have RLH := Aside0.mk RL0
            have GEH := Aside0.mk GE0
            clear RL0 GE0
            go_wp2_with (first
              | ((with_reducible refine gate_store (t := 28) (p := 158) rfl ?_); refine Kd.R_store k28 (w0 := wc) W0.heap.size rfl rfl 28 (.tmp 158) (.tmp 157) rfl 28 (g := g) (n := L.length) (cap := c9) (o' := n * 2) (n : Int) 0 L' ⟨77, 0⟩ (.agg #[.int .i64 77, .int .i64 0]) [.int .i64 77, .int .i64 0] [.int .i64 x0, .int .i64 x1] (fun _ => True) (fun _ => False) ?ha ?ho rfl rfl ?ht ?h1 HLr.out p0 q0 rfl ?hc (by decide) ?hM (fun _ h => h.elim) LW.out ?_; (case ha => first | rfl | (simp [Act.eval, add_plain]; done)); (case ho => rw [Int.toNat_natCast]; rfl); (case ht => kernel_rfl); (case h1 => intro q hq; simp at hq; rcases hq with rfl | rfl <;> rfl); (case hc => intro j u hu; have hj : j < 2 := (by have := (List.getElem?_eq_some_iff.1 hu).1; simpa using this); rw [Int.toNat_natCast]; obtain rfl | rfl : j = 0 ∨ j = 1 := (by omega); (exact Y0.out.trans hu); (exact Y1.out.trans hu)); (case hM => exact k28_mkM _ _ _ ⟨77, 0⟩); intro w23 ho hb hg; have HO23 := Aside0.mk ho; have LW23 := Aside0.mk hb; have HG23 := Aside0.mk hg; clear ho hb hg))
            go_roundw
            case rel => exact ⟨n + 1, L'.set n ⟨77, 0⟩, by omega, by go_num, ⟨by rw [List.length_set]; exact HLE.out⟩, ⟨by have h := HO23.out; rwa [Int.toNat_natCast] at h⟩, ⟨Kd.R_mono (Kd.R_grown (Kd.R_bound HMr.out) HG23.out (fun k hk he => by injection he with he; have := hk.2.1; have := RLH.out; omega)) (fun _ _ => trivial)⟩, ⟨blk_grown W7.out HG23.out (fun he => by injection he with he; have := B7L.out; have := GEH.out; omega)⟩, ⟨blk_grown W8.out HG23.out (fun he => by injection he with he; have := B8L.out; have := GEH.out; omega)⟩, LW23⟩
            case measure => simp [intOf]; omega
          · have hlt2 : decide ((n : Int) < (L.length : Int)) = false := decide_eq_false (by omega)

            go_upto_region 25 with (first
              | ((with_reducible refine gate_builtin (b := .append) (xs := #[.tmp 159, .tmp 161]) rfl ?_); at_builtin; refine Kd.R_append k28 (w0 := wc) W0.heap.size rfl (.tmp 159) (.tmp 161) 24 28 (.agg #[.int .i64 0, .int .i64 0]) 16 rfl Tryd.underlying24 info28 rfl (by decide) (by omega) (.slice A9 L.length c9) L' ⟨78, 0⟩ [.int .i64 78, .int .i64 0] (fun _ => True) (fun _ => False) rfl rfl ?aP (fun _ h => h.elim) ?aF ?aO ?aB ?aS ?aL ?_; (case aP => exact k28_mkM _ _ _ ⟨78, 0⟩); (case aF => exact fun _ _ => trivial); (case aO => exact HLr.out); (case aB => exact LW.out); (case aS => exact Nat.le_trans S05.out LW.out.size); (case aL => have := HLE.out; omega); intro v24 w24 ho hb hg hat; have LW24 := Aside0.mk hb; have HG24 := Aside0.mk hg; clear ho hb hg hat))
            have OB : Aside0 (∀ q, (Value.slice A9 L.length c9).ownBlock = some q → W0.heap.size ≤ q) := ⟨fun q hq => by rcases Kd.R_base2 HLr.out with h | ⟨q', h1, h2⟩; (rw [h] at hq; cases hq); (rw [h1] at hq; injection hq with hq; omega)⟩
            have V7 := Aside0.mk (blk_grown W7.out HG24.out (fun he => by have := OB.out b7 he.symm; have := B7L.out; omega))
            have V8 := Aside0.mk (blk_grown W8.out HG24.out (fun he => by have := OB.out b8 he.symm; have := B8L.out; omega))
            have HMv := Aside0.mk (Kd.R_grown (Kd.R_bound HMr.out) HG24.out (fun k hk he => by have := hk.2.1; have := RL3.out k he.symm; omega))
            have CM := Aside0.mk (Kd.R_reads' HMv.out).2.2
            have z0 : w24.cell? ⟨b7, 0, none⟩ = some (.int .i64 a.a) := blk_cell V7.out 0
            have z1 : w24.cell? ⟨b7, 1, none⟩ = some (.int .i64 a.b) := blk_cell V7.out 1
            have z2 : w24.cell? ⟨b7, 2, none⟩ = some (.int .i64 a.c) := blk_cell V7.out 2
            have z3 : w24.cell? ⟨b7, 3, none⟩ = some (.int .i64 a.d) := blk_cell V7.out 3
            have z4 : w24.cell? ⟨b7, 4, none⟩ = some (.int .i64 a.e) := blk_cell V7.out 4
            have z5 : w24.cell? ⟨b7, 5, none⟩ = some (.int .i64 a.f) := blk_cell V7.out 5
            have y0 : w24.cell? ⟨b8, 0, none⟩ = some (.int .i64 m.a) := blk_cell V8.out 0
            have y1 : w24.cell? ⟨b8, 1, none⟩ = some (.int .i64 m.b) := blk_cell V8.out 1
            have y2 : w24.cell? ⟨b8, 2, none⟩ = some (.int .i64 m.c) := blk_cell V8.out 2
            have y3 : w24.cell? ⟨b8, 3, none⟩ = some (.int .i64 m.d) := blk_cell V8.out 3
            have y4 : w24.cell? ⟨b8, 4, none⟩ = some (.int .i64 m.e) := blk_cell V8.out 4
            have y5 : w24.cell? ⟨b8, 5, none⟩ = some (.int .i64 m.f) := blk_cell V8.out 5
            go_wp2_with (first
              | (go_at_call 14; refine (params_ex a m cl L (by rw [← HM.out, back_again]; exact HLL.out) _).mono ?_; rintro e w25 ⟨A25, c25, rfl, hr, hb⟩; have HB25 := Aside0.mk hb; have CM25 := Aside0.mk (Kd.C_below CM.out hb); have HR25 := Aside0.mk (Kd.R_reads' hr); clear hr hb)
              | (go_at_call 17; (with_reducible refine (same_ex A10 A25 c10 c25 L (by omega) _ CM25.out HL10.out HR25.out.2.2 HR25.out.2.1).mono ?_); rintro e w26 ⟨rfl, hb⟩; have HB26 := Aside0.mk (below_then HB25.out HB25.out.size hb); clear hb))
            go_ret
            exact ⟨rfl, below_then (below_weaken LS5.out (Nat.le_trans (by have := G7.out; have := B7L.out; omega) (Nat.le_refl _)) LW24.out) (by have := LS5.out.size; have := LW24.out.size; omega) HB26.out⟩
end Go.Proofs.YtcjphkgmcfpfeaaDoor.MS
