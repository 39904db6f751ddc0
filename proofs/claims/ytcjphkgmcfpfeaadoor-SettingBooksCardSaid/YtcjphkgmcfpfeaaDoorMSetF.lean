/- The law's first lines, by hand: what the document gives holds. The package's variable holds what the program lays; no other condition. -/
import Derived.Test.YtcjphkgmcfpfeaaDoorMSetE
namespace Go.Proofs.YtcjphkgmcfpfeaaDoor.MS
open Go Go.RowKit Go.Proofs.YtcjphkgmcfpfeaaDoorW.PrintWords Go.Proofs.YtcjphkgmcfpfeaaDoorW.PrintLast Go.Proofs.YtcjphkgmcfpfeaaDoorW.PrintMore Go.Proofs.YtcjphkgmcfpfeaaDoor.QL
set_option linter.unusedSimpArgs false
set_option linter.unusedVariables false
set_option maxHeartbeats 8000000
set_option maxRecDepth 100000
theorem eqA23 (d : Nat) (w : World) (x0 y0 : Int) (x1 y1 : Int) (x2 y2 : Int) (x3 y3 : Int) (x4 y4 : Int) (x5 y5 : Int) :
    (Op.equalIn (d + 2) 23 (.agg #[.int .i64 x0, .int .i64 x1, .int .i64 x2, .int .i64 x3, .int .i64 x4, .int .i64 x5]) (.agg #[.int .i64 y0, .int .i64 y1, .int .i64 y2, .int .i64 y3, .int .i64 y4, .int .i64 y5])).run Tryd.prog w = .ok (x0 == y0 && (x1 == y1 && (x2 == y2 && (x3 == y3 && (x4 == y4 && (x5 == y5)))))) w := by
  refine eqA_of Tryd.underlying23 (by kernel_rfl) ?_
  refine eqf_cons (by rfl) (by go_simp; rfl) (by go_simp; rfl) (by go_simp) ?_
  refine eqf_cons (by rfl) (by go_simp; rfl) (by go_simp; rfl) (by go_simp) ?_
  refine eqf_cons (by rfl) (by go_simp; rfl) (by go_simp; rfl) (by go_simp) ?_
  refine eqf_cons (by rfl) (by go_simp; rfl) (by go_simp; rfl) (by go_simp) ?_
  refine eqf_cons (by rfl) (by go_simp; rfl) (by go_simp; rfl) (by go_simp) ?_
  exact eqf_last (by rfl) (by go_simp; rfl) (by go_simp; rfl) (by go_simp)
attribute [local go_sem high] eqA23 eqA28
theorem C_one (W : World) (x : Int) (n : Nat) (hn : n = W.heap.size) : Kd.C (Kd.int .i64) (W.alloc (.cells #[.int .i64 x] 2)) (some ⟨n, 0, none⟩) 1 [x] := by
  subst hn
  refine ⟨rfl, by omega, fun _ => ⟨_, rfl, fun j p hp => ⟨[.int .i64 p], rfl, rfl, fun i u hu => ?_⟩⟩⟩
  obtain rfl : j = 0 := by have := (List.getElem?_eq_some_iff.1 hp).1; simpa using this
  obtain rfl : i = 0 := by have := (List.getElem?_eq_some_iff.1 hu).1; simpa using this
  have e1 : x = p := by simpa using hp
  have e2 : Value.int .i64 p = u := by simpa using hu
  subst e1; subst e2
  show (W.alloc _).cell? ((⟨W.heap.size, 0, none⟩ : Addr).add (0 * 1 + 0)) = _
  rw [add_plain, World.cell?_alloc_new]
  rfl
theorem C_p (W : World) (a b : Int) (n : Nat) (hn : n = W.heap.size) : Kd.C k28 (W.alloc (.cells #[.int .i64 a, .int .i64 b] 28)) (some ⟨n, 0, none⟩) 1 [⟨a, b⟩] := by
  subst hn
  refine ⟨rfl, by omega, fun _ => ⟨_, rfl, fun j p hp => ⟨[.int .i64 p.f0, .int .i64 p.f1], rfl, k28_mk _ p, fun i u hu => ?_⟩⟩⟩
  obtain rfl : j = 0 := by have := (List.getElem?_eq_some_iff.1 hp).1; simpa using this
  have e1 : (⟨a, b⟩ : S28) = p := by simpa using hp
  subst e1
  have hi : i < 2 := by have := (List.getElem?_eq_some_iff.1 hu).1; simpa using this
  show (W.alloc _).cell? ((⟨W.heap.size, 0, none⟩ : Addr).add (0 * 2 + i)) = _
  rw [add_plain, World.cell?_alloc_new]
  obtain rfl | rfl : i = 0 ∨ i = 1 := by omega
  all_goals simpa using hu
theorem C_two (W : World) (a b c d : Int) (n : Nat) (hn : n = W.heap.size) : Kd.C k28 (W.alloc (.cells #[.int .i64 a, .int .i64 b, .int .i64 c, .int .i64 d] 28)) (some ⟨n, 0, none⟩) 2 [⟨a, b⟩, ⟨c, d⟩] := by
  subst hn
  refine ⟨rfl, by omega, fun _ => ⟨_, rfl, fun j p hp => ⟨[.int .i64 p.f0, .int .i64 p.f1], rfl, k28_mk _ p, fun i u hu => ?_⟩⟩⟩
  have hj : j < 2 := by have := (List.getElem?_eq_some_iff.1 hp).1; simpa using this
  have hi : i < 2 := by have := (List.getElem?_eq_some_iff.1 hu).1; simpa using this
  show (W.alloc _).cell? ((⟨W.heap.size, 0, none⟩ : Addr).add (j * 2 + i)) = _
  rw [add_plain, World.cell?_alloc_new]
  obtain rfl | rfl : j = 0 ∨ j = 1 := by omega
  · have e1 : (⟨a, b⟩ : S28) = p := by simpa using hp
    subst e1
    obtain rfl | rfl : i = 0 ∨ i = 1 := by omega
    all_goals simpa using hu
  · have e1 : (⟨c, d⟩ : S28) = p := by simpa using hp
    subst e1
    obtain rfl | rfl : i = 0 ∨ i = 1 := by omega
    all_goals simpa using hu
abbrev L : List S28 := [⟨1, 0⟩, ⟨4, 100⟩]
def s1 : St := ⟨0, 1, 2147483647, 100, 16384, 2147483647⟩
def s5 : St := ⟨4096, 0, 2147483647, 65535, 16384, 2147483647⟩
theorem applyD : apply true init L = (s1, 0) := by decide +kernel
theorem applyD5 : apply true init [⟨2, 0⟩] = (s5, 0) := by decide +kernel
theorem paramsD : params true init s1 6 = L := by
  have e1 : differs true init s1 1 = true := by decide +kernel
  have e2 : differs true init s1 2 = false := by decide +kernel
  have e3 : differs true init s1 3 = false := by decide +kernel
  have e4 : differs true init s1 4 = true := by decide +kernel
  have e5 : differs true init s1 5 = false := by decide +kernel
  have e6 : differs true init s1 6 = false := by decide +kernel
  have g1 : s1.get 1 = 0 := by decide +kernel
  have g4 : s1.get 4 = 100 := by decide +kernel
  simp [params, e1, e2, e3, e4, e5, e6, g1, g4]
theorem sendD : sendF true [] [⟨2, 0⟩] = (0, [[⟨2, 0⟩]]) := rfl
theorem sameP : heraldlaw08_sameParams.f 9 L L = some true := by decide +kernel
theorem sameI : heraldlaw08_sameInts.f 9 [0] [0] = some true := by decide +kernel
theorem fitsD : setting_Fits.f 4096 1 2147483647 65535 16384 2147483647 = some true := by decide +kernel
theorem validD : setting_Valid.f 9 2 2 true = some 1 := by decide +kernel
theorem tablesD : setting_Tables.f 9 L = some [0] := by decide +kernel
theorem same_lit (A B : Option Addr) (c : Nat) (w : World) (h1 : Kd.C k28 w A 2 L) (h2 : 2 ≤ c) (h3 : Kd.C k28 w B 2 L) : Calls Tryd.prog 17 #[.slice A 2 c, .slice B 2 2] w fun e w' => e = .returned (.bool true) ∧ Below w.heap.size w w' := (heraldlaw08_sameParams.calls 9 A c L B 2 L true w h1 h2 h3 (Nat.le_refl 2) sameP).mono (fun _ _ h => ⟨h.1, by first | exact h.2 | exact h.2.below⟩)
theorem ints_lit (A B : Option Addr) (c : Nat) (w : World) (h1 : Kd.C (Kd.int .i64) w A 1 [0]) (h2 : 1 ≤ c) (h3 : Kd.C (Kd.int .i64) w B 1 [0]) : Calls Tryd.prog 15 #[.slice A 1 c, .slice B 1 1] w fun e w' => e = .returned (.bool true) ∧ Below w.heap.size w w' := (heraldlaw08_sameInts.calls 9 A c [0] B 1 [0] true w h1 h2 h3 (Nat.le_refl 1) sameI).mono (fun _ _ h => ⟨h.1, by first | exact h.2 | exact h.2.below⟩)
theorem tables_lit (A : Option Addr) (c : Nat) (w : World) (h1 : Kd.C k28 w A 2 L) (h2 : 2 ≤ c) : Calls Tryd.prog 13 #[.slice A 2 c] w fun e w' => ∃ A3 c3, e = .returned (.slice A3 1 c3) ∧ 1 ≤ c3 ∧ Kd.C (Kd.int .i64) w' A3 1 [0] ∧ Below w.heap.size w w' := by
  refine (setting_Tables.calls 9 A c L [0] w h1 h2 tablesD).mono ?_
  rintro e w' ⟨v, rfl, hv, hb⟩
  obtain ⟨A3, c3, rfl, hc, hC⟩ := Kd.R_reads hv
  exact ⟨A3, c3, rfl, hc, hC, hb⟩
theorem fits_lit (w : World) : Calls Tryd.prog 21 #[.agg #[.int .i64 4096, .int .i64 1, .int .i64 2147483647, .int .i64 65535, .int .i64 16384, .int .i64 2147483647]] w fun e w' => e = .returned (.bool true) ∧ Below w.heap.size w w' := (setting_Fits.calls 4096 1 2147483647 65535 16384 2147483647 true w fitsD).mono (fun _ _ h => ⟨h.1, by first | exact h.2 | exact h.2.below⟩)
theorem default_lit (w : World) (hG : GL w) : Calls Tryd.prog 19 #[] w fun e w' => e = .returned (.agg #[.int .i64 4096, .int .i64 1, .int .i64 2147483647, .int .i64 65535, .int .i64 16384, .int .i64 2147483647]) ∧ Below w.heap.size w w' := default_calls w hG
theorem apply_lit (A : Option Addr) (c : Nat) (w : World) (hr : Kd.C k28 w A 2 L) (hc : 2 ≤ c) : Calls Tryd.prog 11 #[.agg #[.int .i64 4096, .int .i64 1, .int .i64 2147483647, .int .i64 65535, .int .i64 16384, .int .i64 2147483647], .slice A 2 c, .bool true] w fun e w' => e = .returned (.tuple #[.agg #[.int .i64 0, .int .i64 1, .int .i64 2147483647, .int .i64 100, .int .i64 16384, .int .i64 2147483647], .int .i64 0]) ∧ Below w.heap.size w w' := by
  have h := apply_calls init A c L true w hr hc
  rw [applyD] at h
  exact h
theorem send_lit (base g : Nat) (F : Nat → Prop) (A : Option Addr) (c : Nat) (w : World) (hI : IsB base w g F true init []) (hr : Kd.C k28 w A 1 [⟨2, 0⟩]) (hc : 1 ≤ c) :
    Calls Tryd.prog 32 #[.pointer (some ⟨g, 0, none⟩), .slice A 1 c] w fun e w' => e = .returned (.int .i64 0) ∧ ∃ F', IsB base w' g F' true init [[⟨2, 0⟩]] ∧ Kept w w' F ∧ Below base w w' := by
  have h := send_calls base g F true init [] A c [⟨2, 0⟩] w hI hr hc (by simp)
  rw [sendD] at h
  exact h.mono (fun _ _ ⟨h1, F', h2, _, h4, h5⟩ => ⟨h1, F', h2, h4, h5⟩)
theorem waiting_lit (base g : Nat) (F : Nat → Prop) (w : World) (h : IsB base w g F true init [[⟨2, 0⟩]]) : Calls Tryd.prog 34 #[.pointer (some ⟨g, 0, none⟩)] w fun e w' => e = .returned (.int .i64 1) ∧ Below w.heap.size w w' := waiting_calls base g F true init [[⟨2, 0⟩]] w h
theorem waiting_nil (base g : Nat) (F : Nat → Prop) (w : World) (h : IsB base w g F true s5 []) : Calls Tryd.prog 34 #[.pointer (some ⟨g, 0, none⟩)] w fun e w' => e = .returned (.int .i64 0) ∧ Below w.heap.size w w' := waiting_calls base g F true s5 [] w h
theorem ack_lit (base g : Nat) (F : Nat → Prop) (w : World) (hI : IsB base w g F true init [[⟨2, 0⟩]]) :
    Calls Tryd.prog 33 #[.pointer (some ⟨g, 0, none⟩)] w fun e w' => e = .returned (.tuple #[.agg #[.int .i64 4096, .int .i64 0, .int .i64 2147483647, .int .i64 65535, .int .i64 16384, .int .i64 2147483647], .bool true]) ∧ IsB base w' g F true s5 [] ∧ Kept w w' F ∧ Below base w w' := by
  have h := ack_some base g F true init [⟨2, 0⟩] [] w hI
  rw [applyD5] at h
  exact h
theorem acked_lit (base g : Nat) (F : Nat → Prop) (w : World) (h : IsB base w g F true s5 []) : Calls Tryd.prog 28 #[.pointer (some ⟨g, 0, none⟩)] w fun e w' => e = .returned (.agg #[.int .i64 4096, .int .i64 0, .int .i64 2147483647, .int .i64 65535, .int .i64 16384, .int .i64 2147483647]) ∧ Below w.heap.size w w' := acked_calls base g F true s5 [] w h
theorem params_lit (w : World) : Calls Tryd.prog 14 #[.agg #[.int .i64 4096, .int .i64 1, .int .i64 2147483647, .int .i64 65535, .int .i64 16384, .int .i64 2147483647], .agg #[.int .i64 0, .int .i64 1, .int .i64 2147483647, .int .i64 100, .int .i64 16384, .int .i64 2147483647], .bool true] w fun e w' => ∃ A c, e = .returned (.slice A 2 c) ∧ 2 ≤ c ∧ Kd.C k28 w' A 2 L ∧ Below w.heap.size w w' := by
  have h := params_calls init s1 true w
  rw [paramsD] at h
  refine h.mono ?_
  rintro e w' ⟨v, rfl, hv, hb⟩
  obtain ⟨A, c, rfl, hc, hC⟩ := Kd.R_reads hv
  exact ⟨A, c, rfl, hc, hC, hb⟩
theorem first_calls (w : World) (hG : GL w) : Calls Tryd.prog 24 #[] w fun e w' => e = .returned (.bool true) ∧ Below w.heap.size w w' := by
  have HB := Aside0.mk (Below.refl w.heap.size w)
  have HG := Aside0.mk hG
  clear hG
  go_enter Tryd.func24, Tryd.ntmps24
  go_upto_region 2 with (first
    | (go_at_call 19; refine (default_lit _ HG.out).mono ?_; rintro e w1 ⟨rfl, hb⟩; have HB1 := Aside0.mk hb; clear hb))
  obtain ⟨W, hW⟩ : ∃ W, w1.alloc (.cells #[.int .i64 4096, .int .i64 1, .int .i64 2147483647, .int .i64 65535, .int .i64 16384, .int .i64 2147483647] 23) = W := ⟨_, rfl⟩
  obtain ⟨b1, hb1⟩ : ∃ b, w1.heap.size = b := ⟨_, rfl⟩
  have H1 : Aside0 (W.heap[b1]? = some (.cells #[.int .i64 4096, .int .i64 1, .int .i64 2147483647, .int .i64 65535, .int .i64 16384, .int .i64 2147483647] 23 (0, 0))) := ⟨by rw [← hW, ← hb1]; exact blk_new w1 _⟩
  have W1 : Aside0 (Below w.heap.size w W) := ⟨by rw [← hW]; exact below_alloc HB1.out _⟩
  rw [hW, hb1]
  clear hW hb1 HB1
  have z10 := blk_cell H1.out 0
  have z11 := blk_cell H1.out 1
  have z12 := blk_cell H1.out 2
  have z13 := blk_cell H1.out 3
  have z14 := blk_cell H1.out 4
  have z15 := blk_cell H1.out 5
  go_upto_region 3 with (first
    | (go_at_call 11; refine (apply_lit _ _ _ (C_two _ 1 0 4 100 _ rfl) (Nat.le_refl _)).mono ?_; rintro e w2 ⟨rfl, hb⟩; have HB2 := Aside0.mk (below_then (below_alloc (Below.refl _ _) _) (by simp) hb); clear hb))
  clear z10 z11 z12 z13 z14 z15
  obtain ⟨W2, hW2⟩ : ∃ W, w2.alloc (.cells #[.int .i64 0, .int .i64 1, .int .i64 2147483647, .int .i64 100, .int .i64 16384, .int .i64 2147483647] 23) = W := ⟨_, rfl⟩
  obtain ⟨b2, hb2⟩ : ∃ b, w2.heap.size = b := ⟨_, rfl⟩
  have BW : Aside0 (Below W.heap.size W W2) := ⟨by rw [← hW2]; exact below_alloc HB2.out _⟩
  have H2 : Aside0 (W2.heap[b2]? = some (.cells #[.int .i64 0, .int .i64 1, .int .i64 2147483647, .int .i64 100, .int .i64 16384, .int .i64 2147483647] 23 (0, 0))) := ⟨by rw [← hW2, ← hb2]; exact blk_new w2 _⟩
  replace H1 := Aside0.mk (blk_below H1.out BW.out)
  replace W1 := Aside0.mk (below_then W1.out W1.out.size BW.out)
  rw [hW2, hb2]
  clear hW2 hb2 HB2
  go_upto_region 4 with (first
    | (go_at_call 25; refine (new_calls true _ (HG.out.below W1.out)).mono ?_; rintro e w3 ⟨g, rfl, hI, hge, hb⟩; have HB3 := Aside0.mk hb; have HI0 := Aside0.mk hI; have HGE := Aside0.mk hge; clear hb hI hge))
  go_upto_region 6 with (first
    | (go_at_call 32; refine (send_lit _ g _ _ _ _ (HI0.out.below (below_alloc (Below.refl _ _) _)) (C_p _ 2 0 _ rfl) (Nat.le_refl _)).mono ?_; rintro e w4 ⟨rfl, F, hI, hk, hb⟩; have HI1 := Aside0.mk hI; have HK1 := Aside0.mk (Kept.then_ (Kept.of_below (below_alloc (Below.refl _ _) _) _) hk (fun _ h => .inl h)); have HBB := Aside0.mk hb; clear hI hk hb)
    | (go_at_call 34; refine (waiting_lit _ g _ _ HI1.out).mono ?_; rintro e w5 ⟨rfl, hb⟩; have HB5 := Aside0.mk hb; have HI2 := Aside0.mk (HI1.out.below hb); clear hb))
  have HX5 := Aside0.mk (Below.trans (Below.trans (below_alloc HB3.out _) HBB.out) (below_lo HB5.out (Nat.le_trans (below_alloc HB3.out _).size HBB.out.size)))
  clear HI0 HI1 HK1 HBB HB5
  go_upto_region 7 with (first
    | (go_at_call 33; refine (ack_lit _ g F _ HI2.out).mono ?_; rintro e w6 ⟨rfl, hI, hk, hb⟩; have HI3 := Aside0.mk hI; have HB6 := Aside0.mk hb; clear hI hk hb))
  obtain ⟨W7, hW7⟩ : ∃ W, w6.alloc (.cells #[.int .i64 4096, .int .i64 0, .int .i64 2147483647, .int .i64 65535, .int .i64 16384, .int .i64 2147483647] 23) = W := ⟨_, rfl⟩
  obtain ⟨b5, hb5⟩ : ∃ b, w6.heap.size = b := ⟨_, rfl⟩
  have HX7 : Aside0 (Below W2.heap.size W2 W7) := ⟨by rw [← hW7]; exact below_alloc (Below.trans HX5.out HB6.out) _⟩
  have H5 : Aside0 (W7.heap[b5]? = some (.cells #[.int .i64 4096, .int .i64 0, .int .i64 2147483647, .int .i64 65535, .int .i64 16384, .int .i64 2147483647] 23 (0, 0))) := ⟨by rw [← hW7, ← hb5]; exact blk_new w6 _⟩
  have HI7 : Aside0 (IsB W2.heap.size W7 g F true s5 []) := ⟨by rw [← hW7]; exact HI3.out.below (below_alloc (Below.refl _ _) _)⟩
  rw [hW7, hb5]
  clear hW7 hb5 HI3 HB6 HX5 HI2
  have H17 := Aside0.mk (blk_below H1.out HX7.out)
  have H27 := Aside0.mk (blk_below H2.out HX7.out)
  have W17 := Aside0.mk (below_then W1.out W1.out.size HX7.out)
  have z10 : W7.cell? ⟨b1, 0, none⟩ = some (.int .i64 4096) := blk_cell H17.out 0
  have z11 : W7.cell? ⟨b1, 1, none⟩ = some (.int .i64 1) := blk_cell H17.out 1
  have z12 : W7.cell? ⟨b1, 2, none⟩ = some (.int .i64 2147483647) := blk_cell H17.out 2
  have z13 : W7.cell? ⟨b1, 3, none⟩ = some (.int .i64 65535) := blk_cell H17.out 3
  have z14 : W7.cell? ⟨b1, 4, none⟩ = some (.int .i64 16384) := blk_cell H17.out 4
  have z15 : W7.cell? ⟨b1, 5, none⟩ = some (.int .i64 2147483647) := blk_cell H17.out 5
  have z20 : W7.cell? ⟨b2, 0, none⟩ = some (.int .i64 0) := blk_cell H27.out 0
  have z21 : W7.cell? ⟨b2, 1, none⟩ = some (.int .i64 1) := blk_cell H27.out 1
  have z22 : W7.cell? ⟨b2, 2, none⟩ = some (.int .i64 2147483647) := blk_cell H27.out 2
  have z23 : W7.cell? ⟨b2, 3, none⟩ = some (.int .i64 100) := blk_cell H27.out 3
  have z24 : W7.cell? ⟨b2, 4, none⟩ = some (.int .i64 16384) := blk_cell H27.out 4
  have z25 : W7.cell? ⟨b2, 5, none⟩ = some (.int .i64 2147483647) := blk_cell H27.out 5
  go_upto_region 8 with (first
    | (go_at_call 14; refine (params_lit _).mono ?_; rintro e w8 ⟨AL, cL, rfl, hcl, hC, hb⟩; have HB8 := Aside0.mk hb; have HCL := Aside0.mk hcl; have HC8 := Aside0.mk hC; clear hb hcl hC))
  clear z10 z11 z12 z13 z14 z15 z20 z21 z22 z23 z24 z25
  have H18 := Aside0.mk (blk_below H17.out HB8.out)
  have H28 := Aside0.mk (blk_below H27.out HB8.out)
  have H58 := Aside0.mk (blk_below H5.out HB8.out)
  have c0 : w8.cell? ⟨b1, 0, none⟩ = some (.int .i64 4096) := blk_cell H18.out 0
  have c1 : w8.cell? ⟨b1, 1, none⟩ = some (.int .i64 1) := blk_cell H18.out 1
  have c2 : w8.cell? ⟨b1, 2, none⟩ = some (.int .i64 2147483647) := blk_cell H18.out 2
  have c3 : w8.cell? ⟨b1, 3, none⟩ = some (.int .i64 65535) := blk_cell H18.out 3
  have c4 : w8.cell? ⟨b1, 4, none⟩ = some (.int .i64 16384) := blk_cell H18.out 4
  have c5 : w8.cell? ⟨b1, 5, none⟩ = some (.int .i64 2147483647) := blk_cell H18.out 5
  have c6 : w8.cell? ⟨b2, 0, none⟩ = some (.int .i64 0) := blk_cell H28.out 0
  have c7 : w8.cell? ⟨b2, 3, none⟩ = some (.int .i64 100) := blk_cell H28.out 3
  have c8 : w8.cell? ⟨b5, 0, none⟩ = some (.int .i64 4096) := blk_cell H58.out 0
  have c9 : w8.cell? ⟨b5, 1, none⟩ = some (.int .i64 0) := blk_cell H58.out 1
  have c10 : w8.cell? ⟨b5, 2, none⟩ = some (.int .i64 2147483647) := blk_cell H58.out 2
  have c11 : w8.cell? ⟨b5, 3, none⟩ = some (.int .i64 65535) := blk_cell H58.out 3
  have c12 : w8.cell? ⟨b5, 4, none⟩ = some (.int .i64 16384) := blk_cell H58.out 4
  have c13 : w8.cell? ⟨b5, 5, none⟩ = some (.int .i64 2147483647) := blk_cell H58.out 5
  have c14 : IsB W2.heap.size w8.drew g F true s5 [] := (HI7.out.below HB8.out).below (below_drew (Below.refl _ _))
  have c15 : Kd.C k28 w8.drew AL 2 L := Kd.C_below HC8.out (below_drew (Below.refl _ _))
  have c16 : Below w.heap.size w w8.drew := below_drew (below_then W17.out W17.out.size HB8.out)
  clear HX7 H17 H27 H5 H1 H2 W1 HB3 BW
  refine start_ (n := 64) (S := fun w' => w'.cell? ⟨b1, 0, none⟩ = some (.int .i64 4096) ∧ w'.cell? ⟨b1, 1, none⟩ = some (.int .i64 1) ∧ w'.cell? ⟨b1, 2, none⟩ = some (.int .i64 2147483647) ∧ w'.cell? ⟨b1, 3, none⟩ = some (.int .i64 65535) ∧ w'.cell? ⟨b1, 4, none⟩ = some (.int .i64 16384) ∧ w'.cell? ⟨b1, 5, none⟩ = some (.int .i64 2147483647) ∧ w'.cell? ⟨b2, 0, none⟩ = some (.int .i64 0) ∧ w'.cell? ⟨b2, 3, none⟩ = some (.int .i64 100) ∧ w'.cell? ⟨b5, 0, none⟩ = some (.int .i64 4096) ∧ w'.cell? ⟨b5, 1, none⟩ = some (.int .i64 0) ∧ w'.cell? ⟨b5, 2, none⟩ = some (.int .i64 2147483647) ∧ w'.cell? ⟨b5, 3, none⟩ = some (.int .i64 65535) ∧ w'.cell? ⟨b5, 4, none⟩ = some (.int .i64 16384) ∧ w'.cell? ⟨b5, 5, none⟩ = some (.int .i64 2147483647) ∧ IsB W2.heap.size w' g F true s5 [] ∧ Kd.C k28 w' AL 2 L ∧ Below w.heap.size w w') (ds := []) #[false, false, false, false, false, false, false, false, false, false, false, false, false, false, false, false, false, false, false, false, false, false, false, false, false, false, false, false, false, false, false, false, false, false, false, false, false, false, false, false, false, false, false, false, false, false, false, false, false, false, false, false, false, false, false, false, false, false, false, false, false, false, false, false] (by kernel_rfl) rfl rfl ⟨c0, c1, c2, c3, c4, c5, c6, c7, c8, c9, c10, c11, c12, c13, c14, c15, c16⟩ (fun hHeld => ?_)
  refine pure_ (i := 1) (N := some 41) (v := ?_) (a' := ?_) #[false, true, false, false, false, false, false, false, false, false, false, false, false, false, false, false, false, false, false, false, false, false, false, false, false, false, false, false, false, false, false, false, false, false, false, false, false, false, false, false, false, false, false, false, false, false, false, false, false, false, false, false, false, false, false, false, false, false, false, false, false, false, false, false] rfl rfl (by kernel_rfl) (fun _ _ _ h => h) (Or.inl ⟨by rfl, ?_⟩) ?_ ?_
  rotate_left
  · intro w'
    go_simp
    with_reducible rfl
  rotate_left
  · simp only [Act.put, List.setIfInBounds_toArray, List.set_cons_zero, List.set_cons_succ, i64_w, i32_w]
    rfl
  refine take_ (i := 0) (N := some 40) (v := ?_) (a' := ?_) #[true, true, false, false, false, false, false, false, false, false, false, false, false, false, false, false, false, false, false, false, false, false, false, false, false, false, false, false, false, false, false, false, false, false, false, false, false, false, false, false, false, false, false, false, false, false, false, false, false, false, false, false, false, false, false, false, false, false, false, false, false, false, false, false] rfl rfl (by kernel_rfl) (fun _ _ _ h => h) (Or.inl ⟨by rfl, ?_⟩) hHeld ?_ ?_
  rotate_left
  · rintro w' ⟨s0, s1, s2, s3, s4, s5, s6, s7, s8, s9, s10, s11, s12, s13, s14, s15, s16⟩
    go_simp
    with_reducible rfl
  rotate_left
  · simp only [Act.put, List.setIfInBounds_toArray, List.set_cons_zero, List.set_cons_succ, i64_w, i32_w]
    rfl
  refine pure_ (i := 2) (N := some 42) (v := ?_) (a' := ?_) #[true, true, true, false, false, false, false, false, false, false, false, false, false, false, false, false, false, false, false, false, false, false, false, false, false, false, false, false, false, false, false, false, false, false, false, false, false, false, false, false, false, false, false, false, false, false, false, false, false, false, false, false, false, false, false, false, false, false, false, false, false, false, false, false] rfl rfl (by kernel_rfl) (fun _ _ _ h => h) (Or.inl ⟨by rfl, ?_⟩) ?_ ?_
  rotate_left
  · intro w'
    go_simp
    with_reducible rfl
  rotate_left
  · simp only [Act.put, List.setIfInBounds_toArray, List.set_cons_zero, List.set_cons_succ, i64_w, i32_w]
    rfl
  refine pure_ (i := 3) (N := some 43) (v := ?_) (a' := ?_) #[true, true, true, true, false, false, false, false, false, false, false, false, false, false, false, false, false, false, false, false, false, false, false, false, false, false, false, false, false, false, false, false, false, false, false, false, false, false, false, false, false, false, false, false, false, false, false, false, false, false, false, false, false, false, false, false, false, false, false, false, false, false, false, false] rfl rfl (by kernel_rfl) (fun _ _ _ h => h) (Or.inl ⟨by rfl, ?_⟩) ?_ ?_
  rotate_left
  · intro w'
    go_simp
    with_reducible rfl
  rotate_left
  · simp only [Act.put, List.setIfInBounds_toArray, List.set_cons_zero, List.set_cons_succ, i64_w, i32_w]
    rfl
  refine pure_ (i := 4) (N := some 44) (v := ?_) (a' := ?_) #[true, true, true, true, true, false, false, false, false, false, false, false, false, false, false, false, false, false, false, false, false, false, false, false, false, false, false, false, false, false, false, false, false, false, false, false, false, false, false, false, false, false, false, false, false, false, false, false, false, false, false, false, false, false, false, false, false, false, false, false, false, false, false, false] rfl rfl (by kernel_rfl) (fun _ _ _ h => h) (Or.inl ⟨by rfl, ?_⟩) ?_ ?_
  rotate_left
  · intro w'
    go_simp
    with_reducible rfl
  rotate_left
  · simp only [Act.put, List.setIfInBounds_toArray, List.set_cons_zero, List.set_cons_succ, i64_w, i32_w]
    rfl
  refine pure_ (i := 5) (N := some 45) (v := ?_) (a' := ?_) #[true, true, true, true, true, true, false, false, false, false, false, false, false, false, false, false, false, false, false, false, false, false, false, false, false, false, false, false, false, false, false, false, false, false, false, false, false, false, false, false, false, false, false, false, false, false, false, false, false, false, false, false, false, false, false, false, false, false, false, false, false, false, false, false] rfl rfl (by kernel_rfl) (fun _ _ _ h => h) (Or.inl ⟨by rfl, ?_⟩) ?_ ?_
  rotate_left
  · intro w'
    go_simp
    with_reducible rfl
  rotate_left
  · simp only [Act.put, List.setIfInBounds_toArray, List.set_cons_zero, List.set_cons_succ, i64_w, i32_w]
    rfl
  refine pure_ (i := 6) (N := some 46) (v := ?_) (a' := ?_) #[true, true, true, true, true, true, true, false, false, false, false, false, false, false, false, false, false, false, false, false, false, false, false, false, false, false, false, false, false, false, false, false, false, false, false, false, false, false, false, false, false, false, false, false, false, false, false, false, false, false, false, false, false, false, false, false, false, false, false, false, false, false, false, false] rfl rfl (by kernel_rfl) (fun _ _ _ h => h) (Or.inl ⟨by rfl, ?_⟩) ?_ ?_
  rotate_left
  · intro w'
    go_simp
    with_reducible rfl
  rotate_left
  · simp only [Act.put, List.setIfInBounds_toArray, List.set_cons_zero, List.set_cons_succ, i64_w, i32_w]
    rfl
  refine pure_ (i := 7) (N := some 47) (v := ?_) (a' := ?_) #[true, true, true, true, true, true, true, true, false, false, false, false, false, false, false, false, false, false, false, false, false, false, false, false, false, false, false, false, false, false, false, false, false, false, false, false, false, false, false, false, false, false, false, false, false, false, false, false, false, false, false, false, false, false, false, false, false, false, false, false, false, false, false, false] rfl rfl (by kernel_rfl) (fun _ _ _ h => h) (Or.inl ⟨by rfl, ?_⟩) ?_ ?_
  rotate_left
  · intro w'
    go_simp
    with_reducible rfl
  rotate_left
  · simp only [Act.put, List.setIfInBounds_toArray, List.set_cons_zero, List.set_cons_succ, i64_w, i32_w]
    rfl
  refine pure_ (i := 8) (N := some 48) (v := ?_) (a' := ?_) #[true, true, true, true, true, true, true, true, true, false, false, false, false, false, false, false, false, false, false, false, false, false, false, false, false, false, false, false, false, false, false, false, false, false, false, false, false, false, false, false, false, false, false, false, false, false, false, false, false, false, false, false, false, false, false, false, false, false, false, false, false, false, false, false] rfl rfl (by kernel_rfl) (fun _ _ _ h => h) (Or.inl ⟨by rfl, ?_⟩) ?_ ?_
  rotate_left
  · intro w'
    go_simp
    with_reducible rfl
  rotate_left
  · simp only [Act.put, List.setIfInBounds_toArray, List.set_cons_zero, List.set_cons_succ, i64_w, i32_w]
    rfl
  refine take_ (i := 9) (N := some 49) (v := ?_) (a' := ?_) #[true, true, true, true, true, true, true, true, true, true, false, false, false, false, false, false, false, false, false, false, false, false, false, false, false, false, false, false, false, false, false, false, false, false, false, false, false, false, false, false, false, false, false, false, false, false, false, false, false, false, false, false, false, false, false, false, false, false, false, false, false, false, false, false] rfl rfl (by kernel_rfl) (fun _ _ _ h => h) (Or.inl ⟨by rfl, ?_⟩) hHeld ?_ ?_
  rotate_left
  · rintro w' ⟨s0, s1, s2, s3, s4, s5, s6, s7, s8, s9, s10, s11, s12, s13, s14, s15, s16⟩
    go_simp
    with_reducible rfl
  rotate_left
  · simp only [Act.put, List.setIfInBounds_toArray, List.set_cons_zero, List.set_cons_succ, i64_w, i32_w]
    rfl
  refine pure_ (i := 10) (N := some 50) (v := ?_) (a' := ?_) #[true, true, true, true, true, true, true, true, true, true, true, false, false, false, false, false, false, false, false, false, false, false, false, false, false, false, false, false, false, false, false, false, false, false, false, false, false, false, false, false, false, false, false, false, false, false, false, false, false, false, false, false, false, false, false, false, false, false, false, false, false, false, false, false] rfl rfl (by kernel_rfl) (fun _ _ _ h => h) (Or.inl ⟨by rfl, ?_⟩) ?_ ?_
  rotate_left
  · intro w'
    go_simp
    with_reducible rfl
  rotate_left
  · simp only [Act.put, List.setIfInBounds_toArray, List.set_cons_zero, List.set_cons_succ, i64_w, i32_w]
    rfl
  refine pure_ (i := 11) (N := some 51) (v := ?_) (a' := ?_) #[true, true, true, true, true, true, true, true, true, true, true, true, false, false, false, false, false, false, false, false, false, false, false, false, false, false, false, false, false, false, false, false, false, false, false, false, false, false, false, false, false, false, false, false, false, false, false, false, false, false, false, false, false, false, false, false, false, false, false, false, false, false, false, false] rfl rfl (by kernel_rfl) (fun _ _ _ h => h) (Or.inl ⟨by rfl, ?_⟩) ?_ ?_
  rotate_left
  · intro w'
    go_simp
    with_reducible rfl
  rotate_left
  · simp only [Act.put, List.setIfInBounds_toArray, List.set_cons_zero, List.set_cons_succ, i64_w, i32_w]
    rfl
  refine pure_ (i := 12) (N := some 52) (v := ?_) (a' := ?_) #[true, true, true, true, true, true, true, true, true, true, true, true, true, false, false, false, false, false, false, false, false, false, false, false, false, false, false, false, false, false, false, false, false, false, false, false, false, false, false, false, false, false, false, false, false, false, false, false, false, false, false, false, false, false, false, false, false, false, false, false, false, false, false, false] rfl rfl (by kernel_rfl) (fun _ _ _ h => h) (Or.inl ⟨by rfl, ?_⟩) ?_ ?_
  rotate_left
  · intro w'
    go_simp
    with_reducible rfl
  rotate_left
  · simp only [Act.put, List.setIfInBounds_toArray, List.set_cons_zero, List.set_cons_succ, i64_w, i32_w]
    rfl
  refine pure_ (i := 13) (N := some 53) (v := ?_) (a' := ?_) #[true, true, true, true, true, true, true, true, true, true, true, true, true, true, false, false, false, false, false, false, false, false, false, false, false, false, false, false, false, false, false, false, false, false, false, false, false, false, false, false, false, false, false, false, false, false, false, false, false, false, false, false, false, false, false, false, false, false, false, false, false, false, false, false] rfl rfl (by kernel_rfl) (fun _ _ _ h => h) (Or.inl ⟨by rfl, ?_⟩) ?_ ?_
  rotate_left
  · intro w'
    go_simp
    with_reducible rfl
  rotate_left
  · simp only [Act.put, List.setIfInBounds_toArray, List.set_cons_zero, List.set_cons_succ, i64_w, i32_w]
    rfl
  refine take_ (i := 14) (N := some 54) (v := ?_) (a' := ?_) #[true, true, true, true, true, true, true, true, true, true, true, true, true, true, true, false, false, false, false, false, false, false, false, false, false, false, false, false, false, false, false, false, false, false, false, false, false, false, false, false, false, false, false, false, false, false, false, false, false, false, false, false, false, false, false, false, false, false, false, false, false, false, false, false] rfl rfl (by kernel_rfl) (fun _ _ _ h => h) (Or.inl ⟨by rfl, ?_⟩) hHeld ?_ ?_
  rotate_left
  · rintro w' ⟨s0, s1, s2, s3, s4, s5, s6, s7, s8, s9, s10, s11, s12, s13, s14, s15, s16⟩
    go_simp
    with_reducible rfl
  rotate_left
  · simp only [Act.put, List.setIfInBounds_toArray, List.set_cons_zero, List.set_cons_succ, i64_w, i32_w]
    rfl
  refine pure_ (i := 15) (N := some 55) (v := ?_) (a' := ?_) #[true, true, true, true, true, true, true, true, true, true, true, true, true, true, true, true, false, false, false, false, false, false, false, false, false, false, false, false, false, false, false, false, false, false, false, false, false, false, false, false, false, false, false, false, false, false, false, false, false, false, false, false, false, false, false, false, false, false, false, false, false, false, false, false] rfl rfl (by kernel_rfl) (fun _ _ _ h => h) (Or.inl ⟨by rfl, ?_⟩) ?_ ?_
  rotate_left
  · intro w'
    go_simp
    with_reducible rfl
  rotate_left
  · simp only [Act.put, List.setIfInBounds_toArray, List.set_cons_zero, List.set_cons_succ, i64_w, i32_w]
    rfl
  refine pure_ (i := 16) (N := some 56) (v := ?_) (a' := ?_) #[true, true, true, true, true, true, true, true, true, true, true, true, true, true, true, true, true, false, false, false, false, false, false, false, false, false, false, false, false, false, false, false, false, false, false, false, false, false, false, false, false, false, false, false, false, false, false, false, false, false, false, false, false, false, false, false, false, false, false, false, false, false, false, false] rfl rfl (by kernel_rfl) (fun _ _ _ h => h) (Or.inl ⟨by rfl, ?_⟩) ?_ ?_
  rotate_left
  · intro w'
    go_simp
    with_reducible rfl
  rotate_left
  · simp only [Act.put, List.setIfInBounds_toArray, List.set_cons_zero, List.set_cons_succ, i64_w, i32_w]
    rfl
  refine pure_ (i := 17) (N := some 57) (v := ?_) (a' := ?_) #[true, true, true, true, true, true, true, true, true, true, true, true, true, true, true, true, true, true, false, false, false, false, false, false, false, false, false, false, false, false, false, false, false, false, false, false, false, false, false, false, false, false, false, false, false, false, false, false, false, false, false, false, false, false, false, false, false, false, false, false, false, false, false, false] rfl rfl (by kernel_rfl) (fun _ _ _ h => h) (Or.inl ⟨by rfl, ?_⟩) ?_ ?_
  rotate_left
  · intro w'
    go_simp
    with_reducible rfl
  rotate_left
  · simp only [Act.put, List.setIfInBounds_toArray, List.set_cons_zero, List.set_cons_succ, i64_w, i32_w]
    rfl
  refine pure_ (i := 18) (N := some 58) (v := ?_) (a' := ?_) #[true, true, true, true, true, true, true, true, true, true, true, true, true, true, true, true, true, true, true, false, false, false, false, false, false, false, false, false, false, false, false, false, false, false, false, false, false, false, false, false, false, false, false, false, false, false, false, false, false, false, false, false, false, false, false, false, false, false, false, false, false, false, false, false] rfl rfl (by kernel_rfl) (fun _ _ _ h => h) (Or.inl ⟨by rfl, ?_⟩) ?_ ?_
  rotate_left
  · intro w'
    go_simp
    with_reducible rfl
  rotate_left
  · simp only [Act.put, List.setIfInBounds_toArray, List.set_cons_zero, List.set_cons_succ, i64_w, i32_w]
    rfl
  refine pure_ (i := 19) (N := some 59) (v := ?_) (a' := ?_) #[true, true, true, true, true, true, true, true, true, true, true, true, true, true, true, true, true, true, true, true, false, false, false, false, false, false, false, false, false, false, false, false, false, false, false, false, false, false, false, false, false, false, false, false, false, false, false, false, false, false, false, false, false, false, false, false, false, false, false, false, false, false, false, false] rfl rfl (by kernel_rfl) (fun _ _ _ h => h) (Or.inl ⟨by rfl, ?_⟩) ?_ ?_
  rotate_left
  · intro w'
    go_simp
    with_reducible rfl
  rotate_left
  · simp only [Act.put, List.setIfInBounds_toArray, List.set_cons_zero, List.set_cons_succ, i64_w, i32_w]
    rfl
  refine pure_ (i := 20) (N := some 60) (v := ?_) (a' := ?_) #[true, true, true, true, true, true, true, true, true, true, true, true, true, true, true, true, true, true, true, true, true, false, false, false, false, false, false, false, false, false, false, false, false, false, false, false, false, false, false, false, false, false, false, false, false, false, false, false, false, false, false, false, false, false, false, false, false, false, false, false, false, false, false, false] rfl rfl (by kernel_rfl) (fun _ _ _ h => h) (Or.inl ⟨by rfl, ?_⟩) ?_ ?_
  rotate_left
  · intro w'
    go_simp
    with_reducible rfl
  rotate_left
  · simp only [Act.put, List.setIfInBounds_toArray, List.set_cons_zero, List.set_cons_succ, i64_w, i32_w]
    rfl
  refine pure_ (i := 21) (N := some 61) (v := ?_) (a' := ?_) #[true, true, true, true, true, true, true, true, true, true, true, true, true, true, true, true, true, true, true, true, true, true, false, false, false, false, false, false, false, false, false, false, false, false, false, false, false, false, false, false, false, false, false, false, false, false, false, false, false, false, false, false, false, false, false, false, false, false, false, false, false, false, false, false] rfl rfl (by kernel_rfl) (fun _ _ _ h => h) (Or.inl ⟨by rfl, ?_⟩) ?_ ?_
  rotate_left
  · intro w'
    go_simp
    with_reducible rfl
  rotate_left
  · simp only [Act.put, List.setIfInBounds_toArray, List.set_cons_zero, List.set_cons_succ, i64_w, i32_w]
    rfl
  refine take_ (i := 22) (N := some 62) (v := ?_) (a' := ?_) #[true, true, true, true, true, true, true, true, true, true, true, true, true, true, true, true, true, true, true, true, true, true, true, false, false, false, false, false, false, false, false, false, false, false, false, false, false, false, false, false, false, false, false, false, false, false, false, false, false, false, false, false, false, false, false, false, false, false, false, false, false, false, false, false] rfl rfl (by kernel_rfl) (fun _ _ _ h => h) (Or.inl ⟨by rfl, ?_⟩) hHeld ?_ ?_
  rotate_left
  · rintro w' ⟨s0, s1, s2, s3, s4, s5, s6, s7, s8, s9, s10, s11, s12, s13, s14, s15, s16⟩
    go_simp
    with_reducible rfl
  rotate_left
  · simp only [Act.put, List.setIfInBounds_toArray, List.set_cons_zero, List.set_cons_succ, i64_w, i32_w]
    rfl
  refine pure_ (i := 23) (N := some 63) (v := ?_) (a' := ?_) #[true, true, true, true, true, true, true, true, true, true, true, true, true, true, true, true, true, true, true, true, true, true, true, true, false, false, false, false, false, false, false, false, false, false, false, false, false, false, false, false, false, false, false, false, false, false, false, false, false, false, false, false, false, false, false, false, false, false, false, false, false, false, false, false] rfl rfl (by kernel_rfl) (fun _ _ _ h => h) (Or.inl ⟨by rfl, ?_⟩) ?_ ?_
  rotate_left
  · intro w'
    go_simp
    with_reducible rfl
  rotate_left
  · simp only [Act.put, List.setIfInBounds_toArray, List.set_cons_zero, List.set_cons_succ, i64_w, i32_w]
    rfl
  refine pure_ (i := 24) (N := some 64) (v := ?_) (a' := ?_) #[true, true, true, true, true, true, true, true, true, true, true, true, true, true, true, true, true, true, true, true, true, true, true, true, true, false, false, false, false, false, false, false, false, false, false, false, false, false, false, false, false, false, false, false, false, false, false, false, false, false, false, false, false, false, false, false, false, false, false, false, false, false, false, false] rfl rfl (by kernel_rfl) (fun _ _ _ h => h) (Or.inl ⟨by rfl, ?_⟩) ?_ ?_
  rotate_left
  · intro w'
    go_simp
    with_reducible rfl
  rotate_left
  · simp only [Act.put, List.setIfInBounds_toArray, List.set_cons_zero, List.set_cons_succ, i64_w, i32_w]
    rfl
  refine pure_ (i := 25) (N := some 65) (v := ?_) (a' := ?_) #[true, true, true, true, true, true, true, true, true, true, true, true, true, true, true, true, true, true, true, true, true, true, true, true, true, true, false, false, false, false, false, false, false, false, false, false, false, false, false, false, false, false, false, false, false, false, false, false, false, false, false, false, false, false, false, false, false, false, false, false, false, false, false, false] rfl rfl (by kernel_rfl) (fun _ _ _ h => h) (Or.inl ⟨by rfl, ?_⟩) ?_ ?_
  rotate_left
  · intro w'
    go_simp
    with_reducible rfl
  rotate_left
  · simp only [Act.put, List.setIfInBounds_toArray, List.set_cons_zero, List.set_cons_succ, i64_w, i32_w]
    rfl
  refine pure_ (i := 26) (N := some 66) (v := ?_) (a' := ?_) #[true, true, true, true, true, true, true, true, true, true, true, true, true, true, true, true, true, true, true, true, true, true, true, true, true, true, true, false, false, false, false, false, false, false, false, false, false, false, false, false, false, false, false, false, false, false, false, false, false, false, false, false, false, false, false, false, false, false, false, false, false, false, false, false] rfl rfl (by kernel_rfl) (fun _ _ _ h => h) (Or.inl ⟨by rfl, ?_⟩) ?_ ?_
  rotate_left
  · intro w'
    go_simp
    with_reducible rfl
  rotate_left
  · simp only [Act.put, List.setIfInBounds_toArray, List.set_cons_zero, List.set_cons_succ, i64_w, i32_w]
    rfl
  refine take_ (i := 27) (N := some 67) (v := ?_) (a' := ?_) #[true, true, true, true, true, true, true, true, true, true, true, true, true, true, true, true, true, true, true, true, true, true, true, true, true, true, true, true, false, false, false, false, false, false, false, false, false, false, false, false, false, false, false, false, false, false, false, false, false, false, false, false, false, false, false, false, false, false, false, false, false, false, false, false] rfl rfl (by kernel_rfl) (fun _ _ _ h => h) (Or.inl ⟨by rfl, ?_⟩) hHeld ?_ ?_
  rotate_left
  · rintro w' ⟨s0, s1, s2, s3, s4, s5, s6, s7, s8, s9, s10, s11, s12, s13, s14, s15, s16⟩
    go_simp
    with_reducible rfl
  rotate_left
  · simp only [Act.put, List.setIfInBounds_toArray, List.set_cons_zero, List.set_cons_succ, i64_w, i32_w]
    rfl
  refine pure_ (i := 28) (N := some 68) (v := ?_) (a' := ?_) #[true, true, true, true, true, true, true, true, true, true, true, true, true, true, true, true, true, true, true, true, true, true, true, true, true, true, true, true, true, false, false, false, false, false, false, false, false, false, false, false, false, false, false, false, false, false, false, false, false, false, false, false, false, false, false, false, false, false, false, false, false, false, false, false] rfl rfl (by kernel_rfl) (fun _ _ _ h => h) (Or.inl ⟨by rfl, ?_⟩) ?_ ?_
  rotate_left
  · intro w'
    go_simp
    with_reducible rfl
  rotate_left
  · simp only [Act.put, List.setIfInBounds_toArray, List.set_cons_zero, List.set_cons_succ, i64_w, i32_w]
    rfl
  refine pure_ (i := 29) (N := some 69) (v := ?_) (a' := ?_) #[true, true, true, true, true, true, true, true, true, true, true, true, true, true, true, true, true, true, true, true, true, true, true, true, true, true, true, true, true, true, false, false, false, false, false, false, false, false, false, false, false, false, false, false, false, false, false, false, false, false, false, false, false, false, false, false, false, false, false, false, false, false, false, false] rfl rfl (by kernel_rfl) (fun _ _ _ h => h) (Or.inl ⟨by rfl, ?_⟩) ?_ ?_
  rotate_left
  · intro w'
    go_simp
    with_reducible rfl
  rotate_left
  · simp only [Act.put, List.setIfInBounds_toArray, List.set_cons_zero, List.set_cons_succ, i64_w, i32_w]
    rfl
  refine pure_ (i := 30) (N := some 70) (v := ?_) (a' := ?_) #[true, true, true, true, true, true, true, true, true, true, true, true, true, true, true, true, true, true, true, true, true, true, true, true, true, true, true, true, true, true, true, false, false, false, false, false, false, false, false, false, false, false, false, false, false, false, false, false, false, false, false, false, false, false, false, false, false, false, false, false, false, false, false, false] rfl rfl (by kernel_rfl) (fun _ _ _ h => h) (Or.inl ⟨by rfl, ?_⟩) ?_ ?_
  rotate_left
  · intro w'
    go_simp
    with_reducible rfl
  rotate_left
  · simp only [Act.put, List.setIfInBounds_toArray, List.set_cons_zero, List.set_cons_succ, i64_w, i32_w]
    rfl
  refine pure_ (i := 31) (N := some 71) (v := ?_) (a' := ?_) #[true, true, true, true, true, true, true, true, true, true, true, true, true, true, true, true, true, true, true, true, true, true, true, true, true, true, true, true, true, true, true, true, false, false, false, false, false, false, false, false, false, false, false, false, false, false, false, false, false, false, false, false, false, false, false, false, false, false, false, false, false, false, false, false] rfl rfl (by kernel_rfl) (fun _ _ _ h => h) (Or.inl ⟨by rfl, ?_⟩) ?_ ?_
  rotate_left
  · intro w'
    go_simp
    with_reducible rfl
  rotate_left
  · simp only [Act.put, List.setIfInBounds_toArray, List.set_cons_zero, List.set_cons_succ, i64_w, i32_w]
    rfl
  refine pure_ (i := 32) (N := some 72) (v := ?_) (a' := ?_) #[true, true, true, true, true, true, true, true, true, true, true, true, true, true, true, true, true, true, true, true, true, true, true, true, true, true, true, true, true, true, true, true, true, false, false, false, false, false, false, false, false, false, false, false, false, false, false, false, false, false, false, false, false, false, false, false, false, false, false, false, false, false, false, false] rfl rfl (by kernel_rfl) (fun _ _ _ h => h) (Or.inl ⟨by rfl, ?_⟩) ?_ ?_
  rotate_left
  · intro w'
    go_simp
    with_reducible rfl
  rotate_left
  · simp only [Act.put, List.setIfInBounds_toArray, List.set_cons_zero, List.set_cons_succ, i64_w, i32_w]
    rfl
  refine pure_ (i := 33) (N := some 73) (v := ?_) (a' := ?_) #[true, true, true, true, true, true, true, true, true, true, true, true, true, true, true, true, true, true, true, true, true, true, true, true, true, true, true, true, true, true, true, true, true, true, false, false, false, false, false, false, false, false, false, false, false, false, false, false, false, false, false, false, false, false, false, false, false, false, false, false, false, false, false, false] rfl rfl (by kernel_rfl) (fun _ _ _ h => h) (Or.inl ⟨by rfl, ?_⟩) ?_ ?_
  rotate_left
  · intro w'
    go_simp
    with_reducible rfl
  rotate_left
  · simp only [Act.put, List.setIfInBounds_toArray, List.set_cons_zero, List.set_cons_succ, i64_w, i32_w]
    rfl
  refine one_ (i := 34) (N := some 74) #[true, true, true, true, true, true, true, true, true, true, true, true, true, true, true, true, true, true, true, true, true, true, true, true, true, true, true, true, true, true, true, true, true, true, true, false, false, false, false, false, false, false, false, false, false, false, false, false, false, false, false, false, false, false, false, false, false, false, false, false, false, false, false, false] rfl rfl (by kernel_rfl) (by decide) (fun K hK => ?_)
  refine value_ (w1 := ?_) (v := ?_) (by rfl) rfl ?_ ?_
  rotate_left 2
  · go_simp
    constructor
    · rfl
    · rfl
  have HX := Aside0.mk (Kd.C_below (C_two w8 1 0 4 100 _ rfl) (below_drew (Below.refl _ _)))
  refine hK.out _ _ ⟨((below_alloc (Below.refl _ _) (.cells #[.int .i64 1, .int .i64 0, .int .i64 4, .int .i64 100] 28)).cell (World.block_lt_of_cell? _ _ hHeld.1)).trans hHeld.1, ((below_alloc (Below.refl _ _) (.cells #[.int .i64 1, .int .i64 0, .int .i64 4, .int .i64 100] 28)).cell (World.block_lt_of_cell? _ _ hHeld.2.1)).trans hHeld.2.1, ((below_alloc (Below.refl _ _) (.cells #[.int .i64 1, .int .i64 0, .int .i64 4, .int .i64 100] 28)).cell (World.block_lt_of_cell? _ _ hHeld.2.2.1)).trans hHeld.2.2.1, ((below_alloc (Below.refl _ _) (.cells #[.int .i64 1, .int .i64 0, .int .i64 4, .int .i64 100] 28)).cell (World.block_lt_of_cell? _ _ hHeld.2.2.2.1)).trans hHeld.2.2.2.1, ((below_alloc (Below.refl _ _) (.cells #[.int .i64 1, .int .i64 0, .int .i64 4, .int .i64 100] 28)).cell (World.block_lt_of_cell? _ _ hHeld.2.2.2.2.1)).trans hHeld.2.2.2.2.1, ((below_alloc (Below.refl _ _) (.cells #[.int .i64 1, .int .i64 0, .int .i64 4, .int .i64 100] 28)).cell (World.block_lt_of_cell? _ _ hHeld.2.2.2.2.2.1)).trans hHeld.2.2.2.2.2.1, ((below_alloc (Below.refl _ _) (.cells #[.int .i64 1, .int .i64 0, .int .i64 4, .int .i64 100] 28)).cell (World.block_lt_of_cell? _ _ hHeld.2.2.2.2.2.2.1)).trans hHeld.2.2.2.2.2.2.1, ((below_alloc (Below.refl _ _) (.cells #[.int .i64 1, .int .i64 0, .int .i64 4, .int .i64 100] 28)).cell (World.block_lt_of_cell? _ _ hHeld.2.2.2.2.2.2.2.1)).trans hHeld.2.2.2.2.2.2.2.1, ((below_alloc (Below.refl _ _) (.cells #[.int .i64 1, .int .i64 0, .int .i64 4, .int .i64 100] 28)).cell (World.block_lt_of_cell? _ _ hHeld.2.2.2.2.2.2.2.2.1)).trans hHeld.2.2.2.2.2.2.2.2.1, ((below_alloc (Below.refl _ _) (.cells #[.int .i64 1, .int .i64 0, .int .i64 4, .int .i64 100] 28)).cell (World.block_lt_of_cell? _ _ hHeld.2.2.2.2.2.2.2.2.2.1)).trans hHeld.2.2.2.2.2.2.2.2.2.1, ((below_alloc (Below.refl _ _) (.cells #[.int .i64 1, .int .i64 0, .int .i64 4, .int .i64 100] 28)).cell (World.block_lt_of_cell? _ _ hHeld.2.2.2.2.2.2.2.2.2.2.1)).trans hHeld.2.2.2.2.2.2.2.2.2.2.1, ((below_alloc (Below.refl _ _) (.cells #[.int .i64 1, .int .i64 0, .int .i64 4, .int .i64 100] 28)).cell (World.block_lt_of_cell? _ _ hHeld.2.2.2.2.2.2.2.2.2.2.2.1)).trans hHeld.2.2.2.2.2.2.2.2.2.2.2.1, ((below_alloc (Below.refl _ _) (.cells #[.int .i64 1, .int .i64 0, .int .i64 4, .int .i64 100] 28)).cell (World.block_lt_of_cell? _ _ hHeld.2.2.2.2.2.2.2.2.2.2.2.2.1)).trans hHeld.2.2.2.2.2.2.2.2.2.2.2.2.1, ((below_alloc (Below.refl _ _) (.cells #[.int .i64 1, .int .i64 0, .int .i64 4, .int .i64 100] 28)).cell (World.block_lt_of_cell? _ _ hHeld.2.2.2.2.2.2.2.2.2.2.2.2.2.1)).trans hHeld.2.2.2.2.2.2.2.2.2.2.2.2.2.1, IsB.below hHeld.2.2.2.2.2.2.2.2.2.2.2.2.2.2.1 (below_alloc (Below.refl _ _) (.cells #[.int .i64 1, .int .i64 0, .int .i64 4, .int .i64 100] 28)), Kd.C_below hHeld.2.2.2.2.2.2.2.2.2.2.2.2.2.2.2.1 (below_alloc (Below.refl _ _) (.cells #[.int .i64 1, .int .i64 0, .int .i64 4, .int .i64 100] 28)), below_then hHeld.2.2.2.2.2.2.2.2.2.2.2.2.2.2.2.2 (hHeld.2.2.2.2.2.2.2.2.2.2.2.2.2.2.2.2).size (below_alloc (Below.refl _ _) (.cells #[.int .i64 1, .int .i64 0, .int .i64 4, .int .i64 100] 28))⟩ (fun hHeld => ?_)
  clear hK K
  refine norm_ (a' := ?_) ?_ ?_
  rotate_left
  · show Act.put _ (some 74) _ = _
    simp only [Act.put, List.setIfInBounds_toArray, List.set_cons_zero, List.set_cons_succ, i64_w, i32_w]
    rfl
  refine one_ (i := 35) (N := some 75) #[true, true, true, true, true, true, true, true, true, true, true, true, true, true, true, true, true, true, true, true, true, true, true, true, true, true, true, true, true, true, true, true, true, true, true, true, false, false, false, false, false, false, false, false, false, false, false, false, false, false, false, false, false, false, false, false, false, false, false, false, false, false, false, false] rfl rfl (by kernel_rfl) (by decide) (fun K hK => ?_)
  refine goes_ Tryd.func17 (by kernel_rfl) rfl #[.slice AL 2 cL, .slice (some ⟨_, 0, none⟩) 2 2] (by rfl) rfl rfl (by simp only [List.map_toArray, List.map_cons, List.map_nil]; rfl) ?_
  with_reducible refine (same_lit AL _ cL _ hHeld.2.2.2.2.2.2.2.2.2.2.2.2.2.2.2.1 HCL.out HX.out).mono ?_
  rintro e w3 ⟨rfl, hb⟩
  refine ⟨_, rfl, ?_⟩
  refine hK.out _ _ ⟨(hb.cell (World.block_lt_of_cell? _ _ hHeld.1)).trans hHeld.1, (hb.cell (World.block_lt_of_cell? _ _ hHeld.2.1)).trans hHeld.2.1, (hb.cell (World.block_lt_of_cell? _ _ hHeld.2.2.1)).trans hHeld.2.2.1, (hb.cell (World.block_lt_of_cell? _ _ hHeld.2.2.2.1)).trans hHeld.2.2.2.1, (hb.cell (World.block_lt_of_cell? _ _ hHeld.2.2.2.2.1)).trans hHeld.2.2.2.2.1, (hb.cell (World.block_lt_of_cell? _ _ hHeld.2.2.2.2.2.1)).trans hHeld.2.2.2.2.2.1, (hb.cell (World.block_lt_of_cell? _ _ hHeld.2.2.2.2.2.2.1)).trans hHeld.2.2.2.2.2.2.1, (hb.cell (World.block_lt_of_cell? _ _ hHeld.2.2.2.2.2.2.2.1)).trans hHeld.2.2.2.2.2.2.2.1, (hb.cell (World.block_lt_of_cell? _ _ hHeld.2.2.2.2.2.2.2.2.1)).trans hHeld.2.2.2.2.2.2.2.2.1, (hb.cell (World.block_lt_of_cell? _ _ hHeld.2.2.2.2.2.2.2.2.2.1)).trans hHeld.2.2.2.2.2.2.2.2.2.1, (hb.cell (World.block_lt_of_cell? _ _ hHeld.2.2.2.2.2.2.2.2.2.2.1)).trans hHeld.2.2.2.2.2.2.2.2.2.2.1, (hb.cell (World.block_lt_of_cell? _ _ hHeld.2.2.2.2.2.2.2.2.2.2.2.1)).trans hHeld.2.2.2.2.2.2.2.2.2.2.2.1, (hb.cell (World.block_lt_of_cell? _ _ hHeld.2.2.2.2.2.2.2.2.2.2.2.2.1)).trans hHeld.2.2.2.2.2.2.2.2.2.2.2.2.1, (hb.cell (World.block_lt_of_cell? _ _ hHeld.2.2.2.2.2.2.2.2.2.2.2.2.2.1)).trans hHeld.2.2.2.2.2.2.2.2.2.2.2.2.2.1, IsB.below hHeld.2.2.2.2.2.2.2.2.2.2.2.2.2.2.1 hb, Kd.C_below hHeld.2.2.2.2.2.2.2.2.2.2.2.2.2.2.2.1 hb, below_then hHeld.2.2.2.2.2.2.2.2.2.2.2.2.2.2.2.2 (hHeld.2.2.2.2.2.2.2.2.2.2.2.2.2.2.2.2).size hb⟩ (fun hHeld => ?_)
  clear hK K
  refine norm_ (a' := ?_) ?_ ?_
  rotate_left
  · show Act.put _ (some 75) _ = _
    simp only [Act.put, List.setIfInBounds_toArray, List.set_cons_zero, List.set_cons_succ, i64_w, i32_w]
    rfl
  refine pure_ (i := 36) (N := some 76) (v := ?_) (a' := ?_) #[true, true, true, true, true, true, true, true, true, true, true, true, true, true, true, true, true, true, true, true, true, true, true, true, true, true, true, true, true, true, true, true, true, true, true, true, true, false, false, false, false, false, false, false, false, false, false, false, false, false, false, false, false, false, false, false, false, false, false, false, false, false, false, false] rfl rfl (by kernel_rfl) (fun _ _ _ h => h) (Or.inl ⟨by rfl, ?_⟩) ?_ ?_
  rotate_left
  · intro w'
    go_simp
    with_reducible rfl
  rotate_left
  · simp only [Act.put, List.setIfInBounds_toArray, List.set_cons_zero, List.set_cons_succ, i64_w, i32_w]
    rfl
  refine pure_ (i := 37) (N := some 77) (v := ?_) (a' := ?_) #[true, true, true, true, true, true, true, true, true, true, true, true, true, true, true, true, true, true, true, true, true, true, true, true, true, true, true, true, true, true, true, true, true, true, true, true, true, true, false, false, false, false, false, false, false, false, false, false, false, false, false, false, false, false, false, false, false, false, false, false, false, false, false, false] rfl rfl (by kernel_rfl) (fun _ _ _ h => h) (Or.inl ⟨by rfl, ?_⟩) ?_ ?_
  rotate_left
  · intro w'
    go_simp
    with_reducible rfl
  rotate_left
  · simp only [Act.put, List.setIfInBounds_toArray, List.set_cons_zero, List.set_cons_succ, i64_w, i32_w]
    rfl
  refine take_ (i := 38) (N := some 78) (v := ?_) (a' := ?_) #[true, true, true, true, true, true, true, true, true, true, true, true, true, true, true, true, true, true, true, true, true, true, true, true, true, true, true, true, true, true, true, true, true, true, true, true, true, true, true, false, false, false, false, false, false, false, false, false, false, false, false, false, false, false, false, false, false, false, false, false, false, false, false, false] rfl rfl (by kernel_rfl) (fun _ _ _ h => h) (Or.inl ⟨by rfl, ?_⟩) hHeld ?_ ?_
  rotate_left
  · rintro w' ⟨s0, s1, s2, s3, s4, s5, s6, s7, s8, s9, s10, s11, s12, s13, s14, s15, s16⟩
    go_simp
    with_reducible rfl
  rotate_left
  · simp only [Act.put, List.setIfInBounds_toArray, List.set_cons_zero, List.set_cons_succ, i64_w, i32_w]
    rfl
  refine one_ (i := 39) (N := some 79) #[true, true, true, true, true, true, true, true, true, true, true, true, true, true, true, true, true, true, true, true, true, true, true, true, true, true, true, true, true, true, true, true, true, true, true, true, true, true, true, true, false, false, false, false, false, false, false, false, false, false, false, false, false, false, false, false, false, false, false, false, false, false, false, false] rfl rfl (by kernel_rfl) (by decide) (fun K hK => ?_)
  refine goes_ Tryd.func21 (by kernel_rfl) rfl #[.agg #[.int .i64 4096, .int .i64 1, .int .i64 2147483647, .int .i64 65535, .int .i64 16384, .int .i64 2147483647]] (by rfl) rfl rfl (by simp only [List.map_toArray, List.map_cons, List.map_nil]; rfl) ?_
  with_reducible refine (fits_lit _).mono ?_
  rintro e w3 ⟨rfl, hb⟩
  refine ⟨_, rfl, ?_⟩
  refine hK.out _ _ ⟨(hb.cell (World.block_lt_of_cell? _ _ hHeld.1)).trans hHeld.1, (hb.cell (World.block_lt_of_cell? _ _ hHeld.2.1)).trans hHeld.2.1, (hb.cell (World.block_lt_of_cell? _ _ hHeld.2.2.1)).trans hHeld.2.2.1, (hb.cell (World.block_lt_of_cell? _ _ hHeld.2.2.2.1)).trans hHeld.2.2.2.1, (hb.cell (World.block_lt_of_cell? _ _ hHeld.2.2.2.2.1)).trans hHeld.2.2.2.2.1, (hb.cell (World.block_lt_of_cell? _ _ hHeld.2.2.2.2.2.1)).trans hHeld.2.2.2.2.2.1, (hb.cell (World.block_lt_of_cell? _ _ hHeld.2.2.2.2.2.2.1)).trans hHeld.2.2.2.2.2.2.1, (hb.cell (World.block_lt_of_cell? _ _ hHeld.2.2.2.2.2.2.2.1)).trans hHeld.2.2.2.2.2.2.2.1, (hb.cell (World.block_lt_of_cell? _ _ hHeld.2.2.2.2.2.2.2.2.1)).trans hHeld.2.2.2.2.2.2.2.2.1, (hb.cell (World.block_lt_of_cell? _ _ hHeld.2.2.2.2.2.2.2.2.2.1)).trans hHeld.2.2.2.2.2.2.2.2.2.1, (hb.cell (World.block_lt_of_cell? _ _ hHeld.2.2.2.2.2.2.2.2.2.2.1)).trans hHeld.2.2.2.2.2.2.2.2.2.2.1, (hb.cell (World.block_lt_of_cell? _ _ hHeld.2.2.2.2.2.2.2.2.2.2.2.1)).trans hHeld.2.2.2.2.2.2.2.2.2.2.2.1, (hb.cell (World.block_lt_of_cell? _ _ hHeld.2.2.2.2.2.2.2.2.2.2.2.2.1)).trans hHeld.2.2.2.2.2.2.2.2.2.2.2.2.1, (hb.cell (World.block_lt_of_cell? _ _ hHeld.2.2.2.2.2.2.2.2.2.2.2.2.2.1)).trans hHeld.2.2.2.2.2.2.2.2.2.2.2.2.2.1, IsB.below hHeld.2.2.2.2.2.2.2.2.2.2.2.2.2.2.1 hb, Kd.C_below hHeld.2.2.2.2.2.2.2.2.2.2.2.2.2.2.2.1 hb, below_then hHeld.2.2.2.2.2.2.2.2.2.2.2.2.2.2.2.2 (hHeld.2.2.2.2.2.2.2.2.2.2.2.2.2.2.2.2).size hb⟩ (fun hHeld => ?_)
  clear hK K
  refine norm_ (a' := ?_) ?_ ?_
  rotate_left
  · show Act.put _ (some 79) _ = _
    simp only [Act.put, List.setIfInBounds_toArray, List.set_cons_zero, List.set_cons_succ, i64_w, i32_w]
    rfl
  refine pure_ (i := 40) (N := some 80) (v := ?_) (a' := ?_) #[true, true, true, true, true, true, true, true, true, true, true, true, true, true, true, true, true, true, true, true, true, true, true, true, true, true, true, true, true, true, true, true, true, true, true, true, true, true, true, true, true, false, false, false, false, false, false, false, false, false, false, false, false, false, false, false, false, false, false, false, false, false, false, false] rfl rfl (by kernel_rfl) (fun _ _ _ h => h) (Or.inl ⟨by rfl, ?_⟩) ?_ ?_
  rotate_left
  · intro w'
    go_simp
    with_reducible rfl
  rotate_left
  · simp only [Act.put, List.setIfInBounds_toArray, List.set_cons_zero, List.set_cons_succ, i64_w, i32_w]
    rfl
  refine pure_ (i := 41) (N := some 81) (v := ?_) (a' := ?_) #[true, true, true, true, true, true, true, true, true, true, true, true, true, true, true, true, true, true, true, true, true, true, true, true, true, true, true, true, true, true, true, true, true, true, true, true, true, true, true, true, true, true, false, false, false, false, false, false, false, false, false, false, false, false, false, false, false, false, false, false, false, false, false, false] rfl rfl (by kernel_rfl) (fun _ _ _ h => h) (Or.inl ⟨by rfl, ?_⟩) ?_ ?_
  rotate_left
  · intro w'
    go_simp
    with_reducible rfl
  rotate_left
  · simp only [Act.put, List.setIfInBounds_toArray, List.set_cons_zero, List.set_cons_succ, i64_w, i32_w]
    rfl
  refine pure_ (i := 42) (N := some 82) (v := ?_) (a' := ?_) #[true, true, true, true, true, true, true, true, true, true, true, true, true, true, true, true, true, true, true, true, true, true, true, true, true, true, true, true, true, true, true, true, true, true, true, true, true, true, true, true, true, true, true, false, false, false, false, false, false, false, false, false, false, false, false, false, false, false, false, false, false, false, false, false] rfl rfl (by kernel_rfl) (fun _ _ _ h => h) (Or.inl ⟨by rfl, ?_⟩) ?_ ?_
  rotate_left
  · intro w'
    go_simp
    with_reducible rfl
  rotate_left
  · simp only [Act.put, List.setIfInBounds_toArray, List.set_cons_zero, List.set_cons_succ, i64_w, i32_w]
    rfl
  refine one_ (i := 43) (N := some 83) #[true, true, true, true, true, true, true, true, true, true, true, true, true, true, true, true, true, true, true, true, true, true, true, true, true, true, true, true, true, true, true, true, true, true, true, true, true, true, true, true, true, true, true, true, false, false, false, false, false, false, false, false, false, false, false, false, false, false, false, false, false, false, false, false] rfl rfl (by kernel_rfl) (by decide) (fun K hK => ?_)
  refine goes_ Tryd.func9 (by kernel_rfl) rfl #[.agg #[.int .i64 2, .int .i64 2], .bool true] (by rfl) rfl rfl (by simp only [List.map_toArray, List.map_cons, List.map_nil]; rfl) ?_
  with_reducible refine (setting_Valid.calls 9 2 2 true 1 _ validD).mono ?_
  rintro e w3 ⟨rfl, hb⟩
  refine ⟨_, rfl, ?_⟩
  refine hK.out _ _ ⟨(hb.cell (World.block_lt_of_cell? _ _ hHeld.1)).trans hHeld.1, (hb.cell (World.block_lt_of_cell? _ _ hHeld.2.1)).trans hHeld.2.1, (hb.cell (World.block_lt_of_cell? _ _ hHeld.2.2.1)).trans hHeld.2.2.1, (hb.cell (World.block_lt_of_cell? _ _ hHeld.2.2.2.1)).trans hHeld.2.2.2.1, (hb.cell (World.block_lt_of_cell? _ _ hHeld.2.2.2.2.1)).trans hHeld.2.2.2.2.1, (hb.cell (World.block_lt_of_cell? _ _ hHeld.2.2.2.2.2.1)).trans hHeld.2.2.2.2.2.1, (hb.cell (World.block_lt_of_cell? _ _ hHeld.2.2.2.2.2.2.1)).trans hHeld.2.2.2.2.2.2.1, (hb.cell (World.block_lt_of_cell? _ _ hHeld.2.2.2.2.2.2.2.1)).trans hHeld.2.2.2.2.2.2.2.1, (hb.cell (World.block_lt_of_cell? _ _ hHeld.2.2.2.2.2.2.2.2.1)).trans hHeld.2.2.2.2.2.2.2.2.1, (hb.cell (World.block_lt_of_cell? _ _ hHeld.2.2.2.2.2.2.2.2.2.1)).trans hHeld.2.2.2.2.2.2.2.2.2.1, (hb.cell (World.block_lt_of_cell? _ _ hHeld.2.2.2.2.2.2.2.2.2.2.1)).trans hHeld.2.2.2.2.2.2.2.2.2.2.1, (hb.cell (World.block_lt_of_cell? _ _ hHeld.2.2.2.2.2.2.2.2.2.2.2.1)).trans hHeld.2.2.2.2.2.2.2.2.2.2.2.1, (hb.cell (World.block_lt_of_cell? _ _ hHeld.2.2.2.2.2.2.2.2.2.2.2.2.1)).trans hHeld.2.2.2.2.2.2.2.2.2.2.2.2.1, (hb.cell (World.block_lt_of_cell? _ _ hHeld.2.2.2.2.2.2.2.2.2.2.2.2.2.1)).trans hHeld.2.2.2.2.2.2.2.2.2.2.2.2.2.1, IsB.below hHeld.2.2.2.2.2.2.2.2.2.2.2.2.2.2.1 hb, Kd.C_below hHeld.2.2.2.2.2.2.2.2.2.2.2.2.2.2.2.1 hb, below_then hHeld.2.2.2.2.2.2.2.2.2.2.2.2.2.2.2.2 (hHeld.2.2.2.2.2.2.2.2.2.2.2.2.2.2.2.2).size hb⟩ (fun hHeld => ?_)
  clear hK K
  refine norm_ (a' := ?_) ?_ ?_
  rotate_left
  · show Act.put _ (some 83) _ = _
    simp only [Act.put, List.setIfInBounds_toArray, List.set_cons_zero, List.set_cons_succ, i64_w, i32_w]
    rfl
  refine pure_ (i := 44) (N := some 84) (v := ?_) (a' := ?_) #[true, true, true, true, true, true, true, true, true, true, true, true, true, true, true, true, true, true, true, true, true, true, true, true, true, true, true, true, true, true, true, true, true, true, true, true, true, true, true, true, true, true, true, true, true, false, false, false, false, false, false, false, false, false, false, false, false, false, false, false, false, false, false, false] rfl rfl (by kernel_rfl) (fun _ _ _ h => h) (Or.inl ⟨by rfl, ?_⟩) ?_ ?_
  rotate_left
  · intro w'
    go_simp
    with_reducible rfl
  rotate_left
  · simp only [Act.put, List.setIfInBounds_toArray, List.set_cons_zero, List.set_cons_succ, i64_w, i32_w]
    rfl
  refine pure_ (i := 45) (N := some 85) (v := ?_) (a' := ?_) #[true, true, true, true, true, true, true, true, true, true, true, true, true, true, true, true, true, true, true, true, true, true, true, true, true, true, true, true, true, true, true, true, true, true, true, true, true, true, true, true, true, true, true, true, true, true, false, false, false, false, false, false, false, false, false, false, false, false, false, false, false, false, false, false] rfl rfl (by kernel_rfl) (fun _ _ _ h => h) (Or.inl ⟨by rfl, ?_⟩) ?_ ?_
  rotate_left
  · intro w'
    go_simp
    with_reducible rfl
  rotate_left
  · simp only [Act.put, List.setIfInBounds_toArray, List.set_cons_zero, List.set_cons_succ, i64_w, i32_w]
    rfl
  refine pure_ (i := 46) (N := some 86) (v := ?_) (a' := ?_) #[true, true, true, true, true, true, true, true, true, true, true, true, true, true, true, true, true, true, true, true, true, true, true, true, true, true, true, true, true, true, true, true, true, true, true, true, true, true, true, true, true, true, true, true, true, true, true, false, false, false, false, false, false, false, false, false, false, false, false, false, false, false, false, false] rfl rfl (by kernel_rfl) (fun _ _ _ h => h) (Or.inl ⟨by rfl, ?_⟩) ?_ ?_
  rotate_left
  · intro w'
    go_simp
    with_reducible rfl
  rotate_left
  · simp only [Act.put, List.setIfInBounds_toArray, List.set_cons_zero, List.set_cons_succ, i64_w, i32_w]
    rfl
  refine pure_ (i := 47) (N := some 87) (v := ?_) (a' := ?_) #[true, true, true, true, true, true, true, true, true, true, true, true, true, true, true, true, true, true, true, true, true, true, true, true, true, true, true, true, true, true, true, true, true, true, true, true, true, true, true, true, true, true, true, true, true, true, true, true, false, false, false, false, false, false, false, false, false, false, false, false, false, false, false, false] rfl rfl (by kernel_rfl) (fun _ _ _ h => h) (Or.inl ⟨by rfl, ?_⟩) ?_ ?_
  rotate_left
  · intro w'
    go_simp
    with_reducible rfl
  rotate_left
  · simp only [Act.put, List.setIfInBounds_toArray, List.set_cons_zero, List.set_cons_succ, i64_w, i32_w]
    rfl
  refine join_ (σ := Value × Nat) 14 #[true, true, true, true, true, true, true, true, true, true, true, true, true, true, true, true, true, true, true, true, true, true, true, true, true, true, true, true, true, true, true, true, true, true, true, true, true, true, true, true, true, true, true, true, true, true, true, true, true, true, false, false, false, false, false, false, false, false, false, false, false, false, false, false] (fun s => [(88, s.1), (89, .slice (some ⟨s.2, 0, none⟩) 1 1)]) (fun s w' => (∃ A c, s.1 = .slice A 1 c ∧ 1 ≤ c ∧ Kd.C (Kd.int .i64) w' A 1 [0]) ∧ Kd.C (Kd.int .i64) w' (some ⟨s.2, 0, none⟩) 1 [0] ∧ w'.cell? ⟨b1, 0, none⟩ = some (.int .i64 4096) ∧ w'.cell? ⟨b1, 1, none⟩ = some (.int .i64 1) ∧ w'.cell? ⟨b1, 2, none⟩ = some (.int .i64 2147483647) ∧ w'.cell? ⟨b1, 3, none⟩ = some (.int .i64 65535) ∧ w'.cell? ⟨b1, 4, none⟩ = some (.int .i64 16384) ∧ w'.cell? ⟨b1, 5, none⟩ = some (.int .i64 2147483647) ∧ w'.cell? ⟨b2, 0, none⟩ = some (.int .i64 0) ∧ w'.cell? ⟨b2, 3, none⟩ = some (.int .i64 100) ∧ w'.cell? ⟨b5, 0, none⟩ = some (.int .i64 4096) ∧ w'.cell? ⟨b5, 1, none⟩ = some (.int .i64 0) ∧ w'.cell? ⟨b5, 2, none⟩ = some (.int .i64 2147483647) ∧ w'.cell? ⟨b5, 3, none⟩ = some (.int .i64 65535) ∧ w'.cell? ⟨b5, 4, none⟩ = some (.int .i64 16384) ∧ w'.cell? ⟨b5, 5, none⟩ = some (.int .i64 2147483647) ∧ IsB W2.heap.size w' g F true s5 [] ∧ Kd.C k28 w' AL 2 L ∧ Below w.heap.size w w') ?_ ?_
  rotate_left
  · intro hCont
    refine two_ (i := 48) (j := 49) (Ni := some 88) (Nj := some 89) #[true, true, true, true, true, true, true, true, true, true, true, true, true, true, true, true, true, true, true, true, true, true, true, true, true, true, true, true, true, true, true, true, true, true, true, true, true, true, true, true, true, true, true, true, true, true, true, true, true, false, false, false, false, false, false, false, false, false, false, false, false, false, false, false] #[true, true, true, true, true, true, true, true, true, true, true, true, true, true, true, true, true, true, true, true, true, true, true, true, true, true, true, true, true, true, true, true, true, true, true, true, true, true, true, true, true, true, true, true, true, true, true, true, false, true, false, false, false, false, false, false, false, false, false, false, false, false, false, false] rfl rfl rfl rfl (by kernel_rfl) (by decide) (by decide) (fun K hK => ?_) (fun K hK => ?_)
    · skip
      refine goes_ Tryd.func13 (by kernel_rfl) rfl #[.slice AL 2 cL] (by rfl) rfl rfl (by simp only [List.map_toArray, List.map_cons, List.map_nil]; rfl) ?_
      with_reducible refine (tables_lit AL cL _ hHeld.2.2.2.2.2.2.2.2.2.2.2.2.2.2.2.1 HCL.out).mono ?_
      rintro e w3 ⟨A3, c3, rfl, hl3, hc3, hb⟩
      refine ⟨_, rfl, ?_⟩
      have HT := Aside0.mk hc3
      refine hK.out _ _ ⟨(hb.cell (World.block_lt_of_cell? _ _ hHeld.1)).trans hHeld.1, (hb.cell (World.block_lt_of_cell? _ _ hHeld.2.1)).trans hHeld.2.1, (hb.cell (World.block_lt_of_cell? _ _ hHeld.2.2.1)).trans hHeld.2.2.1, (hb.cell (World.block_lt_of_cell? _ _ hHeld.2.2.2.1)).trans hHeld.2.2.2.1, (hb.cell (World.block_lt_of_cell? _ _ hHeld.2.2.2.2.1)).trans hHeld.2.2.2.2.1, (hb.cell (World.block_lt_of_cell? _ _ hHeld.2.2.2.2.2.1)).trans hHeld.2.2.2.2.2.1, (hb.cell (World.block_lt_of_cell? _ _ hHeld.2.2.2.2.2.2.1)).trans hHeld.2.2.2.2.2.2.1, (hb.cell (World.block_lt_of_cell? _ _ hHeld.2.2.2.2.2.2.2.1)).trans hHeld.2.2.2.2.2.2.2.1, (hb.cell (World.block_lt_of_cell? _ _ hHeld.2.2.2.2.2.2.2.2.1)).trans hHeld.2.2.2.2.2.2.2.2.1, (hb.cell (World.block_lt_of_cell? _ _ hHeld.2.2.2.2.2.2.2.2.2.1)).trans hHeld.2.2.2.2.2.2.2.2.2.1, (hb.cell (World.block_lt_of_cell? _ _ hHeld.2.2.2.2.2.2.2.2.2.2.1)).trans hHeld.2.2.2.2.2.2.2.2.2.2.1, (hb.cell (World.block_lt_of_cell? _ _ hHeld.2.2.2.2.2.2.2.2.2.2.2.1)).trans hHeld.2.2.2.2.2.2.2.2.2.2.2.1, (hb.cell (World.block_lt_of_cell? _ _ hHeld.2.2.2.2.2.2.2.2.2.2.2.2.1)).trans hHeld.2.2.2.2.2.2.2.2.2.2.2.2.1, (hb.cell (World.block_lt_of_cell? _ _ hHeld.2.2.2.2.2.2.2.2.2.2.2.2.2.1)).trans hHeld.2.2.2.2.2.2.2.2.2.2.2.2.2.1, IsB.below hHeld.2.2.2.2.2.2.2.2.2.2.2.2.2.2.1 hb, Kd.C_below hHeld.2.2.2.2.2.2.2.2.2.2.2.2.2.2.2.1 hb, below_then hHeld.2.2.2.2.2.2.2.2.2.2.2.2.2.2.2.2 (hHeld.2.2.2.2.2.2.2.2.2.2.2.2.2.2.2.2).size hb⟩ (fun hHeld => ?_)
      clear hK K
      refine norm_ (a' := ?_) ?_ ?_
      rotate_left
      · show Act.put _ (some 88) _ = _
        simp only [Act.put, List.setIfInBounds_toArray, List.set_cons_zero, List.set_cons_succ, i64_w, i32_w]
        rfl
      refine one_ (i := 49) (N := some 89) #[true, true, true, true, true, true, true, true, true, true, true, true, true, true, true, true, true, true, true, true, true, true, true, true, true, true, true, true, true, true, true, true, true, true, true, true, true, true, true, true, true, true, true, true, true, true, true, true, true, true, false, false, false, false, false, false, false, false, false, false, false, false, false, false] rfl rfl (by kernel_rfl) (by decide) (fun K hK => ?_)
      refine value_ (w1 := ?_) (v := ?_) (by rfl) rfl ?_ ?_
      rotate_left 2
      · go_simp
        constructor
        · rfl
        · rfl
      have HT1 := Aside0.mk (Kd.C_below HT.out (below_alloc (Below.refl _ _) (.cells #[.int .i64 0] 2)))
      have HZ := Aside0.mk (C_one w3 0 _ rfl)
      refine hK.out _ _ ⟨((below_alloc (Below.refl _ _) (.cells #[.int .i64 0] 2)).cell (World.block_lt_of_cell? _ _ hHeld.1)).trans hHeld.1, ((below_alloc (Below.refl _ _) (.cells #[.int .i64 0] 2)).cell (World.block_lt_of_cell? _ _ hHeld.2.1)).trans hHeld.2.1, ((below_alloc (Below.refl _ _) (.cells #[.int .i64 0] 2)).cell (World.block_lt_of_cell? _ _ hHeld.2.2.1)).trans hHeld.2.2.1, ((below_alloc (Below.refl _ _) (.cells #[.int .i64 0] 2)).cell (World.block_lt_of_cell? _ _ hHeld.2.2.2.1)).trans hHeld.2.2.2.1, ((below_alloc (Below.refl _ _) (.cells #[.int .i64 0] 2)).cell (World.block_lt_of_cell? _ _ hHeld.2.2.2.2.1)).trans hHeld.2.2.2.2.1, ((below_alloc (Below.refl _ _) (.cells #[.int .i64 0] 2)).cell (World.block_lt_of_cell? _ _ hHeld.2.2.2.2.2.1)).trans hHeld.2.2.2.2.2.1, ((below_alloc (Below.refl _ _) (.cells #[.int .i64 0] 2)).cell (World.block_lt_of_cell? _ _ hHeld.2.2.2.2.2.2.1)).trans hHeld.2.2.2.2.2.2.1, ((below_alloc (Below.refl _ _) (.cells #[.int .i64 0] 2)).cell (World.block_lt_of_cell? _ _ hHeld.2.2.2.2.2.2.2.1)).trans hHeld.2.2.2.2.2.2.2.1, ((below_alloc (Below.refl _ _) (.cells #[.int .i64 0] 2)).cell (World.block_lt_of_cell? _ _ hHeld.2.2.2.2.2.2.2.2.1)).trans hHeld.2.2.2.2.2.2.2.2.1, ((below_alloc (Below.refl _ _) (.cells #[.int .i64 0] 2)).cell (World.block_lt_of_cell? _ _ hHeld.2.2.2.2.2.2.2.2.2.1)).trans hHeld.2.2.2.2.2.2.2.2.2.1, ((below_alloc (Below.refl _ _) (.cells #[.int .i64 0] 2)).cell (World.block_lt_of_cell? _ _ hHeld.2.2.2.2.2.2.2.2.2.2.1)).trans hHeld.2.2.2.2.2.2.2.2.2.2.1, ((below_alloc (Below.refl _ _) (.cells #[.int .i64 0] 2)).cell (World.block_lt_of_cell? _ _ hHeld.2.2.2.2.2.2.2.2.2.2.2.1)).trans hHeld.2.2.2.2.2.2.2.2.2.2.2.1, ((below_alloc (Below.refl _ _) (.cells #[.int .i64 0] 2)).cell (World.block_lt_of_cell? _ _ hHeld.2.2.2.2.2.2.2.2.2.2.2.2.1)).trans hHeld.2.2.2.2.2.2.2.2.2.2.2.2.1, ((below_alloc (Below.refl _ _) (.cells #[.int .i64 0] 2)).cell (World.block_lt_of_cell? _ _ hHeld.2.2.2.2.2.2.2.2.2.2.2.2.2.1)).trans hHeld.2.2.2.2.2.2.2.2.2.2.2.2.2.1, IsB.below hHeld.2.2.2.2.2.2.2.2.2.2.2.2.2.2.1 (below_alloc (Below.refl _ _) (.cells #[.int .i64 0] 2)), Kd.C_below hHeld.2.2.2.2.2.2.2.2.2.2.2.2.2.2.2.1 (below_alloc (Below.refl _ _) (.cells #[.int .i64 0] 2)), below_then hHeld.2.2.2.2.2.2.2.2.2.2.2.2.2.2.2.2 (hHeld.2.2.2.2.2.2.2.2.2.2.2.2.2.2.2.2).size (below_alloc (Below.refl _ _) (.cells #[.int .i64 0] 2))⟩ (fun hHeld => ?_)
      clear hK K
      refine norm_ (a' := ?_) ?_ ?_
      rotate_left
      · show Act.put _ (some 89) _ = _
        simp only [Act.put, List.setIfInBounds_toArray, List.set_cons_zero, List.set_cons_succ, i64_w, i32_w]
        rfl
      exact norm_ (by first | (simp only [putAll, Act.put, List.setIfInBounds_toArray, List.set_cons_zero, List.set_cons_succ]; done) | (simp only [putAll, Act.put, List.setIfInBounds_toArray, List.set_cons_zero, List.set_cons_succ]; rfl)) (hCont (_, _) _ ⟨⟨_, _, rfl, hl3, HT1.out⟩, HZ.out, hHeld⟩)
    · skip
      refine value_ (w1 := ?_) (v := ?_) (by rfl) rfl ?_ ?_
      rotate_left 2
      · go_simp
        constructor
        · rfl
        · rfl
      have HZ0 := Aside0.mk (C_one w3 0 _ rfl)
      refine hK.out _ _ ⟨((below_alloc (Below.refl _ _) (.cells #[.int .i64 0] 2)).cell (World.block_lt_of_cell? _ _ hHeld.1)).trans hHeld.1, ((below_alloc (Below.refl _ _) (.cells #[.int .i64 0] 2)).cell (World.block_lt_of_cell? _ _ hHeld.2.1)).trans hHeld.2.1, ((below_alloc (Below.refl _ _) (.cells #[.int .i64 0] 2)).cell (World.block_lt_of_cell? _ _ hHeld.2.2.1)).trans hHeld.2.2.1, ((below_alloc (Below.refl _ _) (.cells #[.int .i64 0] 2)).cell (World.block_lt_of_cell? _ _ hHeld.2.2.2.1)).trans hHeld.2.2.2.1, ((below_alloc (Below.refl _ _) (.cells #[.int .i64 0] 2)).cell (World.block_lt_of_cell? _ _ hHeld.2.2.2.2.1)).trans hHeld.2.2.2.2.1, ((below_alloc (Below.refl _ _) (.cells #[.int .i64 0] 2)).cell (World.block_lt_of_cell? _ _ hHeld.2.2.2.2.2.1)).trans hHeld.2.2.2.2.2.1, ((below_alloc (Below.refl _ _) (.cells #[.int .i64 0] 2)).cell (World.block_lt_of_cell? _ _ hHeld.2.2.2.2.2.2.1)).trans hHeld.2.2.2.2.2.2.1, ((below_alloc (Below.refl _ _) (.cells #[.int .i64 0] 2)).cell (World.block_lt_of_cell? _ _ hHeld.2.2.2.2.2.2.2.1)).trans hHeld.2.2.2.2.2.2.2.1, ((below_alloc (Below.refl _ _) (.cells #[.int .i64 0] 2)).cell (World.block_lt_of_cell? _ _ hHeld.2.2.2.2.2.2.2.2.1)).trans hHeld.2.2.2.2.2.2.2.2.1, ((below_alloc (Below.refl _ _) (.cells #[.int .i64 0] 2)).cell (World.block_lt_of_cell? _ _ hHeld.2.2.2.2.2.2.2.2.2.1)).trans hHeld.2.2.2.2.2.2.2.2.2.1, ((below_alloc (Below.refl _ _) (.cells #[.int .i64 0] 2)).cell (World.block_lt_of_cell? _ _ hHeld.2.2.2.2.2.2.2.2.2.2.1)).trans hHeld.2.2.2.2.2.2.2.2.2.2.1, ((below_alloc (Below.refl _ _) (.cells #[.int .i64 0] 2)).cell (World.block_lt_of_cell? _ _ hHeld.2.2.2.2.2.2.2.2.2.2.2.1)).trans hHeld.2.2.2.2.2.2.2.2.2.2.2.1, ((below_alloc (Below.refl _ _) (.cells #[.int .i64 0] 2)).cell (World.block_lt_of_cell? _ _ hHeld.2.2.2.2.2.2.2.2.2.2.2.2.1)).trans hHeld.2.2.2.2.2.2.2.2.2.2.2.2.1, ((below_alloc (Below.refl _ _) (.cells #[.int .i64 0] 2)).cell (World.block_lt_of_cell? _ _ hHeld.2.2.2.2.2.2.2.2.2.2.2.2.2.1)).trans hHeld.2.2.2.2.2.2.2.2.2.2.2.2.2.1, IsB.below hHeld.2.2.2.2.2.2.2.2.2.2.2.2.2.2.1 (below_alloc (Below.refl _ _) (.cells #[.int .i64 0] 2)), Kd.C_below hHeld.2.2.2.2.2.2.2.2.2.2.2.2.2.2.2.1 (below_alloc (Below.refl _ _) (.cells #[.int .i64 0] 2)), below_then hHeld.2.2.2.2.2.2.2.2.2.2.2.2.2.2.2.2 (hHeld.2.2.2.2.2.2.2.2.2.2.2.2.2.2.2.2).size (below_alloc (Below.refl _ _) (.cells #[.int .i64 0] 2))⟩ (fun hHeld => ?_)
      clear hK K
      refine norm_ (a' := ?_) ?_ ?_
      rotate_left
      · show Act.put _ (some 89) _ = _
        simp only [Act.put, List.setIfInBounds_toArray, List.set_cons_zero, List.set_cons_succ, i64_w, i32_w]
        rfl
      refine one_ (i := 48) (N := some 88) #[true, true, true, true, true, true, true, true, true, true, true, true, true, true, true, true, true, true, true, true, true, true, true, true, true, true, true, true, true, true, true, true, true, true, true, true, true, true, true, true, true, true, true, true, true, true, true, true, true, true, false, false, false, false, false, false, false, false, false, false, false, false, false, false] rfl rfl (by kernel_rfl) (by decide) (fun K hK => ?_)
      refine goes_ Tryd.func13 (by kernel_rfl) rfl #[.slice AL 2 cL] (by rfl) rfl rfl (by simp only [List.map_toArray, List.map_cons, List.map_nil]; rfl) ?_
      with_reducible refine (tables_lit AL cL _ hHeld.2.2.2.2.2.2.2.2.2.2.2.2.2.2.2.1 HCL.out).mono ?_
      rintro e w3 ⟨A3, c3, rfl, hl3, hc3, hb⟩
      refine ⟨_, rfl, ?_⟩
      have HT := Aside0.mk hc3
      have HZ := Aside0.mk (Kd.C_below HZ0.out hb)
      refine hK.out _ _ ⟨(hb.cell (World.block_lt_of_cell? _ _ hHeld.1)).trans hHeld.1, (hb.cell (World.block_lt_of_cell? _ _ hHeld.2.1)).trans hHeld.2.1, (hb.cell (World.block_lt_of_cell? _ _ hHeld.2.2.1)).trans hHeld.2.2.1, (hb.cell (World.block_lt_of_cell? _ _ hHeld.2.2.2.1)).trans hHeld.2.2.2.1, (hb.cell (World.block_lt_of_cell? _ _ hHeld.2.2.2.2.1)).trans hHeld.2.2.2.2.1, (hb.cell (World.block_lt_of_cell? _ _ hHeld.2.2.2.2.2.1)).trans hHeld.2.2.2.2.2.1, (hb.cell (World.block_lt_of_cell? _ _ hHeld.2.2.2.2.2.2.1)).trans hHeld.2.2.2.2.2.2.1, (hb.cell (World.block_lt_of_cell? _ _ hHeld.2.2.2.2.2.2.2.1)).trans hHeld.2.2.2.2.2.2.2.1, (hb.cell (World.block_lt_of_cell? _ _ hHeld.2.2.2.2.2.2.2.2.1)).trans hHeld.2.2.2.2.2.2.2.2.1, (hb.cell (World.block_lt_of_cell? _ _ hHeld.2.2.2.2.2.2.2.2.2.1)).trans hHeld.2.2.2.2.2.2.2.2.2.1, (hb.cell (World.block_lt_of_cell? _ _ hHeld.2.2.2.2.2.2.2.2.2.2.1)).trans hHeld.2.2.2.2.2.2.2.2.2.2.1, (hb.cell (World.block_lt_of_cell? _ _ hHeld.2.2.2.2.2.2.2.2.2.2.2.1)).trans hHeld.2.2.2.2.2.2.2.2.2.2.2.1, (hb.cell (World.block_lt_of_cell? _ _ hHeld.2.2.2.2.2.2.2.2.2.2.2.2.1)).trans hHeld.2.2.2.2.2.2.2.2.2.2.2.2.1, (hb.cell (World.block_lt_of_cell? _ _ hHeld.2.2.2.2.2.2.2.2.2.2.2.2.2.1)).trans hHeld.2.2.2.2.2.2.2.2.2.2.2.2.2.1, IsB.below hHeld.2.2.2.2.2.2.2.2.2.2.2.2.2.2.1 hb, Kd.C_below hHeld.2.2.2.2.2.2.2.2.2.2.2.2.2.2.2.1 hb, below_then hHeld.2.2.2.2.2.2.2.2.2.2.2.2.2.2.2.2 (hHeld.2.2.2.2.2.2.2.2.2.2.2.2.2.2.2.2).size hb⟩ (fun hHeld => ?_)
      clear hK K
      refine norm_ (a' := ?_) ?_ ?_
      rotate_left
      · show Act.put _ (some 88) _ = _
        simp only [Act.put, List.setIfInBounds_toArray, List.set_cons_zero, List.set_cons_succ, i64_w, i32_w]
        rfl
      exact norm_ (by first | (simp only [putAll, Act.put, List.setIfInBounds_toArray, List.set_cons_zero, List.set_cons_succ]; done) | (simp only [putAll, Act.put, List.setIfInBounds_toArray, List.set_cons_zero, List.set_cons_succ]; rfl)) (hCont (_, _) _ ⟨⟨_, _, rfl, hl3, HT.out⟩, HZ.out, hHeld⟩)
  rintro ⟨v3, a3⟩ w' ⟨⟨A3, c3, he3, hl3, hT⟩, hZ, hHeld⟩
  obtain rfl : v3 = .slice A3 1 c3 := he3
  refine norm_ (a' := ?_) ?_ ?_
  rotate_left
  · simp only [putAll, Act.put, List.setIfInBounds_toArray, List.set_cons_zero, List.set_cons_succ]
    rfl
  refine one_ (i := 50) (N := some 90) #[true, true, true, true, true, true, true, true, true, true, true, true, true, true, true, true, true, true, true, true, true, true, true, true, true, true, true, true, true, true, true, true, true, true, true, true, true, true, true, true, true, true, true, true, true, true, true, true, true, true, true, false, false, false, false, false, false, false, false, false, false, false, false, false] rfl rfl (by kernel_rfl) (by decide) (fun K hK => ?_)
  refine goes_ Tryd.func15 (by kernel_rfl) rfl #[.slice A3 1 c3, .slice (some ⟨a3, 0, none⟩) 1 1] (by rfl) rfl rfl (by simp only [List.map_toArray, List.map_cons, List.map_nil]; rfl) ?_
  with_reducible refine (ints_lit A3 _ c3 _ hT hl3 hZ).mono ?_
  rintro e w3 ⟨rfl, hb⟩
  refine ⟨_, rfl, ?_⟩
  refine hK.out _ _ ⟨(hb.cell (World.block_lt_of_cell? _ _ hHeld.1)).trans hHeld.1, (hb.cell (World.block_lt_of_cell? _ _ hHeld.2.1)).trans hHeld.2.1, (hb.cell (World.block_lt_of_cell? _ _ hHeld.2.2.1)).trans hHeld.2.2.1, (hb.cell (World.block_lt_of_cell? _ _ hHeld.2.2.2.1)).trans hHeld.2.2.2.1, (hb.cell (World.block_lt_of_cell? _ _ hHeld.2.2.2.2.1)).trans hHeld.2.2.2.2.1, (hb.cell (World.block_lt_of_cell? _ _ hHeld.2.2.2.2.2.1)).trans hHeld.2.2.2.2.2.1, (hb.cell (World.block_lt_of_cell? _ _ hHeld.2.2.2.2.2.2.1)).trans hHeld.2.2.2.2.2.2.1, (hb.cell (World.block_lt_of_cell? _ _ hHeld.2.2.2.2.2.2.2.1)).trans hHeld.2.2.2.2.2.2.2.1, (hb.cell (World.block_lt_of_cell? _ _ hHeld.2.2.2.2.2.2.2.2.1)).trans hHeld.2.2.2.2.2.2.2.2.1, (hb.cell (World.block_lt_of_cell? _ _ hHeld.2.2.2.2.2.2.2.2.2.1)).trans hHeld.2.2.2.2.2.2.2.2.2.1, (hb.cell (World.block_lt_of_cell? _ _ hHeld.2.2.2.2.2.2.2.2.2.2.1)).trans hHeld.2.2.2.2.2.2.2.2.2.2.1, (hb.cell (World.block_lt_of_cell? _ _ hHeld.2.2.2.2.2.2.2.2.2.2.2.1)).trans hHeld.2.2.2.2.2.2.2.2.2.2.2.1, (hb.cell (World.block_lt_of_cell? _ _ hHeld.2.2.2.2.2.2.2.2.2.2.2.2.1)).trans hHeld.2.2.2.2.2.2.2.2.2.2.2.2.1, (hb.cell (World.block_lt_of_cell? _ _ hHeld.2.2.2.2.2.2.2.2.2.2.2.2.2.1)).trans hHeld.2.2.2.2.2.2.2.2.2.2.2.2.2.1, IsB.below hHeld.2.2.2.2.2.2.2.2.2.2.2.2.2.2.1 hb, Kd.C_below hHeld.2.2.2.2.2.2.2.2.2.2.2.2.2.2.2.1 hb, below_then hHeld.2.2.2.2.2.2.2.2.2.2.2.2.2.2.2.2 (hHeld.2.2.2.2.2.2.2.2.2.2.2.2.2.2.2.2).size hb⟩ (fun hHeld => ?_)
  clear hK K
  refine norm_ (a' := ?_) ?_ ?_
  rotate_left
  · show Act.put _ (some 90) _ = _
    simp only [Act.put, List.setIfInBounds_toArray, List.set_cons_zero, List.set_cons_succ, i64_w, i32_w]
    rfl
  refine pure_ (i := 51) (N := some 91) (v := ?_) (a' := ?_) #[true, true, true, true, true, true, true, true, true, true, true, true, true, true, true, true, true, true, true, true, true, true, true, true, true, true, true, true, true, true, true, true, true, true, true, true, true, true, true, true, true, true, true, true, true, true, true, true, true, true, true, true, false, false, false, false, false, false, false, false, false, false, false, false] rfl rfl (by kernel_rfl) (fun _ _ _ h => h) (Or.inl ⟨by rfl, ?_⟩) ?_ ?_
  rotate_left
  · intro w'
    go_simp
    with_reducible rfl
  rotate_left
  · simp only [Act.put, List.setIfInBounds_toArray, List.set_cons_zero, List.set_cons_succ, i64_w, i32_w]
    rfl
  refine pure_ (i := 52) (N := some 92) (v := ?_) (a' := ?_) #[true, true, true, true, true, true, true, true, true, true, true, true, true, true, true, true, true, true, true, true, true, true, true, true, true, true, true, true, true, true, true, true, true, true, true, true, true, true, true, true, true, true, true, true, true, true, true, true, true, true, true, true, true, false, false, false, false, false, false, false, false, false, false, false] rfl rfl (by kernel_rfl) (fun _ _ _ h => h) (Or.inl ⟨by rfl, ?_⟩) ?_ ?_
  rotate_left
  · intro w'
    go_simp
    with_reducible rfl
  rotate_left
  · simp only [Act.put, List.setIfInBounds_toArray, List.set_cons_zero, List.set_cons_succ, i64_w, i32_w]
    rfl
  refine pure_ (i := 53) (N := some 93) (v := ?_) (a' := ?_) #[true, true, true, true, true, true, true, true, true, true, true, true, true, true, true, true, true, true, true, true, true, true, true, true, true, true, true, true, true, true, true, true, true, true, true, true, true, true, true, true, true, true, true, true, true, true, true, true, true, true, true, true, true, true, false, false, false, false, false, false, false, false, false, false] rfl rfl (by kernel_rfl) (fun _ _ _ h => h) (Or.inl ⟨by rfl, ?_⟩) ?_ ?_
  rotate_left
  · intro w'
    go_simp
    with_reducible rfl
  rotate_left
  · simp only [Act.put, List.setIfInBounds_toArray, List.set_cons_zero, List.set_cons_succ, i64_w, i32_w]
    rfl
  refine take_ (i := 55) (N := some 95) (v := ?_) (a' := ?_) #[true, true, true, true, true, true, true, true, true, true, true, true, true, true, true, true, true, true, true, true, true, true, true, true, true, true, true, true, true, true, true, true, true, true, true, true, true, true, true, true, true, true, true, true, true, true, true, true, true, true, true, true, true, true, false, true, false, false, false, false, false, false, false, false] rfl rfl (by kernel_rfl) (fun _ _ _ h => h) (Or.inl ⟨by rfl, ?_⟩) hHeld ?_ ?_
  rotate_left
  · rintro w' ⟨s0, s1, s2, s3, s4, s5, s6, s7, s8, s9, s10, s11, s12, s13, s14, s15, s16⟩
    go_simp
    with_reducible rfl
  rotate_left
  · simp only [Act.put, List.setIfInBounds_toArray, List.set_cons_zero, List.set_cons_succ, i64_w, i32_w]
    rfl
  refine one_ (i := 54) (N := some 94) #[true, true, true, true, true, true, true, true, true, true, true, true, true, true, true, true, true, true, true, true, true, true, true, true, true, true, true, true, true, true, true, true, true, true, true, true, true, true, true, true, true, true, true, true, true, true, true, true, true, true, true, true, true, true, true, true, false, false, false, false, false, false, false, false] rfl rfl (by kernel_rfl) (by decide) (fun K hK => ?_)
  refine goes_ Tryd.func28 (by kernel_rfl) rfl #[.pointer (some ⟨g, 0, none⟩)] (by rfl) rfl rfl (by simp only [List.map_toArray, List.map_cons, List.map_nil]; rfl) ?_
  with_reducible refine (acked_lit W2.heap.size g F _ hHeld.2.2.2.2.2.2.2.2.2.2.2.2.2.2.1).mono ?_
  rintro e w3 ⟨rfl, hb⟩
  refine ⟨_, rfl, ?_⟩
  refine hK.out _ _ ⟨(hb.cell (World.block_lt_of_cell? _ _ hHeld.1)).trans hHeld.1, (hb.cell (World.block_lt_of_cell? _ _ hHeld.2.1)).trans hHeld.2.1, (hb.cell (World.block_lt_of_cell? _ _ hHeld.2.2.1)).trans hHeld.2.2.1, (hb.cell (World.block_lt_of_cell? _ _ hHeld.2.2.2.1)).trans hHeld.2.2.2.1, (hb.cell (World.block_lt_of_cell? _ _ hHeld.2.2.2.2.1)).trans hHeld.2.2.2.2.1, (hb.cell (World.block_lt_of_cell? _ _ hHeld.2.2.2.2.2.1)).trans hHeld.2.2.2.2.2.1, (hb.cell (World.block_lt_of_cell? _ _ hHeld.2.2.2.2.2.2.1)).trans hHeld.2.2.2.2.2.2.1, (hb.cell (World.block_lt_of_cell? _ _ hHeld.2.2.2.2.2.2.2.1)).trans hHeld.2.2.2.2.2.2.2.1, (hb.cell (World.block_lt_of_cell? _ _ hHeld.2.2.2.2.2.2.2.2.1)).trans hHeld.2.2.2.2.2.2.2.2.1, (hb.cell (World.block_lt_of_cell? _ _ hHeld.2.2.2.2.2.2.2.2.2.1)).trans hHeld.2.2.2.2.2.2.2.2.2.1, (hb.cell (World.block_lt_of_cell? _ _ hHeld.2.2.2.2.2.2.2.2.2.2.1)).trans hHeld.2.2.2.2.2.2.2.2.2.2.1, (hb.cell (World.block_lt_of_cell? _ _ hHeld.2.2.2.2.2.2.2.2.2.2.2.1)).trans hHeld.2.2.2.2.2.2.2.2.2.2.2.1, (hb.cell (World.block_lt_of_cell? _ _ hHeld.2.2.2.2.2.2.2.2.2.2.2.2.1)).trans hHeld.2.2.2.2.2.2.2.2.2.2.2.2.1, (hb.cell (World.block_lt_of_cell? _ _ hHeld.2.2.2.2.2.2.2.2.2.2.2.2.2.1)).trans hHeld.2.2.2.2.2.2.2.2.2.2.2.2.2.1, IsB.below hHeld.2.2.2.2.2.2.2.2.2.2.2.2.2.2.1 hb, Kd.C_below hHeld.2.2.2.2.2.2.2.2.2.2.2.2.2.2.2.1 hb, below_then hHeld.2.2.2.2.2.2.2.2.2.2.2.2.2.2.2.2 (hHeld.2.2.2.2.2.2.2.2.2.2.2.2.2.2.2.2).size hb⟩ (fun hHeld => ?_)
  clear hK K
  refine norm_ (a' := ?_) ?_ ?_
  rotate_left
  · show Act.put _ (some 94) _ = _
    simp only [Act.put, List.setIfInBounds_toArray, List.set_cons_zero, List.set_cons_succ, i64_w, i32_w]
    rfl
  refine pure_ (i := 56) (N := some 96) (v := ?_) (a' := ?_) #[true, true, true, true, true, true, true, true, true, true, true, true, true, true, true, true, true, true, true, true, true, true, true, true, true, true, true, true, true, true, true, true, true, true, true, true, true, true, true, true, true, true, true, true, true, true, true, true, true, true, true, true, true, true, true, true, true, false, false, false, false, false, false, false] rfl rfl (by kernel_rfl) (fun _ _ _ h => h) (Or.inl ⟨by rfl, ?_⟩) ?_ ?_
  rotate_left
  · intro w'
    go_simp
    with_reducible rfl
  rotate_left
  · simp only [Act.put, List.setIfInBounds_toArray, List.set_cons_zero, List.set_cons_succ, i64_w, i32_w]
    rfl
  refine pure_ (i := 57) (N := some 97) (v := ?_) (a' := ?_) #[true, true, true, true, true, true, true, true, true, true, true, true, true, true, true, true, true, true, true, true, true, true, true, true, true, true, true, true, true, true, true, true, true, true, true, true, true, true, true, true, true, true, true, true, true, true, true, true, true, true, true, true, true, true, true, true, true, true, false, false, false, false, false, false] rfl rfl (by kernel_rfl) (fun _ _ _ h => h) (Or.inl ⟨by rfl, ?_⟩) ?_ ?_
  rotate_left
  · intro w'
    go_simp
    with_reducible rfl
  rotate_left
  · simp only [Act.put, List.setIfInBounds_toArray, List.set_cons_zero, List.set_cons_succ, i64_w, i32_w]
    rfl
  refine pure_ (i := 58) (N := some 98) (v := ?_) (a' := ?_) #[true, true, true, true, true, true, true, true, true, true, true, true, true, true, true, true, true, true, true, true, true, true, true, true, true, true, true, true, true, true, true, true, true, true, true, true, true, true, true, true, true, true, true, true, true, true, true, true, true, true, true, true, true, true, true, true, true, true, true, false, false, false, false, false] rfl rfl (by kernel_rfl) (fun _ _ _ h => h) (Or.inl ⟨by rfl, ?_⟩) ?_ ?_
  rotate_left
  · intro w'
    go_simp
    with_reducible rfl
  rotate_left
  · simp only [Act.put, List.setIfInBounds_toArray, List.set_cons_zero, List.set_cons_succ, i64_w, i32_w]
    rfl
  refine pure_ (i := 59) (N := some 99) (v := ?_) (a' := ?_) #[true, true, true, true, true, true, true, true, true, true, true, true, true, true, true, true, true, true, true, true, true, true, true, true, true, true, true, true, true, true, true, true, true, true, true, true, true, true, true, true, true, true, true, true, true, true, true, true, true, true, true, true, true, true, true, true, true, true, true, true, false, false, false, false] rfl rfl (by kernel_rfl) (fun _ _ _ h => h) (Or.inl ⟨by rfl, ?_⟩) ?_ ?_
  rotate_left
  · intro w'
    go_simp
    with_reducible rfl
  rotate_left
  · simp only [Act.put, List.setIfInBounds_toArray, List.set_cons_zero, List.set_cons_succ, i64_w, i32_w]
    rfl
  refine one_ (i := 60) (N := some 100) #[true, true, true, true, true, true, true, true, true, true, true, true, true, true, true, true, true, true, true, true, true, true, true, true, true, true, true, true, true, true, true, true, true, true, true, true, true, true, true, true, true, true, true, true, true, true, true, true, true, true, true, true, true, true, true, true, true, true, true, true, true, false, false, false] rfl rfl (by kernel_rfl) (by decide) (fun K hK => ?_)
  refine goes_ Tryd.func34 (by kernel_rfl) rfl #[.pointer (some ⟨g, 0, none⟩)] (by rfl) rfl rfl (by simp only [List.map_toArray, List.map_cons, List.map_nil]; rfl) ?_
  with_reducible refine (waiting_nil W2.heap.size g F _ hHeld.2.2.2.2.2.2.2.2.2.2.2.2.2.2.1).mono ?_
  rintro e w3 ⟨rfl, hb⟩
  refine ⟨_, rfl, ?_⟩
  refine hK.out _ _ ⟨(hb.cell (World.block_lt_of_cell? _ _ hHeld.1)).trans hHeld.1, (hb.cell (World.block_lt_of_cell? _ _ hHeld.2.1)).trans hHeld.2.1, (hb.cell (World.block_lt_of_cell? _ _ hHeld.2.2.1)).trans hHeld.2.2.1, (hb.cell (World.block_lt_of_cell? _ _ hHeld.2.2.2.1)).trans hHeld.2.2.2.1, (hb.cell (World.block_lt_of_cell? _ _ hHeld.2.2.2.2.1)).trans hHeld.2.2.2.2.1, (hb.cell (World.block_lt_of_cell? _ _ hHeld.2.2.2.2.2.1)).trans hHeld.2.2.2.2.2.1, (hb.cell (World.block_lt_of_cell? _ _ hHeld.2.2.2.2.2.2.1)).trans hHeld.2.2.2.2.2.2.1, (hb.cell (World.block_lt_of_cell? _ _ hHeld.2.2.2.2.2.2.2.1)).trans hHeld.2.2.2.2.2.2.2.1, (hb.cell (World.block_lt_of_cell? _ _ hHeld.2.2.2.2.2.2.2.2.1)).trans hHeld.2.2.2.2.2.2.2.2.1, (hb.cell (World.block_lt_of_cell? _ _ hHeld.2.2.2.2.2.2.2.2.2.1)).trans hHeld.2.2.2.2.2.2.2.2.2.1, (hb.cell (World.block_lt_of_cell? _ _ hHeld.2.2.2.2.2.2.2.2.2.2.1)).trans hHeld.2.2.2.2.2.2.2.2.2.2.1, (hb.cell (World.block_lt_of_cell? _ _ hHeld.2.2.2.2.2.2.2.2.2.2.2.1)).trans hHeld.2.2.2.2.2.2.2.2.2.2.2.1, (hb.cell (World.block_lt_of_cell? _ _ hHeld.2.2.2.2.2.2.2.2.2.2.2.2.1)).trans hHeld.2.2.2.2.2.2.2.2.2.2.2.2.1, (hb.cell (World.block_lt_of_cell? _ _ hHeld.2.2.2.2.2.2.2.2.2.2.2.2.2.1)).trans hHeld.2.2.2.2.2.2.2.2.2.2.2.2.2.1, IsB.below hHeld.2.2.2.2.2.2.2.2.2.2.2.2.2.2.1 hb, Kd.C_below hHeld.2.2.2.2.2.2.2.2.2.2.2.2.2.2.2.1 hb, below_then hHeld.2.2.2.2.2.2.2.2.2.2.2.2.2.2.2.2 (hHeld.2.2.2.2.2.2.2.2.2.2.2.2.2.2.2.2).size hb⟩ (fun hHeld => ?_)
  clear hK K
  refine norm_ (a' := ?_) ?_ ?_
  rotate_left
  · show Act.put _ (some 100) _ = _
    simp only [Act.put, List.setIfInBounds_toArray, List.set_cons_zero, List.set_cons_succ, i64_w, i32_w]
    rfl
  refine pure_ (i := 61) (N := some 101) (v := ?_) (a' := ?_) #[true, true, true, true, true, true, true, true, true, true, true, true, true, true, true, true, true, true, true, true, true, true, true, true, true, true, true, true, true, true, true, true, true, true, true, true, true, true, true, true, true, true, true, true, true, true, true, true, true, true, true, true, true, true, true, true, true, true, true, true, true, true, false, false] rfl rfl (by kernel_rfl) (fun _ _ _ h => h) (Or.inl ⟨by rfl, ?_⟩) ?_ ?_
  rotate_left
  · intro w'
    go_simp
    with_reducible rfl
  rotate_left
  · simp only [Act.put, List.setIfInBounds_toArray, List.set_cons_zero, List.set_cons_succ, i64_w, i32_w]
    rfl
  refine pure_ (i := 62) (N := some 102) (v := ?_) (a' := ?_) #[true, true, true, true, true, true, true, true, true, true, true, true, true, true, true, true, true, true, true, true, true, true, true, true, true, true, true, true, true, true, true, true, true, true, true, true, true, true, true, true, true, true, true, true, true, true, true, true, true, true, true, true, true, true, true, true, true, true, true, true, true, true, true, false] rfl rfl (by kernel_rfl) (fun _ _ _ h => h) (Or.inl ⟨by rfl, ?_⟩) ?_ ?_
  rotate_left
  · intro w'
    go_simp
    with_reducible rfl
  rotate_left
  · simp only [Act.put, List.setIfInBounds_toArray, List.set_cons_zero, List.set_cons_succ, i64_w, i32_w]
    rfl
  refine pure_ (i := 63) (N := some 0) (v := ?_) (a' := ?_) #[true, true, true, true, true, true, true, true, true, true, true, true, true, true, true, true, true, true, true, true, true, true, true, true, true, true, true, true, true, true, true, true, true, true, true, true, true, true, true, true, true, true, true, true, true, true, true, true, true, true, true, true, true, true, true, true, true, true, true, true, true, true, true, true] rfl rfl (by kernel_rfl) (fun _ _ _ h => h) (Or.inl ⟨by rfl, ?_⟩) ?_ ?_
  rotate_left
  · intro w'
    go_simp
    with_reducible rfl
  rotate_left
  · simp only [Act.put, List.setIfInBounds_toArray, List.set_cons_zero, List.set_cons_succ, i64_w, i32_w]
    rfl
  refine done_ (by kernel_rfl) ?_

  go_wp2_with fail
  go_ret
  exact ⟨rfl, hHeld.2.2.2.2.2.2.2.2.2.2.2.2.2.2.2.2⟩
end Go.Proofs.YtcjphkgmcfpfeaaDoor.MS
