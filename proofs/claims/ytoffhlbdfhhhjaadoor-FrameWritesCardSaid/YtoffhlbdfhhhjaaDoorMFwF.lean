/- The document's Write tells what the program's tells. The frame fits in memory. -/
import Derived.Test.YtoffhlbdfhhhjaaDoorMFwE
import Derived.Laws.IdiomStrings
import Derived.Test.YtoffhlbdfhhhjaaDoorMFg9
import Derived.Test.YtoffhlbdfhhhjaaDoorMFrK
namespace Go.Proofs.YtoffhlbdfhhhjaaDoor.Fr
open Go Go.RowKit Go.Proofs.YtoffhlbdfhhhjaaDoorW.PrintWords Go.Proofs.YtoffhlbdfhhhjaaDoorW.PrintLast Go.Proofs.YtoffhlbdfhhhjaaDoorW.PrintMore Go.Proofs.YtoffhlbdfhhhjaaDoor.QL
set_option linter.unusedSimpArgs false
set_option linter.unusedVariables false
set_option maxHeartbeats 8000000
set_option maxRecDepth 100000
theorem kB_KM (W W2 : World) (base : Nat) (ok : Nat → Prop) (x : UInt8) (cs : List Value) (h : kB.K W x cs) : kB.M W2 base ok x cs := h
theorem two_row (W : World) (a b : UInt8) (x y : Int) (hx : x = (a.toNat : Int)) (hy : y = (b.toNat : Int)) : ReadsRow (kB.K (W.alloc (.cells #[.int .u8 x, .int .u8 y] 5))) kB.sz (W.alloc (.cells #[.int .u8 x, .int .u8 y] 5)) (some ⟨W.heap.size, 0, none⟩) 2 [a, b] := by
  subst hx; subst hy
  have h := fun i => blk_cell (blk_new W (.cells #[.int .u8 (a.toNat : Int), .int .u8 (b.toNat : Int)] 5)) i
  refine ⟨rfl, by omega, fun _ => ⟨_, rfl, fun j p hj => ?_⟩⟩
  have hj2 : j = 0 ∨ j = 1 := by have := (List.getElem?_eq_some_iff.1 hj).1; simp only [List.length_cons, List.length_nil] at this; omega
  rcases hj2 with rfl | rfl
  · obtain rfl : a = p := Option.some.inj hj
    refine ⟨[.int .u8 (a.toNat : Int)], rfl, rfl, fun i u hu => ?_⟩
    have hi : i = 0 := by have := (List.getElem?_eq_some_iff.1 hu).1; simp only [List.length_cons, List.length_nil] at this; omega
    subst hi
    obtain rfl := Option.some.inj hu
    rw [add_plain]
    exact h 0
  · obtain rfl : b = p := Option.some.inj hj
    refine ⟨[.int .u8 (b.toNat : Int)], rfl, rfl, fun i u hu => ?_⟩
    have hi : i = 0 := by have := (List.getElem?_eq_some_iff.1 hu).1; simp only [List.length_cons, List.length_nil] at this; omega
    subst hi
    obtain rfl := Option.some.inj hu
    rw [add_plain]
    exact h 1
theorem text_of {W : World} {A : Option Addr} {c : Nat} {l : List UInt8} (h : Kd.C kB W A l.length l) (hl : 0 < l.length) : (convert 61 9 (.slice A l.length c)).run Tryd.prog W = .ok (.string ⟨l.toArray⟩) W := by
  obtain ⟨h1, h2, h3⟩ := h
  obtain ⟨ad, rfl, hc⟩ := h3 hl
  refine run_convert_bytes_back (P := Tryd.prog) W 61 9 5 ad c l (by kernel_rfl) (by kernel_rfl) (by kernel_rfl) ?_
  intro j hj
  obtain ⟨cs, _, hk, hcell⟩ := hc j l[j] (List.getElem?_eq_getElem hj)
  have hk : cs = [.int .u8 ((l[j]).toNat : Int)] := hk
  subst hk
  have := hcell 0 _ rfl
  simpa [kB, Kd.scalar] using this
theorem pay_da (f : Fr) (h : rightB f = true) : f.da.size ≤ (payB f).length ∧ (payB f).length ≤ 6 * f.ps.length + f.da.size + 300 := by
  rw [← pay_ref f h]
  have hp := (right_all h).pad
  unfold payP
  simp only [List.length_append, List.length_replicate, params_length, ← ba_size]
  have e1 : (if padB f = true then be 1 f.pad else []).length ≤ 1 := by split <;> simp [be_length]
  have e2 : (if prioB f = true then weight f else []).length ≤ 5 := by split <;> simp [weight_length]
  have e3 : (if f.ty = 5 ∨ f.ty = 7 ∨ f.ty = 8 then be 4 f.la else []).length ≤ 4 := by split <;> simp [be_length]
  have e4 : (if f.ty = 3 ∨ f.ty = 7 then be 4 f.co else []).length ≤ 4 := by split <;> simp [be_length]
  omega
theorem writeR_calls (f : Fr) (A : Option Addr) (c : Nat) (w : World) (h0 : -9223372036854775808 ≤ f.fl) (h1 : f.fl ≤ 9223372036854775807) (hps : Kd.C k32 w A f.ps.length f.ps) (hpl : f.ps.length * 16 ≤ 140737488351232) :
    Calls Tryd.prog 17 #[.agg (f.cells A c)] w fun e w' => e = .returned (.tuple #[.string ⟨(wr f).2.toArray⟩, .int .i64 (wr f).1]) ∧ Below w.heap.size w w' := by
  have HPS := Aside0.mk hps
  have HPL := Aside0.mk hpl
  have HFR := Aside0.mk (And.intro h0 h1)
  obtain ⟨x, hx⟩ : ∃ x, rightB f = x := ⟨_, rfl⟩
  have HX := Aside0.mk hx
  obtain ⟨wv, hwv⟩ : ∃ v, wr f = v := ⟨_, rfl⟩
  rw [hwv]
  have HWV := Aside0.mk hwv
  clear hps hpl h0 h1 hx hwv
  unfold Fr.cells
  go_enter Tryd.func17, Tryd.ntmps17
  go_upto_region 1 with fail
  obtain ⟨W0, hW⟩ : ∃ W, w.alloc (.cells #[.int .i64 f.ty, .int .i64 f.fl, .int .i64 f.st, .string f.da, .int .i64 f.pad, .int .i64 f.dep, .bool f.ex, .int .i64 f.wt, .int .i64 f.co, .int .i64 f.la, .slice A f.ps.length c] 24) = W := ⟨_, rfl⟩
  obtain ⟨g, hg⟩ : ∃ g, w.heap.size = g := ⟨_, rfl⟩
  have hb : Below w.heap.size w W0 := by rw [← hW]; exact below_alloc (Below.refl _ _) _
  have X0 : Aside0 (At W0 g f A c) := ⟨by rw [← hW, ← hg]; exact blk_new _ _⟩
  have L0 := Aside0.mk hb
  rw [hW, hg]
  clear hW hg hb
  cases x
  · obtain rfl : (60, []) = wv := by rw [← HWV.out]; unfold wr; rw [if_neg (by rw [HX.out]; decide)]
    go_wp2_with (first
      | (refine wpList_load_row rfl 24 _ rfl g rfl 24 (f.cells A c) (0, 0) _ X0.out Tryd.underlying24 (by rfl) (by kernel_rfl) ?_; unfold Fr.cells)
      | (go_at_call 53; refine (rightR_calls f A c false _ HFR.out.1 HFR.out.2 (Kd.C_below HPS.out L0.out) (by have := HPL.out; omega) HX.out).mono ?_; rintro e w1 ⟨rfl, hb⟩; have L1 := Aside0.mk (below_then L0.out L0.out.size hb); clear hb))
    go_ret2
    exact ⟨rfl, L1.out⟩
  · have HPD := Aside0.mk (pay_da f HX.out)
    have HFL := Aside0.mk (right_fl HX.out HFR.out.1 HFR.out.2)
    obtain ⟨PL, hPL⟩ : ∃ L, payB f = L := ⟨_, rfl⟩
    have HPR : Aside0 (payP f = PL) := ⟨by rw [pay_ref f HX.out, hPL]⟩
    obtain ⟨N, hN⟩ : ∃ n, PL.length = n := ⟨_, rfl⟩
    have HN := Aside0.mk hN
    rw [hPL, hN] at HPD
    have HWR : Aside0 (wr f = if 65536 < N then (3, []) else (0, be 3 N ++ be 1 f.ty ++ be 1 f.fl ++ be 4 f.st ++ PL)) := ⟨by unfold wr; rw [if_pos HX.out, hPL, hN]⟩
    clear hPL hN
    by_cases hda : 65536 < f.da.size
    · have d1 : decide ((65536 : Int) < (f.da.size : Int)) = true := decide_eq_true (by omega)
      have d2 : decide (65536 < f.da.size) = true := decide_eq_true hda
      obtain rfl : (3, []) = wv := by rw [← HWV.out, HWR.out, if_pos (by have := HPD.out; omega)]
      clear hda
      go_wp2_with (first
        | (refine wpList_load_row rfl 24 _ rfl g rfl 24 (f.cells A c) (0, 0) _ X0.out Tryd.underlying24 (by rfl) (by kernel_rfl) ?_; unfold Fr.cells)
        | (go_at_call 53; refine (rightR_calls f A c true _ HFR.out.1 HFR.out.2 (Kd.C_below HPS.out L0.out) (by have := HPL.out; omega) HX.out).mono ?_; rintro e w1 ⟨rfl, hb⟩; have L1 := Aside0.mk (below_then L0.out L0.out.size hb); have z3 := (X0.out.low hb).c3; clear hb))
      go_ret2
      exact ⟨rfl, L1.out⟩
    · have d1 : decide ((65536 : Int) < (f.da.size : Int)) = false := decide_eq_false (by omega)
      have d2 : decide (65536 < f.da.size) = false := decide_eq_false hda
      have HDA : Aside0 (f.da.size ≤ 65536) := ⟨by omega⟩
      clear hda
      go_upto_region 6 with (first
        | (refine wpList_load_row rfl 24 _ rfl g rfl 24 (f.cells A c) (0, 0) _ X0.out Tryd.underlying24 (by rfl) (by kernel_rfl) ?_; unfold Fr.cells)
        | (refine wpList_load_row rfl 24 _ rfl g rfl 24 (f.cells A c) (0, 0) _ X1.out Tryd.underlying24 (by rfl) (by kernel_rfl) ?_; unfold Fr.cells)
        | (go_at_call 53; refine (rightR_calls f A c true _ HFR.out.1 HFR.out.2 (Kd.C_below HPS.out L0.out) (by have := HPL.out; omega) HX.out).mono ?_; rintro e w1 ⟨rfl, hb⟩; have L1 := Aside0.mk (below_then L0.out L0.out.size hb); have X1 := Aside0.mk (X0.out.low hb); have z3 := X1.out.c3; clear hb)
        | (go_at_call 54; refine (payR_calls f A c _ HX.out HFL.out (Kd.C_below HPS.out L1.out) HPL.out HDA.out).mono ?_; rintro e w2 ⟨vp, rfl, hr, hb⟩; obtain ⟨Ap, cp, rfl, hle, hC⟩ := Kd.R_reads hr; rw [HPR.out, HN.out] at hC; rw [HPR.out, HN.out]; have C2 := Aside0.mk hC; have L2 := Aside0.mk (below_then L1.out L1.out.size hb); have X2 := Aside0.mk (X1.out.low hb); clear hr hb hle hC))
      clear X0 X1 L0 L1 z3 d1 d2
      by_cases hN : 65536 < N
      · have d1 : decide ((65536 : Int) < (N : Int)) = true := decide_eq_true (by omega)
        have d2 : decide (65536 < N) = true := decide_eq_true hN
        obtain rfl : (3, []) = wv := by rw [← HWV.out, HWR.out, if_pos hN]
        clear hN
        go_wp2_with fail
        go_ret2
        exact ⟨rfl, L2.out⟩
      · have d1 : decide ((65536 : Int) < (N : Int)) = false := decide_eq_false (by omega)
        have d2 : decide (65536 < N) = false := decide_eq_false hN
        have HNN : Aside0 (N ≤ 65536) := ⟨by omega⟩
        obtain rfl : (0, be 3 N ++ be 1 f.ty ++ be 1 f.fl ++ be 4 f.st ++ PL) = wv := by rw [← HWV.out, HWR.out, if_neg hN]
        clear hN
        go_upto_region 9 with (go_at_call 55; refine (putR_calls w2.heap.size w2 (.slice none 0 0) [] _ 3 _ (Kd.R_nil _ _ _ _ _) (Below.refl _ _) (Nat.le_refl _) (by decide) (by decide)).mono ?_; rintro e w3 ⟨v3, rfl, hr, hb, ha⟩; have R3 := Aside0.mk hr; have B3 := Aside0.mk hb; have X3 := Aside0.mk (X2.out.low hb); have S3 := Aside0.mk ha.size; clear hr hb ha)
        clear d1 d2
        have z0 := X3.out.c0
        have z1 := X3.out.c1
        go_upto_region 10 with ((with_reducible refine gate_builtin (b := .append) (xs := #[.tmp 21, .tmp 28]) rfl ?_); at_builtin; refine Kd.R_append_rows kB (w0 := w2) w2.heap.size rfl (.tmp 21) (.tmp 28) 61 5 _ 1 rfl Tryd.underlying61 info5 rfl (Nat.succ_pos 0) (Nat.succ_pos 0) v3 ([] ++ be 3 N) _ _ 2 2 (fun _ => True) (fun _ => False) rfl rfl (Kd.R_below R3.out (below_alloc (Below.refl _ _) _)) (two_row w3 _ _ _ _ (byte_val f.ty).symm (byte_val f.fl).symm) (fun _ _ h => kB_KM _ _ _ _ _ _ h) (fun _ h => h.elim) (fun _ _ => trivial) (Below.alloc B3.out S3.out _) (Nat.le_trans S3.out (by simp)) (by rw [List.nil_append, be_length]; decide) ?_; intro v4 w4 ho hb hg hat; have R4 := Aside0.mk ho; have B4 := Aside0.mk hb; have S4 := Aside0.mk hb.size; have X4 : Aside0 (At w4 g f A c) := ⟨X2.out.low hb⟩; clear ho hb hg hat)
        clear z0 z1
        have z2 := X4.out.c2
        go_upto_region 11 with (go_at_call 55; refine (putR_calls w2.heap.size w2 v4 _ _ 4 _ R4.out B4.out S4.out (by decide) (by simp only [List.length_append, be_length, List.length_nil, List.length_cons]; decide)).mono ?_; rintro e w5 ⟨v5, rfl, hr, hb, ha⟩; have R5 := Aside0.mk hr; have B5 := Aside0.mk hb; have S5 := Aside0.mk hb.size; clear hr hb ha)
        clear z2
        obtain ⟨HH, hHH⟩ : ∃ L, be 3 N ++ be 1 f.ty ++ be 1 f.fl ++ be 4 f.st = L := ⟨_, rfl⟩
        have HHL : Aside0 (HH.length = 9) := ⟨by rw [← hHH]; simp [be_length]⟩
        have R6 : Aside0 (Kd.R kB 5 w5 w2.heap.size (fun _ => True) v5 HH) := ⟨by
          have h := R5.out
          rw [← hHH]
          simpa [be] using h⟩
        have HHH := Aside0.mk hHH
        clear hHH
        go_upto_region 12 with ((with_reducible refine gate_builtin (b := .append) (xs := #[.tmp 34, .tmp 35]) rfl ?_); at_builtin; refine Kd.R_append_rows kB (w0 := w2) w2.heap.size rfl (.tmp 34) (.tmp 35) 61 5 _ 1 rfl Tryd.underlying61 info5 rfl (Nat.succ_pos 0) (Nat.succ_pos 0) v5 HH PL Ap N cp (fun _ => True) (fun _ => False) rfl rfl R6.out (Kd.C_below C2.out B5.out) (fun _ _ h => kB_KM _ _ _ _ _ _ h) (fun _ h => h.elim) (fun _ _ => trivial) B5.out S5.out (by have := HHL.out; have := HNN.out; omega) ?_; intro v7 w7 ho hb hg hat; have R7 := Aside0.mk ho; have B7 := Aside0.mk hb; clear ho hb hg hat)
        obtain ⟨Az, cz, hz, _, hCz⟩ := Kd.R_reads R7.out
        rw [hz]
        have hcv := text_of (c := cz) hCz (by rw [List.length_append, HHL.out]; omega)
        clear hz
        rw [List.length_append] at hcv
        go_wp2_with (rw [hcv])
        go_ret2
        have he : be 3 N ++ (be 1 f.ty ++ (be 1 f.fl ++ (be 4 f.st ++ PL))) = HH ++ PL := by rw [← HHH.out]; simp only [List.append_assoc]
        exact ⟨by rw [he]; rfl, below_then L2.out L2.out.size B7.out⟩
end Go.Proofs.YtoffhlbdfhhhjaaDoor.Fr
