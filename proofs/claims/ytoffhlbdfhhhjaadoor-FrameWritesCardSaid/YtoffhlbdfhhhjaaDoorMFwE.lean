/- The document's Right, walked. The frame fits in memory. -/
import Derived.Test.YtoffhlbdfhhhjaaDoorMFwD
import Derived.Test.YtoffhlbdfhhhjaaDoorMFg9
import Derived.Test.YtoffhlbdfhhhjaaDoorMFrK
namespace Go.Proofs.YtoffhlbdfhhhjaaDoor.Fr
open Go Go.RowKit Go.Proofs.YtoffhlbdfhhhjaaDoorW.PrintWords Go.Proofs.YtoffhlbdfhhhjaaDoorW.PrintLast Go.Proofs.YtoffhlbdfhhhjaaDoorW.PrintMore Go.Proofs.YtoffhlbdfhhhjaaDoor.QL
set_option linter.unusedSimpArgs false
set_option linter.unusedVariables false
set_option maxHeartbeats 8000000
set_option maxRecDepth 100000
theorem flagsQ_calls (t x : Int) (w : World) (h0 : 0 ≤ t) (hx : kFl t = x) : Calls Tryd.prog 63 #[.int .i64 t] w fun e w' => e = .returned (.int .i64 x) ∧ Drawn0 w w' := by
  subst hx
  by_cases h10 : t < 10
  · obtain rfl | rfl | rfl | rfl | rfl | rfl | rfl | rfl | rfl | rfl : t = 0 ∨ t = 1 ∨ t = 2 ∨ t = 3 ∨ t = 4 ∨ t = 5 ∨ t = 6 ∨ t = 7 ∨ t = 8 ∨ t = 9 := by omega
    · have hi := flagI0
      go_enter Tryd.func63, Tryd.ntmps63
      go_wp2_with fail
      go_ret
      exact ⟨rfl, Drawn0.refl _⟩
    · have hi := flagI1
      go_enter Tryd.func63, Tryd.ntmps63
      go_wp2_with fail
      go_ret
      exact ⟨rfl, Drawn0.refl _⟩
    · have hi := flagI2
      go_enter Tryd.func63, Tryd.ntmps63
      go_wp2_with fail
      go_ret
      exact ⟨rfl, Drawn0.refl _⟩
    · have hi := flagI3
      go_enter Tryd.func63, Tryd.ntmps63
      go_wp2_with fail
      go_ret
      exact ⟨rfl, Drawn0.refl _⟩
    · have hi := flagI4
      go_enter Tryd.func63, Tryd.ntmps63
      go_wp2_with fail
      go_ret
      exact ⟨rfl, Drawn0.refl _⟩
    · have hi := flagI5
      go_enter Tryd.func63, Tryd.ntmps63
      go_wp2_with fail
      go_ret
      exact ⟨rfl, Drawn0.refl _⟩
    · have hi := flagI6
      go_enter Tryd.func63, Tryd.ntmps63
      go_wp2_with fail
      go_ret
      exact ⟨rfl, Drawn0.refl _⟩
    · have hi := flagI7
      go_enter Tryd.func63, Tryd.ntmps63
      go_wp2_with fail
      go_ret
      exact ⟨rfl, Drawn0.refl _⟩
    · have hi := flagI8
      go_enter Tryd.func63, Tryd.ntmps63
      go_wp2_with fail
      go_ret
      exact ⟨rfl, Drawn0.refl _⟩
    · have hi := flagI9
      go_enter Tryd.func63, Tryd.ntmps63
      go_wp2_with fail
      go_ret
      exact ⟨rfl, Drawn0.refl _⟩
  · have h9 : decide (9 < t) = true := decide_eq_true (by omega)
    have e1 : kFl t = 255 := if_neg h10
    rw [e1]
    clear h0 h10 e1
    go_enter Tryd.func63, Tryd.ntmps63
    go_wp2_with fail
    go_ret
    exact ⟨rfl, Drawn0.refl _⟩
theorem withinQ_calls (n m : Int) (x : Bool) (w : World) (hx : inR n 0 m = x) : Calls Tryd.prog 94 #[.int .i64 n, .int .i64 m] w fun e w' => e = .returned (.bool x) ∧ Drawn0 w w' := by
  subst hx
  refine heraldref06_within.calls n m (inR n 0 m) w ?_
  unfold heraldref06_within.f inR
  by_cases h : n ≥ 0
  · rw [if_pos h, decide_eq_true (show (0 : Int) ≤ n from h), Bool.true_and]
  · rw [if_neg h, decide_eq_false (show ¬ (0 : Int) ≤ n from h), Bool.false_and]
theorem streamQ_calls (t st : Int) (x : Bool) (w : World) (h0 : 0 ≤ t) (hx : stB t st = x) : Calls Tryd.prog 64 #[.int .i64 t, .int .i64 st] w fun e w' => e = .returned (.bool x) ∧ Drawn0 w w' :=
  heraldref06_streamRight.calls 1 t st x w (hx ▸ streamR_f t st h0)
theorem quiet_drawn {P : Program} {f : FuncId} {args : Array Value} {w : World} {n : Nat} {v : Value} (h : Calls P f args (w.drewN n) fun e w' => e = .returned v ∧ Drawn0 (w.drewN n) w') : Calls P f args (w.drewN n) fun e w'' => e = .returned v ∧ ∃ m, w'' = w.drewN m :=
  h.mono fun _ _ ⟨he, hm⟩ => ⟨he, by
    obtain ⟨k, hk⟩ := hm.out
    exact ⟨n + k, by rw [hk, World.drewN_drewN]⟩⟩
theorem load_rowE {P : Program} {ops : Array Oper} {rest : List Oper} {o : Oper} {a : Act} {w : World} {Q : Exit → Act → World → Prop} (hw : Region.wanted o (yielded ops a.tmps) = true) (ty : TypeId) (x : Operand) (ho : o.op = .load ty x)
    (g : Nat) (hx : a.eval x = .pointer (some ⟨g, 0, none⟩)) (t : TypeId) (cs : Array Value) (fr : Nat × Nat) (d : TypeDesc) (hg : w.heap[g]? = some (.cells cs t fr))
    (hu : P.underlying ty = some d) (hd : (match d with | .struct _ | .array _ _ => true | _ => false) = true) (hi : (P.info? ty).map (·.size) = some cs.size)
    (h : wpList P ops Q rest (a.put o.dst (.agg cs)) w) : wpList P ops Q (o :: rest) a w :=
  BigFrame.wpList_want hw fun _ hK => wp_load_row ty x ho g hx t cs fr d hg hu hd hi (hK _ _ h)
theorem rightR_calls (f : Fr) (A : Option Addr) (c : Nat) (x : Bool) (w : World) (h0 : -9223372036854775808 ≤ f.fl) (h1 : f.fl ≤ 9223372036854775807) (hps : Kd.C k32 w A f.ps.length f.ps) (hpl : f.ps.length ≤ 8796093022208) (hx : rightB f = x) : Calls Tryd.prog 53 #[.agg (f.cells A c)] w fun e w' => e = .returned (.bool x) ∧ Below w.heap.size w w' := by
  rw [← ref_right f h0 h1] at hx
  unfold Fr.cells
  have HPS := Aside0.mk hps
  have HPL := Aside0.mk hpl
  have HFR := Aside0.mk (And.intro h0 h1)
  obtain ⟨bP, hbP⟩ : ∃ b, refP f = b := ⟨_, rfl⟩
  obtain ⟨bW, hbW⟩ : ∃ b, refW f = b := ⟨_, rfl⟩
  obtain ⟨bN, hbN⟩ : ∃ b, numR f = b := ⟨_, rfl⟩
  obtain ⟨bL, hbL⟩ : ∃ b, listR f = b := ⟨_, rfl⟩
  have HX : Aside0 ((refA f && bP && bW && (bN && bL)) = x) := ⟨by rw [← hx, ← hbP, ← hbW, ← hbN, ← hbL]; rfl⟩
  have HBP := Aside0.mk hbP
  have HBW := Aside0.mk hbW
  have HBN := Aside0.mk hbN
  have HBL := Aside0.mk hbL
  obtain ⟨K, hK⟩ : ∃ K, kFl f.ty = K := ⟨_, rfl⟩
  obtain ⟨b4, hb4⟩ : ∃ b, inR f.st 0 2147483647 = b := ⟨_, rfl⟩
  obtain ⟨b5, hb5⟩ : ∃ b, stB f.ty f.st = b := ⟨_, rfl⟩
  have HK := Aside0.mk hK
  have HB4 := Aside0.mk hb4
  have HB5 := Aside0.mk hb5
  obtain ⟨y5, hy5⟩ : ∃ b, (Go.bits .andNot .i64 f.fl K != 0) = b := ⟨_, rfl⟩
  have HRA : Aside0 (refA f = (inR f.ty 0 255 && inR f.fl 0 255 && !y5 && b4 && b5)) := ⟨by unfold refA; rw [hK, hb4, hb5, ← hy5]; simp [bne]⟩
  have HY5 := Aside0.mk hy5
  clear hps hpl hx h0 h1 hbP hbW hbN hbL hK hb4 hb5
  go_enter Tryd.func53, Tryd.ntmps53
  go_upto_region 1 with fail
  obtain ⟨W0, hW⟩ : ∃ W, w.alloc (.cells #[.int .i64 f.ty, .int .i64 f.fl, .int .i64 f.st, .string f.da, .int .i64 f.pad, .int .i64 f.dep, .bool f.ex, .int .i64 f.wt, .int .i64 f.co, .int .i64 f.la, .slice A f.ps.length c] 24) = W := ⟨_, rfl⟩
  obtain ⟨g, hg⟩ : ∃ g, w.heap.size = g := ⟨_, rfl⟩
  have hb : Below w.heap.size w W0 := by rw [← hW]; exact below_alloc (Below.refl _ _) _
  have X0 : Aside0 (At W0 g f A c) := ⟨by rw [← hW, ← hg]; exact blk_new _ _⟩
  have L0 := Aside0.mk hb
  rw [hW, hg]
  clear hW hg hb
  have z0 := X0.out.c0
  have z1 := X0.out.c1
  have z2 := X0.out.c2

  by_cases c1 : f.ty < 0
  · have d1 : decide (f.ty < 0) = true := decide_eq_true c1
    have e1 : inR f.ty 0 255 = false := by unfold inR; rw [decide_eq_false (by omega)]; rfl
    obtain rfl : false = x := by rw [← HX.out, HRA.out]; rw [e1]; simp
    clear c1 e1 hy5
    go_quiet (fail)
    go_wp2_with fail
    go_ret
    exact ⟨rfl, pw_below_drewN L0.out _⟩
  have d1 : decide (f.ty < 0) = false := decide_eq_false c1
  have HTY : Aside0 (0 ≤ f.ty) := ⟨by omega⟩
  by_cases c2 : 255 < f.ty
  · have d2 : decide (255 < f.ty) = true := decide_eq_true c2
    have e1 : inR f.ty 0 255 = false := by unfold inR; rw [decide_eq_false (show ¬ f.ty ≤ 255 by omega), Bool.and_false]
    obtain rfl : false = x := by rw [← HX.out, HRA.out]; rw [e1]; simp
    clear c1 c2 e1 hy5
    go_quiet (fail)
    go_wp2_with fail
    go_ret
    exact ⟨rfl, pw_below_drewN L0.out _⟩
  have d2 : decide (255 < f.ty) = false := decide_eq_false c2
  by_cases c3 : f.fl < 0
  · have d3 : decide (f.fl < 0) = true := decide_eq_true c3
    have e1 : inR f.fl 0 255 = false := by unfold inR; rw [decide_eq_false (by omega)]; rfl
    obtain rfl : false = x := by rw [← HX.out, HRA.out]; rw [e1]; simp
    clear c1 c2 c3 e1 hy5
    go_quiet (fail)
    go_wp2_with fail
    go_ret
    exact ⟨rfl, pw_below_drewN L0.out _⟩
  have d3 : decide (f.fl < 0) = false := decide_eq_false c3
  by_cases c4 : 255 < f.fl
  · have d4 : decide (255 < f.fl) = true := decide_eq_true c4
    have e1 : inR f.fl 0 255 = false := by unfold inR; rw [decide_eq_false (show ¬ f.fl ≤ 255 by omega), Bool.and_false]
    obtain rfl : false = x := by rw [← HX.out, HRA.out]; rw [e1]; simp
    clear c1 c2 c3 c4 e1 hy5
    go_quiet (fail)
    go_wp2_with fail
    go_ret
    exact ⟨rfl, pw_below_drewN L0.out _⟩
  have d4 : decide (255 < f.fl) = false := decide_eq_false c4
  have HRG : Aside0 (0 ≤ f.ty ∧ f.ty ≤ 255 ∧ 0 ≤ f.fl ∧ f.fl ≤ 255) := ⟨by omega⟩
  clear c1 c2 c3 c4
  cases y5
  rotate_left
  · obtain rfl : false = x := by rw [← HX.out, HRA.out]; simp
    go_quiet (first
      | (go_at_call 63; with_reducible exact quiet_drawn (flagsQ_calls f.ty K _ HTY.out HK.out))
      | (go_at_call 94; with_reducible exact quiet_drawn (withinQ_calls f.st 2147483647 b4 _ HB4.out))
      | (go_at_call 64; with_reducible exact quiet_drawn (streamQ_calls f.ty f.st b5 _ HTY.out HB5.out)))
    go_wp2_with fail
    go_ret
    exact ⟨rfl, pw_below_drewN L0.out _⟩
  cases b4
  · obtain rfl : false = x := by rw [← HX.out, HRA.out]; simp
    go_quiet (first
      | (go_at_call 63; with_reducible exact quiet_drawn (flagsQ_calls f.ty K _ HTY.out HK.out))
      | (go_at_call 94; with_reducible exact quiet_drawn (withinQ_calls f.st 2147483647 false _ HB4.out))
      | (go_at_call 64; with_reducible exact quiet_drawn (streamQ_calls f.ty f.st b5 _ HTY.out HB5.out)))
    go_wp2_with fail
    go_ret
    exact ⟨rfl, pw_below_drewN L0.out _⟩
  cases b5
  · obtain rfl : false = x := by rw [← HX.out, HRA.out]; simp
    go_quiet (first
      | (go_at_call 63; with_reducible exact quiet_drawn (flagsQ_calls f.ty K _ HTY.out HK.out))
      | (go_at_call 94; with_reducible exact quiet_drawn (withinQ_calls f.st 2147483647 true _ HB4.out))
      | (go_at_call 64; with_reducible exact quiet_drawn (streamQ_calls f.ty f.st false _ HTY.out HB5.out)))
    go_wp2_with fail
    go_ret
    exact ⟨rfl, pw_below_drewN L0.out _⟩
  go_quiet (first
    | (go_at_call 63; with_reducible exact quiet_drawn (flagsQ_calls f.ty K _ HTY.out HK.out))
    | (go_at_call 94; with_reducible exact quiet_drawn (withinQ_calls f.st 2147483647 true _ HB4.out))
    | (go_at_call 64; with_reducible exact quiet_drawn (streamQ_calls f.ty f.st true _ HTY.out HB5.out)))

  have X1 : Aside0 (At (W0.drewN nq) g f A c) := ⟨X0.out.low (pw_below_drewN (Below.refl _ _) _)⟩
  have L1 : Aside0 (Below w.heap.size w (W0.drewN nq)) := ⟨pw_below_drewN L0.out _⟩
  obtain ⟨W1, hW1⟩ : ∃ W, W0.drewN nq = W := ⟨_, rfl⟩
  rw [hW1] at X1 L1 ⊢
  have HX2 : Aside0 ((bP && bW && (bN && bL)) = x) := ⟨by
    have h := HX.out
    have h2 := HRG.out
    rw [HRA.out, inR_of h2.1 h2.2.1, inR_of h2.2.2.1 h2.2.2.2] at h
    simpa using h⟩
  have HD : Aside0 (Hd f) := ⟨⟨⟨HRG.out.1, HRG.out.2.1⟩, HRG.out.2.2, by
    have e := HY5.out
    rw [← HK.out] at e
    exact and_of_andNot f.fl (kFl f.ty) (by have := HRG.out; omega) (by have := HRG.out; omega) (by simpa using e)⟩⟩
  clear X0 L0 d1 d2 d3 d4 hy5 hW1 z0 z1 z2
  obtain ⟨x1, hx1⟩ : ∃ x, padB f = x := ⟨_, rfl⟩
  obtain ⟨x2, hx2⟩ : ∃ x, prioB f = x := ⟨_, rfl⟩
  obtain ⟨b6, hb6⟩ : ∃ b, inR f.pad 0 255 = b := ⟨_, rfl⟩
  obtain ⟨b7, hb7⟩ : ∃ b, inR f.dep 0 2147483647 = b := ⟨_, rfl⟩
  have HX1 := Aside0.mk hx1
  have HX2_ := Aside0.mk hx2
  have HB6 := Aside0.mk hb6
  have HB7 := Aside0.mk hb7
  have HPP : Aside0 (bP = (b6 && !(decide (0 < f.pad) && !x1))) := ⟨by rw [← HBP.out, ← hb6, ← hx1]; rfl⟩
  have HWW : Aside0 (bW = if x2 = true then b7 && inR f.wt 1 256 else (f.dep == 0 && !f.ex && f.wt == 0)) := ⟨by rw [← HBW.out, ← hb7, ← hx2]; rfl⟩
  clear hx1 hx2 hb6 hb7
  have z4 := X1.out.c4
  have z0 := X1.out.c0
  have z1 := X1.out.c1
  go_upto_if 43 with fail
  go_upto_region 3 with fail
  go_cut [60] from 44 to 60 (fun v wc => v = .bool (!bP) ∧ Aside0 (At wc g f A c) ∧ Aside0 (Below w.heap.size w wc))
  case first =>
    cases b6
    · have e : bP = false := by rw [HPP.out]; rfl
      subst e
      go_wp2_with (go_at_call 94; with_reducible refine (withinR_calls f.pad 255 false _ HB6.out).mono ?_; rintro e w2 ⟨rfl, hb⟩; have X2 := Aside0.mk (X1.out.low hb); have L2 := Aside0.mk (below_then L1.out L1.out.size hb); clear hb)
      go_meet
      case rel => exact ⟨rfl, X2, L2⟩
    · by_cases hp : 0 < f.pad
      · have d1 : decide (0 < f.pad) = true := decide_eq_true hp
        have e : bP = x1 := by rw [HPP.out, d1]; simp
        subst e
        clear hp
        go_wp2_with (first
          | (go_at_call 94; with_reducible refine (withinR_calls f.pad 255 true _ HB6.out).mono ?_; rintro e w2 ⟨rfl, hb⟩; have X2 := Aside0.mk (X1.out.low hb); have L2 := Aside0.mk (below_then L1.out L1.out.size hb); have z4b := X2.out.c4; have z0b := X2.out.c0; have z1b := X2.out.c1; clear hb)
          | (go_at_call 95; refine (mayPad_calls f bP _ HD.out HX1.out).mono ?_; rintro e w3 ⟨rfl, hb⟩; have X3 := Aside0.mk (X2.out.low hb); have L3 := Aside0.mk (below_then L2.out L2.out.size hb); clear hb))
        go_meet
        case rel => exact ⟨by first | rfl | simp, X3, L3⟩
      · have d1 : decide (0 < f.pad) = false := decide_eq_false hp
        have e : bP = true := by rw [HPP.out, d1]; rfl
        subst e
        clear hp
        go_wp2_with (go_at_call 94; with_reducible refine (withinR_calls f.pad 255 true _ HB6.out).mono ?_; rintro e w2 ⟨rfl, hb⟩; have X2 := Aside0.mk (X1.out.low hb); have L2 := Aside0.mk (below_then L1.out L1.out.size hb); have z4b := X2.out.c4; clear hb)
        go_meet
        case rel => exact ⟨rfl, X2, L2⟩
  case rest =>
    clear X1 L1 z0 z1 z4
    obtain ⟨rfl, X2, L2⟩ := hcut
    cases bP
    · obtain rfl : false = x := by rw [← HX2.out]; simp
      go_wp2_with fail
      go_ret
      exact ⟨rfl, L2.out⟩
    · go_upto_if 62 with (first
        | (refine wpList_load_row rfl 24 _ rfl g rfl 24 (f.cells A c) (0, 0) _ X2.out Tryd.underlying24 (by rfl) (by kernel_rfl) ?_; unfold Fr.cells)
        | (go_at_call 96; refine (weighed_calls f A c x2 _ HD.out.fl HX2_.out).mono ?_; rintro e w3 ⟨rfl, hb⟩; have X3 := Aside0.mk (X2.out.low hb); have L3 := Aside0.mk (below_then L2.out L2.out.size hb); clear hb))
      clear X2 L2
      have z5 := X3.out.c5
      have z6 := X3.out.c6
      have z7 := X3.out.c7
      go_cut [2] from 63 to 88 (fun v wc => v = .bool false ∧ Aside0 (bW = true) ∧ Aside0 (At wc g f A c) ∧ Aside0 (Below w.heap.size w wc))
      case first =>
        cases x2
        · by_cases e1 : f.dep = 0
          · have y1 : (f.dep != 0) = false := by simp [e1]
            obtain ⟨ex, hex⟩ : ∃ b, f.ex = b := ⟨_, rfl⟩
            rw [hex] at z6
            cases ex
            · by_cases e2 : f.wt = 0
              · have y2 : (f.wt != 0) = false := by simp [e2]
                have hbw : bW = true := by rw [HWW.out, if_neg (by decide), e1, e2, hex]; rfl
                have HBT := Aside0.mk hbw
                clear e1 e2 hex hbw
                go_wp2_with fail
                go_meet
                case rel => exact ⟨rfl, HBT, X3, L3⟩
              · have y2 : (f.wt != 0) = true := by simp [e2]
                have hbw : bW = false := by rw [HWW.out, if_neg (by decide), show (f.wt == 0) = false by simp [e2], Bool.and_false]
                obtain rfl : false = x := by rw [← HX2.out, hbw]; simp
                clear e1 e2 hex hbw
                go_wp2_with fail
                go_ret
                exact ⟨rfl, L3.out⟩
            · have hbw : bW = false := by rw [HWW.out, if_neg (by decide), hex, Bool.not_true, Bool.and_false, Bool.false_and]
              obtain rfl : false = x := by rw [← HX2.out, hbw]; simp
              clear e1 hex hbw
              go_wp2_with fail
              go_ret
              exact ⟨rfl, L3.out⟩
          · have y1 : (f.dep != 0) = true := by simp [e1]
            have hbw : bW = false := by rw [HWW.out, if_neg (by decide), show (f.dep == 0) = false by simp [e1], Bool.false_and, Bool.false_and]
            obtain rfl : false = x := by rw [← HX2.out, hbw]; simp
            clear e1 hbw
            go_wp2_with fail
            go_ret
            exact ⟨rfl, L3.out⟩
        · cases b7
          · have hbw : bW = false := by rw [HWW.out, if_pos rfl, Bool.false_and]
            obtain rfl : false = x := by rw [← HX2.out, hbw]; simp
            clear hbw
            go_wp2_with (go_at_call 94; with_reducible refine (withinR_calls f.dep 2147483647 false _ HB7.out).mono ?_; rintro e w4 ⟨rfl, hb⟩; have L4 := Aside0.mk (below_then L3.out L3.out.size hb); clear hb)
            go_ret
            exact ⟨rfl, L4.out⟩
          · by_cases e1 : f.wt < 1
            · have d1 : decide (f.wt < 1) = true := decide_eq_true e1
              have hbw : bW = false := by rw [HWW.out, if_pos rfl]; unfold inR; rw [decide_eq_false (show ¬ 1 ≤ f.wt by omega)]; rfl
              obtain rfl : false = x := by rw [← HX2.out, hbw]; simp
              clear e1 hbw
              go_wp2_with (go_at_call 94; with_reducible refine (withinR_calls f.dep 2147483647 true _ HB7.out).mono ?_; rintro e w4 ⟨rfl, hb⟩; have L4 := Aside0.mk (below_then L3.out L3.out.size hb); have z7b := (X3.out.low hb).c7; clear hb)
              go_ret
              exact ⟨rfl, L4.out⟩
            · have d1 : decide (f.wt < 1) = false := decide_eq_false e1
              by_cases e2 : 256 < f.wt
              · have d2 : decide (256 < f.wt) = true := decide_eq_true e2
                have hbw : bW = false := by rw [HWW.out, if_pos rfl]; unfold inR; rw [decide_eq_false (show ¬ f.wt ≤ 256 by omega), Bool.and_false, Bool.and_false]
                obtain rfl : false = x := by rw [← HX2.out, hbw]; simp
                clear e1 e2 hbw
                go_wp2_with (go_at_call 94; with_reducible refine (withinR_calls f.dep 2147483647 true _ HB7.out).mono ?_; rintro e w4 ⟨rfl, hb⟩; have L4 := Aside0.mk (below_then L3.out L3.out.size hb); have z7b := (X3.out.low hb).c7; clear hb)
                go_ret
                exact ⟨rfl, L4.out⟩
              · have d2 : decide (256 < f.wt) = false := decide_eq_false e2
                have hbw : bW = true := by rw [HWW.out, if_pos rfl, inR_of (by omega) (by omega)]; rfl
                have HBT := Aside0.mk hbw
                clear e1 e2 hbw
                go_wp2_with (go_at_call 94; with_reducible refine (withinR_calls f.dep 2147483647 true _ HB7.out).mono ?_; rintro e w4 ⟨rfl, hb⟩; have X4 := Aside0.mk (X3.out.low hb); have L4 := Aside0.mk (below_then L3.out L3.out.size hb); have z7b := X4.out.c7; clear hb)
                go_meet
                case rel => exact ⟨rfl, HBT, X4, L4⟩
      case rest =>
        clear X3 L3 z5 z6 z7
        obtain ⟨rfl, HBT, X4, L4⟩ := hcut
        have HX3 : Aside0 ((bN && bL) = x) := ⟨by have h := HX2.out; rw [HBT.out] at h; simpa using h⟩
        cases bN
        · obtain rfl : false = x := HX3.out
          go_wp2_with (first
            | (refine wpList_load_row rfl 24 _ rfl g rfl 24 (f.cells A c) (0, 0) _ X4.out Tryd.underlying24 (by rfl) (by kernel_rfl) ?_; unfold Fr.cells)
            | (go_at_call 97; refine (numR_calls f A c false _ HBN.out).mono ?_; rintro e w5 ⟨rfl, hb⟩; have L5 := Aside0.mk (below_then L4.out L4.out.size hb); clear hb))
          go_ret
          exact ⟨rfl, L5.out⟩
        · obtain rfl : bL = x := HX3.out
          go_wp2_with (first
            | (refine wpList_load_row rfl 24 _ rfl g rfl 24 (f.cells A c) (0, 0) _ X4.out Tryd.underlying24 (by rfl) (by kernel_rfl) ?_; unfold Fr.cells)
            | (refine load_rowE (by rfl) 24 _ rfl g rfl 24 (f.cells A c) (0, 0) _ X5.out Tryd.underlying24 (by rfl) (by kernel_rfl) ?_; unfold Fr.cells)
            | (go_at_call 97; refine (numR_calls f A c true _ HBN.out).mono ?_; rintro e w5 ⟨rfl, hb⟩; have X5 := Aside0.mk (X4.out.low hb); have L5 := Aside0.mk (below_then L4.out L4.out.size hb); clear hb)
            | (go_at_call 98; refine (listR_calls f A c bL _ (Kd.C_below HPS.out L5.out) HPL.out HBL.out).mono ?_; rintro e w6 ⟨rfl, hb⟩; have L6 := Aside0.mk (below_then L5.out L5.out.size hb); clear hb))
          go_ret
          exact ⟨rfl, L6.out⟩
end Go.Proofs.YtoffhlbdfhhhjaaDoor.Fr
