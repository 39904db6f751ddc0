/- The document's payload of a right frame. The frame fits in memory. -/
import Derived.Test.YtoffhlbdfhhhjaaDoorMFwA
import Derived.Test.YtoffhlbdfhhhjaaDoorMFg9
import Derived.Lib.AppendStr
import Derived.Test.YtoffhlbdfhhhjaaDoorMFrK
namespace Go.Proofs.YtoffhlbdfhhhjaaDoor.Fr
open Go Go.RowKit Go.Proofs.YtoffhlbdfhhhjaaDoorW.PrintWords Go.Proofs.YtoffhlbdfhhhjaaDoorW.PrintLast Go.Proofs.YtoffhlbdfhhhjaaDoorW.PrintMore Go.Proofs.YtoffhlbdfhhhjaaDoor.QL
set_option linter.unusedSimpArgs false
set_option linter.unusedVariables false
set_option maxHeartbeats 8000000
set_option maxRecDepth 100000
theorem append_strB {P : Program} {ops : Array Oper} {rest : List Oper} {o : Oper} {a : Act} {Q : Exit → Act → World → Prop} {w0 W : World} (base : Nat) (hgd : o.guard = none) (s x : Operand) (t u : TypeId)
    (ho : o.op = .call { callee := .builtin .append, args := #[s, x], argTypes := #[t, u] })
    (ht : P.underlying t = some (.slice 5)) (hu : P.underlying u = some .string) (hinfo : (P.info? 5).map (fun i => (i.zero, i.size, i.bytes)) = some (some (.int .u8 0), 1, 1))
    (v : Value) (l : List UInt8) (y : ByteArray) (hs : a.eval s = v) (hx : a.eval x = .string y)
    (HR : Kd.R kB 5 W base (fun _ => True) v l) (HB : Below base w0 W) (hbase : base ≤ W.heap.size) (hl : l.length + y.size ≤ 140737488355328)
    (h : ∀ v1 w1, Kd.R kB 5 w1 base (fun _ => True) v1 (l ++ y.data.toList) → Below base w0 w1 → W.grownBy w1 v.ownBlock → wpList P ops Q rest (a.put o.dst v1) w1) :
    wpList P ops Q (o :: rest) a W := by
  obtain ⟨i0, hi, hzz⟩ := Option.map_eq_some_iff.1 hinfo
  simp only [Prod.mk.injEq] at hzz
  obtain ⟨hz0, hz1, hz2⟩ := hzz
  have hown := Kd.own_of_R HR
  refine Lib.wpList_append_own_string W hgd s x t u ho base 5 i0 ht hu hi hz0 hz1 hz2 v l.length _ hs hown y hx (by simp only [maxLen]; omega) hl hbase ?_
  intro v1 w1 hown1 hg _
  refine h v1 w1 (Kd.R_of_own ?_ (fun _ _ => trivial)) (HB.grown hg hbase (own_base hown)) hg
  have e1 : (l ++ y.data.toList).length = l.length + y.size := by rw [List.length_append, ← ba_size]
  rw [e1, encs_append]
  exact hown1
/-- The payload as the document lays it. -/
def payP (f : Fr) : List UInt8 := (if padB f = true then be 1 f.pad else []) ++ (if prioB f = true then weight f else []) ++ (if f.ty = 5 ∨ f.ty = 7 ∨ f.ty = 8 then be 4 f.la else []) ++ (if f.ty = 3 ∨ f.ty = 7 then be 4 f.co else []) ++ params f.ps ++ f.da.data.toList ++ List.replicate f.pad.toNat 0
theorem pay_ref (f : Fr) (h : rightB f = true) : payP f = payB f := by
  have ho := right_own h
  have hp : ∀ x, x ≠ 4 → f.ty = x → params f.ps = [] := fun x h1 h2 => by rw [ho.none (by omega)]; rfl
  have hd : f.ty = 3 ∨ f.ty = 4 ∨ f.ty = 2 ∨ f.ty = 8 → f.da.data.toList = [] := fun h1 => by
    have := ho.da
    unfold ownDa at this
    rw [if_pos h1] at this
    rw [← this]
    rfl
  unfold payP payB
  congr 1
  rw [List.append_assoc, List.append_assoc, List.append_assoc, List.append_assoc]
  congr 1
  unfold layB prioB
  by_cases h1 : f.ty = 1
  · rw [hp 1 (by decide) h1]
    simp [h1]
  by_cases h2 : f.ty = 2
  · rw [hp 2 (by decide) h2, hd (by omega)]
    simp [h2]
  by_cases h3 : f.ty = 3
  · rw [hp 3 (by decide) h3, hd (by omega)]
    simp [h3]
  by_cases h4 : f.ty = 4
  · rw [hd (by omega)]
    simp [h4]
  by_cases h5 : f.ty = 5
  · rw [hp 5 (by decide) h5]
    simp [h5]
  by_cases h7 : f.ty = 7
  · rw [hp 7 (by decide) h7]
    simp [h7]
  by_cases h8 : f.ty = 8
  · rw [hp 8 (by decide) h8, hd (by omega)]
    simp [h8]
  · rw [show params f.ps = [] from by rw [ho.none h4]; rfl]
    simp [h1, h2, h3, h4, h5, h7, h8]
theorem payR_calls (f : Fr) (A : Option Addr) (c : Nat) (w : World) (hR : rightB f = true) (hfl : Go.bits .and .i64 f.fl (kFl f.ty) = f.fl ∧ 0 ≤ f.fl ∧ f.fl ≤ 255) (hps : Kd.C k32 w A f.ps.length f.ps) (hpl : f.ps.length * 16 ≤ 140737488351232) (hda : f.da.size ≤ 65536) :
    Calls Tryd.prog 54 #[.agg (f.cells A c)] w fun e w' => ∃ v', e = .returned v' ∧ Kd.R kB 5 w' w.heap.size (fun _ => True) v' (payP f) ∧ Below w.heap.size w w' := by
  have hra := right_all hR
  have hro := right_own hR
  have HD : Aside0 (Hd f) := ⟨⟨hra.ty, hfl.2, hfl.1⟩⟩
  have HPS := Aside0.mk hps
  have HPL := Aside0.mk hpl
  have HDA := Aside0.mk hda
  have HPD : Aside0 (0 ≤ f.pad ∧ f.pad ≤ 255) := ⟨hra.pad⟩
  have HDW : Aside0 (prioB f = true → (0 ≤ f.dep ∧ f.dep ≤ 2147483647) ∧ (1 ≤ f.wt ∧ f.wt ≤ 256)) := ⟨fun h => ⟨hro.dr, hro.pw h⟩⟩
  obtain ⟨x1, hx1⟩ : ∃ x, padB f = x := ⟨_, rfl⟩
  obtain ⟨x2, hx2⟩ : ∃ x, prioB f = x := ⟨_, rfl⟩
  obtain ⟨P1, hP1⟩ : ∃ P, (if x1 = true then be 1 f.pad else []) = P := ⟨_, rfl⟩
  obtain ⟨P2, hP2⟩ : ∃ P, (if x2 = true then weight f else []) = P := ⟨_, rfl⟩
  obtain ⟨P3, hP3⟩ : ∃ P, (if f.ty = 5 ∨ f.ty = 7 ∨ f.ty = 8 then be 4 f.la else []) = P := ⟨_, rfl⟩
  obtain ⟨P4, hP4⟩ : ∃ P, (if f.ty = 3 ∨ f.ty = 7 then be 4 f.co else []) = P := ⟨_, rfl⟩
  have HPAY : Aside0 (payP f = P1 ++ P2 ++ P3 ++ P4 ++ params f.ps ++ f.da.data.toList ++ List.replicate f.pad.toNat 0) := ⟨by unfold payP; rw [hx1, hx2, hP1, hP2, hP3, hP4]⟩
  have HLP : Aside0 (P1.length ≤ 1 ∧ P2.length ≤ 5 ∧ P3.length ≤ 4 ∧ P4.length ≤ 4) := ⟨by
    rw [← hP1, ← hP2, ← hP3, ← hP4]
    refine ⟨?_, ?_, ?_, ?_⟩ <;> split <;> simp [be_length, weight_length]⟩
  have HX1 := Aside0.mk hx1
  have HX2 := Aside0.mk hx2
  have HP1 := Aside0.mk hP1
  have HP2 := Aside0.mk hP2
  have HP3 := Aside0.mk hP3
  have HP4 := Aside0.mk hP4
  clear hra hro hR hfl hps hpl hda hx1 hx2 hP1 hP2 hP3 hP4
  unfold Fr.cells
  go_enter Tryd.func54, Tryd.ntmps54
  go_upto_region 2 with fail
  obtain ⟨W0, hW⟩ : ∃ W, w.alloc (.cells #[.int .i64 f.ty, .int .i64 f.fl, .int .i64 f.st, .string f.da, .int .i64 f.pad, .int .i64 f.dep, .bool f.ex, .int .i64 f.wt, .int .i64 f.co, .int .i64 f.la, .slice A f.ps.length c] 24) = W := ⟨_, rfl⟩
  obtain ⟨g, hg⟩ : ∃ g, w.heap.size = g := ⟨_, rfl⟩
  have hb : Below w.heap.size w W0 := by rw [← hW]; exact below_alloc (Below.refl _ _) _
  have X0 : Aside0 (At W0 g f A c) := ⟨by rw [← hW, ← hg]; exact blk_new _ _⟩
  have L0 := Aside0.mk hb
  have HGW := Aside0.mk hg
  rw [hW, hg]
  clear hW hg hb
  have z0 := X0.out.c0
  have z1 := X0.out.c1
  go_upto_if 10 with (go_at_call 95; refine (mayPad_calls f x1 _ HD.out HX1.out).mono ?_; rintro e w1 ⟨rfl, hb⟩; have X1 := Aside0.mk (X0.out.low hb); have L1 := Aside0.mk (below_then L0.out L0.out.size hb); clear hb)
  clear z0 z1 X0 L0
  go_cut [3] from 11 to 16 (fun u wc => Aside0 (Kd.R kB 5 wc w.heap.size (fun _ => True) u (P1)) ∧ Aside0 (At wc g f A c) ∧ Aside0 (Below w.heap.size w wc))
  case first =>
    cases x1
    · go_wp2_with fail
      go_meet
      case rel => exact ⟨⟨by rw [← HP1.out]; exact Kd.R_nil _ _ _ _ _⟩, X1, L1⟩
    · have z4 := X1.out.c4
      have R1 : Aside0 (Kd.R kB 5 w1 w.heap.size (fun _ => True) (.slice none 0 0) []) := ⟨Kd.R_nil _ _ _ _ _⟩
      go_wp2_with ((with_reducible refine gate_builtin (b := .append) (xs := #[.tmp 11, .tmp 15]) rfl ?_); at_builtin; refine Kd.R_append kB (w0 := w) w.heap.size rfl (.tmp 11) (.tmp 15) 61 5 _ 1 rfl Tryd.underlying61 info5 rfl (Nat.succ_pos 0) (Nat.succ_pos 0) (.slice none 0 0) _ _ _ (fun _ => True) (fun _ => False) rfl rfl (kB_mk (byte_val _).symm) (fun _ h => h.elim) (fun _ _ => trivial) R1.out L1.out L1.out.size ?aL ?_; (case aL => (try simp only [List.length_append, List.length_replicate, List.length_nil, params_length]); have := HLP.out; have := HPL.out; have := HDA.out; have := HPD.out; omega); intro v2 w9 ho hb hg hat; have R9 := Aside0.mk ho; have X9 : Aside0 (At w9 g f A c) := ⟨(hg.block g (blk_lt X1.out) (Kd.R_ne R1.out X1.out (by decide))).trans X1.out⟩; have L9 := Aside0.mk hb; clear ho hb hg hat)
      go_meet
      case rel => exact ⟨⟨by
        have e1 : P1 = [UInt8.ofNat (f.pad % 256).toNat] := by rw [← HP1.out]; simp [be]
        rw [e1]
        exact R9.out⟩, X9, L9⟩
  case rest =>
    clear X1 L1
    obtain ⟨R2, X2, L2⟩ := hcut
    go_upto_if 18 with (first
      | (refine wpList_load_row rfl 24 _ rfl g rfl 24 (f.cells A c) (0, 0) _ X2.out Tryd.underlying24 (by rfl) (by kernel_rfl) ?_; unfold Fr.cells)
      | (go_at_call 96; refine (weighed_calls f A c x2 _ HD.out.fl HX2.out).mono ?_; rintro e w3 ⟨rfl, hb⟩; have X3 := Aside0.mk (X2.out.low hb); have R3 := Aside0.mk (Kd.R_below R2.out hb); have L3 := Aside0.mk (below_then L2.out L2.out.size hb); clear hb))
    clear X2 R2 L2
    go_cut [3] from 19 to 21 (fun u wc => Aside0 (Kd.R kB 5 wc w.heap.size (fun _ => True) u (P1 ++ P2)) ∧ Aside0 (At wc g f A c) ∧ Aside0 (Below w.heap.size w wc))
    case first =>
      cases x2
      · go_wp2_with fail
        go_meet
        case rel => exact ⟨⟨by have e := HP2.out; rw [← e]; simpa using R3.out⟩, X3, L3⟩
      · go_wp2_with (first
          | (refine wpList_load_row rfl 24 _ rfl g rfl 24 (f.cells A c) (0, 0) _ X3.out Tryd.underlying24 (by rfl) (by kernel_rfl) ?_; unfold Fr.cells)
          | (go_at_call 99; refine (weightR_calls w.heap.size w u3 P1 f A c _ R3.out L3.out L3.out.size (HDW.out HX2.out).1 (HDW.out HX2.out).2 (by have := HLP.out; omega)).mono ?_; rintro e w4 ⟨v4, rfl, hr, hb, ha⟩; have R4 := Aside0.mk hr; have L4 := Aside0.mk hb; have X4 := Aside0.mk (ha.at R3.out X3.out); clear hr hb ha))
        go_meet
        case rel => exact ⟨⟨by have e := HP2.out; rw [← e]; simpa using R4.out⟩, X4, L4⟩
    case rest =>
      clear X3 R3 L3
      obtain ⟨R5, X5, L5⟩ := hcut
      have z0 := X5.out.c0
      obtain ⟨wc0, hwc⟩ : ∃ W, wc = W := ⟨_, rfl⟩
      rw [hwc] at R5 X5 L5 z0 ⊢
      clear hwc
      obtain ⟨y, hy⟩ : ∃ y, decide (f.ty = 5 ∨ f.ty = 7 ∨ f.ty = 8) = y := ⟨_, rfl⟩
      have HY := Aside0.mk hy
      clear hy
      go_upto_region 6 with fail
      go_cut [34] from 22 to 34 (fun v wc => v = .bool y ∧ Aside0 (wc = wc0))
      case first =>
        by_cases e5 : f.ty = 5
        · obtain rfl : y = true := by rw [← HY.out]; exact decide_eq_true (by omega)
          have yy : (f.ty == 5) = true := by simp [e5]
          have yy' : decide (f.ty = 5) = true := decide_eq_true e5
          clear HY e5
          go_wp2_with fail
          go_meet
          case rel => exact ⟨rfl, ⟨rfl⟩⟩
        by_cases e7 : f.ty = 7
        · obtain rfl : y = true := by rw [← HY.out]; exact decide_eq_true (by omega)
          have y5 : (f.ty == 5) = false := by simp [e5]
          have y5' : decide (f.ty = 5) = false := decide_eq_false e5
          have yy : (f.ty == 7) = true := by simp [e7]
          have yy' : decide (f.ty = 7) = true := decide_eq_true e7
          clear HY e5 e7
          go_wp2_with fail
          go_meet
          case rel => exact ⟨rfl, ⟨rfl⟩⟩
        by_cases e8 : f.ty = 8
        · obtain rfl : y = true := by rw [← HY.out]; exact decide_eq_true (by omega)
          have y5 : (f.ty == 5) = false := by simp [e5]
          have y5' : decide (f.ty = 5) = false := decide_eq_false e5
          have y7 : (f.ty == 7) = false := by simp [e7]
          have y7' : decide (f.ty = 7) = false := decide_eq_false e7
          have yy : (f.ty == 8) = true := by simp [e8]
          have yy' : decide (f.ty = 8) = true := decide_eq_true e8
          clear HY e5 e7 e8
          go_wp2_with fail
          go_meet
          case rel => exact ⟨rfl, ⟨rfl⟩⟩
        obtain rfl : y = false := by rw [← HY.out]; exact decide_eq_false (by omega)
        have y5 : (f.ty == 5) = false := by simp [e5]
        have y5' : decide (f.ty = 5) = false := decide_eq_false e5
        have y7 : (f.ty == 7) = false := by simp [e7]
        have y7' : decide (f.ty = 7) = false := decide_eq_false e7
        have y8 : (f.ty == 8) = false := by simp [e8]
        have y8' : decide (f.ty = 8) = false := decide_eq_false e8
        clear HY e5 e7 e8
        go_wp2_with fail
        go_meet
        case rel => exact ⟨rfl, ⟨rfl⟩⟩
      case rest =>
        obtain ⟨rfl, HWC⟩ := hcut
        rw [HWC.out]
        clear HWC z0
        go_upto_if 34 with fail
        go_cut [3] from 35 to 38 (fun u wc => Aside0 (Kd.R kB 5 wc w.heap.size (fun _ => True) u (P1 ++ P2 ++ P3)) ∧ Aside0 (At wc g f A c) ∧ Aside0 (Below w.heap.size w wc))
        case first =>
          cases y
          · go_wp2_with fail
            go_meet
            case rel => exact ⟨⟨by have e := HP3.out; rw [if_neg (of_decide_eq_false HY.out)] at e; rw [← e, List.append_nil]; exact R5.out⟩, X5, L5⟩
          · have z9 := X5.out.c9
            go_wp2_with (go_at_call 55; refine (putR_calls w.heap.size w u3 (P1 ++ P2) _ 4 _ R5.out L5.out L5.out.size (by decide) (by simp only [List.length_append]; have := HLP.out; omega)).mono ?_; rintro e w4 ⟨v4, rfl, hr, hb, ha⟩; have R4 := Aside0.mk hr; have L4 := Aside0.mk hb; have X4 := Aside0.mk (ha.at R5.out X5.out); clear hr hb ha)
            go_meet
            case rel => exact ⟨⟨by have e := HP3.out; rw [if_pos (of_decide_eq_true HY.out)] at e; rw [← e]; exact R4.out⟩, X4, L4⟩
        case rest =>
          clear X5 R5 L5 HY
          obtain ⟨R5, X5, L5⟩ := hcut
          have z0 := X5.out.c0
          obtain ⟨wc0, hwc⟩ : ∃ W, wc = W := ⟨_, rfl⟩
          rw [hwc] at R5 X5 L5 z0 ⊢
          clear hwc
          obtain ⟨y, hy⟩ : ∃ y, decide (f.ty = 3 ∨ f.ty = 7) = y := ⟨_, rfl⟩
          have HY := Aside0.mk hy
          clear hy
          go_upto_region 8 with fail
          go_cut [46] from 39 to 46 (fun v wc => v = .bool y ∧ Aside0 (wc = wc0))
          case first =>
            by_cases e3 : f.ty = 3
            · obtain rfl : y = true := by rw [← HY.out]; exact decide_eq_true (by omega)
              have yy : (f.ty == 3) = true := by simp [e3]
              have yy' : decide (f.ty = 3) = true := decide_eq_true e3
              clear HY e3
              go_wp2_with fail
              go_meet
              case rel => exact ⟨rfl, ⟨rfl⟩⟩
            by_cases e7 : f.ty = 7
            · obtain rfl : y = true := by rw [← HY.out]; exact decide_eq_true (by omega)
              have y3 : (f.ty == 3) = false := by simp [e3]
              have y3' : decide (f.ty = 3) = false := decide_eq_false e3
              have yy : (f.ty == 7) = true := by simp [e7]
              have yy' : decide (f.ty = 7) = true := decide_eq_true e7
              clear HY e3 e7
              go_wp2_with fail
              go_meet
              case rel => exact ⟨rfl, ⟨rfl⟩⟩
            obtain rfl : y = false := by rw [← HY.out]; exact decide_eq_false (by omega)
            have y3 : (f.ty == 3) = false := by simp [e3]
            have y3' : decide (f.ty = 3) = false := decide_eq_false e3
            have y7 : (f.ty == 7) = false := by simp [e7]
            have y7' : decide (f.ty = 7) = false := decide_eq_false e7
            clear HY e3 e7
            go_wp2_with fail
            go_meet
            case rel => exact ⟨rfl, ⟨rfl⟩⟩
          case rest =>
            obtain ⟨rfl, HWC⟩ := hcut
            rw [HWC.out]
            clear HWC z0
            go_upto_if 46 with fail
            go_cut [3] from 47 to 50 (fun u wc => Aside0 (Kd.R kB 5 wc w.heap.size (fun _ => True) u (P1 ++ P2 ++ P3 ++ P4)) ∧ Aside0 (At wc g f A c) ∧ Aside0 (Below w.heap.size w wc))
            case first =>
              cases y
              · go_wp2_with fail
                go_meet
                case rel => exact ⟨⟨by have e := HP4.out; rw [if_neg (of_decide_eq_false HY.out)] at e; rw [← e, List.append_nil]; exact R5.out⟩, X5, L5⟩
              · have z9 := X5.out.c8
                go_wp2_with (go_at_call 55; refine (putR_calls w.heap.size w u3 (P1 ++ P2 ++ P3) _ 4 _ R5.out L5.out L5.out.size (by decide) (by simp only [List.length_append]; have := HLP.out; omega)).mono ?_; rintro e w4 ⟨v4, rfl, hr, hb, ha⟩; have R4 := Aside0.mk hr; have L4 := Aside0.mk hb; have X4 := Aside0.mk (ha.at R5.out X5.out); clear hr hb ha)
                go_meet
                case rel => exact ⟨⟨by have e := HP4.out; rw [if_pos (of_decide_eq_true HY.out)] at e; rw [← e]; exact R4.out⟩, X4, L4⟩
            case rest =>
              clear X5 R5 L5 HY
              obtain ⟨R5, X5, L5⟩ := hcut
              have z0 := X5.out.c0
              clear z0
              obtain ⟨LL, hLL⟩ : ∃ L, P1 ++ P2 ++ P3 ++ P4 = L := ⟨_, rfl⟩
              have HLL : Aside0 (LL.length ≤ 14) := ⟨by rw [← hLL]; simp only [List.length_append]; have := HLP.out; omega⟩
              rw [hLL] at R5 HPAY
              clear hLL
              have z10 := X5.out.c10
              go_upto_if 11 with fail
              clear z10
              go_loopw [3, 4] (fun u i w' => ∃ k : Nat, i = .int .i64 (k : Int) ∧ Aside0 (k ≤ f.ps.length) ∧ Aside0 (Kd.R kB 5 w' w.heap.size (fun _ => True) u (LL ++ params (f.ps.take k))) ∧ Aside0 (At w' g f A c) ∧ Aside0 (Below w.heap.size w w')) (fun _ i _ => ((f.ps.length : Int) - intOf i).toNat)
              case atStart => exact ⟨0, rfl, ⟨Nat.zero_le _⟩, ⟨by simpa [params] using R5.out⟩, X5, L5⟩
              case round =>
                clear R5 X5 L5
                obtain ⟨k, rfl, HI, R5, X5, L5⟩ := hrel
                have z10 := X5.out.c10
                by_cases hlt : k < f.ps.length
                · have d1 : decide ((k : Int) < (f.ps.length : Int)) = true := decide_eq_true (by omega)
                  have d2 : decide (k < f.ps.length) = true := decide_eq_true hlt
                  have p0 : (0 : Int) ≤ (k : Int) := by omega
                  have q0 : (k : Int) < (f.ps.length : Int) := by omega
                  obtain ⟨m, hm⟩ : ∃ m, k + 1 = m := ⟨_, rfl⟩
                  have hw1 : wrap64 ((k : Int) + 1) = (m : Int) := by have := HPL.out; unfold wrap64; omega
                  have HKM : Aside0 (k < f.ps.length ∧ k + 1 = m) := ⟨hlt, hm⟩
                  have HST : Aside0 (params (f.ps.take m) = params (f.ps.take k) ++ be 2 (rd_T32 f.ps (k : Int)).f0 ++ be 4 (rd_T32 f.ps (k : Int)).f1) := ⟨by rw [← hm]; exact params_take f.ps k hlt⟩
                  have HTL : Aside0 ((params (f.ps.take k)).length ≤ 6 * f.ps.length) := ⟨by rw [params_length, List.length_take]; omega⟩
                  obtain ⟨ad, e0, y0, y1⟩ := at_T32 (Kd.C_below HPS.out L5.out) k p0 q0
                  cases e0
                  simp only [Int.toNat_natCast] at y0 y1
                  clear hm hlt
                  go_upto_region 14 with (go_at_call 55; refine (putR_calls w.heap.size w u3 _ _ 2 _ R5.out L5.out L5.out.size (by decide) (by rw [List.length_append]; have := HLL.out; have := HTL.out; have := HPL.out; omega)).mono ?_; rintro e w4 ⟨v4, rfl, hr, hb, ha⟩; have R4 := Aside0.mk hr; have L4 := Aside0.mk hb; have X4 := Aside0.mk (ha.at R5.out X5.out); clear hr hb ha)
                  clear y0 y1 z10
                  obtain ⟨ad2, e2, y0, y1⟩ := at_T32 (Kd.C_below HPS.out L4.out) k p0 q0
                  cases e2
                  simp only [Int.toNat_natCast] at y0 y1
                  have z10 := X4.out.c10
                  go_wp2_with (go_at_call 55; refine (putR_calls w.heap.size w v4 _ _ 4 _ R4.out L4.out L4.out.size (by decide) (by rw [List.length_append, List.length_append, be_length]; have := HLL.out; have := HTL.out; have := HPL.out; omega)).mono ?_; rintro e w6 ⟨v6, rfl, hr, hb, ha⟩; have R6 := Aside0.mk hr; have L6 := Aside0.mk hb; have X6 := Aside0.mk (ha.at R4.out X4.out); clear hr hb ha)
                  go_roundw
                  case rel => exact ⟨m, congrArg (Value.int .i64) hw1, ⟨by have := HKM.out; omega⟩, ⟨by rw [HST.out, ← List.append_assoc, ← List.append_assoc]; exact R6.out⟩, X6, L6⟩
                  case measure =>
                    rw [hw1]
                    show ((f.ps.length : Int) - (m : Int)).toNat < ((f.ps.length : Int) - (k : Int)).toNat
                    have := HKM.out
                    omega
                · have d1 : decide ((k : Int) < (f.ps.length : Int)) = false := decide_eq_false (by omega)
                  have d2 : decide (k < f.ps.length) = false := decide_eq_false hlt
                  obtain rfl : k = f.ps.length := by have := HI.out; omega
                  rw [List.take_length] at R5
                  clear hlt HI
                  have z3 := X5.out.c3
                  go_upto_region 16 with ((with_reducible refine gate_builtin (b := .append) (xs := #[.tmp 74, .tmp 76]) rfl ?_); at_builtin; refine append_strB (w0 := w) w.heap.size rfl (.tmp 74) (.tmp 76) 61 9 rfl Tryd.underlying61 Tryd.underlying9 info5 u3 _ f.da rfl rfl R5.out L5.out L5.out.size (by rw [List.length_append, params_length]; have := HLL.out; have := HPL.out; have := HDA.out; omega) ?_; intro v7 w7 ho hb hg; have R7 := Aside0.mk ho; have L7 := Aside0.mk hb; have X7 : Aside0 (At w7 g f A c) := ⟨(hg.block g (blk_lt X5.out) (Kd.R_ne R5.out X5.out (by decide))).trans X5.out⟩; clear ho hb hg)
                  clear z3 z10 d1 d2 R5 L5 X5
                  obtain ⟨pd, hpd⟩ : ∃ n : Nat, f.pad = (n : Int) := ⟨f.pad.toNat, by have := HPD.out; omega⟩
                  have HPN : Aside0 (pd ≤ 255) := ⟨by have := HPD.out; omega⟩
                  obtain ⟨LM, hLM⟩ : ∃ L, LL ++ params f.ps ++ f.da.data.toList = L := ⟨_, rfl⟩
                  have HLM : Aside0 (LM.length ≤ 6 * f.ps.length + 70000) := ⟨by rw [← hLM]; simp only [List.length_append, params_length]; rw [← ba_size]; have := HLL.out; have := HDA.out; omega⟩
                  have HPAY2 : Aside0 (payP f = LM ++ List.replicate pd 0) := ⟨by rw [HPAY.out, hLM, hpd]; rfl⟩
                  rw [hLM] at R7
                  have HPDN := Aside0.mk hpd
                  clear hLM hpd
                  go_upto_if 17 with fail
                  go_loopw [3, 5] (fun u i w' => ∃ k : Nat, i = .int .i64 (k : Int) ∧ Aside0 (k ≤ pd) ∧ Aside0 (Kd.R kB 5 w' w.heap.size (fun _ => True) u (LM ++ List.replicate k 0)) ∧ Aside0 (At w' g f A c) ∧ Aside0 (Below w.heap.size w w')) (fun _ i _ => ((pd : Int) - intOf i).toNat)
                  case atStart => exact ⟨0, rfl, ⟨Nat.zero_le _⟩, ⟨by simpa using R7.out⟩, X7, L7⟩
                  case round =>
                    clear R7 X7 L7
                    obtain ⟨k, rfl, HI, R5, X5, L5⟩ := hrel
                    have z4 := X5.out.c4
                    rw [HPDN.out] at z4
                    by_cases hlt : k < pd
                    · have d1 : decide ((k : Int) < (pd : Int)) = true := decide_eq_true (by omega)
                      have d2 : decide (k < pd) = true := decide_eq_true hlt
                      obtain ⟨m, hm⟩ : ∃ m, k + 1 = m := ⟨_, rfl⟩
                      have hw1 : wrap64 ((k : Int) + 1) = (m : Int) := by have := HPN.out; unfold wrap64; omega
                      have HKM : Aside0 (k < pd ∧ k + 1 = m) := ⟨hlt, hm⟩
                      have HRE : Aside0 (List.replicate m (0 : UInt8) = List.replicate k 0 ++ [0]) := ⟨by rw [← hm, List.replicate_succ']⟩
                      clear hm hlt
                      go_wp2_with ((with_reducible refine gate_builtin (b := .append) (xs := #[.tmp 84, .tmp 85]) rfl ?_); at_builtin; refine Kd.R_append kB (w0 := w) w.heap.size rfl (.tmp 84) (.tmp 85) 61 5 _ 1 rfl Tryd.underlying61 info5 rfl (Nat.succ_pos 0) (Nat.succ_pos 0) u3 _ _ _ (fun _ => True) (fun _ => False) rfl rfl (kB_mk (x := (0 : UInt8)) rfl) (fun _ h => h.elim) (fun _ _ => trivial) R5.out L5.out L5.out.size ?aL ?_; (case aL => (try simp only [List.length_append, List.length_replicate, List.length_nil, params_length]); have := HLM.out; have := HKM.out; have := HPN.out; have := HPL.out; have := HDA.out; have := HPD.out; omega); intro v2 w9 ho hb hg hat; have R9 := Aside0.mk ho; have X9 : Aside0 (At w9 g f A c) := ⟨(hg.block g (blk_lt X5.out) (Kd.R_ne R5.out X5.out (by decide))).trans X5.out⟩; have L9 := Aside0.mk hb; clear ho hb hg hat)
                      go_roundw
                      case rel => exact ⟨m, congrArg (Value.int .i64) hw1, ⟨by have := HKM.out; omega⟩, ⟨by rw [HRE.out, ← List.append_assoc]; exact R9.out⟩, X9, L9⟩
                      case measure =>
                        rw [hw1]
                        show ((pd : Int) - (m : Int)).toNat < ((pd : Int) - (k : Int)).toNat
                        have := HKM.out
                        omega
                    · have d1 : decide ((k : Int) < (pd : Int)) = false := decide_eq_false (by omega)
                      have d2 : decide (k < pd) = false := decide_eq_false hlt
                      obtain rfl : k = pd := by have := HI.out; omega
                      clear hlt HI
                      go_wp2_with fail
                      go_ret
                      exact ⟨u3, rfl, by rw [HPAY2.out]; exact R5.out, L5.out⟩
end Go.Proofs.YtoffhlbdfhhhjaaDoor.Fr
